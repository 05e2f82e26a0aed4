-- written by programs of ours (wip/tools) out of the kit's printer: the functions of one law, less those that are shared or proved by hand
import Derived.Test.YtdekingogcmboaaHD32
import Derived.Test.YtdekingogcmboaaHD64
import Derived.Test.YtdekingogcmboaaQ0
import Derived.Test.YtdekingogcmboaaQDLa
namespace Go.Proofs.Ytdekingogcmboaa.Q
open Go.RowKit Go.Proofs.YtdekingogcmboaaW.PrintWords Go.Proofs.YtdekingogcmboaaW.PrintLast Go.Proofs.YtdekingogcmboaaW.PrintMore
attribute [local go_sem] max2_int min2_int max_two min_two max_three min_three max_four min_four
set_option linter.unusedVariables false
set_option linter.unusedSimpArgs false

/-! ### laws_deltasWritten: function 7 -/
def laws_deltasWritten.l0 : Nat → List (List Int) → List (List Int) → Int → Int → Option (List Int × Bool)
  | 0, _, _, _, _ => none
  | k + 1, x6, x15, x16, x17 => if x17 < x16 then (if 0 ≤ x17 then (if x17 < (x15.length : Int) then ((laws_narrowed.f k (rd_L1 x15 x17)).bind fun t135 => (if x6.length < 5864062014805 then (laws_deltasWritten.l0 k (x6 ++ [t135]) x15 x16 (wrap64 (x17 + 1))) else (none))) else (none)) else (none)) else ((impl_DeltasWritten32.f x6).bind fun bt141 => (some (bt141.1, bt141.2)))
def laws_deltasWritten.f (k : Nat) (a0 : Int) (l1 : List (List Int)) : Option (List Int × Bool) := if a0 = 64 then ((impl_DeltasWritten64.f l1).bind fun bt130 => (some (bt130.1, bt130.2))) else (laws_deltasWritten.l0 k ([] : List (List Int)) l1 (l1.length : Int) 0)
theorem laws_deltasWritten.mono_l : ∀ k, (∀ y0 y1 y2 y3, LeO (laws_deltasWritten.l0 k y0 y1 y2 y3) (laws_deltasWritten.l0 (k + 1) y0 y1 y2 y3))
  | 0 => fun _ _ _ _ r h => by simp [laws_deltasWritten.l0] at h
  | k + 1 => by
    have ih0 := laws_deltasWritten.mono_l k
    · intro y0 y1 y2 y3
      unfold laws_deltasWritten.l0
      repeat' first
      | (with_reducible exact ih0 _ _ _ _)
      | (with_reducible exact laws_narrowed.mono _ _)
      | (with_reducible exact LeO.refl _)
      | (with_reducible exact LeO.none _)
      | (with_reducible refine LeO.ite ?_ ?_)
      | (with_reducible refine LeO.bind ?_ (fun _ => ?_))
      | exact ih0 _ _ _ _
      | exact laws_narrowed.mono _ _
      | exact LeO.none _
      | refine LeO.ite ?_ ?_
      | refine LeO.bind ?_ (fun _ => ?_)
theorem laws_deltasWritten.mono : ∀ a0 a1 k, LeO (laws_deltasWritten.f k a0 a1) (laws_deltasWritten.f (k + 1) a0 a1) := by
  intro a0 a1 k
  have ih0 := laws_deltasWritten.mono_l k
  unfold laws_deltasWritten.f
  repeat' first
      | (with_reducible exact ih0 _ _ _ _)
      | (with_reducible exact laws_narrowed.mono _ _)
      | (with_reducible exact LeO.refl _)
      | (with_reducible exact LeO.none _)
      | (with_reducible refine LeO.ite ?_ ?_)
      | (with_reducible refine LeO.bind ?_ (fun _ => ?_))
      | exact ih0 _ _ _ _
      | exact laws_narrowed.mono _ _
      | exact LeO.none _
      | refine LeO.ite ?_ ?_
      | refine LeO.bind ?_ (fun _ => ?_)
set_option maxHeartbeats 8000000 in
set_option maxRecDepth 100000 in
theorem laws_deltasWritten.calls (k : Nat) (a0 : Int) (A1 : Option Addr) (c1 : Nat) (l1 : List (List Int)) (r1 : List Int) (r2 : Bool) (w : World) (hr1 : Kd.C (Kd.slice 2 (Kd.int .i64)) w A1 l1.length l1) (hc1 : l1.length ≤ c1) (h : laws_deltasWritten.f k a0 l1 = some (r1, r2)) :
    Calls Try.prog 7 #[.int .i64 a0, .slice A1 l1.length c1] w fun e w' => ∃ v0_ : Value, e = .returned (.tuple #[v0_, .bool r2]) ∧ Kd.R (Kd.int .u8) 5 w' w.heap.size (fun _ => True) v0_ r1 ∧ Below w.heap.size w w' := by
  have HR1 := Aside0.mk hr1
  have HC1 := Aside0.mk hc1
  clear hr1 hc1
  have HB := Aside0.mk (Below.refl w.heap.size w)
  have H : (if a0 = 64 then ((impl_DeltasWritten64.f l1).bind fun bt130 => (some (bt130.1, bt130.2))) else (laws_deltasWritten.l0 k ([] : List (List Int)) l1 (l1.length : Int) 0)) = some (r1, r2) := h
  clear h
  by_cases c3 : a0 = 64
  · rw [if_pos c3] at H
    have c3b0 : (a0 == 64) = true := beq_iff_eq.mpr c3
    have c3b1 : (a0 != 64) = false := bne_eq_false_iff_eq.mpr c3
    clear c3
    replace H := Option.bind_eq_some_iff.mp H
    obtain ⟨⟨t130, t131⟩, A40, H⟩ := H
    replace H : (some (t130, t131)) = some (r1, r2) := H
    have A4 := Aside0.mk A40
    clear A40
    simp only [Option.some.injEq, Prod.mk.injEq] at H
    obtain ⟨rfl, rfl⟩ := H
    go_enter Try.func7, Try.ntmps7
    go_wp2_with (first | ((with_reducible refine gate_callee (f := 10) rfl ?_); refine goesL_ (some 12) rfl rfl Try.func10 (by kernel_rfl) rfl #[.slice A1 l1.length c1] rfl (by (try simp only [List.map_toArray, List.map_cons, List.map_nil]); first | done | rfl | (simp only [List.length_drop, List.length_take]; rfl)) ?_; (with_reducible refine (impl_DeltasWritten64.calls _ _ l1 t130 t131 _ ?side1 ?side2 A4.out).mono ?_); (case side1 => repeat (first | exact HR1.out | (with_reducible refine Kd.C_alloc ?_ _) | (with_reducible refine Kd.C_drewN ?_ _) | (with_reducible refine Kd.C_drew ?_))); (case side2 => exact HC1.out); rintro e w5 ⟨v132, rfl, ho0, hb⟩; refine ⟨_, rfl, ?_⟩; have n0_ := Aside0.mk (Kd.R_lower ho0 (below_size (by repeat (first | (with_reducible first | exact HB.out | apply below_alloc | apply pw_below_drewN | apply below_drew1) | exact HB.out)))); have n1_ := Aside0.mk (below_step (by repeat (first | (with_reducible first | exact HB.out | apply below_alloc | apply pw_below_drewN | apply below_drew1) | exact HB.out)) hb); clear HB; have HO133 := n0_; have HB := n1_; clear n0_ n1_; (try clear hb); (try clear hb2); (try clear hk); (try clear hi); (try clear ho0)))
    go_ret2
    exact ⟨_, by first | rfl | (simp [errW_none, errW_some] <;> rfl) | (simp [*, errW_none, errW_some] <;> rfl), by (with_reducible repeat (first | apply Kd.R_alloc | apply Kd.R_drewN | apply Kd.R_drew)); exact HO133.out, by repeat (first | (with_reducible first | exact HB.out | apply below_alloc | apply pw_below_drewN | apply below_drew1) | exact HB.out)⟩
  · rw [if_neg c3] at H
    have c3b0 : (a0 == 64) = false := beq_eq_false_iff_ne.mpr c3
    have c3b1 : (a0 != 64) = true := bne_iff_ne.mpr c3
    have H' := Aside0.mk H
    clear H
    go_enter Try.func7, Try.ntmps7
    go_wp2
    go_loopg [6, 17] k (fun kq v6 v17 w' => ∃ (x6_1 : List (List Int)) (x17_1 : Int), v17 = .int .i64 x17_1 ∧ Aside0 (laws_deltasWritten.l0 kq x6_1 l1 (l1.length : Int) x17_1 = some (r1, r2)) ∧ Aside0 (kq ≤ k) ∧ Aside0 (Kd.S (Kd.slice 21 (Kd.int .i32)) 36 w' w.heap.size (fun _ => True) v6 x6_1) ∧ Aside0 (Below w.heap.size w w'))
    case atStart => exact ⟨(([] : List (List Int))), (0), (by first | rfl | (simp; done) | (simp [*]; done)), H', ⟨Nat.le_refl _⟩, ⟨by first | exact Kd.S_nil _ _ _ _ _ | exact Kd.N_nil _ _ _ _ _ | exact Kd.V_nil _ _ _ _ _ | exact Kd.Q_nil _ _ _ _ _ | exact Kd.R_nil _ _ _ _ _⟩, ⟨by repeat (first | (with_reducible first | exact HB.out | apply below_alloc | apply pw_below_drewN | apply below_drew1) | exact HB.out)⟩⟩
    case round =>
      clear H'
      try clear c1
      try clear p2
      try clear c3
      try clear c3b0
      try clear c3b1
      obtain ⟨x6_1, x17_1, rfl, HA, HK1, HO_6, HB⟩ := hrel
      cases gk with
      | zero => exact absurd HA.out (by simp [laws_deltasWritten.l0])
      | succ k1 =>
        have H := HA.out
        clear HA
        simp only [laws_deltasWritten.l0] at H
        by_cases c6 : x17_1 < (l1.length : Int)
        · rw [if_pos c6] at H
          have c6b0 : decide (x17_1 < (l1.length : Int)) = true := decide_eq_true c6
          clear c6
          by_cases c7 : 0 ≤ x17_1
          · rw [if_pos c7] at H
            have c7b0 : decide (0 ≤ x17_1) = true := decide_eq_true c7
            clear c7
            by_cases c8 : x17_1 < (l1.length : Int)
            · rw [if_pos c8] at H
              have c8b0 : decide (x17_1 < (l1.length : Int)) = true := decide_eq_true c8
              clear c8
              replace H := Option.bind_eq_some_iff.mp H
              obtain ⟨t135, A90, H⟩ := H
              replace H : (if x6_1.length < 5864062014805 then (laws_deltasWritten.l0 k1 (x6_1 ++ [t135]) l1 (l1.length : Int) (wrap64 (x17_1 + 1))) else (none)) = some (r1, r2) := H
              have A9 := Aside0.mk A90
              clear A90
              by_cases c10 : x6_1.length < 5864062014805
              · rw [if_pos c10] at H
                have LMc10 := Aside0.mk c10
                clear c10
                obtain ⟨y138, hy138⟩ : ∃ y_ : List (List Int), y_ = (x6_1 ++ [t135]) := ⟨_, rfl⟩
                replace H : (laws_deltasWritten.l0 k1 y138 l1 (l1.length : Int) (wrap64 (x17_1 + 1))) = some (r1, r2) := by first | (rw [hy138]; with_reducible exact H) | (have H2_ := (Option.bind_some _ _).symm.trans H; rw [hy138]; with_reducible exact H2_) | (have H2_ := (Option.bind_some _ _).symm.trans H; with_reducible exact H2_) | with_reducible exact H | (rw [hy138]; exact H) | exact H
                have Ny138 := Aside0.mk hy138
                clear hy138
                have H' := Aside0.mk H
                clear H
                have p134 : 0 ≤ (x17_1 : Int) := of_decide_eq_true (by first | (with_reducible assumption) | assumption)
                have q134 : x17_1 < (l1.length : Int) := of_decide_eq_true (by first | (with_reducible assumption) | assumption)
                obtain ⟨ad134, A134_0, c134_0, e134, hx134_0, hl134_0, hi134_0⟩ := at_L1 HR1.out x17_1 p134 q134
                cases e134
                replace hx134_0 := (HB.out.cell (World.block_lt_of_cell? w _ hx134_0)).trans hx134_0
                have HR134_0 := Aside0.mk hi134_0
                have HC134_0 := Aside0.mk hl134_0
                clear hi134_0 hl134_0
                replace p134 := eq_true p134
                replace q134 := eq_true q134
                go_wp2_with (first | ((with_reducible refine gate_callee (f := 11) rfl ?_); refine goesL_ (some 23) rfl rfl Try.func11 (by kernel_rfl) rfl #[.slice A134_0 (rd_L1 l1 x17_1).length c134_0] rfl (by (try simp only [List.map_toArray, List.map_cons, List.map_nil]); first | done | rfl | (simp only [List.length_drop, List.length_take]; rfl)) ?_; (with_reducible refine (laws_narrowed.calls k1 _ _ (rd_L1 l1 x17_1) t135 _ ?side1 ?side2 A9.out).mono ?_); (case side1 => repeat (first | exact (Kd.C_below HR134_0.out HB.out) | (with_reducible refine Kd.C_alloc ?_ _) | (with_reducible refine Kd.C_drewN ?_ _) | (with_reducible refine Kd.C_drew ?_))); (case side2 => exact HC134_0.out); rintro e w11 ⟨v136, rfl, ho0, hb⟩; refine ⟨_, rfl, ?_⟩; have n0_ := Aside0.mk (Kd.S_elder' (by (with_reducible repeat (first | apply Kd.S_alloc | apply Kd.S_drewN | apply Kd.S_drew)); exact HO_6.out) (Kd.R_base ho0) hb); have n1_ := Aside0.mk (Kd.R_lower ho0 (below_size (by repeat (first | (with_reducible first | exact HB.out | apply below_alloc | apply pw_below_drewN | apply below_drew1) | exact HB.out)))); have n2_ := Aside0.mk (below_step (by repeat (first | (with_reducible first | exact HB.out | apply below_alloc | apply pw_below_drewN | apply below_drew1) | exact HB.out)) hb); clear HO_6; clear HB; have HO_6 := n0_; have HO137 := n1_; have HB := n2_; clear n0_ n1_ n2_; (try clear hb); (try clear hb2); (try clear hk); (try clear hi); (try clear ho0); obtain ⟨Ao13, co13, eo13⟩ := Kd.R_slice HO137.out; subst eo13) | ((with_reducible refine gate_builtin (b := .append) (xs := #[.tmp 21, .tmp 24]) rfl ?_); at_builtin; refine Kd.S_append (Kd.slice 21 (Kd.int .i32)) (w0 := w) w.heap.size rfl (.tmp 21) (.tmp 24) 35 36 (.slice none 0 0) 24 rfl Try.underlying35 info36 rfl (by decide) (by omega) u6 x6_1 t135 [.slice Ao13 t135.length co13] (fun _ => True) (fun k_ => some k_ = (.slice Ao13 t135.length co13 : Value).ownBlock) rfl rfl ?aP (fun k_ hk_ => ((Kd.R_mono (ok' := fun k_ => ((fun _ => True)) k_ ∧ some k_ ≠ (u6 : Value).ownBlock) (Kd.R_apart' (HO137.out) (Kd.S_typed HO_6.out) (by decide)) (fun k_ hk => ⟨trivial, hk.2⟩))).1 k_ hk_.symm) ?aF ?aO ?aB ?aS ?aL ?_; (case aP => exact Kd.M_row (Kd.R_mono (Kd.R_tight rfl (Kd.R_mono (ok' := fun k_ => ((fun _ => True)) k_ ∧ some k_ ≠ (u6 : Value).ownBlock) (Kd.R_apart' (HO137.out) (Kd.S_typed HO_6.out) (by decide)) (fun k_ hk => ⟨trivial, hk.2⟩))) (fun _ h_ => h_))); (case aB => exact (by repeat (first | (with_reducible first | exact HB.out | apply below_alloc | apply pw_below_drewN | apply below_drew1) | exact HB.out))); (case aF => exact (fun _ _ => trivial)); (case aO => exact (by (with_reducible repeat (first | apply Kd.S_alloc | apply Kd.S_drewN | apply Kd.S_drew)); exact Kd.S_mono HO_6.out (fun k_ hk => ⟨trivial, fun e_ => hk.2 e_⟩))); (case aS => exact (below_size (by repeat (first | (with_reducible first | exact HB.out | apply below_alloc | apply pw_below_drewN | apply below_drew1) | exact HB.out)))); (case aL => have := LMc10.out; omega); intro v139 w12 ho hb hg hat; rw [← Ny138.out] at ho; have n0_ := Aside0.mk (hb); have n1_ := Aside0.mk (ho); clear HB; clear HO_6; clear HO137; have HB := n0_; have HO140 := n1_; clear n0_ n1_; clear ho hb hg hat))
                go_roundg k1
                case measure => have := HK1.out; omega
                case rel => exact ⟨(y138), (wrap64 (x17_1 + 1)), (by first | rfl | (simp; done) | (simp [*]; done)), H', ⟨by have := HK1.out; omega⟩, ⟨by (with_reducible repeat (first | apply Kd.S_alloc | apply Kd.S_drewN | apply Kd.S_drew)); exact HO140.out⟩, ⟨by repeat (first | (with_reducible first | exact HB.out | apply below_alloc | apply pw_below_drewN | apply below_drew1) | exact HB.out)⟩⟩
              · rw [if_neg c10] at H
                exact absurd H (by simp)
            · rw [if_neg c8] at H
              exact absurd H (by simp)
          · rw [if_neg c7] at H
            exact absurd H (by simp)
        · rw [if_neg c6] at H
          have c6b0 : decide (x17_1 < (l1.length : Int)) = false := decide_eq_false c6
          clear c6
          replace H := Option.bind_eq_some_iff.mp H
          obtain ⟨⟨t141, t142⟩, A140, H⟩ := H
          replace H : (some (t141, t142)) = some (r1, r2) := H
          have A14 := Aside0.mk A140
          clear A140
          simp only [Option.some.injEq, Prod.mk.injEq] at H
          obtain ⟨rfl, rfl⟩ := H
          obtain ⟨Ao15, co15, eo15⟩ := Kd.S_slice HO_6.out
          subst eo15
          go_wp2_with (first | ((with_reducible refine gate_callee (f := 12) rfl ?_); refine goesL_ (some 28) rfl rfl Try.func12 (by kernel_rfl) rfl #[.slice Ao15 x6_1.length co15] rfl (by (try simp only [List.map_toArray, List.map_cons, List.map_nil]); first | done | rfl | (simp only [List.length_drop, List.length_take]; rfl)) ?_; (with_reducible refine (impl_DeltasWritten32.calls _ _ x6_1 t141 t142 _ ?side1 ?side2 A14.out).mono ?_); (case side1 => repeat (first | exact (Kd.S_reads' HO_6.out).2.2 | (with_reducible refine Kd.C_alloc ?_ _) | (with_reducible refine Kd.C_drewN ?_ _) | (with_reducible refine Kd.C_drew ?_))); (case side2 => exact (Kd.S_reads' HO_6.out).2.1); rintro e w16 ⟨v143, rfl, ho0, hb⟩; refine ⟨_, rfl, ?_⟩; have n0_ := Aside0.mk (Kd.S_below (by (with_reducible repeat (first | apply Kd.S_alloc | apply Kd.S_drewN | apply Kd.S_drew)); exact HO_6.out) hb); have n1_ := Aside0.mk (Kd.R_lower ho0 (below_size (by repeat (first | (with_reducible first | exact HB.out | apply below_alloc | apply pw_below_drewN | apply below_drew1) | exact HB.out)))); have n2_ := Aside0.mk (below_step (by repeat (first | (with_reducible first | exact HB.out | apply below_alloc | apply pw_below_drewN | apply below_drew1) | exact HB.out)) hb); clear HO_6; clear HB; have HO_6 := n0_; have HO144 := n1_; have HB := n2_; clear n0_ n1_ n2_; (try clear hb); (try clear hb2); (try clear hk); (try clear hi); (try clear ho0)))
          go_ret2
          exact ⟨_, by first | rfl | (simp [errW_none, errW_some] <;> rfl) | (simp [*, errW_none, errW_some] <;> rfl), by (with_reducible repeat (first | apply Kd.R_alloc | apply Kd.R_drewN | apply Kd.R_drew)); exact HO144.out, by repeat (first | (with_reducible first | exact HB.out | apply below_alloc | apply pw_below_drewN | apply below_drew1) | exact HB.out)⟩

/-! ### spec_leb: function 13 -/
mutual
def spec_leb.l0 : Nat → List Int → Int → Int → Int → Option (Int × Int × Bool)
  | 0, _, _, _, _ => none
  | k + 1, x0, x1, x4, x7 => if x1 < (x0.length : Int) then (spec_leb.j1 k x0 x1 x4 x7 (decide (x7 < 64))) else (spec_leb.j1 k x0 x1 x4 x7 false)
def spec_leb.j1 : Nat → List Int → Int → Int → Int → Bool → Option (Int × Int × Bool)
  | 0, _, _, _, _, _ => none
  | k + 1, x0, x1, x4, x7, x16 => if x16 = true then (if 0 ≤ x1 then (if x1 < (x0.length : Int) then (if 0 ≤ x7 then (if (rd x0 x1) < 128 then (some (Go.bits .or .u64 x4 (shl .u64 (IntKind.u64.wrap (Go.bits .and .u8 (rd x0 x1) 127)) x7), wrap64 (x1 + 1), true)) else (spec_leb.l0 k x0 (wrap64 (x1 + 1)) (Go.bits .or .u64 x4 (shl .u64 (IntKind.u64.wrap (Go.bits .and .u8 (rd x0 x1) 127)) x7)) (wrap64 (x7 + 7)))) else (none)) else (none)) else (none)) else (some (0, 0, false))
end
def spec_leb.f (k : Nat) (l0 : List Int) (a1 : Int) : Option (Int × Int × Bool) := spec_leb.l0 k l0 a1 0 0
theorem spec_leb.mono_l : ∀ k, (∀ y0 y1 y2 y3, LeO (spec_leb.l0 k y0 y1 y2 y3) (spec_leb.l0 (k + 1) y0 y1 y2 y3)) ∧ (∀ y0 y1 y2 y3 y4, LeO (spec_leb.j1 k y0 y1 y2 y3 y4) (spec_leb.j1 (k + 1) y0 y1 y2 y3 y4))
  | 0 => ⟨fun _ _ _ _ r h => by simp [spec_leb.l0] at h, fun _ _ _ _ _ r h => by simp [spec_leb.j1] at h⟩
  | k + 1 => by
    obtain ⟨ih0, ih1⟩ := spec_leb.mono_l k
    refine ⟨?_, ?_⟩
    · intro y0 y1 y2 y3
      unfold spec_leb.l0
      repeat' first
      | (with_reducible exact ih0 _ _ _ _)
      | (with_reducible exact ih1 _ _ _ _ _)
      | (with_reducible exact LeO.refl _)
      | (with_reducible exact LeO.none _)
      | (with_reducible refine LeO.ite ?_ ?_)
      | (with_reducible refine LeO.bind ?_ (fun _ => ?_))
      | exact ih0 _ _ _ _
      | exact ih1 _ _ _ _ _
      | exact LeO.none _
      | refine LeO.ite ?_ ?_
      | refine LeO.bind ?_ (fun _ => ?_)
    · intro y0 y1 y2 y3 y4
      unfold spec_leb.j1
      repeat' first
      | (with_reducible exact ih0 _ _ _ _)
      | (with_reducible exact ih1 _ _ _ _ _)
      | (with_reducible exact LeO.refl _)
      | (with_reducible exact LeO.none _)
      | (with_reducible refine LeO.ite ?_ ?_)
      | (with_reducible refine LeO.bind ?_ (fun _ => ?_))
      | exact ih0 _ _ _ _
      | exact ih1 _ _ _ _ _
      | exact LeO.none _
      | refine LeO.ite ?_ ?_
      | refine LeO.bind ?_ (fun _ => ?_)
theorem spec_leb.mono : ∀ a0 a1 k, LeO (spec_leb.f k a0 a1) (spec_leb.f (k + 1) a0 a1) := by
  intro a0 a1 k
  obtain ⟨ih0, ih1⟩ := spec_leb.mono_l k
  unfold spec_leb.f
  repeat' first
      | (with_reducible exact ih0 _ _ _ _)
      | (with_reducible exact ih1 _ _ _ _ _)
      | (with_reducible exact LeO.refl _)
      | (with_reducible exact LeO.none _)
      | (with_reducible refine LeO.ite ?_ ?_)
      | (with_reducible refine LeO.bind ?_ (fun _ => ?_))
      | exact ih0 _ _ _ _
      | exact ih1 _ _ _ _ _
      | exact LeO.none _
      | refine LeO.ite ?_ ?_
      | refine LeO.bind ?_ (fun _ => ?_)
set_option maxHeartbeats 8000000 in
set_option maxRecDepth 100000 in
theorem spec_leb.calls (k : Nat) (A0 : Option Addr) (c0 : Nat) (l0 : List Int) (a1 : Int) (r1 : Int) (r2 : Int) (r3 : Bool) (w : World) (hr0 : Kd.C (Kd.int .u8) w A0 l0.length l0) (hc0 : l0.length ≤ c0) (h : spec_leb.f k l0 a1 = some (r1, r2, r3)) :
    Calls Try.prog 13 #[.slice A0 l0.length c0, .int .i64 a1] w fun e w' => e = .returned (.tuple #[.int .u64 r1, .int .i64 r2, .bool r3]) ∧ Drawn0 w w' := by
  have HR0 := Aside0.mk hr0
  have HC0 := Aside0.mk hc0
  clear hr0 hc0
  have H : (spec_leb.l0 k l0 a1 0 0) = some (r1, r2, r3) := h
  clear h
  have H' := Aside0.mk H
  clear H
  go_enter Try.func13, Try.ntmps13
  go_wp2
  go_loopg [1, 4, 7] k (fun kq v1 v4 v7 w' => ∃ (x1_1 : Int) (x4_1 : Int) (x7_1 : Int), v1 = .int .i64 x1_1 ∧ v4 = .int .u64 x4_1 ∧ v7 = .int .i64 x7_1 ∧ Aside0 (spec_leb.l0 kq l0 x1_1 x4_1 x7_1 = some (r1, r2, r3)) ∧ Aside0 (kq ≤ k) ∧ Drawn0 w w')
  case atStart => exact ⟨(a1), (0), (0), (by first | rfl | (simp; done) | (simp [*]; done)), (by first | rfl | (simp; done) | (simp [*]; done)), (by first | rfl | (simp; done) | (simp [*]; done)), H', ⟨Nat.le_refl _⟩, by repeat (first | exact Drawn0.refl _ | apply Drawn0.step)⟩
  case round =>
    clear H'
    try clear c1
    try clear p2
    obtain ⟨x1_1, x4_1, x7_1, rfl, rfl, rfl, HA, HK1, ⟨m1, rfl⟩⟩ := hrel
    cases gk with
    | zero => exact absurd HA.out (by simp [spec_leb.l0])
    | succ k1 =>
      have H := HA.out
      clear HA
      simp only [spec_leb.l0] at H
      have HC3 := Aside0.mk H
      clear H
      go_upto_region 2 with (fail)
      go_cut [16] (fun v16 wc => ∃ (kq : Nat) (x16_2 : Bool), v16 = .bool x16_2 ∧ Aside0 (spec_leb.j1 kq l0 x1_1 x4_1 x7_1 x16_2 = some (r1, r2, r3)) ∧ Aside0 (kq ≤ k1) ∧ Drawn0 w wc)
      case first =>
        have H := HC3.out
        clear HC3
        by_cases c4 : x1_1 < (l0.length : Int)
        · rw [if_pos c4] at H
          have c4b0 : decide (x1_1 < (l0.length : Int)) = true := decide_eq_true c4
          clear c4
          (first | rw [c4b0] | (simp only [i64_w, i32_w]; rw [c4b0]) | skip)
          have H' := Aside0.mk H
          clear H
          go_wp2
          go_meet
          case rel => exact ⟨_, (decide (x7_1 < 64)), (by first | rfl | (simp; done) | (simp [*]; done)), H', ⟨by have := HK1.out; first | omega | exact Nat.le_refl _⟩, by repeat (first | exact Drawn0.refl _ | apply Drawn0.step)⟩
        · rw [if_neg c4] at H
          have c4b0 : decide (x1_1 < (l0.length : Int)) = false := decide_eq_false c4
          clear c4
          (first | rw [c4b0] | (simp only [i64_w, i32_w]; rw [c4b0]) | skip)
          have H' := Aside0.mk H
          clear H
          go_wp2
          go_meet
          case rel => exact ⟨_, (false), (by first | rfl | (simp; done) | (simp [*]; done)), H', ⟨by have := HK1.out; first | omega | exact Nat.le_refl _⟩, by repeat (first | exact Drawn0.refl _ | apply Drawn0.step)⟩
      case rest =>
        clear HC3
        try clear c1
        try clear p2
        try clear c4
        try clear c4b0
        try clear p2
        obtain ⟨kq, x16_2, rfl, HA, HJ2, ⟨mc2, rfl⟩⟩ := hcut
        cases kq with
        | zero => exact absurd HA.out (by simp [spec_leb.j1])
        | succ kj2 =>
          have H := HA.out
          clear HA
          simp only [spec_leb.j1] at H
          by_cases c5 : x16_2 = true
          · subst c5
            have H1 : (if 0 ≤ x1_1 then (if x1_1 < (l0.length : Int) then (if 0 ≤ x7_1 then (if (rd l0 x1_1) < 128 then (some (Go.bits .or .u64 x4_1 (shl .u64 (IntKind.u64.wrap (Go.bits .and .u8 (rd l0 x1_1) 127)) x7_1), wrap64 (x1_1 + 1), true)) else (spec_leb.l0 kj2 l0 (wrap64 (x1_1 + 1)) (Go.bits .or .u64 x4_1 (shl .u64 (IntKind.u64.wrap (Go.bits .and .u8 (rd l0 x1_1) 127)) x7_1)) (wrap64 (x7_1 + 7)))) else (none)) else (none)) else (none)) = some (r1, r2, r3) := by rw [if_pos rfl] at H; exact H
            clear H
            have H := H1
            clear H1
            by_cases c6 : 0 ≤ x1_1
            · rw [if_pos c6] at H
              have c6b0 : decide (0 ≤ x1_1) = true := decide_eq_true c6
              clear c6
              by_cases c7 : x1_1 < (l0.length : Int)
              · rw [if_pos c7] at H
                have c7b0 : decide (x1_1 < (l0.length : Int)) = true := decide_eq_true c7
                clear c7
                by_cases c8 : 0 ≤ x7_1
                · rw [if_pos c8] at H
                  have c8b0 := eq_true c8
                  have c8b1 : decide (0 ≤ x7_1) = true := decide_eq_true c8
                  clear c8
                  obtain ⟨ji9, hji9⟩ : ∃ j_ : Int, (shl .u64 (IntKind.u64.wrap (Go.bits .and .u8 (rd l0 x1_1) 127)) x7_1) = j_ := ⟨_, rfl⟩
                  replace H : (if (rd l0 x1_1) < 128 then (some (Go.bits .or .u64 x4_1 (ji9), wrap64 (x1_1 + 1), true)) else (spec_leb.l0 kj2 l0 (wrap64 (x1_1 + 1)) (Go.bits .or .u64 x4_1 (ji9)) (wrap64 (x7_1 + 7)))) = some (r1, r2, r3) := by first | (rw [hji9] at H; exact H) | (simp only [hji9] at H ⊢; exact H)
                  have hji9_ : (IntKind.u64.wrap ((IntKind.u64.wrap (Go.bits .and .u8 (rd l0 x1_1) 127)) * 2 ^ min x7_1.toNat 64)) = ji9 := hji9
                  have hji9z : x7_1 ≤ 64 → (IntKind.u64.wrap ((IntKind.u64.wrap (Go.bits .and .u8 (rd l0 x1_1) 127)) * 2 ^ x7_1.toNat)) = ji9 := shl_small hji9
                  by_cases c10 : (rd l0 x1_1) < 128
                  · rw [if_pos c10] at H
                    have c10b0 : decide ((rd l0 x1_1) < 128) = true := decide_eq_true c10
                    clear c10
                    simp only [Option.some.injEq, Prod.mk.injEq] at H
                    obtain ⟨rfl, rfl, rfl⟩ := H
                    have p145 : 0 ≤ (x1_1 : Int) := of_decide_eq_true (by first | (with_reducible assumption) | assumption)
                    have q145 : x1_1 < (l0.length : Int) := of_decide_eq_true (by first | (with_reducible assumption) | assumption)
                    obtain ⟨ad145, e145, hx145_0⟩ := Kd.at_int HR0.out x1_1 p145 q145
                    cases e145
                    replace p145 := eq_true p145
                    replace q145 := eq_true q145
                    go_wp2
                    go_ret3
                    exact ⟨by first | rfl | (simp; done) | (simp only [← hji9] <;> (first | rfl | simp)) | (simp [*]; done), by repeat (first | exact Drawn0.refl _ | apply Drawn0.step)⟩
                  · rw [if_neg c10] at H
                    have c10b0 : decide ((rd l0 x1_1) < 128) = false := decide_eq_false c10
                    clear c10
                    have H' := Aside0.mk H
                    clear H
                    have p145 : 0 ≤ (x1_1 : Int) := of_decide_eq_true (by first | (with_reducible assumption) | assumption)
                    have q145 : x1_1 < (l0.length : Int) := of_decide_eq_true (by first | (with_reducible assumption) | assumption)
                    obtain ⟨ad145, e145, hx145_0⟩ := Kd.at_int HR0.out x1_1 p145 q145
                    cases e145
                    replace p145 := eq_true p145
                    replace q145 := eq_true q145
                    go_wp2
                    go_roundg kj2
                    case measure => have := HK1.out; have := HJ2.out; omega
                    case rel => exact ⟨(wrap64 (x1_1 + 1)), (Go.bits .or .u64 x4_1 (ji9)), (wrap64 (x7_1 + 7)), (by first | rfl | (simp; done) | (simp [*]; done)), (by first | rfl | (simp; done) | (simp only [← hji9] <;> (first | rfl | simp)) | (simp [*]; done)), (by first | rfl | (simp; done) | (simp [*]; done)), H', ⟨by have := HK1.out; have := HJ2.out; omega⟩, by repeat (first | exact Drawn0.refl _ | apply Drawn0.step)⟩
                · rw [if_neg c8] at H
                  exact absurd H (by simp)
              · rw [if_neg c7] at H
                exact absurd H (by simp)
            · rw [if_neg c6] at H
              exact absurd H (by simp)
          · replace c5 := Bool.eq_false_iff.mpr c5
            subst c5
            have H1 : (some (0, 0, false)) = some (r1, r2, r3) := by rw [if_neg (show ¬ (false = true) by decide)] at H; exact H
            clear H
            have H := H1
            clear H1
            simp only [Option.some.injEq, Prod.mk.injEq] at H
            obtain ⟨rfl, rfl, rfl⟩ := H
            go_wp2
            go_ret3
            exact ⟨by first | rfl | (simp; done) | (simp [*]; done), by repeat (first | exact Drawn0.refl _ | apply Drawn0.step)⟩

/-! ### spec_signed: function 25 -/
def spec_signed.f (a0 : Int) (a1 : Int) : Option (Int) := if 0 ≤ (wrap64 (64 - a1)) then (some (shr .i64 (wrap64 (shl .u64 a0 (wrap64 (64 - a1)))) (wrap64 (64 - a1)))) else (none)
set_option maxHeartbeats 8000000 in
set_option maxRecDepth 100000 in
theorem spec_signed.calls (a0 : Int) (a1 : Int) (r : Int) (w : World) (h : spec_signed.f a0 a1 = some r) :
    Calls Try.prog 25 #[.int .u64 a0, .int .i64 a1] w fun e w' => e = .returned (.int .i64 r) ∧ Drawn0 w w' := by
  have H : (if 0 ≤ (wrap64 (64 - a1)) then (some (shr .i64 (wrap64 (shl .u64 a0 (wrap64 (64 - a1)))) (wrap64 (64 - a1)))) else (none)) = some r := h
  clear h
  obtain ⟨ji3, hji3⟩ : ∃ j_ : Int, (wrap64 (64 - a1)) = j_ := ⟨_, rfl⟩
  replace H : (if 0 ≤ (ji3) then (some (shr .i64 (wrap64 (shl .u64 a0 (ji3))) (ji3))) else (none)) = some r := by first | (rw [hji3] at H; exact H) | (simp only [hji3] at H ⊢; exact H)
  have hji3w : (IntKind.i64.wrap (64 - a1)) = ji3 := (i64_w _).trans hji3
  by_cases c4 : 0 ≤ (ji3)
  · rw [if_pos c4] at H
    have c4b0 := eq_true c4
    have c4b1 : decide (0 ≤ (ji3)) = true := decide_eq_true c4
    clear c4
    obtain ⟨ji5, hji5⟩ : ∃ j_ : Int, (shl .u64 a0 (ji3)) = j_ := ⟨_, rfl⟩
    replace H : (some (shr .i64 (wrap64 (ji5)) (ji3))) = some r := by first | (rw [hji5] at H; exact H) | (simp only [hji5] at H ⊢; exact H)
    have hji5_ : (IntKind.u64.wrap (a0 * 2 ^ min (ji3).toNat 64)) = ji5 := hji5
    have hji5z : (ji3) ≤ 64 → (IntKind.u64.wrap (a0 * 2 ^ (ji3).toNat)) = ji5 := shl_small hji5
    have c6b0 := eq_true (of_decide_eq_true (by first | (with_reducible assumption) | assumption) : 0 ≤ (ji3))
    obtain ⟨ji7, hji7⟩ : ∃ j_ : Int, (shr .i64 (wrap64 (ji5)) (ji3)) = j_ := ⟨_, rfl⟩
    replace H : (some ji7) = some r := by first | (rw [hji7] at H; exact H) | (simp only [hji7] at H ⊢; exact H)
    have hji7_ : ((wrap64 (ji5)) / 2 ^ min (ji3).toNat 64) = ji7 := hji7
    have hji7z : (ji3) ≤ 64 → ((wrap64 (ji5)) / 2 ^ (ji3).toNat) = ji7 := shr_small hji7
    obtain rfl := Option.some.inj H
    go_enter Try.func25, Try.ntmps25
    go_wp2
    go_ret
    exact ⟨by first | rfl | (simp; done) | (simp only [← hji3, ← hji5, ← hji7] <;> (first | rfl | simp)) | (simp [*]; done), by repeat (first | exact Drawn0.refl _ | apply Drawn0.step)⟩
  · rw [if_neg c4] at H
    exact absurd H (by simp)

/-! ### spec_wrapTo: function 14 -/
def spec_wrapTo.f (a0 : Int) (a1 : Int) : Option (Int) := (spec_signed.f (IntKind.u64.wrap (a0)) a1).bind fun t146 => (some t146)
set_option maxHeartbeats 8000000 in
set_option maxRecDepth 100000 in
theorem spec_wrapTo.calls (a0 : Int) (a1 : Int) (r : Int) (w : World) (h : spec_wrapTo.f a0 a1 = some r) :
    Calls Try.prog 14 #[.int .i64 a0, .int .i64 a1] w fun e w' => e = .returned (.int .i64 r) ∧ Drawn0 w w' := by
  have H : ((spec_signed.f (IntKind.u64.wrap (a0)) a1).bind fun t146 => (some t146)) = some r := h
  clear h
  replace H := Option.bind_eq_some_iff.mp H
  obtain ⟨t146, A30, H⟩ := H
  replace H : (some t146) = some r := H
  have A3 := Aside0.mk A30
  clear A30
  obtain rfl := Option.some.inj H
  go_enter Try.func14, Try.ntmps14
  go_wp2_with (first | ((with_reducible refine gate_callee (f := 25) rfl ?_); refine goesL_ (some 8) rfl rfl Try.func25 (by kernel_rfl) rfl #[.int .u64 (IntKind.u64.wrap (a0)), .int .i64 a1] rfl (by (try simp only [List.map_toArray, List.map_cons, List.map_nil]); first | done | rfl | (simp only [List.length_drop, List.length_take]; rfl)) ?_; (with_reducible refine (spec_signed.calls (IntKind.u64.wrap (a0)) a1 t146 _ A3.out).mono ?_); rintro e w' ⟨rfl, ⟨nd, rfl⟩⟩; refine ⟨_, rfl, ?_⟩))
  go_ret
  exact ⟨by first | rfl | (simp; done) | (simp [*]; done), by repeat (first | exact Drawn0.refl _ | apply Drawn0.step)⟩

/-! ### spec_unzig: function 15 -/
def spec_unzig.f (a0 : Int) : Option (Int) := some (Go.bits .xor .i64 (wrap64 (a0 / 2)) (wrap64 (-(wrap64 (Go.bits .and .u64 a0 1)))))
set_option maxHeartbeats 8000000 in
set_option maxRecDepth 100000 in
theorem spec_unzig.calls (a0 : Int) (r : Int) (w : World) (h : spec_unzig.f a0 = some r) :
    Calls Try.prog 15 #[.int .u64 a0] w fun e w' => e = .returned (.int .i64 r) ∧ Drawn0 w w' := by
  have H : (some (Go.bits .xor .i64 (wrap64 (a0 / 2)) (wrap64 (-(wrap64 (Go.bits .and .u64 a0 1)))))) = some r := h
  clear h
  obtain rfl := Option.some.inj H
  go_enter Try.func15, Try.ntmps15
  go_wp2
  go_ret
  exact ⟨by first | rfl | (simp; done) | (simp [*]; done), by repeat (first | exact Drawn0.refl _ | apply Drawn0.step)⟩

/-! ### spec_Bit: function 26 -/
def spec_Bit.f (l0 : List Int) (a1 : Int) : Option (Bool) := if 0 ≤ (wrap64 (Int.tdiv a1 8)) then (if (wrap64 (Int.tdiv a1 8)) < (l0.length : Int) then (if 0 ≤ (Int.tmod a1 8) then (some ((Go.bits .and .u8 (shr .u8 (rd l0 (wrap64 (Int.tdiv a1 8))) (Int.tmod a1 8)) 1) == 1)) else (none)) else (none)) else (none)
set_option maxHeartbeats 8000000 in
set_option maxRecDepth 100000 in
theorem spec_Bit.calls (A0 : Option Addr) (c0 : Nat) (l0 : List Int) (a1 : Int) (r : Bool) (w : World) (hr0 : Kd.C (Kd.int .u8) w A0 l0.length l0) (hc0 : l0.length ≤ c0) (h : spec_Bit.f l0 a1 = some r) :
    Calls Try.prog 26 #[.slice A0 l0.length c0, .int .i64 a1] w fun e w' => e = .returned (.bool r) ∧ Drawn0 w w' := by
  have HR0 := Aside0.mk hr0
  have HC0 := Aside0.mk hc0
  clear hr0 hc0
  have H : (if 0 ≤ (wrap64 (Int.tdiv a1 8)) then (if (wrap64 (Int.tdiv a1 8)) < (l0.length : Int) then (if 0 ≤ (Int.tmod a1 8) then (some ((Go.bits .and .u8 (shr .u8 (rd l0 (wrap64 (Int.tdiv a1 8))) (Int.tmod a1 8)) 1) == 1)) else (none)) else (none)) else (none)) = some r := h
  clear h
  obtain ⟨ji3, hji3⟩ : ∃ j_ : Int, (wrap64 (Int.tdiv a1 8)) = j_ := ⟨_, rfl⟩
  replace H : (if 0 ≤ (ji3) then (if (ji3) < (l0.length : Int) then (if 0 ≤ (Int.tmod a1 8) then (some ((Go.bits .and .u8 (shr .u8 (rd l0 (ji3)) (Int.tmod a1 8)) 1) == 1)) else (none)) else (none)) else (none)) = some r := by first | (rw [hji3] at H; exact H) | (simp only [hji3] at H ⊢; exact H)
  have hji3w : (IntKind.i64.wrap (Int.tdiv a1 8)) = ji3 := (i64_w _).trans hji3
  by_cases c4 : 0 ≤ (ji3)
  · rw [if_pos c4] at H
    have c4b0 : decide (0 ≤ (ji3)) = true := decide_eq_true c4
    clear c4
    by_cases c5 : (ji3) < (l0.length : Int)
    · rw [if_pos c5] at H
      have c5b0 : decide ((ji3) < (l0.length : Int)) = true := decide_eq_true c5
      clear c5
      obtain ⟨ji6, hji6⟩ : ∃ j_ : Int, (Int.tmod a1 8) = j_ := ⟨_, rfl⟩
      replace H : (if 0 ≤ (ji6) then (some ((Go.bits .and .u8 (shr .u8 (rd l0 (ji3)) (ji6)) 1) == 1)) else (none)) = some r := by first | (rw [hji6] at H; exact H) | (simp only [hji6] at H ⊢; exact H)
      by_cases c7 : 0 ≤ (ji6)
      · rw [if_pos c7] at H
        have c7b0 := eq_true c7
        have c7b1 : decide (0 ≤ (ji6)) = true := decide_eq_true c7
        clear c7
        obtain ⟨ji8, hji8⟩ : ∃ j_ : Int, (shr .u8 (rd l0 (ji3)) (ji6)) = j_ := ⟨_, rfl⟩
        replace H : (some ((Go.bits .and .u8 (ji8) 1) == 1)) = some r := by first | (rw [hji8] at H; exact H) | (simp only [hji8] at H ⊢; exact H)
        have hji8_ : ((rd l0 (ji3)) / 2 ^ min (ji6).toNat 8) = ji8 := hji8
        have hji8z : (ji6) ≤ 8 → ((rd l0 (ji3)) / 2 ^ (ji6).toNat) = ji8 := shr_small hji8
        obtain rfl := Option.some.inj H
        have p147 : 0 ≤ ((ji3) : Int) := of_decide_eq_true (by first | (with_reducible assumption) | assumption)
        have q147 : (ji3) < (l0.length : Int) := of_decide_eq_true (by first | (with_reducible assumption) | assumption)
        obtain ⟨ad147, e147, hx147_0⟩ := Kd.at_int HR0.out (ji3) p147 q147
        cases e147
        replace p147 := eq_true p147
        replace q147 := eq_true q147
        go_enter Try.func26, Try.ntmps26
        go_wp2
        go_ret
        exact ⟨by first | rfl | (simp; done) | (simp only [← hji3, ← hji6, ← hji8] <;> (first | rfl | simp)) | (simp [*]; done), by repeat (first | exact Drawn0.refl _ | apply Drawn0.step)⟩
      · rw [if_neg c7] at H
        exact absurd H (by simp)
    · rw [if_neg c5] at H
      exact absurd H (by simp)
  · rw [if_neg c4] at H
    exact absurd H (by simp)

/-! ### spec_packedAt: function 16 -/
def spec_packedAt.l0 : Nat → List Int → Int → Int → Int → Int → Int → Option (Int)
  | 0, _, _, _, _, _, _ => none
  | k + 1, x0, x1, x2, x7, x9, x10 => if x10 < x9 then ((spec_Bit.f x0 (wrap64 ((wrap64 (x1 * x2)) + x10))).bind fun t148 => (if t148 = true then (if 0 ≤ x10 then (spec_packedAt.l0 k x0 x1 x2 (Go.bits .or .u64 x7 (shl .u64 1 x10)) x9 (wrap64 (x10 + 1))) else (none)) else (spec_packedAt.l0 k x0 x1 x2 x7 x9 (wrap64 (x10 + 1))))) else (some x7)
def spec_packedAt.f (k : Nat) (l0 : List Int) (a1 : Int) (a2 : Int) : Option (Int) := spec_packedAt.l0 k l0 a1 a2 0 a2 0
theorem spec_packedAt.mono_l : ∀ k, (∀ y0 y1 y2 y3 y4 y5, LeO (spec_packedAt.l0 k y0 y1 y2 y3 y4 y5) (spec_packedAt.l0 (k + 1) y0 y1 y2 y3 y4 y5))
  | 0 => fun _ _ _ _ _ _ r h => by simp [spec_packedAt.l0] at h
  | k + 1 => by
    have ih0 := spec_packedAt.mono_l k
    · intro y0 y1 y2 y3 y4 y5
      unfold spec_packedAt.l0
      repeat' first
      | (with_reducible exact ih0 _ _ _ _ _ _)
      | (with_reducible exact LeO.refl _)
      | (with_reducible exact LeO.none _)
      | (with_reducible refine LeO.ite ?_ ?_)
      | (with_reducible refine LeO.bind ?_ (fun _ => ?_))
      | exact ih0 _ _ _ _ _ _
      | exact LeO.none _
      | refine LeO.ite ?_ ?_
      | refine LeO.bind ?_ (fun _ => ?_)
theorem spec_packedAt.mono : ∀ a0 a1 a2 k, LeO (spec_packedAt.f k a0 a1 a2) (spec_packedAt.f (k + 1) a0 a1 a2) := by
  intro a0 a1 a2 k
  have ih0 := spec_packedAt.mono_l k
  unfold spec_packedAt.f
  repeat' first
      | (with_reducible exact ih0 _ _ _ _ _ _)
      | (with_reducible exact LeO.refl _)
      | (with_reducible exact LeO.none _)
      | (with_reducible refine LeO.ite ?_ ?_)
      | (with_reducible refine LeO.bind ?_ (fun _ => ?_))
      | exact ih0 _ _ _ _ _ _
      | exact LeO.none _
      | refine LeO.ite ?_ ?_
      | refine LeO.bind ?_ (fun _ => ?_)
set_option maxHeartbeats 8000000 in
set_option maxRecDepth 100000 in
theorem spec_packedAt.calls (k : Nat) (A0 : Option Addr) (c0 : Nat) (l0 : List Int) (a1 : Int) (a2 : Int) (r : Int) (w : World) (hr0 : Kd.C (Kd.int .u8) w A0 l0.length l0) (hc0 : l0.length ≤ c0) (h : spec_packedAt.f k l0 a1 a2 = some r) :
    Calls Try.prog 16 #[.slice A0 l0.length c0, .int .i64 a1, .int .i64 a2] w fun e w' => e = .returned (.int .u64 r) ∧ Drawn0 w w' := by
  have HR0 := Aside0.mk hr0
  have HC0 := Aside0.mk hc0
  clear hr0 hc0
  have H : (spec_packedAt.l0 k l0 a1 a2 0 a2 0) = some r := h
  clear h
  have H' := Aside0.mk H
  clear H
  go_enter Try.func16, Try.ntmps16
  go_wp2
  go_loopg [7, 10] k (fun kq v7 v10 w' => ∃ (x7_1 : Int) (x10_1 : Int), v7 = .int .u64 x7_1 ∧ v10 = .int .i64 x10_1 ∧ Aside0 (spec_packedAt.l0 kq l0 a1 a2 x7_1 a2 x10_1 = some r) ∧ Aside0 (kq ≤ k) ∧ Drawn0 w w')
  case atStart => exact ⟨(0), (0), (by first | rfl | (simp; done) | (simp [*]; done)), (by first | rfl | (simp; done) | (simp [*]; done)), H', ⟨Nat.le_refl _⟩, by repeat (first | exact Drawn0.refl _ | apply Drawn0.step)⟩
  case round =>
    clear H'
    try clear c1
    try clear p2
    obtain ⟨x7_1, x10_1, rfl, rfl, HA, HK1, ⟨m1, rfl⟩⟩ := hrel
    cases gk with
    | zero => exact absurd HA.out (by simp [spec_packedAt.l0])
    | succ k1 =>
      have H := HA.out
      clear HA
      simp only [spec_packedAt.l0] at H
      by_cases c4 : x10_1 < a2
      · rw [if_pos c4] at H
        have c4b0 : decide (x10_1 < a2) = true := decide_eq_true c4
        clear c4
        replace H := Option.bind_eq_some_iff.mp H
        obtain ⟨t148, A50, H⟩ := H
        replace H : (if t148 = true then (if 0 ≤ x10_1 then (spec_packedAt.l0 k1 l0 a1 a2 (Go.bits .or .u64 x7_1 (shl .u64 1 x10_1)) a2 (wrap64 (x10_1 + 1))) else (none)) else (spec_packedAt.l0 k1 l0 a1 a2 x7_1 a2 (wrap64 (x10_1 + 1)))) = some r := H
        have A5 := Aside0.mk A50
        clear A50
        by_cases c6 : t148 = true
        · subst c6
          have H1 : (if 0 ≤ x10_1 then (spec_packedAt.l0 k1 l0 a1 a2 (Go.bits .or .u64 x7_1 (shl .u64 1 x10_1)) a2 (wrap64 (x10_1 + 1))) else (none)) = some r := by rw [if_pos rfl] at H; exact H
          clear H
          have H := H1
          clear H1
          by_cases c7 : 0 ≤ x10_1
          · rw [if_pos c7] at H
            have c7b0 := eq_true c7
            have c7b1 : decide (0 ≤ x10_1) = true := decide_eq_true c7
            clear c7
            obtain ⟨ji8, hji8⟩ : ∃ j_ : Int, (shl .u64 1 x10_1) = j_ := ⟨_, rfl⟩
            replace H : (spec_packedAt.l0 k1 l0 a1 a2 (Go.bits .or .u64 x7_1 (ji8)) a2 (wrap64 (x10_1 + 1))) = some r := by first | (rw [hji8] at H; exact H) | (simp only [hji8] at H ⊢; exact H)
            (try rw [hji8] at A5)
            have hji8_ : (IntKind.u64.wrap (1 * 2 ^ min x10_1.toNat 64)) = ji8 := hji8
            have hji8z : x10_1 ≤ 64 → (IntKind.u64.wrap (1 * 2 ^ x10_1.toNat)) = ji8 := shl_small hji8
            have hji8u : (IntKind.u64.wrap (2 ^ min x10_1.toNat 64)) = ji8 := by have h_ := hji8_; rw [Int.one_mul] at h_; exact h_
            have hji8v : x10_1 ≤ 64 → (IntKind.u64.wrap (2 ^ x10_1.toNat)) = ji8 := fun hle_ => by have h_ := hji8z hle_; rw [Int.one_mul] at h_; exact h_
            have H' := Aside0.mk H
            clear H
            go_wp2_with (first | ((with_reducible refine gate_callee (f := 26) rfl ?_); refine goesL_ (some 19) rfl rfl Try.func26 (by kernel_rfl) rfl #[.slice A0 l0.length c0, .int .i64 (wrap64 ((wrap64 (a1 * a2)) + x10_1))] rfl (by (try simp only [List.map_toArray, List.map_cons, List.map_nil]); first | done | rfl | (simp only [List.length_drop, List.length_take]; rfl)) ?_; (with_reducible refine (spec_Bit.calls _ _ l0 (wrap64 ((wrap64 (a1 * a2)) + x10_1)) true _ ?side1 ?side2 A5.out).mono ?_); (case side1 => repeat (first | exact HR0.out | (with_reducible refine Kd.C_alloc ?_ _) | (with_reducible refine Kd.C_drewN ?_ _) | (with_reducible refine Kd.C_drew ?_))); (case side2 => exact HC0.out); rintro e w' ⟨rfl, ⟨nd, rfl⟩⟩; refine ⟨_, rfl, ?_⟩))
            go_roundg k1
            case measure => have := HK1.out; omega
            case rel => exact ⟨(Go.bits .or .u64 x7_1 (ji8)), (wrap64 (x10_1 + 1)), (by first | rfl | (simp; done) | (simp only [← hji8] <;> (first | rfl | simp)) | (simp [*]; done)), (by first | rfl | (simp; done) | (simp [*]; done)), H', ⟨by have := HK1.out; omega⟩, by repeat (first | exact Drawn0.refl _ | apply Drawn0.step)⟩
          · rw [if_neg c7] at H
            exact absurd H (by simp)
        · replace c6 := Bool.eq_false_iff.mpr c6
          subst c6
          have H1 : (spec_packedAt.l0 k1 l0 a1 a2 x7_1 a2 (wrap64 (x10_1 + 1))) = some r := by rw [if_neg (show ¬ (false = true) by decide)] at H; exact H
          clear H
          have H := H1
          clear H1
          have H' := Aside0.mk H
          clear H
          go_wp2_with (first | ((with_reducible refine gate_callee (f := 26) rfl ?_); refine goesL_ (some 19) rfl rfl Try.func26 (by kernel_rfl) rfl #[.slice A0 l0.length c0, .int .i64 (wrap64 ((wrap64 (a1 * a2)) + x10_1))] rfl (by (try simp only [List.map_toArray, List.map_cons, List.map_nil]); first | done | rfl | (simp only [List.length_drop, List.length_take]; rfl)) ?_; (with_reducible refine (spec_Bit.calls _ _ l0 (wrap64 ((wrap64 (a1 * a2)) + x10_1)) false _ ?side1 ?side2 A5.out).mono ?_); (case side1 => repeat (first | exact HR0.out | (with_reducible refine Kd.C_alloc ?_ _) | (with_reducible refine Kd.C_drewN ?_ _) | (with_reducible refine Kd.C_drew ?_))); (case side2 => exact HC0.out); rintro e w' ⟨rfl, ⟨nd, rfl⟩⟩; refine ⟨_, rfl, ?_⟩))
          go_roundg k1
          case measure => have := HK1.out; omega
          case rel => exact ⟨(x7_1), (wrap64 (x10_1 + 1)), (by first | rfl | (simp; done) | (simp [*]; done)), (by first | rfl | (simp; done) | (simp [*]; done)), H', ⟨by have := HK1.out; omega⟩, by repeat (first | exact Drawn0.refl _ | apply Drawn0.step)⟩
      · rw [if_neg c4] at H
        have c4b0 : decide (x10_1 < a2) = false := decide_eq_false c4
        clear c4
        obtain rfl := Option.some.inj H
        go_wp2
        go_ret
        exact ⟨by first | rfl | (simp; done) | (simp [*]; done), by repeat (first | exact Drawn0.refl _ | apply Drawn0.step)⟩

end Go.Proofs.Ytdekingogcmboaa.Q
