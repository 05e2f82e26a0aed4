-- written by programs of ours (wip/tools) out of the kit's printer: the functions of one law, less those that are shared or proved by hand
import Derived.Test.YtnjniacohbeonaaQ0
namespace Go.Proofs.Ytnjniacohbeonaa.Q
open Go.RowKit Go.Proofs.YtnjniacohbeonaaW.PrintWords Go.Proofs.YtnjniacohbeonaaW.PrintLast Go.Proofs.YtnjniacohbeonaaW.PrintMore
attribute [local go_sem] max2_int min2_int max_two min_two max_three min_three max_four min_four
set_option linter.unusedVariables false
set_option linter.unusedSimpArgs false

theorem info32 : (Try.prog.info? 32).map (fun i => (i.zero, i.size, i.bytes)) = some (some (.int .u64 0), 1, 8) := by kernel_rfl
theorem info44 : (Try.prog.info? 44).map (fun i => (i.zero, i.size, i.bytes)) = some (some (.int .u32 0), 1, 4) := by kernel_rfl
/-! ### utils_transposeUint64Uint32: function 66 -/
def utils_transposeUint64Uint32.l0 : Nat → List Int → List Int → List Int → Int → Int → Option (List Int)
  | 0, _, _, _, _, _ => none
  | k + 1, x1, x2, x8, x9, x10 => if x10 < x9 then (if 0 ≤ x10 then (if x10 < (x8.length : Int) then (if 0 ≤ (rd x8 x10) then (if (rd x8 x10) < (x2.length : Int) then (if x10 < (x1.length : Int) then (utils_transposeUint64Uint32.l0 k (x1.set (x10 : Int).toNat ((rd x2 (rd x8 x10)) % 4294967296)) x2 x8 x9 (wrap64 (x10 + 1))) else (none)) else (none)) else (none)) else (none)) else (none)) else (some x1)
def utils_transposeUint64Uint32.f (k : Nat) (l0 : List Int) (l1 : List Int) (l2 : List Int) : Option (List Int) := utils_transposeUint64Uint32.l0 k l1 l2 l0 (l0.length : Int) 0
theorem utils_transposeUint64Uint32.mono_l : ∀ k, (∀ y0 y1 y2 y3 y4, LeO (utils_transposeUint64Uint32.l0 k y0 y1 y2 y3 y4) (utils_transposeUint64Uint32.l0 (k + 1) y0 y1 y2 y3 y4))
  | 0 => fun _ _ _ _ _ r h => by simp [utils_transposeUint64Uint32.l0] at h
  | k + 1 => by
    have ih0 := utils_transposeUint64Uint32.mono_l k
    · intro y0 y1 y2 y3 y4
      unfold utils_transposeUint64Uint32.l0
      repeat' first
      | (with_reducible exact ih0 _ _ _ _ _)
      | (with_reducible exact LeO.refl _)
      | (with_reducible exact LeO.none _)
      | (with_reducible refine LeO.ite ?_ ?_)
      | (with_reducible refine LeO.bind ?_ (fun _ => ?_))
      | exact ih0 _ _ _ _ _
      | exact LeO.none _
      | refine LeO.ite ?_ ?_
      | refine LeO.bind ?_ (fun _ => ?_)
theorem utils_transposeUint64Uint32.mono : ∀ a0 a1 a2 k, LeO (utils_transposeUint64Uint32.f k a0 a1 a2) (utils_transposeUint64Uint32.f (k + 1) a0 a1 a2) := by
  intro a0 a1 a2 k
  have ih0 := utils_transposeUint64Uint32.mono_l k
  unfold utils_transposeUint64Uint32.f
  repeat' first
      | (with_reducible exact ih0 _ _ _ _ _)
      | (with_reducible exact LeO.refl _)
      | (with_reducible exact LeO.none _)
      | (with_reducible refine LeO.ite ?_ ?_)
      | (with_reducible refine LeO.bind ?_ (fun _ => ?_))
      | exact ih0 _ _ _ _ _
      | exact LeO.none _
      | refine LeO.ite ?_ ?_
      | refine LeO.bind ?_ (fun _ => ?_)
set_option maxHeartbeats 8000000 in
set_option maxRecDepth 100000 in
theorem utils_transposeUint64Uint32.calls (k : Nat) (A0 : Option Addr) (c0 : Nat) (l0 : List Int) (P1_ : Nat → Prop) (u9000_ : Value) (l1 : List Int) (A2 : Option Addr) (c2 : Nat) (l2 : List Int) (r : List Int) (w0 w : World) (hB : Below w0.heap.size w0 w) (hr0 : ∀ W_, Kept w W_ (fun k_ => P1_ k_) → Kd.C (Kd.int .u64) W_ A0 l0.length l0) (hc0 : l0.length ≤ c0) (ho1 : Kd.R (Kd.int .u32) 44 w w0.heap.size P1_ u9000_ l1) (hr2 : ∀ W_, Kept w W_ (fun k_ => P1_ k_) → Kd.C (Kd.int .i32) W_ A2 l2.length l2) (hc2 : l2.length ≤ c2) (h : utils_transposeUint64Uint32.f k l0 l1 l2 = some r) :
    Calls Try.prog 66 #[.slice A0 l0.length c0, u9000_, .slice A2 l2.length c2] w fun e w' => e = .returned (.tuple #[]) ∧ Kd.R (Kd.int .u32) 44 w' w0.heap.size (fun k_ => (P1_ k_ ∨ w.heap.size ≤ k_)) u9000_ r ∧ Below w0.heap.size w0 w' ∧ Kept w w' (fun k_ => P1_ k_) := by
  have HR0 := Aside0.mk hr0
  have HC0 := Aside0.mk hc0
  clear hr0 hc0
  have HO1 := Aside0.mk (show Kd.R (Kd.int .u32) 44 w w0.heap.size (fun k_ => (P1_ k_ ∨ w.heap.size ≤ k_)) u9000_ l1 from Kd.R_mono ho1 (fun k_ hk => (.inl hk)))
  have HR2 := Aside0.mk hr2
  have HC2 := Aside0.mk hc2
  clear hr2 hc2
  have HK := Aside0.mk (Kept.refl w (fun k_ => P1_ k_))
  have HW0 := Aside0.mk hB.size
  have HB := Aside0.mk hB
  clear hB
  have H : (utils_transposeUint64Uint32.l0 k l1 l2 l0 (l0.length : Int) 0) = some r := h
  clear h
  have H' := Aside0.mk H
  clear H
  go_enter Try.func66, Try.ntmps66
  go_wp2
  go_loopg [10] k (fun kq v10 w' => ∃ (x1_1 : List Int) (x10_1 : Int), v10 = .int .i64 x10_1 ∧ Aside0 (utils_transposeUint64Uint32.l0 kq x1_1 l2 l0 (l0.length : Int) x10_1 = some r) ∧ Aside0 (kq ≤ k) ∧ Aside0 (Kd.R (Kd.int .u32) 44 w' w0.heap.size (fun k_ => (P1_ k_ ∨ w.heap.size ≤ k_)) u9000_ x1_1) ∧ Aside0 (Kept w w' (fun k_ => P1_ k_)) ∧ Aside0 (Below w0.heap.size w0 w'))
  case atStart => exact ⟨(l1), (0), (by first | rfl | (simp; done) | (simp [*]; done)), H', ⟨Nat.le_refl _⟩, ⟨by (with_reducible repeat (first | apply Kd.R_alloc | apply Kd.R_drewN | apply Kd.R_drew)); exact HO1.out⟩, ⟨by repeat (first | (with_reducible first | exact HK.out | apply Kept.alloc | apply Kept.drewN | apply Kept.drew) | exact HK.out)⟩, ⟨by repeat (first | (with_reducible first | exact HB.out | apply below_alloc | apply pw_below_drewN | apply below_drew1) | exact HB.out)⟩⟩
  case round =>
    clear H'
    try clear c2
    try clear p2
    obtain ⟨x1_1, x10_1, rfl, HA, HK1, HO_1, HK, HB⟩ := hrel
    cases gk with
    | zero => exact absurd HA.out (by simp [utils_transposeUint64Uint32.l0])
    | succ k1 =>
      have H := HA.out
      clear HA
      simp only [utils_transposeUint64Uint32.l0] at H
      by_cases c4 : x10_1 < (l0.length : Int)
      · rw [if_pos c4] at H
        have c4b0 : decide (x10_1 < (l0.length : Int)) = true := decide_eq_true c4
        clear c4
        by_cases c5 : 0 ≤ x10_1
        · rw [if_pos c5] at H
          have c5b0 : decide (0 ≤ x10_1) = true := decide_eq_true c5
          clear c5
          by_cases c6 : x10_1 < (l0.length : Int)
          · rw [if_pos c6] at H
            have c6b0 : decide (x10_1 < (l0.length : Int)) = true := decide_eq_true c6
            clear c6
            by_cases c7 : 0 ≤ (rd l0 x10_1)
            · rw [if_pos c7] at H
              have c7b0 : decide (0 ≤ (rd l0 x10_1)) = true := decide_eq_true c7
              clear c7
              by_cases c8 : (rd l0 x10_1) < (l2.length : Int)
              · rw [if_pos c8] at H
                have c8b0 : decide ((rd l0 x10_1) < (l2.length : Int)) = true := decide_eq_true c8
                clear c8
                by_cases c9 : x10_1 < (x1_1.length : Int)
                · rw [if_pos c9] at H
                  have c9b0 : decide (x10_1 < (x1_1.length : Int)) = true := decide_eq_true c9
                  clear c9
                  obtain ⟨y103, hy103⟩ : ∃ y_ : List Int, y_ = (x1_1.set (x10_1 : Int).toNat ((rd l2 (rd l0 x10_1)) % 4294967296)) := ⟨_, rfl⟩
                  replace H : (utils_transposeUint64Uint32.l0 k1 y103 l2 l0 (l0.length : Int) (wrap64 (x10_1 + 1))) = some r := by first | (rw [hy103]; with_reducible exact H) | (have H2_ := (Option.bind_some _ _).symm.trans H; rw [hy103]; with_reducible exact H2_) | (have H2_ := (Option.bind_some _ _).symm.trans H; with_reducible exact H2_) | with_reducible exact H | (rw [hy103]; exact H) | exact H
                  have Ny103 := Aside0.mk hy103
                  clear hy103
                  have H' := Aside0.mk H
                  clear H
                  have p101 : 0 ≤ (x10_1 : Int) := of_decide_eq_true (by first | (with_reducible assumption) | assumption)
                  have q101 : x10_1 < (l0.length : Int) := of_decide_eq_true (by first | (with_reducible assumption) | assumption)
                  obtain ⟨ad101, e101, hx101_0⟩ := Kd.at_int (Kd.C_kept_now HR0.out HK.out) x10_1 p101 q101
                  cases e101
                  replace p101 := eq_true p101
                  replace q101 := eq_true q101
                  have p102 : 0 ≤ ((rd l0 x10_1) : Int) := of_decide_eq_true (by first | (with_reducible assumption) | assumption)
                  have q102 : (rd l0 x10_1) < (l2.length : Int) := of_decide_eq_true (by first | (with_reducible assumption) | assumption)
                  obtain ⟨ad102, e102, hx102_0⟩ := Kd.at_int (Kd.C_kept_now HR2.out HK.out) (rd l0 x10_1) p102 q102
                  cases e102
                  replace p102 := eq_true p102
                  replace q102 := eq_true q102
                  have p10 : 0 ≤ (x10_1 : Int) := of_decide_eq_true (by first | (with_reducible assumption) | assumption)
                  have q10 : (x10_1 : Int) < ((x1_1.length : Int) : Int) := of_decide_eq_true (by first | (with_reducible assumption) | assumption)
                  obtain ⟨go10, co10, eo10, gb10, gl10, cl10, HG10⟩ := Kd.R_form HO_1.out (by omega)
                  (first | cases eo10 | (injection eo10 with ea_ en_ ec_; (first | subst ea_ | (injection ea_ with ea_; subst ea_)); subst ec_; clear en_))
                  have GB10 := Aside0.mk gb10
                  have GG10 := Aside0.mk HG10
                  clear gb10 gl10 HG10
                  have HMgo10 := Aside0.mk (show (P1_ go10 ∨ w.heap.size ≤ go10) from (HO_1.out.1 _ rfl))
                  obtain ⟨hx10_0, hf10_0⟩ := Kd.R_celln 0 HO_1.out (x10_1 : Int) p10 q10
                  replace p10 := eq_true p10
                  replace q10 := eq_true q10
                  have HP11 := Kd.R_putg HO_1.out (x10_1 : Int) ((rd l2 (rd l0 x10_1)) % 4294967296)
                  go_wp2_with (first | ((with_reducible refine gate_store (t := 44) (p := 22) rfl ?_); refine store_event (t := 44) (p := 22) (v := ?vo_w12) (w1 := (wr.setCell ⟨go10, (x10_1 : Int).toNat, none⟩ (.int .u32 ((rd l2 (rd l0 x10_1)) % 4294967296)))) ?hg ?ho ?hn ?hr ?_; (case ho => rfl); (case hg => rfl); (case hn => rfl); (case hr => first | (go_simp; done) | (go_simp; rfl)); intro w12 hw; have hg : wr.grownBy w12 (some go10) := (by rw [hw]; exact HP11.2); have hp_ : Kd.R (Kd.int .u32) 44 w12 w0.heap.size (fun k_ => (P1_ k_ ∨ w.heap.size ≤ k_)) (.slice (some ⟨go10, 0, none⟩) x1_1.length co10) y103 := (by rw [hw, Ny103.out]; exact HP11.1); clear HP11; have n0_ := Aside0.mk (hp_); have n1_ := Aside0.mk ((by rw [hw]; exact below_set (HB.out) GB10.out : Below w0.heap.size w0 w12)); have n2_ := Aside0.mk (Kept.of_grown (S := (fun k_ => P1_ k_)) hg (by repeat (first | (with_reducible first | exact HK.out | apply Kept.alloc | apply Kept.drewN | apply Kept.drew) | exact HK.out)) (fun k_ e_ => (HO_1.out.1 k_ e_))); clear HO_1; clear HB; clear HK; have HO_1 := n0_; have HB := n1_; have HK := n2_; clear n0_ n1_ n2_; clear hg hw hp_))
                  go_roundg k1
                  case measure => have := HK1.out; omega
                  case rel => exact ⟨(y103), (wrap64 (x10_1 + 1)), (by first | rfl | (simp; done) | (simp [*]; done)), H', ⟨by have := HK1.out; omega⟩, ⟨by (with_reducible repeat (first | apply Kd.R_alloc | apply Kd.R_drewN | apply Kd.R_drew)); exact HO_1.out⟩, ⟨by repeat (first | (with_reducible first | exact HK.out | apply Kept.alloc | apply Kept.drewN | apply Kept.drew) | exact HK.out)⟩, ⟨by repeat (first | (with_reducible first | exact HB.out | apply below_alloc | apply pw_below_drewN | apply below_drew1) | exact HB.out)⟩⟩
                · rw [if_neg c9] at H
                  exact absurd H (by simp)
              · rw [if_neg c8] at H
                exact absurd H (by simp)
            · rw [if_neg c7] at H
              exact absurd H (by simp)
          · rw [if_neg c6] at H
            exact absurd H (by simp)
        · rw [if_neg c5] at H
          exact absurd H (by simp)
      · rw [if_neg c4] at H
        have c4b0 : decide (x10_1 < (l0.length : Int)) = false := decide_eq_false c4
        clear c4
        obtain rfl := Option.some.inj H
        go_wp2
        first | go_end0 | ((try simp only [Exit.inBlock, Exit.then]); refine bodyPost_ret (results_none rfl _ _ _) rfl ?_)
        exact ⟨by first | rfl | (simp [errW_none, errW_some] <;> rfl) | (simp [*, errW_none, errW_some] <;> rfl), by (with_reducible repeat (first | apply Kd.R_alloc | apply Kd.R_drewN | apply Kd.R_drew)); exact HO_1.out, by repeat (first | (with_reducible first | exact HB.out | apply below_alloc | apply pw_below_drewN | apply below_drew1) | exact HB.out), by repeat (first | (with_reducible first | exact HK.out | apply Kept.alloc | apply Kept.drewN | apply Kept.drew) | exact HK.out)⟩

/-! ### utils_TransposeUint64Uint32: function 49 -/
def utils_TransposeUint64Uint32.f (k : Nat) (l0 : List Int) (l1 : List Int) (l2 : List Int) : Option (List Int) := (utils_transposeUint64Uint32.f k l0 l1 l2).bind fun t104 => (some t104)
theorem utils_TransposeUint64Uint32.mono : ∀ a0 a1 a2 k, LeO (utils_TransposeUint64Uint32.f k a0 a1 a2) (utils_TransposeUint64Uint32.f (k + 1) a0 a1 a2) := by
  intro a0 a1 a2 k
  unfold utils_TransposeUint64Uint32.f
  repeat' first
      | (with_reducible exact utils_transposeUint64Uint32.mono _ _ _ _)
      | (with_reducible exact LeO.refl _)
      | (with_reducible exact LeO.none _)
      | (with_reducible refine LeO.ite ?_ ?_)
      | (with_reducible refine LeO.bind ?_ (fun _ => ?_))
      | exact utils_transposeUint64Uint32.mono _ _ _ _
      | exact LeO.none _
      | refine LeO.ite ?_ ?_
      | refine LeO.bind ?_ (fun _ => ?_)
set_option maxHeartbeats 8000000 in
set_option maxRecDepth 100000 in
theorem utils_TransposeUint64Uint32.calls (k : Nat) (A0 : Option Addr) (c0 : Nat) (l0 : List Int) (P1_ : Nat → Prop) (u9000_ : Value) (l1 : List Int) (A2 : Option Addr) (c2 : Nat) (l2 : List Int) (r : List Int) (w0 w : World) (hB : Below w0.heap.size w0 w) (hr0 : ∀ W_, Kept w W_ (fun k_ => P1_ k_) → Kd.C (Kd.int .u64) W_ A0 l0.length l0) (hc0 : l0.length ≤ c0) (ho1 : Kd.R (Kd.int .u32) 44 w w0.heap.size P1_ u9000_ l1) (hr2 : ∀ W_, Kept w W_ (fun k_ => P1_ k_) → Kd.C (Kd.int .i32) W_ A2 l2.length l2) (hc2 : l2.length ≤ c2) (h : utils_TransposeUint64Uint32.f k l0 l1 l2 = some r) :
    Calls Try.prog 49 #[.slice A0 l0.length c0, u9000_, .slice A2 l2.length c2] w fun e w' => e = .returned (.tuple #[]) ∧ Kd.R (Kd.int .u32) 44 w' w0.heap.size (fun k_ => (P1_ k_ ∨ w.heap.size ≤ k_)) u9000_ r ∧ Below w0.heap.size w0 w' ∧ Kept w w' (fun k_ => P1_ k_) := by
  have HR0 := Aside0.mk hr0
  have HC0 := Aside0.mk hc0
  clear hr0 hc0
  have HO1 := Aside0.mk (show Kd.R (Kd.int .u32) 44 w w0.heap.size (fun k_ => (P1_ k_ ∨ w.heap.size ≤ k_)) u9000_ l1 from Kd.R_mono ho1 (fun k_ hk => (.inl hk)))
  have HR2 := Aside0.mk hr2
  have HC2 := Aside0.mk hc2
  clear hr2 hc2
  have HK := Aside0.mk (Kept.refl w (fun k_ => P1_ k_))
  have HW0 := Aside0.mk hB.size
  have HB := Aside0.mk hB
  clear hB
  have H : ((utils_transposeUint64Uint32.f k l0 l1 l2).bind fun t104 => (some t104)) = some r := h
  clear h
  replace H := Option.bind_eq_some_iff.mp H
  obtain ⟨t104, A40, H⟩ := H
  replace H : (some t104) = some r := H
  have A4 := Aside0.mk A40
  clear A40
  obtain rfl := Option.some.inj H
  obtain ⟨Ao5, co5, eo5⟩ := Kd.R_slice HO1.out
  subst eo5
  go_enter Try.func49, Try.ntmps49
  go_wp2_with (first | ((with_reducible refine gate_callee (f := 66) rfl ?_); refine goesL_ (some 9) rfl rfl Try.func66 (by kernel_rfl) rfl #[.slice A0 l0.length c0, .slice Ao5 l1.length co5, .slice A2 l2.length c2] rfl (by (try simp only [List.map_toArray, List.map_cons, List.map_nil]); first | done | rfl | (simp only [List.length_drop, List.length_take]; rfl)) ?_; (with_reducible refine (utils_transposeUint64Uint32.calls k _ _ l0 (fun k_ => some k_ = (.slice Ao5 l1.length co5 : Value).ownBlock) (.slice Ao5 l1.length co5) l1 _ _ l2 t104 w0 _ ?side1 ?side2 ?side3 ?side4 ?side5 ?side6 A4.out).mono ?_); (case side1 => repeat (first | (with_reducible first | exact HB.out | apply below_alloc | apply pw_below_drewN | apply below_drew1) | exact HB.out)); (case side2 => exact Kd.C_kept_call HR0.out (by repeat (first | (with_reducible first | exact HK.out | apply Kept.alloc | apply Kept.drewN | apply Kept.drew) | exact HK.out)) (fun k_ hs_ => (fun e_ => (HO1.out.1 k_ e_.symm)) hs_)); (case side3 => exact HC0.out); (case side4 => exact Kd.R_tight rfl HO1.out); (case side5 => exact Kd.C_kept_call HR2.out (by repeat (first | (with_reducible first | exact HK.out | apply Kept.alloc | apply Kept.drewN | apply Kept.drew) | exact HK.out)) (fun k_ hs_ => (fun e_ => (HO1.out.1 k_ e_.symm)) hs_)); (case side6 => exact HC2.out); rintro e w6 ⟨rfl, hy0, hb, hkp⟩; refine ⟨_, rfl, ?_⟩; have n0_ := Aside0.mk (Kd.R_reok rfl hy0 (fun k_ e_ => HO1.out.1 k_ e_)); have n1_ := Aside0.mk (Kept.then_ (S := (fun k_ => P1_ k_)) (by repeat (first | (with_reducible first | exact HK.out | apply Kept.alloc | apply Kept.drewN | apply Kept.drew) | exact HK.out)) hkp (fun k_ hs_ => (fun e_ => (HO1.out.1 k_ e_.symm)) hs_)); have n2_ := Aside0.mk (hb); clear HO1; clear HK; clear HB; have HO1 := n0_; have HK := n1_; have HB := n2_; clear n0_ n1_ n2_; (try clear hb); (try clear hkp); (try clear hy0)))
  first | go_end0 | ((try simp only [Exit.inBlock, Exit.then]); refine bodyPost_ret (results_none rfl _ _ _) rfl ?_)
  exact ⟨by first | rfl | (simp [errW_none, errW_some] <;> rfl) | (simp [*, errW_none, errW_some] <;> rfl), by (with_reducible repeat (first | apply Kd.R_alloc | apply Kd.R_drewN | apply Kd.R_drew)); exact HO1.out, by repeat (first | (with_reducible first | exact HB.out | apply below_alloc | apply pw_below_drewN | apply below_drew1) | exact HB.out), by repeat (first | (with_reducible first | exact HK.out | apply Kept.alloc | apply Kept.drewN | apply Kept.drew) | exact HK.out)⟩

end Go.Proofs.Ytnjniacohbeonaa.Q
