-- written by programs of ours (wip/tools) out of the kit's printer: the functions of one law, less those that are shared or proved by hand
import Derived.Test.YtgomeiepiajpeaaGreatQ0
import Derived.Test.YtgomeiepiajpeaaGreatQS32a
namespace Go.Proofs.YtgomeiepiajpeaaGreat.Q
open Go.RowKit Go.Proofs.YtgomeiepiajpeaaGreatW.PrintWords Go.Proofs.YtgomeiepiajpeaaGreatW.PrintLast Go.Proofs.YtgomeiepiajpeaaGreatW.PrintMore
attribute [local go_sem] max2_int min2_int max_two min_two max_three min_three max_four min_four
set_option linter.unusedVariables false
set_option linter.unusedSimpArgs false

/-! ### spec_magAdd: function 49 -/
mutual
def spec_magAdd.l0 : Nat → List Int → List Int → List Int → Int → Int → Option (List Int)
 | 0, _, _, _, _, _ => none
 | k + 1, x0, x1, x5, x6, x7 => if x7 < (x0.length : Int) then (spec_magAdd.j1 k x0 x1 x5 x6 x7 true) else (if x7 < (x1.length : Int) then (spec_magAdd.j1 k x0 x1 x5 x6 x7 true) else (spec_magAdd.j1 k x0 x1 x5 x6 x7 (decide (x6 > 0))))
def spec_magAdd.j1 : Nat → List Int → List Int → List Int → Int → Int → Bool → Option (List Int)
 | 0, _, _, _, _, _, _ => none
 | k + 1, x0, x1, x5, x6, x7, x21 => if x21 = true then (if x7 < (x0.length : Int) then (if 0 ≤ x7 then (if x7 < (x1.length : Int) then (if x5.length < 35184372088832 then (spec_magAdd.l0 k x0 x1 (x5 ++ [(IntKind.u64.wrap ((IntKind.u64.wrap (x6 + (IntKind.u64.wrap (rd x0 x7)))) + (IntKind.u64.wrap (rd x1 x7)))) % 4294967296]) ((IntKind.u64.wrap ((IntKind.u64.wrap (x6 + (IntKind.u64.wrap (rd x0 x7)))) + (IntKind.u64.wrap (rd x1 x7)))) / 4294967296) (wrap64 (x7 + 1))) else (none)) else (if x5.length < 35184372088832 then (spec_magAdd.l0 k x0 x1 (x5 ++ [(IntKind.u64.wrap (x6 + (IntKind.u64.wrap (rd x0 x7)))) % 4294967296]) ((IntKind.u64.wrap (x6 + (IntKind.u64.wrap (rd x0 x7)))) / 4294967296) (wrap64 (x7 + 1))) else (none))) else (none)) else (if x7 < (x1.length : Int) then (if 0 ≤ x7 then (if x5.length < 35184372088832 then (spec_magAdd.l0 k x0 x1 (x5 ++ [(IntKind.u64.wrap (x6 + (IntKind.u64.wrap (rd x1 x7)))) % 4294967296]) ((IntKind.u64.wrap (x6 + (IntKind.u64.wrap (rd x1 x7)))) / 4294967296) (wrap64 (x7 + 1))) else (none)) else (none)) else (if x5.length < 35184372088832 then (spec_magAdd.l0 k x0 x1 (x5 ++ [(x6) % 4294967296]) (x6 / 4294967296) (wrap64 (x7 + 1))) else (none)))) else (some x5)
end
def spec_magAdd.f (k : Nat) (l0 : List Int) (l1 : List Int) : Option (List Int) := spec_magAdd.l0 k l0 l1 ([] : List Int) 0 0
theorem spec_magAdd.mono_l : ∀ k, (∀ y0 y1 y2 y3 y4, LeO (spec_magAdd.l0 k y0 y1 y2 y3 y4) (spec_magAdd.l0 (k + 1) y0 y1 y2 y3 y4)) ∧ (∀ y0 y1 y2 y3 y4 y5, LeO (spec_magAdd.j1 k y0 y1 y2 y3 y4 y5) (spec_magAdd.j1 (k + 1) y0 y1 y2 y3 y4 y5))
 | 0 => ⟨fun _ _ _ _ _ r h => by simp [spec_magAdd.l0] at h, fun _ _ _ _ _ _ r h => by simp [spec_magAdd.j1] at h⟩
 | k + 1 => by
  obtain ⟨ih0, ih1⟩ := spec_magAdd.mono_l k
  refine ⟨?_, ?_⟩
  ·intro y0 y1 y2 y3 y4
   unfold spec_magAdd.l0
   repeat' first
   | (with_reducible exact ih0 _ _ _ _ _)
   | (with_reducible exact ih1 _ _ _ _ _ _)
   | (with_reducible exact LeO.refl _)
   | (with_reducible exact LeO.none _)
   | (with_reducible refine LeO.ite ?_ ?_)
   | (with_reducible refine LeO.bind ?_ (fun _ => ?_))
   | exact ih0 _ _ _ _ _
   | exact ih1 _ _ _ _ _ _
   | exact LeO.none _
   | refine LeO.ite ?_ ?_
   | refine LeO.bind ?_ (fun _ => ?_)
  ·intro y0 y1 y2 y3 y4 y5
   unfold spec_magAdd.j1
   repeat' first
   | (with_reducible exact ih0 _ _ _ _ _)
   | (with_reducible exact ih1 _ _ _ _ _ _)
   | (with_reducible exact LeO.refl _)
   | (with_reducible exact LeO.none _)
   | (with_reducible refine LeO.ite ?_ ?_)
   | (with_reducible refine LeO.bind ?_ (fun _ => ?_))
   | exact ih0 _ _ _ _ _
   | exact ih1 _ _ _ _ _ _
   | exact LeO.none _
   | refine LeO.ite ?_ ?_
   | refine LeO.bind ?_ (fun _ => ?_)
theorem spec_magAdd.mono : ∀ a0 a1 k, LeO (spec_magAdd.f k a0 a1) (spec_magAdd.f (k + 1) a0 a1) := by
 intro a0 a1 k
 obtain ⟨ih0, ih1⟩ := spec_magAdd.mono_l k
 unfold spec_magAdd.f
 repeat' first
   | (with_reducible exact ih0 _ _ _ _ _)
   | (with_reducible exact ih1 _ _ _ _ _ _)
   | (with_reducible exact LeO.refl _)
   | (with_reducible exact LeO.none _)
   | (with_reducible refine LeO.ite ?_ ?_)
   | (with_reducible refine LeO.bind ?_ (fun _ => ?_))
   | exact ih0 _ _ _ _ _
   | exact ih1 _ _ _ _ _ _
   | exact LeO.none _
   | refine LeO.ite ?_ ?_
   | refine LeO.bind ?_ (fun _ => ?_)
set_option maxHeartbeats 8000000 in
set_option maxRecDepth 100000 in
theorem spec_magAdd.calls (k : Nat) (A0 : Option Addr) (c0 : Nat) (l0 : List Int) (A1 : Option Addr) (c1 : Nat) (l1 : List Int) (r : List Int) (w : World) (hr0 : Kd.C (Kd.int .u32) w A0 l0.length l0) (hc0 : l0.length ≤ c0) (hr1 : Kd.C (Kd.int .u32) w A1 l1.length l1) (hc1 : l1.length ≤ c1) (h : spec_magAdd.f k l0 l1 = some r) :
  Calls Tryz.prog 49 #[.slice A0 l0.length c0, .slice A1 l1.length c1] w fun e w' => ∃ v0_ : Value, e = .returned (v0_) ∧ Kd.R (Kd.int .u32) 22 w' w.heap.size (fun _ => True) v0_ r ∧ Below w.heap.size w w' := by
 have HR0 := Aside0.mk hr0
 have HC0 := Aside0.mk hc0
 clear hr0 hc0
 have HR1 := Aside0.mk hr1
 have HC1 := Aside0.mk hc1
 clear hr1 hc1
 have HB := Aside0.mk (Below.refl w.heap.size w)
 have H : (spec_magAdd.l0 k l0 l1 ([] : List Int) 0 0) = some r := h
 clear h
 have H' := Aside0.mk H
 clear H
 go_enter Tryz.func49, Tryz.ntmps49
 go_wp2
 go_loopg [5, 6, 7] k (fun kq v5 v6 v7 w' => ∃ (x5_1 : List Int) (x6_1 : Int) (x7_1 : Int), v6 = .int .u64 x6_1 ∧ v7 = .int .i64 x7_1 ∧ Aside0 (spec_magAdd.l0 kq l0 l1 x5_1 x6_1 x7_1 = some r) ∧ Aside0 (kq ≤ k) ∧ Aside0 (Kd.R (Kd.int .u32) 22 w' w.heap.size (fun _ => True) v5 x5_1) ∧ Aside0 (Below w.heap.size w w'))
 case atStart => exact ⟨(([] : List Int)), (0), (0), (by first | rfl | (simp; done) | (simp [*]; done)), (by first | rfl | (simp; done) | (simp [*]; done)), H', ⟨Nat.le_refl _⟩, ⟨by first | exact Kd.R_nil _ _ _ _ _ | exact Kd.N_nil _ _ _ _ _ | exact Kd.V_nil _ _ _ _ _ | exact Kd.Q_nil _ _ _ _ _ | exact Kd.S_nil _ _ _ _ _⟩, ⟨by repeat (first | (with_reducible first | exact HB.out | apply below_alloc | apply pw_below_drewN | apply below_drew1) | exact HB.out)⟩⟩
 case round =>
  clear H'
  try clear c1
  try clear p2
  obtain ⟨x5_1, x6_1, x7_1, rfl, rfl, HA, HK1, HO_5, HB⟩ := hrel
  cases gk with
  | zero => exact absurd HA.out (by simp [spec_magAdd.l0])
  | succ k1 =>
   have H := HA.out
   clear HA
   simp only [spec_magAdd.l0] at H
   have HC3 := Aside0.mk H
   clear H
   go_upto_region 4 with (fail)
   go_cut [21] (fun v21 wc => ∃ (kq : Nat) (x21_2 : Bool), v21 = .bool x21_2 ∧ Aside0 (spec_magAdd.j1 kq l0 l1 x5_1 x6_1 x7_1 x21_2 = some r) ∧ Aside0 (kq ≤ k1) ∧ Aside0 (Kd.R (Kd.int .u32) 22 wc w.heap.size (fun _ => True) u5 x5_1) ∧ Aside0 (Below w.heap.size w wc))
   case first =>
    have H := HC3.out
    clear HC3
    by_cases c4 : x7_1 < (l0.length : Int)
    ·rw [if_pos c4] at H
     have c4b0 : decide (x7_1 < (l0.length : Int)) = true := decide_eq_true c4
     clear c4
     (first | rw [c4b0] | (simp only [i64_w, i32_w]; rw [c4b0]) | skip)
     have H' := Aside0.mk H
     clear H
     go_wp2
     go_meet
     case rel => exact ⟨_, (true), (by first | rfl | (simp; done) | (simp [*]; done)), H', ⟨by have := HK1.out; first | omega | exact Nat.le_refl _⟩, ⟨by (with_reducible repeat (first | apply Kd.R_alloc | apply Kd.R_drewN | apply Kd.R_drew)); exact HO_5.out⟩, ⟨by repeat (first | (with_reducible first | exact HB.out | apply below_alloc | apply pw_below_drewN | apply below_drew1) | exact HB.out)⟩⟩
    ·rw [if_neg c4] at H
     have c4b0 : decide (x7_1 < (l0.length : Int)) = false := decide_eq_false c4
     clear c4
     (first | rw [c4b0] | (simp only [i64_w, i32_w]; rw [c4b0]) | skip)
     by_cases c5 : x7_1 < (l1.length : Int)
     ·rw [if_pos c5] at H
      have c5b0 : decide (x7_1 < (l1.length : Int)) = true := decide_eq_true c5
      clear c5
      have H' := Aside0.mk H
      clear H
      go_wp2
      go_meet
      case rel => exact ⟨_, (true), (by first | rfl | (simp; done) | (simp [*]; done)), H', ⟨by have := HK1.out; first | omega | exact Nat.le_refl _⟩, ⟨by (with_reducible repeat (first | apply Kd.R_alloc | apply Kd.R_drewN | apply Kd.R_drew)); exact HO_5.out⟩, ⟨by repeat (first | (with_reducible first | exact HB.out | apply below_alloc | apply pw_below_drewN | apply below_drew1) | exact HB.out)⟩⟩
     ·rw [if_neg c5] at H
      have c5b0 : decide (x7_1 < (l1.length : Int)) = false := decide_eq_false c5
      clear c5
      have H' := Aside0.mk H
      clear H
      go_wp2
      go_meet
      case rel => exact ⟨_, (decide (x6_1 > 0)), (by first | rfl | (simp; done) | (simp [*]; done)), H', ⟨by have := HK1.out; first | omega | exact Nat.le_refl _⟩, ⟨by (with_reducible repeat (first | apply Kd.R_alloc | apply Kd.R_drewN | apply Kd.R_drew)); exact HO_5.out⟩, ⟨by repeat (first | (with_reducible first | exact HB.out | apply below_alloc | apply pw_below_drewN | apply below_drew1) | exact HB.out)⟩⟩
   case rest =>
    clear HC3
    try clear c1
    try clear p2
    try clear c4
    try clear c4b0
    try clear c5
    try clear c5b0
    try clear p2
    obtain ⟨kq, x21_2, rfl, HA, HJ2, HO_5, HB⟩ := hcut
    cases kq with
    | zero => exact absurd HA.out (by simp [spec_magAdd.j1])
    | succ kj2 =>
     have H := HA.out
     clear HA
     simp only [spec_magAdd.j1] at H
     by_cases c6 : x21_2 = true
     ·subst c6
      have H1 : (if x7_1 < (l0.length : Int) then (if 0 ≤ x7_1 then (if x7_1 < (l1.length : Int) then (if x5_1.length < 35184372088832 then (spec_magAdd.l0 kj2 l0 l1 (x5_1 ++ [(IntKind.u64.wrap ((IntKind.u64.wrap (x6_1 + (IntKind.u64.wrap (rd l0 x7_1)))) + (IntKind.u64.wrap (rd l1 x7_1)))) % 4294967296]) ((IntKind.u64.wrap ((IntKind.u64.wrap (x6_1 + (IntKind.u64.wrap (rd l0 x7_1)))) + (IntKind.u64.wrap (rd l1 x7_1)))) / 4294967296) (wrap64 (x7_1 + 1))) else (none)) else (if x5_1.length < 35184372088832 then (spec_magAdd.l0 kj2 l0 l1 (x5_1 ++ [(IntKind.u64.wrap (x6_1 + (IntKind.u64.wrap (rd l0 x7_1)))) % 4294967296]) ((IntKind.u64.wrap (x6_1 + (IntKind.u64.wrap (rd l0 x7_1)))) / 4294967296) (wrap64 (x7_1 + 1))) else (none))) else (none)) else (if x7_1 < (l1.length : Int) then (if 0 ≤ x7_1 then (if x5_1.length < 35184372088832 then (spec_magAdd.l0 kj2 l0 l1 (x5_1 ++ [(IntKind.u64.wrap (x6_1 + (IntKind.u64.wrap (rd l1 x7_1)))) % 4294967296]) ((IntKind.u64.wrap (x6_1 + (IntKind.u64.wrap (rd l1 x7_1)))) / 4294967296) (wrap64 (x7_1 + 1))) else (none)) else (none)) else (if x5_1.length < 35184372088832 then (spec_magAdd.l0 kj2 l0 l1 (x5_1 ++ [(x6_1) % 4294967296]) (x6_1 / 4294967296) (wrap64 (x7_1 + 1))) else (none)))) = some r := by rw [if_pos rfl] at H; exact H
      clear H
      have H := H1
      clear H1
      by_cases c7 : x7_1 < (l0.length : Int)
      ·rw [if_pos c7] at H
       have c7b0 : decide (x7_1 < (l0.length : Int)) = true := decide_eq_true c7
       clear c7
       by_cases c8 : 0 ≤ x7_1
       ·rw [if_pos c8] at H
        have c8b0 : decide (0 ≤ x7_1) = true := decide_eq_true c8
        clear c8
        by_cases c9 : x7_1 < (l1.length : Int)
        ·rw [if_pos c9] at H
         have c9b0 : decide (x7_1 < (l1.length : Int)) = true := decide_eq_true c9
         clear c9
         by_cases c10 : x5_1.length < 35184372088832
         ·rw [if_pos c10] at H
          have LMc10 := Aside0.mk c10
          clear c10
          obtain ⟨y178, hy178⟩ : ∃ y_ : List Int, y_ = (x5_1 ++ [(IntKind.u64.wrap ((IntKind.u64.wrap (x6_1 + (IntKind.u64.wrap (rd l0 x7_1)))) + (IntKind.u64.wrap (rd l1 x7_1)))) % 4294967296]) := ⟨_, rfl⟩
          replace H : (spec_magAdd.l0 kj2 l0 l1 y178 ((IntKind.u64.wrap ((IntKind.u64.wrap (x6_1 + (IntKind.u64.wrap (rd l0 x7_1)))) + (IntKind.u64.wrap (rd l1 x7_1)))) / 4294967296) (wrap64 (x7_1 + 1))) = some r := by first | (rw [hy178]; with_reducible exact H) | (have H2_ := (Option.bind_some _ _).symm.trans H; rw [hy178]; with_reducible exact H2_) | (have H2_ := (Option.bind_some _ _).symm.trans H; with_reducible exact H2_) | with_reducible exact H | (rw [hy178]; exact H) | exact H
          have Ny178 := Aside0.mk hy178
          clear hy178
          have H' := Aside0.mk H
          clear H
          have p176 : 0 ≤ (x7_1 : Int) := of_decide_eq_true (by first | (with_reducible assumption) | assumption)
          have q176 : x7_1 < (l0.length : Int) := of_decide_eq_true (by first | (with_reducible assumption) | assumption)
          obtain ⟨ad176, e176, hx176_0⟩ := Kd.at_int HR0.out x7_1 p176 q176
          cases e176
          replace hx176_0 := (HB.out.cell (World.block_lt_of_cell? w _ hx176_0)).trans hx176_0
          replace p176 := eq_true p176
          replace q176 := eq_true q176
          have p177 : 0 ≤ (x7_1 : Int) := of_decide_eq_true (by first | (with_reducible assumption) | assumption)
          have q177 : x7_1 < (l1.length : Int) := of_decide_eq_true (by first | (with_reducible assumption) | assumption)
          obtain ⟨ad177, e177, hx177_0⟩ := Kd.at_int HR1.out x7_1 p177 q177
          cases e177
          replace hx177_0 := (HB.out.cell (World.block_lt_of_cell? w _ hx177_0)).trans hx177_0
          replace p177 := eq_true p177
          replace q177 := eq_true q177
          go_wp2_with (first | ((with_reducible refine gate_builtin (b := .append) (xs := #[.tmp 46, .tmp 49]) rfl ?_); (try (refine gate_guard (by rfl) ?_; dsimp only)); at_builtin; refine Kd.R_append (Kd.int .u32) (w0 := w) w.heap.size rfl (.tmp 46) (.tmp 49) 25 22 (.int .u32 0) 4 rfl Tryz.underlying25 info22 rfl (by decide) (by omega) u5 x5_1 ((IntKind.u64.wrap ((IntKind.u64.wrap (x6_1 + (IntKind.u64.wrap (rd l0 x7_1)))) + (IntKind.u64.wrap (rd l1 x7_1)))) % 4294967296) [.int .u32 ((IntKind.u64.wrap ((IntKind.u64.wrap (x6_1 + (IntKind.u64.wrap (rd l0 x7_1)))) + (IntKind.u64.wrap (rd l1 x7_1)))) % 4294967296)] (fun _ => True) (fun _ => False) rfl rfl ?aP (fun _ hk => hk.elim) ?aF ?aO ?aB ?aS ?aL ?_; (case aP => exact rfl); (case aB => exact (by repeat (first | (with_reducible first | exact HB.out | apply below_alloc | apply pw_below_drewN | apply below_drew1) | exact HB.out))); (case aF => exact (fun _ _ => trivial)); (case aO => exact (by (with_reducible repeat (first | apply Kd.R_alloc | apply Kd.R_drewN | apply Kd.R_drew)); exact HO_5.out)); (case aS => exact (below_size (by repeat (first | (with_reducible first | exact HB.out | apply below_alloc | apply pw_below_drewN | apply below_drew1) | exact HB.out)))); (case aL => have := LMc10.out; omega); intro v179 w11 ho hb hg hat; rw [← Ny178.out] at ho; have n0_ := Aside0.mk (hb); have n1_ := Aside0.mk (ho); clear HB; clear HO_5; have HB := n0_; have HO180 := n1_; clear n0_ n1_; clear ho hb hg hat))
          go_roundg kj2
          case measure => have := HK1.out; have := HJ2.out; omega
          case rel => exact ⟨(y178), ((IntKind.u64.wrap ((IntKind.u64.wrap (x6_1 + (IntKind.u64.wrap (rd l0 x7_1)))) + (IntKind.u64.wrap (rd l1 x7_1)))) / 4294967296), (wrap64 (x7_1 + 1)), (by first | rfl | (simp; done) | (simp [*]; done)), (by first | rfl | (simp; done) | (simp [*]; done)), H', ⟨by have := HK1.out; have := HJ2.out; omega⟩, ⟨by (with_reducible repeat (first | apply Kd.R_alloc | apply Kd.R_drewN | apply Kd.R_drew)); exact HO180.out⟩, ⟨by repeat (first | (with_reducible first | exact HB.out | apply below_alloc | apply pw_below_drewN | apply below_drew1) | exact HB.out)⟩⟩
         ·rw [if_neg c10] at H
          exact absurd H (by simp)
        ·rw [if_neg c9] at H
         have c9b0 : decide (x7_1 < (l1.length : Int)) = false := decide_eq_false c9
         clear c9
         by_cases c12 : x5_1.length < 35184372088832
         ·rw [if_pos c12] at H
          have LMc12 := Aside0.mk c12
          clear c12
          obtain ⟨y181, hy181⟩ : ∃ y_ : List Int, y_ = (x5_1 ++ [(IntKind.u64.wrap (x6_1 + (IntKind.u64.wrap (rd l0 x7_1)))) % 4294967296]) := ⟨_, rfl⟩
          replace H : (spec_magAdd.l0 kj2 l0 l1 y181 ((IntKind.u64.wrap (x6_1 + (IntKind.u64.wrap (rd l0 x7_1)))) / 4294967296) (wrap64 (x7_1 + 1))) = some r := by first | (rw [hy181]; with_reducible exact H) | (have H2_ := (Option.bind_some _ _).symm.trans H; rw [hy181]; with_reducible exact H2_) | (have H2_ := (Option.bind_some _ _).symm.trans H; with_reducible exact H2_) | with_reducible exact H | (rw [hy181]; exact H) | exact H
          have Ny181 := Aside0.mk hy181
          clear hy181
          have H' := Aside0.mk H
          clear H
          have p176 : 0 ≤ (x7_1 : Int) := of_decide_eq_true (by first | (with_reducible assumption) | assumption)
          have q176 : x7_1 < (l0.length : Int) := of_decide_eq_true (by first | (with_reducible assumption) | assumption)
          obtain ⟨ad176, e176, hx176_0⟩ := Kd.at_int HR0.out x7_1 p176 q176
          cases e176
          replace hx176_0 := (HB.out.cell (World.block_lt_of_cell? w _ hx176_0)).trans hx176_0
          replace p176 := eq_true p176
          replace q176 := eq_true q176
          go_wp2_with (first | ((with_reducible refine gate_builtin (b := .append) (xs := #[.tmp 46, .tmp 49]) rfl ?_); (try (refine gate_guard (by rfl) ?_; dsimp only)); at_builtin; refine Kd.R_append (Kd.int .u32) (w0 := w) w.heap.size rfl (.tmp 46) (.tmp 49) 25 22 (.int .u32 0) 4 rfl Tryz.underlying25 info22 rfl (by decide) (by omega) u5 x5_1 ((IntKind.u64.wrap (x6_1 + (IntKind.u64.wrap (rd l0 x7_1)))) % 4294967296) [.int .u32 ((IntKind.u64.wrap (x6_1 + (IntKind.u64.wrap (rd l0 x7_1)))) % 4294967296)] (fun _ => True) (fun _ => False) rfl rfl ?aP (fun _ hk => hk.elim) ?aF ?aO ?aB ?aS ?aL ?_; (case aP => exact rfl); (case aB => exact (by repeat (first | (with_reducible first | exact HB.out | apply below_alloc | apply pw_below_drewN | apply below_drew1) | exact HB.out))); (case aF => exact (fun _ _ => trivial)); (case aO => exact (by (with_reducible repeat (first | apply Kd.R_alloc | apply Kd.R_drewN | apply Kd.R_drew)); exact HO_5.out)); (case aS => exact (below_size (by repeat (first | (with_reducible first | exact HB.out | apply below_alloc | apply pw_below_drewN | apply below_drew1) | exact HB.out)))); (case aL => have := LMc12.out; omega); intro v182 w13 ho hb hg hat; rw [← Ny181.out] at ho; have n0_ := Aside0.mk (hb); have n1_ := Aside0.mk (ho); clear HB; clear HO_5; have HB := n0_; have HO183 := n1_; clear n0_ n1_; clear ho hb hg hat))
          go_roundg kj2
          case measure => have := HK1.out; have := HJ2.out; omega
          case rel => exact ⟨(y181), ((IntKind.u64.wrap (x6_1 + (IntKind.u64.wrap (rd l0 x7_1)))) / 4294967296), (wrap64 (x7_1 + 1)), (by first | rfl | (simp; done) | (simp [*]; done)), (by first | rfl | (simp; done) | (simp [*]; done)), H', ⟨by have := HK1.out; have := HJ2.out; omega⟩, ⟨by (with_reducible repeat (first | apply Kd.R_alloc | apply Kd.R_drewN | apply Kd.R_drew)); exact HO183.out⟩, ⟨by repeat (first | (with_reducible first | exact HB.out | apply below_alloc | apply pw_below_drewN | apply below_drew1) | exact HB.out)⟩⟩
         ·rw [if_neg c12] at H
          exact absurd H (by simp)
       ·rw [if_neg c8] at H
        exact absurd H (by simp)
      ·rw [if_neg c7] at H
       have c7b0 : decide (x7_1 < (l0.length : Int)) = false := decide_eq_false c7
       clear c7
       by_cases c14 : x7_1 < (l1.length : Int)
       ·rw [if_pos c14] at H
        have c14b0 : decide (x7_1 < (l1.length : Int)) = true := decide_eq_true c14
        clear c14
        by_cases c15 : 0 ≤ x7_1
        ·rw [if_pos c15] at H
         have c15b0 : decide (0 ≤ x7_1) = true := decide_eq_true c15
         clear c15
         by_cases c16 : x5_1.length < 35184372088832
         ·rw [if_pos c16] at H
          have LMc16 := Aside0.mk c16
          clear c16
          obtain ⟨y185, hy185⟩ : ∃ y_ : List Int, y_ = (x5_1 ++ [(IntKind.u64.wrap (x6_1 + (IntKind.u64.wrap (rd l1 x7_1)))) % 4294967296]) := ⟨_, rfl⟩
          replace H : (spec_magAdd.l0 kj2 l0 l1 y185 ((IntKind.u64.wrap (x6_1 + (IntKind.u64.wrap (rd l1 x7_1)))) / 4294967296) (wrap64 (x7_1 + 1))) = some r := by first | (rw [hy185]; with_reducible exact H) | (have H2_ := (Option.bind_some _ _).symm.trans H; rw [hy185]; with_reducible exact H2_) | (have H2_ := (Option.bind_some _ _).symm.trans H; with_reducible exact H2_) | with_reducible exact H | (rw [hy185]; exact H) | exact H
          have Ny185 := Aside0.mk hy185
          clear hy185
          have H' := Aside0.mk H
          clear H
          have p184 : 0 ≤ (x7_1 : Int) := of_decide_eq_true (by first | (with_reducible assumption) | assumption)
          have q184 : x7_1 < (l1.length : Int) := of_decide_eq_true (by first | (with_reducible assumption) | assumption)
          obtain ⟨ad184, e184, hx184_0⟩ := Kd.at_int HR1.out x7_1 p184 q184
          cases e184
          replace hx184_0 := (HB.out.cell (World.block_lt_of_cell? w _ hx184_0)).trans hx184_0
          replace p184 := eq_true p184
          replace q184 := eq_true q184
          go_wp2_with (first | ((with_reducible refine gate_builtin (b := .append) (xs := #[.tmp 46, .tmp 49]) rfl ?_); (try (refine gate_guard (by rfl) ?_; dsimp only)); at_builtin; refine Kd.R_append (Kd.int .u32) (w0 := w) w.heap.size rfl (.tmp 46) (.tmp 49) 25 22 (.int .u32 0) 4 rfl Tryz.underlying25 info22 rfl (by decide) (by omega) u5 x5_1 ((IntKind.u64.wrap (x6_1 + (IntKind.u64.wrap (rd l1 x7_1)))) % 4294967296) [.int .u32 ((IntKind.u64.wrap (x6_1 + (IntKind.u64.wrap (rd l1 x7_1)))) % 4294967296)] (fun _ => True) (fun _ => False) rfl rfl ?aP (fun _ hk => hk.elim) ?aF ?aO ?aB ?aS ?aL ?_; (case aP => exact rfl); (case aB => exact (by repeat (first | (with_reducible first | exact HB.out | apply below_alloc | apply pw_below_drewN | apply below_drew1) | exact HB.out))); (case aF => exact (fun _ _ => trivial)); (case aO => exact (by (with_reducible repeat (first | apply Kd.R_alloc | apply Kd.R_drewN | apply Kd.R_drew)); exact HO_5.out)); (case aS => exact (below_size (by repeat (first | (with_reducible first | exact HB.out | apply below_alloc | apply pw_below_drewN | apply below_drew1) | exact HB.out)))); (case aL => have := LMc16.out; omega); intro v186 w17 ho hb hg hat; rw [← Ny185.out] at ho; have n0_ := Aside0.mk (hb); have n1_ := Aside0.mk (ho); clear HB; clear HO_5; have HB := n0_; have HO187 := n1_; clear n0_ n1_; clear ho hb hg hat))
          go_roundg kj2
          case measure => have := HK1.out; have := HJ2.out; omega
          case rel => exact ⟨(y185), ((IntKind.u64.wrap (x6_1 + (IntKind.u64.wrap (rd l1 x7_1)))) / 4294967296), (wrap64 (x7_1 + 1)), (by first | rfl | (simp; done) | (simp [*]; done)), (by first | rfl | (simp; done) | (simp [*]; done)), H', ⟨by have := HK1.out; have := HJ2.out; omega⟩, ⟨by (with_reducible repeat (first | apply Kd.R_alloc | apply Kd.R_drewN | apply Kd.R_drew)); exact HO187.out⟩, ⟨by repeat (first | (with_reducible first | exact HB.out | apply below_alloc | apply pw_below_drewN | apply below_drew1) | exact HB.out)⟩⟩
         ·rw [if_neg c16] at H
          exact absurd H (by simp)
        ·rw [if_neg c15] at H
         exact absurd H (by simp)
       ·rw [if_neg c14] at H
        have c14b0 : decide (x7_1 < (l1.length : Int)) = false := decide_eq_false c14
        clear c14
        by_cases c18 : x5_1.length < 35184372088832
        ·rw [if_pos c18] at H
         have LMc18 := Aside0.mk c18
         clear c18
         obtain ⟨y188, hy188⟩ : ∃ y_ : List Int, y_ = (x5_1 ++ [(x6_1) % 4294967296]) := ⟨_, rfl⟩
         replace H : (spec_magAdd.l0 kj2 l0 l1 y188 (x6_1 / 4294967296) (wrap64 (x7_1 + 1))) = some r := by first | (rw [hy188]; with_reducible exact H) | (have H2_ := (Option.bind_some _ _).symm.trans H; rw [hy188]; with_reducible exact H2_) | (have H2_ := (Option.bind_some _ _).symm.trans H; with_reducible exact H2_) | with_reducible exact H | (rw [hy188]; exact H) | exact H
         have Ny188 := Aside0.mk hy188
         clear hy188
         have H' := Aside0.mk H
         clear H
         go_wp2_with (first | ((with_reducible refine gate_builtin (b := .append) (xs := #[.tmp 46, .tmp 49]) rfl ?_); (try (refine gate_guard (by rfl) ?_; dsimp only)); at_builtin; refine Kd.R_append (Kd.int .u32) (w0 := w) w.heap.size rfl (.tmp 46) (.tmp 49) 25 22 (.int .u32 0) 4 rfl Tryz.underlying25 info22 rfl (by decide) (by omega) u5 x5_1 ((x6_1) % 4294967296) [.int .u32 ((x6_1) % 4294967296)] (fun _ => True) (fun _ => False) rfl rfl ?aP (fun _ hk => hk.elim) ?aF ?aO ?aB ?aS ?aL ?_; (case aP => exact rfl); (case aB => exact (by repeat (first | (with_reducible first | exact HB.out | apply below_alloc | apply pw_below_drewN | apply below_drew1) | exact HB.out))); (case aF => exact (fun _ _ => trivial)); (case aO => exact (by (with_reducible repeat (first | apply Kd.R_alloc | apply Kd.R_drewN | apply Kd.R_drew)); exact HO_5.out)); (case aS => exact (below_size (by repeat (first | (with_reducible first | exact HB.out | apply below_alloc | apply pw_below_drewN | apply below_drew1) | exact HB.out)))); (case aL => have := LMc18.out; omega); intro v189 w19 ho hb hg hat; rw [← Ny188.out] at ho; have n0_ := Aside0.mk (hb); have n1_ := Aside0.mk (ho); clear HB; clear HO_5; have HB := n0_; have HO190 := n1_; clear n0_ n1_; clear ho hb hg hat))
         go_roundg kj2
         case measure => have := HK1.out; have := HJ2.out; omega
         case rel => exact ⟨(y188), (x6_1 / 4294967296), (wrap64 (x7_1 + 1)), (by first | rfl | (simp; done) | (simp [*]; done)), (by first | rfl | (simp; done) | (simp [*]; done)), H', ⟨by have := HK1.out; have := HJ2.out; omega⟩, ⟨by (with_reducible repeat (first | apply Kd.R_alloc | apply Kd.R_drewN | apply Kd.R_drew)); exact HO190.out⟩, ⟨by repeat (first | (with_reducible first | exact HB.out | apply below_alloc | apply pw_below_drewN | apply below_drew1) | exact HB.out)⟩⟩
        ·rw [if_neg c18] at H
         exact absurd H (by simp)
     ·replace c6 := Bool.eq_false_iff.mpr c6
      subst c6
      have H1 : (some x5_1) = some r := by rw [if_neg (show ¬ (false = true) by decide)] at H; exact H
      clear H
      have H := H1
      clear H1
      obtain rfl := Option.some.inj H
      go_wp2
      go_ret
      exact ⟨_, by first | rfl | (simp [errW_none, errW_some] <;> rfl) | (simp [*, errW_none, errW_some] <;> rfl), by (with_reducible repeat (first | apply Kd.R_alloc | apply Kd.R_drewN | apply Kd.R_drew)); exact HO_5.out, by repeat (first | (with_reducible first | exact HB.out | apply below_alloc | apply pw_below_drewN | apply below_drew1) | exact HB.out)⟩

/-! ### spec_magSub: function 50 -/
def spec_magSub.l0 : Nat → List Int → List Int → Int → Int → Int → Option (List Int)
 | 0, _, _, _, _, _ => none
 | k + 1, x1, x5, x6, x13, x14 => if x14 < x13 then (if 0 ≤ x14 then (if x14 < (x5.length : Int) then (if x14 < (x1.length : Int) then (if (wrap64 ((wrap64 ((wrap64 (rd x5 x14)) - x6)) - (wrap64 (rd x1 x14)))) < 0 then (spec_magSub.l0 k x1 (x5.set (x14 : Int).toNat ((wrap64 ((wrap64 ((wrap64 ((wrap64 (rd x5 x14)) - x6)) - (wrap64 (rd x1 x14)))) + 4294967296)) % 4294967296)) 1 x13 (wrap64 (x14 + 1))) else (spec_magSub.l0 k x1 (x5.set (x14 : Int).toNat ((wrap64 ((wrap64 ((wrap64 (rd x5 x14)) - x6)) - (wrap64 (rd x1 x14)))) % 4294967296)) 0 x13 (wrap64 (x14 + 1)))) else (if (wrap64 ((wrap64 (rd x5 x14)) - x6)) < 0 then (spec_magSub.l0 k x1 (x5.set (x14 : Int).toNat ((wrap64 ((wrap64 ((wrap64 (rd x5 x14)) - x6)) + 4294967296)) % 4294967296)) 1 x13 (wrap64 (x14 + 1))) else (spec_magSub.l0 k x1 (x5.set (x14 : Int).toNat ((wrap64 ((wrap64 (rd x5 x14)) - x6)) % 4294967296)) 0 x13 (wrap64 (x14 + 1))))) else (none)) else (none)) else ((spec_trim.f k x5).bind fun t197 => (some t197))
def spec_magSub.f (k : Nat) (l0 : List Int) (l1 : List Int) : Option (List Int) := (some (([] : List Int) : List Int)).bind fun y191 => (if y191.length + l0.length < 35184372088832 then ((some (y191 ++ l0 : List Int)).bind fun y194 => (spec_magSub.l0 k l1 y194 0 (y194.length : Int) 0)) else (none))
theorem spec_magSub.mono_l : ∀ k, (∀ y0 y1 y2 y3 y4, LeO (spec_magSub.l0 k y0 y1 y2 y3 y4) (spec_magSub.l0 (k + 1) y0 y1 y2 y3 y4))
 | 0 => fun _ _ _ _ _ r h => by simp [spec_magSub.l0] at h
 | k + 1 => by
  have ih0 := spec_magSub.mono_l k
  ·intro y0 y1 y2 y3 y4
   unfold spec_magSub.l0
   repeat' first
   | (with_reducible exact ih0 _ _ _ _ _)
   | (with_reducible exact spec_trim.mono _ _)
   | (with_reducible exact LeO.refl _)
   | (with_reducible exact LeO.none _)
   | (with_reducible refine LeO.ite ?_ ?_)
   | (with_reducible refine LeO.bind ?_ (fun _ => ?_))
   | exact ih0 _ _ _ _ _
   | exact spec_trim.mono _ _
   | exact LeO.none _
   | refine LeO.ite ?_ ?_
   | refine LeO.bind ?_ (fun _ => ?_)
theorem spec_magSub.mono : ∀ a0 a1 k, LeO (spec_magSub.f k a0 a1) (spec_magSub.f (k + 1) a0 a1) := by
 intro a0 a1 k
 have ih0 := spec_magSub.mono_l k
 unfold spec_magSub.f
 repeat' first
   | (with_reducible exact ih0 _ _ _ _ _)
   | (with_reducible exact spec_trim.mono _ _)
   | (with_reducible exact LeO.refl _)
   | (with_reducible exact LeO.none _)
   | (with_reducible refine LeO.ite ?_ ?_)
   | (with_reducible refine LeO.bind ?_ (fun _ => ?_))
   | exact ih0 _ _ _ _ _
   | exact spec_trim.mono _ _
   | exact LeO.none _
   | refine LeO.ite ?_ ?_
   | refine LeO.bind ?_ (fun _ => ?_)
set_option maxHeartbeats 8000000 in
set_option maxRecDepth 100000 in
theorem spec_magSub.calls (k : Nat) (A0 : Option Addr) (c0 : Nat) (l0 : List Int) (A1 : Option Addr) (c1 : Nat) (l1 : List Int) (r : List Int) (w : World) (hr0 : Kd.C (Kd.int .u32) w A0 l0.length l0) (hc0 : l0.length ≤ c0) (hr1 : Kd.C (Kd.int .u32) w A1 l1.length l1) (hc1 : l1.length ≤ c1) (h : spec_magSub.f k l0 l1 = some r) :
  Calls Tryz.prog 50 #[.slice A0 l0.length c0, .slice A1 l1.length c1] w fun e w' => ∃ v0_ : Value, e = .returned (v0_) ∧ Kd.V (Kd.int .u32) 22 w' w.heap.size (fun k_ => (w.heap.size ≤ k_)) v0_ r ∧ Below w.heap.size w w' := by
 have HR0 := Aside0.mk hr0
 have HC0 := Aside0.mk hc0
 clear hr0 hc0
 have HR1 := Aside0.mk hr1
 have HC1 := Aside0.mk hc1
 clear hr1 hc1
 have HB := Aside0.mk (Below.refl w.heap.size w)
 have H : ((some (([] : List Int) : List Int)).bind fun y191 => (if y191.length + l0.length < 35184372088832 then ((some (y191 ++ l0 : List Int)).bind fun y194 => (spec_magSub.l0 k l1 y194 0 (y194.length : Int) 0)) else (none))) = some r := h
 clear h
 obtain ⟨y191, hy191⟩ : ∃ y_ : List Int, y_ = (([] : List Int)) := ⟨_, rfl⟩
 replace H : (if y191.length + l0.length < 35184372088832 then ((some (y191 ++ l0 : List Int)).bind fun y194 => (spec_magSub.l0 k l1 y194 0 (y194.length : Int) 0)) else (none)) = some r := by first | (rw [hy191]; with_reducible exact H) | (have H2_ := (Option.bind_some _ _).symm.trans H; rw [hy191]; with_reducible exact H2_) | (have H2_ := (Option.bind_some _ _).symm.trans H; with_reducible exact H2_) | with_reducible exact H | (rw [hy191]; exact H) | exact H
 have Ny191 := Aside0.mk hy191
 clear hy191
 by_cases c3 : y191.length + l0.length < 35184372088832
 ·rw [if_pos c3] at H
  have LMc3 := Aside0.mk c3
  clear c3
  obtain ⟨y194, hy194⟩ : ∃ y_ : List Int, y_ = (y191 ++ l0) := ⟨_, rfl⟩
  replace H : (spec_magSub.l0 k l1 y194 0 (y194.length : Int) 0) = some r := by first | (rw [hy194]; with_reducible exact H) | (have H2_ := (Option.bind_some _ _).symm.trans H; rw [hy194]; with_reducible exact H2_) | (have H2_ := (Option.bind_some _ _).symm.trans H; with_reducible exact H2_) | with_reducible exact H | (rw [hy194]; exact H) | exact H
  have Ny194 := Aside0.mk hy194
  clear hy194
  have H' := Aside0.mk H
  clear H
  go_enter Tryz.func50, Tryz.ntmps50
  go_wp2_with (first | ((with_reducible refine gate_dst (N := 9) rfl ?_); refine Kd.R_lit (Kd.int .u32) _ 22 ?hg (N := 9) ?hd (xs := ([] : List Int)) (inner := []) (ok := fun _ => True) (okp := fun _ => True) ?hr ?hp (fun _ hk => hk) trivial (Below.refl _ _) (Nat.le_refl _) (by simp) ?_; (case hd => rfl); (case hg => rfl); (case hr => first | (go_simp; done) | (go_simp; rfl)); (case hp => exact (Reps.none _ _)); intro v192 w4 ho5 hb hg_ hnew_; clear hg_ hnew_; (first | rw [← Ny191.out] at ho5 | (simp only [Int.reduceToNat] at ho5; rw [← Ny191.out] at ho5)); have n0_ := Aside0.mk (Kd.R_lower (Kd.R_newM (M := fun k_ => (w.heap.size ≤ k_)) ho5 (below_size (by repeat (first | (with_reducible first | exact HB.out | apply below_alloc | apply pw_below_drewN | apply below_drew1) | exact HB.out))) (fun k_ h_ => h_)) (below_size (by repeat (first | (with_reducible first | exact HB.out | apply below_alloc | apply pw_below_drewN | apply below_drew1) | exact HB.out)))); have n1_ := Aside0.mk (below_step (by repeat (first | (with_reducible first | exact HB.out | apply below_alloc | apply pw_below_drewN | apply below_drew1) | exact HB.out)) hb); clear HB; have HO193 := n0_; have HB := n1_; clear n0_ n1_; clear hb ho5) | ((with_reducible refine gate_builtin (b := .append) (xs := #[.tmp 9, .tmp 10]) rfl ?_); at_builtin; refine Kd.R_append_rows (Kd.int .u32) (w0 := w) w.heap.size rfl (.tmp 9) (.tmp 10) 25 22 (.int .u32 0) 4 rfl Tryz.underlying25 info22 rfl (by decide) (by omega) v192 y191 l0 _ _ _ (fun k_ => (w.heap.size ≤ k_)) (fun _ => False) rfl rfl ?aO ?aR (fun _ _ h => h) (fun _ h => h.elim) ?aF ?aB ?aS ?aL ?_; (case aR => repeat (first | exact (Kd.C_below HR0.out HB.out) | (with_reducible refine Kd.C_alloc ?_ _) | (with_reducible refine Kd.C_drewN ?_ _) | (with_reducible refine Kd.C_drew ?_))); (case aB => exact (by repeat (first | (with_reducible first | exact HB.out | apply below_alloc | apply pw_below_drewN | apply below_drew1) | exact HB.out))); (case aF => exact (fun k_ hk => (Nat.le_trans (below_size (by repeat (first | (with_reducible first | exact HB.out | apply below_alloc | apply pw_below_drewN | apply below_drew1) | exact HB.out))) hk))); (case aO => exact (by (with_reducible repeat (first | apply Kd.R_alloc | apply Kd.R_drewN | apply Kd.R_drew)); exact Kd.R_mono HO193.out (fun _ hk => hk.1))); (case aS => exact (below_size (by repeat (first | (with_reducible first | exact HB.out | apply below_alloc | apply pw_below_drewN | apply below_drew1) | exact HB.out)))); (case aL => have := LMc3.out; omega); intro v195 w6 ho hb hg hat; rw [← Ny194.out] at ho; have n0_ := Aside0.mk (hb); have n1_ := Aside0.mk (ho); clear HB; clear HO193; have HB := n0_; have HO196 := n1_; clear n0_ n1_; clear ho hb hg hat; obtain ⟨Ao7, co7, eo7⟩ := Kd.R_slice HO196.out; subst eo7))
  go_loopg [6, 14] k (fun kq v6 v14 w' => ∃ (x5_1 : List Int) (x6_1 : Int) (x14_1 : Int), v6 = .int .i64 x6_1 ∧ v14 = .int .i64 x14_1 ∧ Aside0 (spec_magSub.l0 kq l1 x5_1 x6_1 (y194.length : Int) x14_1 = some r) ∧ Aside0 (kq ≤ k) ∧ Aside0 (Kd.R (Kd.int .u32) 22 w' w.heap.size (fun k_ => (w.heap.size ≤ k_)) (.slice Ao7 y194.length co7) x5_1) ∧ Aside0 (Below w.heap.size w w'))
  case atStart => exact ⟨(y194), (0), (0), (by first | rfl | (simp; done) | (simp [*]; done)), (by first | rfl | (simp; done) | (simp [*]; done)), H', ⟨Nat.le_refl _⟩, ⟨by (with_reducible repeat (first | apply Kd.R_alloc | apply Kd.R_drewN | apply Kd.R_drew)); exact HO196.out⟩, ⟨by repeat (first | (with_reducible first | exact HB.out | apply below_alloc | apply pw_below_drewN | apply below_drew1) | exact HB.out)⟩⟩
  case round =>
   clear H'
   try clear c1
   try clear p2
   try clear c3
   try clear c5
   obtain ⟨x5_1, x6_1, x14_1, rfl, rfl, HA, HK1, HO_5, HB⟩ := hrel
   have hl5_1 := (Kd.R_reads' HO_5.out).1
   rw [hl5_1] at HO_5
   (try simp only [hl5_1])
   cases gk with
   | zero => exact absurd HA.out (by simp [spec_magSub.l0])
   | succ k1 =>
    have H := HA.out
    clear HA
    simp only [spec_magSub.l0] at H
    by_cases c8 : x14_1 < (y194.length : Int)
    ·rw [if_pos c8] at H
     have c8b0 : decide (x14_1 < (y194.length : Int)) = true := decide_eq_true c8
     clear c8
     by_cases c9 : 0 ≤ x14_1
     ·rw [if_pos c9] at H
      have c9b0 : decide (0 ≤ x14_1) = true := decide_eq_true c9
      clear c9
      by_cases c10 : x14_1 < (x5_1.length : Int)
      ·rw [if_pos c10] at H
       have c10b0 : decide (x14_1 < (x5_1.length : Int)) = true := decide_eq_true c10
       clear c10
       by_cases c11 : x14_1 < (l1.length : Int)
       ·rw [if_pos c11] at H
        have c11b0 : decide (x14_1 < (l1.length : Int)) = true := decide_eq_true c11
        clear c11
        by_cases c12 : (wrap64 ((wrap64 ((wrap64 (rd x5_1 x14_1)) - x6_1)) - (wrap64 (rd l1 x14_1)))) < 0
        ·rw [if_pos c12] at H
         have c12b0 : decide ((wrap64 ((wrap64 ((wrap64 (rd x5_1 x14_1)) - x6_1)) - (wrap64 (rd l1 x14_1)))) < 0) = true := decide_eq_true c12
         clear c12
         obtain ⟨y202, hy202⟩ : ∃ y_ : List Int, y_ = (x5_1.set (x14_1 : Int).toNat ((wrap64 ((wrap64 ((wrap64 ((wrap64 (rd x5_1 x14_1)) - x6_1)) - (wrap64 (rd l1 x14_1)))) + 4294967296)) % 4294967296)) := ⟨_, rfl⟩
         replace H : (spec_magSub.l0 k1 l1 y202 1 (y194.length : Int) (wrap64 (x14_1 + 1))) = some r := by first | (rw [hy202]; with_reducible exact H) | (have H2_ := (Option.bind_some _ _).symm.trans H; rw [hy202]; with_reducible exact H2_) | (have H2_ := (Option.bind_some _ _).symm.trans H; with_reducible exact H2_) | with_reducible exact H | (rw [hy202]; exact H) | exact H
         have Ny202 := Aside0.mk hy202
         clear hy202
         have H' := Aside0.mk H
         clear H
         have p200 : 0 ≤ (x14_1 : Int) := of_decide_eq_true (by first | (with_reducible assumption) | assumption)
         have q200 : x14_1 < (x5_1.length : Int) := of_decide_eq_true (by first | (with_reducible assumption) | assumption)
         obtain ⟨ad200, e200, hx200_0⟩ := Kd.at_int (Kd.R_reads' HO_5.out).2.2 x14_1 p200 q200
         cases e200
         replace p200 := eq_true p200
         replace q200 := eq_true q200
         have p201 : 0 ≤ (x14_1 : Int) := of_decide_eq_true (by first | (with_reducible assumption) | assumption)
         have q201 : x14_1 < (l1.length : Int) := of_decide_eq_true (by first | (with_reducible assumption) | assumption)
         obtain ⟨ad201, e201, hx201_0⟩ := Kd.at_int HR1.out x14_1 p201 q201
         cases e201
         replace hx201_0 := (HB.out.cell (World.block_lt_of_cell? w _ hx201_0)).trans hx201_0
         replace p201 := eq_true p201
         replace q201 := eq_true q201
         have p13 : 0 ≤ (x14_1 : Int) := of_decide_eq_true (by first | (with_reducible assumption) | assumption)
         have q13 : (x14_1 : Int) < ((x5_1.length : Int) : Int) := of_decide_eq_true (by first | (with_reducible assumption) | assumption)
         obtain ⟨go13, co13, eo13, gb13, gl13, cl13, HG13⟩ := Kd.R_form HO_5.out (by omega)
         (first | cases eo13 | (injection eo13 with ea_ en_ ec_; (first | subst ea_ | (injection ea_ with ea_; subst ea_)); subst ec_; clear en_))
         have GB13 := Aside0.mk gb13
         have GG13 := Aside0.mk HG13
         clear gb13 gl13 HG13
         (first | simp only [add_plain] at hx200_0 | skip)
         obtain ⟨hx13_0, hf13_0⟩ := Kd.R_celln 0 HO_5.out (x14_1 : Int) p13 q13
         replace p13 := eq_true p13
         replace q13 := eq_true q13
         have HP14 := Kd.R_putg HO_5.out (x14_1 : Int) ((wrap64 ((wrap64 ((wrap64 ((wrap64 (rd x5_1 x14_1)) - x6_1)) - (wrap64 (rd l1 x14_1)))) + 4294967296)) % 4294967296)
         go_wp2_with (first | ((with_reducible refine gate_store (t := 22) (p := 43) rfl ?_); refine store_event (t := 22) (p := 43) (v := ?vo_w15) (w1 := (wr.setCell ⟨go13, (x14_1 : Int).toNat, none⟩ (.int .u32 ((wrap64 ((wrap64 ((wrap64 ((wrap64 (rd x5_1 x14_1)) - x6_1)) - (wrap64 (rd l1 x14_1)))) + 4294967296)) % 4294967296)))) ?hg ?ho ?hn ?hr ?_; (case ho => rfl); (case hg => rfl); (case hn => rfl); (case hr => first | (go_simp; done) | (go_simp; rfl)); intro w15 hw; have hg : wr.grownBy w15 (some go13) := (by rw [hw]; exact HP14.2); have hp_ : Kd.R (Kd.int .u32) 22 w15 w.heap.size (fun k_ => (w.heap.size ≤ k_)) (.slice (some ⟨go13, 0, none⟩) x5_1.length co7) y202 := (by rw [hw, Ny202.out]; exact HP14.1); clear HP14; have n0_ := Aside0.mk (hp_); have n1_ := Aside0.mk ((by rw [hw]; exact below_set (HB.out) GB13.out : Below w.heap.size w w15)); clear HO_5; clear HB; have HO_5 := n0_; have HB := n1_; clear n0_ n1_; clear hg hw hp_))
         (try simp only [← hl5_1])
         go_roundg k1
         case measure => have := HK1.out; omega
         case rel => exact ⟨(y202), (1), (wrap64 (x14_1 + 1)), (by first | rfl | (simp; done) | (simp [*]; done)), (by first | rfl | (simp; done) | (simp [*]; done)), H', ⟨by have := HK1.out; omega⟩, ⟨by (try simp only [hl5_1]); (with_reducible repeat (first | apply Kd.R_alloc | apply Kd.R_drewN | apply Kd.R_drew)); exact HO_5.out⟩, ⟨by repeat (first | (with_reducible first | exact HB.out | apply below_alloc | apply pw_below_drewN | apply below_drew1) | exact HB.out)⟩⟩
        ·rw [if_neg c12] at H
         have c12b0 : decide ((wrap64 ((wrap64 ((wrap64 (rd x5_1 x14_1)) - x6_1)) - (wrap64 (rd l1 x14_1)))) < 0) = false := decide_eq_false c12
         clear c12
         obtain ⟨y203, hy203⟩ : ∃ y_ : List Int, y_ = (x5_1.set (x14_1 : Int).toNat ((wrap64 ((wrap64 ((wrap64 (rd x5_1 x14_1)) - x6_1)) - (wrap64 (rd l1 x14_1)))) % 4294967296)) := ⟨_, rfl⟩
         replace H : (spec_magSub.l0 k1 l1 y203 0 (y194.length : Int) (wrap64 (x14_1 + 1))) = some r := by first | (rw [hy203]; with_reducible exact H) | (have H2_ := (Option.bind_some _ _).symm.trans H; rw [hy203]; with_reducible exact H2_) | (have H2_ := (Option.bind_some _ _).symm.trans H; with_reducible exact H2_) | with_reducible exact H | (rw [hy203]; exact H) | exact H
         have Ny203 := Aside0.mk hy203
         clear hy203
         have H' := Aside0.mk H
         clear H
         have p200 : 0 ≤ (x14_1 : Int) := of_decide_eq_true (by first | (with_reducible assumption) | assumption)
         have q200 : x14_1 < (x5_1.length : Int) := of_decide_eq_true (by first | (with_reducible assumption) | assumption)
         obtain ⟨ad200, e200, hx200_0⟩ := Kd.at_int (Kd.R_reads' HO_5.out).2.2 x14_1 p200 q200
         cases e200
         replace p200 := eq_true p200
         replace q200 := eq_true q200
         have p201 : 0 ≤ (x14_1 : Int) := of_decide_eq_true (by first | (with_reducible assumption) | assumption)
         have q201 : x14_1 < (l1.length : Int) := of_decide_eq_true (by first | (with_reducible assumption) | assumption)
         obtain ⟨ad201, e201, hx201_0⟩ := Kd.at_int HR1.out x14_1 p201 q201
         cases e201
         replace hx201_0 := (HB.out.cell (World.block_lt_of_cell? w _ hx201_0)).trans hx201_0
         replace p201 := eq_true p201
         replace q201 := eq_true q201
         have p16 : 0 ≤ (x14_1 : Int) := of_decide_eq_true (by first | (with_reducible assumption) | assumption)
         have q16 : (x14_1 : Int) < ((x5_1.length : Int) : Int) := of_decide_eq_true (by first | (with_reducible assumption) | assumption)
         obtain ⟨go16, co16, eo16, gb16, gl16, cl16, HG16⟩ := Kd.R_form HO_5.out (by omega)
         (first | cases eo16 | (injection eo16 with ea_ en_ ec_; (first | subst ea_ | (injection ea_ with ea_; subst ea_)); subst ec_; clear en_))
         have GB16 := Aside0.mk gb16
         have GG16 := Aside0.mk HG16
         clear gb16 gl16 HG16
         (first | simp only [add_plain] at hx200_0 | skip)
         obtain ⟨hx16_0, hf16_0⟩ := Kd.R_celln 0 HO_5.out (x14_1 : Int) p16 q16
         replace p16 := eq_true p16
         replace q16 := eq_true q16
         have HP17 := Kd.R_putg HO_5.out (x14_1 : Int) ((wrap64 ((wrap64 ((wrap64 (rd x5_1 x14_1)) - x6_1)) - (wrap64 (rd l1 x14_1)))) % 4294967296)
         go_wp2_with (first | ((with_reducible refine gate_store (t := 22) (p := 43) rfl ?_); refine store_event (t := 22) (p := 43) (v := ?vo_w18) (w1 := (wr.setCell ⟨go16, (x14_1 : Int).toNat, none⟩ (.int .u32 ((wrap64 ((wrap64 ((wrap64 (rd x5_1 x14_1)) - x6_1)) - (wrap64 (rd l1 x14_1)))) % 4294967296)))) ?hg ?ho ?hn ?hr ?_; (case ho => rfl); (case hg => rfl); (case hn => rfl); (case hr => first | (go_simp; done) | (go_simp; rfl)); intro w18 hw; have hg : wr.grownBy w18 (some go16) := (by rw [hw]; exact HP17.2); have hp_ : Kd.R (Kd.int .u32) 22 w18 w.heap.size (fun k_ => (w.heap.size ≤ k_)) (.slice (some ⟨go16, 0, none⟩) x5_1.length co7) y203 := (by rw [hw, Ny203.out]; exact HP17.1); clear HP17; have n0_ := Aside0.mk (hp_); have n1_ := Aside0.mk ((by rw [hw]; exact below_set (HB.out) GB16.out : Below w.heap.size w w18)); clear HO_5; clear HB; have HO_5 := n0_; have HB := n1_; clear n0_ n1_; clear hg hw hp_))
         (try simp only [← hl5_1])
         go_roundg k1
         case measure => have := HK1.out; omega
         case rel => exact ⟨(y203), (0), (wrap64 (x14_1 + 1)), (by first | rfl | (simp; done) | (simp [*]; done)), (by first | rfl | (simp; done) | (simp [*]; done)), H', ⟨by have := HK1.out; omega⟩, ⟨by (try simp only [hl5_1]); (with_reducible repeat (first | apply Kd.R_alloc | apply Kd.R_drewN | apply Kd.R_drew)); exact HO_5.out⟩, ⟨by repeat (first | (with_reducible first | exact HB.out | apply below_alloc | apply pw_below_drewN | apply below_drew1) | exact HB.out)⟩⟩
       ·rw [if_neg c11] at H
        have c11b0 : decide (x14_1 < (l1.length : Int)) = false := decide_eq_false c11
        clear c11
        by_cases c19 : (wrap64 ((wrap64 (rd x5_1 x14_1)) - x6_1)) < 0
        ·rw [if_pos c19] at H
         have c19b0 : decide ((wrap64 ((wrap64 (rd x5_1 x14_1)) - x6_1)) < 0) = true := decide_eq_true c19
         clear c19
         obtain ⟨y204, hy204⟩ : ∃ y_ : List Int, y_ = (x5_1.set (x14_1 : Int).toNat ((wrap64 ((wrap64 ((wrap64 (rd x5_1 x14_1)) - x6_1)) + 4294967296)) % 4294967296)) := ⟨_, rfl⟩
         replace H : (spec_magSub.l0 k1 l1 y204 1 (y194.length : Int) (wrap64 (x14_1 + 1))) = some r := by first | (rw [hy204]; with_reducible exact H) | (have H2_ := (Option.bind_some _ _).symm.trans H; rw [hy204]; with_reducible exact H2_) | (have H2_ := (Option.bind_some _ _).symm.trans H; with_reducible exact H2_) | with_reducible exact H | (rw [hy204]; exact H) | exact H
         have Ny204 := Aside0.mk hy204
         clear hy204
         have H' := Aside0.mk H
         clear H
         have p200 : 0 ≤ (x14_1 : Int) := of_decide_eq_true (by first | (with_reducible assumption) | assumption)
         have q200 : x14_1 < (x5_1.length : Int) := of_decide_eq_true (by first | (with_reducible assumption) | assumption)
         obtain ⟨ad200, e200, hx200_0⟩ := Kd.at_int (Kd.R_reads' HO_5.out).2.2 x14_1 p200 q200
         cases e200
         replace p200 := eq_true p200
         replace q200 := eq_true q200
         have p20 : 0 ≤ (x14_1 : Int) := of_decide_eq_true (by first | (with_reducible assumption) | assumption)
         have q20 : (x14_1 : Int) < ((x5_1.length : Int) : Int) := of_decide_eq_true (by first | (with_reducible assumption) | assumption)
         obtain ⟨go20, co20, eo20, gb20, gl20, cl20, HG20⟩ := Kd.R_form HO_5.out (by omega)
         (first | cases eo20 | (injection eo20 with ea_ en_ ec_; (first | subst ea_ | (injection ea_ with ea_; subst ea_)); subst ec_; clear en_))
         have GB20 := Aside0.mk gb20
         have GG20 := Aside0.mk HG20
         clear gb20 gl20 HG20
         (first | simp only [add_plain] at hx200_0 | skip)
         obtain ⟨hx20_0, hf20_0⟩ := Kd.R_celln 0 HO_5.out (x14_1 : Int) p20 q20
         replace p20 := eq_true p20
         replace q20 := eq_true q20
         have HP21 := Kd.R_putg HO_5.out (x14_1 : Int) ((wrap64 ((wrap64 ((wrap64 (rd x5_1 x14_1)) - x6_1)) + 4294967296)) % 4294967296)
         go_wp2_with (first | ((with_reducible refine gate_store (t := 22) (p := 43) rfl ?_); refine store_event (t := 22) (p := 43) (v := ?vo_w22) (w1 := (wr.setCell ⟨go20, (x14_1 : Int).toNat, none⟩ (.int .u32 ((wrap64 ((wrap64 ((wrap64 (rd x5_1 x14_1)) - x6_1)) + 4294967296)) % 4294967296)))) ?hg ?ho ?hn ?hr ?_; (case ho => rfl); (case hg => rfl); (case hn => rfl); (case hr => first | (go_simp; done) | (go_simp; rfl)); intro w22 hw; have hg : wr.grownBy w22 (some go20) := (by rw [hw]; exact HP21.2); have hp_ : Kd.R (Kd.int .u32) 22 w22 w.heap.size (fun k_ => (w.heap.size ≤ k_)) (.slice (some ⟨go20, 0, none⟩) x5_1.length co7) y204 := (by rw [hw, Ny204.out]; exact HP21.1); clear HP21; have n0_ := Aside0.mk (hp_); have n1_ := Aside0.mk ((by rw [hw]; exact below_set (HB.out) GB20.out : Below w.heap.size w w22)); clear HO_5; clear HB; have HO_5 := n0_; have HB := n1_; clear n0_ n1_; clear hg hw hp_))
         (try simp only [← hl5_1])
         go_roundg k1
         case measure => have := HK1.out; omega
         case rel => exact ⟨(y204), (1), (wrap64 (x14_1 + 1)), (by first | rfl | (simp; done) | (simp [*]; done)), (by first | rfl | (simp; done) | (simp [*]; done)), H', ⟨by have := HK1.out; omega⟩, ⟨by (try simp only [hl5_1]); (with_reducible repeat (first | apply Kd.R_alloc | apply Kd.R_drewN | apply Kd.R_drew)); exact HO_5.out⟩, ⟨by repeat (first | (with_reducible first | exact HB.out | apply below_alloc | apply pw_below_drewN | apply below_drew1) | exact HB.out)⟩⟩
        ·rw [if_neg c19] at H
         have c19b0 : decide ((wrap64 ((wrap64 (rd x5_1 x14_1)) - x6_1)) < 0) = false := decide_eq_false c19
         clear c19
         obtain ⟨y205, hy205⟩ : ∃ y_ : List Int, y_ = (x5_1.set (x14_1 : Int).toNat ((wrap64 ((wrap64 (rd x5_1 x14_1)) - x6_1)) % 4294967296)) := ⟨_, rfl⟩
         replace H : (spec_magSub.l0 k1 l1 y205 0 (y194.length : Int) (wrap64 (x14_1 + 1))) = some r := by first | (rw [hy205]; with_reducible exact H) | (have H2_ := (Option.bind_some _ _).symm.trans H; rw [hy205]; with_reducible exact H2_) | (have H2_ := (Option.bind_some _ _).symm.trans H; with_reducible exact H2_) | with_reducible exact H | (rw [hy205]; exact H) | exact H
         have Ny205 := Aside0.mk hy205
         clear hy205
         have H' := Aside0.mk H
         clear H
         have p200 : 0 ≤ (x14_1 : Int) := of_decide_eq_true (by first | (with_reducible assumption) | assumption)
         have q200 : x14_1 < (x5_1.length : Int) := of_decide_eq_true (by first | (with_reducible assumption) | assumption)
         obtain ⟨ad200, e200, hx200_0⟩ := Kd.at_int (Kd.R_reads' HO_5.out).2.2 x14_1 p200 q200
         cases e200
         replace p200 := eq_true p200
         replace q200 := eq_true q200
         have p23 : 0 ≤ (x14_1 : Int) := of_decide_eq_true (by first | (with_reducible assumption) | assumption)
         have q23 : (x14_1 : Int) < ((x5_1.length : Int) : Int) := of_decide_eq_true (by first | (with_reducible assumption) | assumption)
         obtain ⟨go23, co23, eo23, gb23, gl23, cl23, HG23⟩ := Kd.R_form HO_5.out (by omega)
         (first | cases eo23 | (injection eo23 with ea_ en_ ec_; (first | subst ea_ | (injection ea_ with ea_; subst ea_)); subst ec_; clear en_))
         have GB23 := Aside0.mk gb23
         have GG23 := Aside0.mk HG23
         clear gb23 gl23 HG23
         (first | simp only [add_plain] at hx200_0 | skip)
         obtain ⟨hx23_0, hf23_0⟩ := Kd.R_celln 0 HO_5.out (x14_1 : Int) p23 q23
         replace p23 := eq_true p23
         replace q23 := eq_true q23
         have HP24 := Kd.R_putg HO_5.out (x14_1 : Int) ((wrap64 ((wrap64 (rd x5_1 x14_1)) - x6_1)) % 4294967296)
         go_wp2_with (first | ((with_reducible refine gate_store (t := 22) (p := 43) rfl ?_); refine store_event (t := 22) (p := 43) (v := ?vo_w25) (w1 := (wr.setCell ⟨go23, (x14_1 : Int).toNat, none⟩ (.int .u32 ((wrap64 ((wrap64 (rd x5_1 x14_1)) - x6_1)) % 4294967296)))) ?hg ?ho ?hn ?hr ?_; (case ho => rfl); (case hg => rfl); (case hn => rfl); (case hr => first | (go_simp; done) | (go_simp; rfl)); intro w25 hw; have hg : wr.grownBy w25 (some go23) := (by rw [hw]; exact HP24.2); have hp_ : Kd.R (Kd.int .u32) 22 w25 w.heap.size (fun k_ => (w.heap.size ≤ k_)) (.slice (some ⟨go23, 0, none⟩) x5_1.length co7) y205 := (by rw [hw, Ny205.out]; exact HP24.1); clear HP24; have n0_ := Aside0.mk (hp_); have n1_ := Aside0.mk ((by rw [hw]; exact below_set (HB.out) GB23.out : Below w.heap.size w w25)); clear HO_5; clear HB; have HO_5 := n0_; have HB := n1_; clear n0_ n1_; clear hg hw hp_))
         (try simp only [← hl5_1])
         go_roundg k1
         case measure => have := HK1.out; omega
         case rel => exact ⟨(y205), (0), (wrap64 (x14_1 + 1)), (by first | rfl | (simp; done) | (simp [*]; done)), (by first | rfl | (simp; done) | (simp [*]; done)), H', ⟨by have := HK1.out; omega⟩, ⟨by (try simp only [hl5_1]); (with_reducible repeat (first | apply Kd.R_alloc | apply Kd.R_drewN | apply Kd.R_drew)); exact HO_5.out⟩, ⟨by repeat (first | (with_reducible first | exact HB.out | apply below_alloc | apply pw_below_drewN | apply below_drew1) | exact HB.out)⟩⟩
      ·rw [if_neg c10] at H
       exact absurd H (by simp)
     ·rw [if_neg c9] at H
      exact absurd H (by simp)
    ·rw [if_neg c8] at H
     have c8b0 : decide (x14_1 < (y194.length : Int)) = false := decide_eq_false c8
     rw [hl5_1] at c8b0
     clear c8
     replace H := Option.bind_eq_some_iff.mp H
     obtain ⟨t197, A260, H⟩ := H
     replace H : (some t197) = some r := H
     have A26 := Aside0.mk A260
     clear A260
     obtain rfl := Option.some.inj H
     go_wp2_with (first | ((with_reducible refine gate_callee (f := 48) rfl ?_); refine goesL_ (some 46) rfl rfl Tryz.func48 (by kernel_rfl) rfl #[.slice Ao7 x5_1.length co7] rfl (by (try simp only [List.map_toArray, List.map_cons, List.map_nil]); first | done | rfl | (simp only [List.length_drop, List.length_take]; rfl)) ?_; (with_reducible refine (spec_trim.calls k1 (fun k_ => some k_ = (.slice Ao7 x5_1.length co7 : Value).ownBlock) _ _ x5_1 t197 _ ?side1 A26.out).mono ?_); (case side1 => exact Kd.R_V (Kd.R_tight rfl (HO_5.out))); rintro e w27 ⟨v198, rfl, ho0, hb⟩; refine ⟨_, rfl, ?_⟩; have n0_ := Aside0.mk (Kd.R_below (by (with_reducible repeat (first | apply Kd.R_alloc | apply Kd.R_drewN | apply Kd.R_drew)); exact HO_5.out) hb); have n1_ := Aside0.mk (Kd.V_lower (Kd.V_mono (ok' := fun k_ => (w.heap.size ≤ k_)) ho0 (fun k_ hk_ => Or.elim hk_ (fun hs_ => ((HO_5.out).1 k_ hs_.symm)) (fun hn_ => (Nat.le_trans (below_size (by repeat (first | (with_reducible first | exact HB.out | apply below_alloc | apply pw_below_drewN | apply below_drew1) | exact HB.out))) hn_)))) (below_size (by repeat (first | (with_reducible first | exact HB.out | apply below_alloc | apply pw_below_drewN | apply below_drew1) | exact HB.out)))); have n2_ := Aside0.mk (below_step (by repeat (first | (with_reducible first | exact HB.out | apply below_alloc | apply pw_below_drewN | apply below_drew1) | exact HB.out)) hb); clear HO_5; clear HB; have HO_5 := n0_; have HO199 := n1_; have HB := n2_; clear n0_ n1_ n2_; (try clear hb); (try clear hb2); (try clear hk); (try clear hi); (try clear ho0)))
     go_ret
     exact ⟨_, by first | rfl | (simp [errW_none, errW_some] <;> rfl) | (simp [*, errW_none, errW_some] <;> rfl), by (with_reducible repeat (first | apply Kd.V_alloc | apply Kd.V_drewN | apply Kd.V_drew)); exact HO199.out, by repeat (first | (with_reducible first | exact HB.out | apply below_alloc | apply pw_below_drewN | apply below_drew1) | exact HB.out)⟩
 ·rw [if_neg c3] at H
  exact absurd H (by simp)

/-! ### spec_WideAdd: function 25 -/
def spec_WideAdd.f (k : Nat) (a0_0 : Bool) (l0_1 : List Int) (a1_0 : Bool) (l1_1 : List Int) : Option (Bool × List Int) := if (a0_0 == a1_0) = true then ((spec_magAdd.f k l0_1 l1_1).bind fun t209 => ((spec_wide.f k a0_0 t209).bind fun bt212 => (some (bt212.1, bt212.2)))) else ((spec_magCmp.f k l0_1 l1_1).bind fun t216 => (if t216 ≥ 0 then ((spec_magSub.f k l0_1 l1_1).bind fun t217 => ((spec_wide.f k a0_0 t217).bind fun bt220 => (some (bt220.1, bt220.2)))) else ((spec_magSub.f k l1_1 l0_1).bind fun t224 => ((spec_wide.f k a1_0 t224).bind fun bt227 => (some (bt227.1, bt227.2))))))
theorem spec_WideAdd.mono : ∀ a0 a1 a2 a3 k, LeO (spec_WideAdd.f k a0 a1 a2 a3) (spec_WideAdd.f (k + 1) a0 a1 a2 a3) := by
 intro a0 a1 a2 a3 k
 unfold spec_WideAdd.f
 repeat' first
   | (with_reducible exact spec_magAdd.mono _ _ _)
   | (with_reducible exact spec_magCmp.mono _ _ _)
   | (with_reducible exact spec_magSub.mono _ _ _)
   | (with_reducible exact spec_wide.mono _ _ _)
   | (with_reducible exact LeO.refl _)
   | (with_reducible exact LeO.none _)
   | (with_reducible refine LeO.ite ?_ ?_)
   | (with_reducible refine LeO.bind ?_ (fun _ => ?_))
   | exact spec_magAdd.mono _ _ _
   | exact spec_magCmp.mono _ _ _
   | exact spec_magSub.mono _ _ _
   | exact spec_wide.mono _ _ _
   | exact LeO.none _
   | refine LeO.ite ?_ ?_
   | refine LeO.bind ?_ (fun _ => ?_)
def spec_WideAdd.T2 : Bool × List (List Nat × List Nat) := (true, [([], []), ([0], [0]), ([], []), ([2], [2]), ([], []), ([4], [4]), ([3, 5], [3, 5]), ([1, 6, 6], [1, 6]), ([7, 7, 0, 1, 2, 3, 4, 5, 6, 7], [7])])
def spec_WideAdd.B2 : List Nat := [0, 1, 0, 4, 0, 16, 60, 127, 255]
theorem spec_WideAdd.tab2 : rtab .any (opsOf Tryz.f25 2) = spec_WideAdd.T2 := by kernel_rfl
theorem spec_WideAdd.bits2 : waitsOk spec_WideAdd.T2.2 spec_WideAdd.B2 = true := by kernel_rfl
def spec_WideAdd.T4 : Bool × List (List Nat × List Nat) := (true, [([], []), ([0], [0]), ([], []), ([2], [2]), ([], []), ([4], [4]), ([3, 5], [3, 5]), ([1, 6, 6], [1, 6]), ([7, 7, 0, 1, 2, 3, 4, 5, 6, 7], [7])])
def spec_WideAdd.B4 : List Nat := [0, 1, 0, 4, 0, 16, 60, 127, 255]
theorem spec_WideAdd.tab4 : rtab .any (opsOf Tryz.f25 4) = spec_WideAdd.T4 := by kernel_rfl
theorem spec_WideAdd.bits4 : waitsOk spec_WideAdd.T4.2 spec_WideAdd.B4 = true := by kernel_rfl
def spec_WideAdd.T5 : Bool × List (List Nat × List Nat) := (true, [([], []), ([0], [0]), ([], []), ([2], [2]), ([], []), ([4], [4]), ([3, 5], [3, 5]), ([1, 6, 6], [1, 6]), ([7, 7, 0, 1, 2, 3, 4, 5, 6, 7], [7])])
def spec_WideAdd.B5 : List Nat := [0, 1, 0, 4, 0, 16, 60, 127, 255]
theorem spec_WideAdd.tab5 : rtab .any (opsOf Tryz.f25 5) = spec_WideAdd.T5 := by kernel_rfl
theorem spec_WideAdd.bits5 : waitsOk spec_WideAdd.T5.2 spec_WideAdd.B5 = true := by kernel_rfl
set_option maxHeartbeats 8000000 in
set_option maxRecDepth 100000 in
theorem spec_WideAdd.calls (k : Nat) (a0_0 : Bool) (A0_1 : Option Addr) (c0_1 : Nat) (l0_1 : List Int) (a1_0 : Bool) (A1_1 : Option Addr) (c1_1 : Nat) (l1_1 : List Int) (r1 : Bool) (r2 : List Int) (w : World) (hr0_1 : Kd.C (Kd.int .u32) w A0_1 l0_1.length l0_1) (hc0_1 : l0_1.length ≤ c0_1) (hr1_1 : Kd.C (Kd.int .u32) w A1_1 l1_1.length l1_1) (hc1_1 : l1_1.length ≤ c1_1) (h : spec_WideAdd.f k a0_0 l0_1 a1_0 l1_1 = some (r1, r2)) :
  Calls Tryz.prog 25 #[.agg #[.bool a0_0, .slice A0_1 l0_1.length c0_1], .agg #[.bool a1_0, .slice A1_1 l1_1.length c1_1]] w fun e w' => ∃ v1_ : Value, e = .returned (.agg #[.bool r1, v1_]) ∧ Kd.V (Kd.int .u32) 22 w' w.heap.size (fun k_ => (w.heap.size ≤ k_)) v1_ r2 ∧ Below w.heap.size w w' := by
 have hu27 := Tryz.underlying27
 have HR0_1 := Aside0.mk hr0_1
 have HC0_1 := Aside0.mk hc0_1
 clear hr0_1 hc0_1
 have HR1_1 := Aside0.mk hr1_1
 have HC1_1 := Aside0.mk hc1_1
 clear hr1_1 hc1_1
 have HB := Aside0.mk (Below.refl w.heap.size w)
 have H : (if (a0_0 == a1_0) = true then ((spec_magAdd.f k l0_1 l1_1).bind fun t209 => ((spec_wide.f k a0_0 t209).bind fun bt212 => (some (bt212.1, bt212.2)))) else ((spec_magCmp.f k l0_1 l1_1).bind fun t216 => (if t216 ≥ 0 then ((spec_magSub.f k l0_1 l1_1).bind fun t217 => ((spec_wide.f k a0_0 t217).bind fun bt220 => (some (bt220.1, bt220.2)))) else ((spec_magSub.f k l1_1 l0_1).bind fun t224 => ((spec_wide.f k a1_0 t224).bind fun bt227 => (some (bt227.1, bt227.2))))))) = some (r1, r2) := h
 clear h
 by_cases c3 : (a0_0 == a1_0) = true
 ·rw [if_pos c3] at H
  have c3b0 : (a0_0 == a1_0) = true := c3
  (try (have c3b1 : decide (a0_0 = a1_0) = true := by simpa using c3))
  (try (have c3b2 : (a0_0 == a1_0) = true := by simpa using c3))
  clear c3
  replace H := Option.bind_eq_some_iff.mp H
  obtain ⟨t209, A40, H⟩ := H
  replace H : ((spec_wide.f k a0_0 t209).bind fun bt212 => (some (bt212.1, bt212.2))) = some (r1, r2) := H
  have A4 := Aside0.mk A40
  clear A40
  replace H := Option.bind_eq_some_iff.mp H
  obtain ⟨⟨t212, t213⟩, A50, H⟩ := H
  replace H : (some (t212, t213)) = some (r1, r2) := H
  have A5 := Aside0.mk A50
  clear A50
  simp only [Option.some.injEq, Prod.mk.injEq] at H
  obtain ⟨rfl, rfl⟩ := H
  go_enter Tryz.func25, Tryz.ntmps25
  try go_wp2_with (first | ((with_reducible refine gate_dst (N := 2) rfl ?_); refine box_event ?hg (N := 2) ?hd (cs := #[.bool a0_0, .slice A0_1 l0_1.length c0_1]) (t := 27) ?hr ?_; (case hd => rfl); (case hg => rfl); (case hr => first | (go_simp; done) | (go_simp; rfl)); intro gb206 hg w6 hbox hb; have n0_ := Aside0.mk (below_step (by repeat (first | (with_reducible first | exact HB.out | apply below_alloc | apply pw_below_drewN | apply below_drew1) | exact HB.out)) hb); have n1_ := Aside0.mk (hbox); have n2_ := Aside0.mk ((by rw [hg]; exact (below_size (by repeat (first | (with_reducible first | exact HB.out | apply below_alloc | apply pw_below_drewN | apply below_drew1) | exact HB.out))) : w.heap.size ≤ gb206)); have n3_ := Aside0.mk ((by rw [hg]; exact (below_size (by repeat (first | (with_reducible first | exact HB.out | apply below_alloc | apply pw_below_drewN | apply below_drew1) | exact HB.out))) : w.heap.size ≤ gb206)); clear HB; have HB := n0_; have BK206 := n1_; have GW206 := n2_; have GE206 := n3_; clear n0_ n1_ n2_ n3_; clear hb hbox hg) | ((with_reducible refine gate_dst (N := 3) rfl ?_); refine box_event ?hg (N := 3) ?hd (cs := #[.bool a1_0, .slice A1_1 l1_1.length c1_1]) (t := 27) ?hr ?_; (case hd => rfl); (case hg => rfl); (case hr => first | (go_simp; done) | (go_simp; rfl)); intro gb207 hg w7 hbox hb; have n0_ := Aside0.mk (blk_below (g := gb206) (o := .cells #[.bool a0_0, .slice A0_1 l0_1.length c0_1] 27 (0, 0)) (by (with_reducible repeat (first | refine blk_drewN ?_ _ | refine blk_drew ?_ | refine blk_alloc ?_ _)); exact BK206.out) hb); have n1_ := Aside0.mk (below_step (by repeat (first | (with_reducible first | exact HB.out | apply below_alloc | apply pw_below_drewN | apply below_drew1 | refine below_set ?_ GE206.out) | exact HB.out)) hb); have n2_ := Aside0.mk (hbox); have n3_ := Aside0.mk ((by rw [hg]; exact (below_size (by repeat (first | (with_reducible first | exact HB.out | apply below_alloc | apply pw_below_drewN | apply below_drew1 | refine below_set ?_ GE206.out) | exact HB.out))) : w.heap.size ≤ gb207)); have n4_ := Aside0.mk ((by rw [hg]; exact (below_size (by repeat (first | (with_reducible first | exact HB.out | apply below_alloc | apply pw_below_drewN | apply below_drew1 | refine below_set ?_ GE206.out) | exact HB.out))) : w.heap.size ≤ gb207)); have n5_ := Aside0.mk ((by rw [hg]; exact Nat.ne_of_lt (blk_lt (g := gb206) (o := .cells #[.bool a0_0, .slice A0_1 l0_1.length c0_1] 27 (0, 0)) (by (with_reducible repeat (first | refine blk_drewN ?_ _ | refine blk_drew ?_ | refine blk_alloc ?_ _)); exact BK206.out)) : gb206 ≠ gb207)); have n6_ := Aside0.mk ((by rw [hg]; exact Nat.ne_of_gt (blk_lt (g := gb206) (o := .cells #[.bool a0_0, .slice A0_1 l0_1.length c0_1] 27 (0, 0)) (by (with_reducible repeat (first | refine blk_drewN ?_ _ | refine blk_drew ?_ | refine blk_alloc ?_ _)); exact BK206.out)) : gb207 ≠ gb206)); clear BK206; clear HB; have BK206 := n0_; have HB := n1_; have BK207 := n2_; have GW207 := n3_; have GE207 := n4_; have NB206_207 := n5_; have NB207_206 := n6_; clear n0_ n1_ n2_ n3_ n4_ n5_ n6_; clear hb hbox hg) | ((with_reducible refine gate_dst (N := 4) rfl ?_); refine box_event ?hg (N := 4) ?hd (cs := #[.bool false, .slice none 0 0]) (t := 27) ?hr ?_; (case hd => rfl); (case hg => rfl); (case hr => first | (go_simp; done) | (go_simp; rfl)); intro gb208 hg w8 hbox hb; have n0_ := Aside0.mk (blk_below (g := gb206) (o := .cells #[.bool a0_0, .slice A0_1 l0_1.length c0_1] 27 (0, 0)) (by (with_reducible repeat (first | refine blk_drewN ?_ _ | refine blk_drew ?_ | refine blk_alloc ?_ _)); exact BK206.out) hb); have n1_ := Aside0.mk (blk_below (g := gb207) (o := .cells #[.bool a1_0, .slice A1_1 l1_1.length c1_1] 27 (0, 0)) (by (with_reducible repeat (first | refine blk_drewN ?_ _ | refine blk_drew ?_ | refine blk_alloc ?_ _)); exact BK207.out) hb); have n2_ := Aside0.mk (below_step (by repeat (first | (with_reducible first | exact HB.out | apply below_alloc | apply pw_below_drewN | apply below_drew1 | refine below_set ?_ GE206.out | refine below_set ?_ GE207.out) | exact HB.out)) hb); have n3_ := Aside0.mk (hbox); have n4_ := Aside0.mk ((by rw [hg]; exact (below_size (by repeat (first | (with_reducible first | exact HB.out | apply below_alloc | apply pw_below_drewN | apply below_drew1 | refine below_set ?_ GE206.out | refine below_set ?_ GE207.out) | exact HB.out))) : w.heap.size ≤ gb208)); have n5_ := Aside0.mk ((by rw [hg]; exact (below_size (by repeat (first | (with_reducible first | exact HB.out | apply below_alloc | apply pw_below_drewN | apply below_drew1 | refine below_set ?_ GE206.out | refine below_set ?_ GE207.out) | exact HB.out))) : w.heap.size ≤ gb208)); have n6_ := Aside0.mk ((by rw [hg]; exact Nat.ne_of_lt (blk_lt (g := gb206) (o := .cells #[.bool a0_0, .slice A0_1 l0_1.length c0_1] 27 (0, 0)) (by (with_reducible repeat (first | refine blk_drewN ?_ _ | refine blk_drew ?_ | refine blk_alloc ?_ _)); exact BK206.out)) : gb206 ≠ gb208)); have n7_ := Aside0.mk ((by rw [hg]; exact Nat.ne_of_gt (blk_lt (g := gb206) (o := .cells #[.bool a0_0, .slice A0_1 l0_1.length c0_1] 27 (0, 0)) (by (with_reducible repeat (first | refine blk_drewN ?_ _ | refine blk_drew ?_ | refine blk_alloc ?_ _)); exact BK206.out)) : gb208 ≠ gb206)); have n8_ := Aside0.mk ((by rw [hg]; exact Nat.ne_of_lt (blk_lt (g := gb207) (o := .cells #[.bool a1_0, .slice A1_1 l1_1.length c1_1] 27 (0, 0)) (by (with_reducible repeat (first | refine blk_drewN ?_ _ | refine blk_drew ?_ | refine blk_alloc ?_ _)); exact BK207.out)) : gb207 ≠ gb208)); have n9_ := Aside0.mk ((by rw [hg]; exact Nat.ne_of_gt (blk_lt (g := gb207) (o := .cells #[.bool a1_0, .slice A1_1 l1_1.length c1_1] 27 (0, 0)) (by (with_reducible repeat (first | refine blk_drewN ?_ _ | refine blk_drew ?_ | refine blk_alloc ?_ _)); exact BK207.out)) : gb208 ≠ gb207)); clear BK206; clear BK207; clear HB; have BK206 := n0_; have BK207 := n1_; have HB := n2_; have BK208 := n3_; have GW208 := n4_; have GE208 := n5_; have NB206_208 := n6_; have NB208_206 := n7_; have NB207_208 := n8_; have NB208_207 := n9_; clear n0_ n1_ n2_ n3_ n4_ n5_ n6_ n7_ n8_ n9_; clear hb hbox hg; have hnb9 := NB206_207.out; have hnc9 := NB207_206.out; have hnb10 := NB206_208.out; have hnc10 := NB208_206.out; have hcz11_0 : w8.cell? ⟨gb206, 0, none⟩ = some (.bool a0_0) := (blk_cell BK206.out 0).trans rfl; have hcz11_1 : w8.cell? ⟨gb206, 1, none⟩ = some (.slice A0_1 l0_1.length c0_1) := (blk_cell BK206.out 1).trans rfl; have hfz11_0 := blk_frozen BK206.out 0; have hfz11_1 := blk_frozen BK206.out 1; have hnb12 := NB207_208.out; have hnc12 := NB208_207.out; have hcz13_0 : w8.cell? ⟨gb207, 0, none⟩ = some (.bool a1_0) := (blk_cell BK207.out 0).trans rfl; have hcz13_1 : w8.cell? ⟨gb207, 1, none⟩ = some (.slice A1_1 l1_1.length c1_1) := (blk_cell BK207.out 1).trans rfl; have hfz13_0 := blk_frozen BK207.out 0; have hfz13_1 := blk_frozen BK207.out 1))
  have n0_ := Aside0.mk (blk_drew BK206.out)
  have n1_ := Aside0.mk (blk_drew BK207.out)
  have n2_ := Aside0.mk (blk_drew BK208.out)
  have n3_ := Aside0.mk (below_drew1 HB.out)
  clear BK206 BK207 BK208 HB
  have BK206 := n0_
  have BK207 := n1_
  have BK208 := n2_
  have HB := n3_
  clear n0_ n1_ n2_ n3_
  refine start_ (n := 9) (S := fun w' => w'.cell? ⟨gb206, 0, none⟩ = some (.bool a0_0) ∧ w'.cell? ⟨gb206, 1, none⟩ = some (.slice A0_1 l0_1.length c0_1) ∧ w'.cell? ⟨gb207, 0, none⟩ = some (.bool a1_0) ∧ w'.cell? ⟨gb207, 1, none⟩ = some (.slice A1_1 l1_1.length c1_1)) (ds := []) #[false, false, false, false, false, false, false, false, false] (by kernel_rfl) rfl rfl ⟨(blk_cell BK206.out 0).trans rfl, (blk_cell BK206.out 1).trans rfl, (blk_cell BK207.out 0).trans rfl, (blk_cell BK207.out 1).trans rfl⟩ (fun hHeld => ?_); refine with_tabW spec_WideAdd.tab2 spec_WideAdd.bits2 (fun HT_ HW_ => ?_)
  generalize w8.drew = w14 at BK206 BK207 BK208 HB hHeld ⊢
  refine pure_ (i := 0) (N := some 10) (v := ?_) (a' := ?_) #[true, false, false, false, false, false, false, false, false] rfl rfl (any_of HT_.out (by kernel_rfl)) (fun _ _ _ h => h) (Or.inl ⟨by rfl, ?_⟩) ?_ ?_
  rotate_left
  ·intro w'
   go_simp
   with_reducible rfl
  rotate_left
  ·simp only [Act.put, List.setIfInBounds_toArray, List.set_cons_zero, List.set_cons_succ, i64_w, i32_w]
   rfl
  refine pure_ (i := 2) (N := some 12) (v := ?_) (a' := ?_) #[true, false, true, false, false, false, false, false, false] rfl rfl (any_of HT_.out (by kernel_rfl)) (fun _ _ _ h => h) (Or.inl ⟨by rfl, ?_⟩) ?_ ?_
  rotate_left
  ·intro w'
   go_simp
   with_reducible rfl
  rotate_left
  ·simp only [Act.put, List.setIfInBounds_toArray, List.set_cons_zero, List.set_cons_succ, i64_w, i32_w]
   rfl
  refine pure_ (i := 4) (N := some 14) (v := ?_) (a' := ?_) #[true, false, true, false, true, false, false, false, false] rfl rfl (any_of HT_.out (by kernel_rfl)) (fun _ _ _ h => h) (Or.inl ⟨by rfl, ?_⟩) ?_ ?_
  rotate_left
  ·intro w'
   go_simp
   with_reducible rfl
  rotate_left
  ·simp only [Act.put, List.setIfInBounds_toArray, List.set_cons_zero, List.set_cons_succ, i64_w, i32_w]
   rfl
  refine take_ (i := 1) (N := some 11) (v := ?_) (a' := ?_) #[true, true, true, false, true, false, false, false, false] rfl rfl (take_ofW HT_.out HW_.out (by kernel_rfl)) (fun _ _ _ h => h) (Or.inl ⟨by rfl, ?_⟩) hHeld ?_ ?_
  rotate_left
  ·rintro w' ⟨s0, s1, s2, s3⟩
   go_simp
   with_reducible rfl
  rotate_left
  ·simp only [Act.put, List.setIfInBounds_toArray, List.set_cons_zero, List.set_cons_succ, i64_w, i32_w]
   rfl
  refine take_ (i := 3) (N := some 13) (v := ?_) (a' := ?_) #[true, true, true, true, true, false, false, false, false] rfl rfl (take_ofW HT_.out HW_.out (by kernel_rfl)) (fun _ _ _ h => h) (Or.inl ⟨by rfl, ?_⟩) hHeld ?_ ?_
  rotate_left
  ·rintro w' ⟨s0, s1, s2, s3⟩
   go_simp
   with_reducible rfl
  rotate_left
  ·simp only [Act.put, List.setIfInBounds_toArray, List.set_cons_zero, List.set_cons_succ, i64_w, i32_w]
   rfl
  refine take_ (i := 5) (N := some 15) (v := ?_) (a' := ?_) #[true, true, true, true, true, true, false, false, false] rfl rfl (take_ofW HT_.out HW_.out (by kernel_rfl)) (fun _ _ _ h => h) (Or.inl ⟨by rfl, ?_⟩) hHeld ?_ ?_
  rotate_left
  ·rintro w' ⟨s0, s1, s2, s3⟩
   go_simp
   with_reducible rfl
  rotate_left
  ·simp only [Act.put, List.setIfInBounds_toArray, List.set_cons_zero, List.set_cons_succ, i64_w, i32_w]
   rfl
  refine one_ (i := 6) (N := some 16) #[true, true, true, true, true, true, true, false, false] rfl rfl (one_of HT_.out (by kernel_rfl)) (by decide) (fun K hK => ?_)
  refine goes_ Tryz.func49 (by kernel_rfl) rfl #[.slice A0_1 l0_1.length c0_1, .slice A1_1 l1_1.length c1_1] (by rfl) rfl rfl (by (try simp only [List.map_toArray, List.map_cons, List.map_nil]); first | done | rfl | (simp only [List.length_drop, List.length_take]; rfl)) ?_
  with_reducible refine (spec_magAdd.calls k _ _ l0_1 _ _ l1_1 t209 _ ?side1 ?side2 ?side3 ?side4 A4.out).mono ?_
  (case side1 => repeat (first | exact (Kd.C_below HR0_1.out HB.out) | (with_reducible refine Kd.C_alloc ?_ _) | (with_reducible refine Kd.C_drewN ?_ _) | (with_reducible refine Kd.C_drew ?_)))
  (case side2 => exact HC0_1.out)
  (case side3 => repeat (first | exact (Kd.C_below HR1_1.out HB.out) | (with_reducible refine Kd.C_alloc ?_ _) | (with_reducible refine Kd.C_drewN ?_ _) | (with_reducible refine Kd.C_drew ?_)))
  (case side4 => exact HC1_1.out)
  rintro e w15 ⟨v210, rfl, ho0, hb⟩
  refine ⟨_, rfl, ?_⟩
  have n0_ := Aside0.mk (Kd.R_lower (Kd.R_newM (M := fun k_ => (w.heap.size ≤ k_)) ho0 (below_size (by repeat (first | (with_reducible first | exact HB.out | apply below_alloc | apply pw_below_drewN | apply below_drew1 | refine below_set ?_ GE206.out | refine below_set ?_ GE207.out | refine below_set ?_ GE208.out) | exact HB.out))) (fun k_ h_ => h_)) (below_size (by repeat (first | (with_reducible first | exact HB.out | apply below_alloc | apply pw_below_drewN | apply below_drew1 | refine below_set ?_ GE206.out | refine below_set ?_ GE207.out | refine below_set ?_ GE208.out) | exact HB.out))))
  have n1_ := Aside0.mk (blk_below (g := gb206) (o := .cells #[.bool a0_0, .slice A0_1 l0_1.length c0_1] 27 (0, 0)) (by (with_reducible repeat (first | refine blk_drewN ?_ _ | refine blk_drew ?_ | refine blk_alloc ?_ _)); exact BK206.out) hb)
  have n2_ := Aside0.mk (blk_below (g := gb207) (o := .cells #[.bool a1_0, .slice A1_1 l1_1.length c1_1] 27 (0, 0)) (by (with_reducible repeat (first | refine blk_drewN ?_ _ | refine blk_drew ?_ | refine blk_alloc ?_ _)); exact BK207.out) hb)
  have n3_ := Aside0.mk (blk_below (g := gb208) (o := .cells #[.bool false, .slice none 0 0] 27 (0, 0)) (by (with_reducible repeat (first | refine blk_drewN ?_ _ | refine blk_drew ?_ | refine blk_alloc ?_ _)); exact BK208.out) hb)
  have n4_ := Aside0.mk (below_step (by repeat (first | (with_reducible first | exact HB.out | apply below_alloc | apply pw_below_drewN | apply below_drew1 | refine below_set ?_ GE206.out | refine below_set ?_ GE207.out | refine below_set ?_ GE208.out) | exact HB.out)) hb)
  clear BK206 BK207 BK208 HB
  have HO211 := n0_
  have BK206 := n1_
  have BK207 := n2_
  have BK208 := n3_
  have HB := n4_
  clear n0_ n1_ n2_ n3_ n4_
  (try clear hb)
  (try clear hb2)
  (try clear hk)
  (try clear hi)
  (try clear ho0)
  obtain ⟨Ao16, co16, eo16⟩ := Kd.R_slice HO211.out
  (first | subst eo16 | (injection eo16 with f1_ f2_ f3_; have f4_ := f1_.symm; have f5_ := f3_.symm; clear f1_ f2_ f3_; subst f4_; subst f5_))
  refine hK.out _ _ ⟨(blk_cell BK206.out 0).trans rfl, (blk_cell BK206.out 1).trans rfl, (blk_cell BK207.out 0).trans rfl, (blk_cell BK207.out 1).trans rfl⟩ (fun hHeld => ?_)
  clear hK K
  refine norm_ (a' := ?_) ?_ ?_
  rotate_left
  ·show Act.put _ (some 16) _ = _
   simp only [Act.put, List.setIfInBounds_toArray, List.set_cons_zero, List.set_cons_succ, i64_w, i32_w]
   rfl
  refine one_ (i := 7) (N := some 17) #[true, true, true, true, true, true, true, true, false] rfl rfl (one_of HT_.out (by kernel_rfl)) (by decide) (fun K hK => ?_)
  refine goes_ Tryz.func24 (by kernel_rfl) rfl #[.bool a0_0, .slice Ao16 t209.length co16] (by rfl) rfl rfl (by (try simp only [List.map_toArray, List.map_cons, List.map_nil]); first | done | rfl | (simp only [List.length_drop, List.length_take]; rfl)) ?_
  with_reducible refine (spec_wide.calls k a0_0 (fun k_ => some k_ = (.slice Ao16 t209.length co16 : Value).ownBlock) _ _ t209 t212 t213 _ ?side1 A5.out).mono ?_
  (case side1 => exact Kd.R_V (Kd.R_tight rfl (Kd.R_types (Kd.R_types (Kd.R_types (HO211.out) BK206.out (by decide)) BK207.out (by decide)) BK208.out (by decide))))
  rintro e w17 ⟨v214, rfl, ho0, hb⟩
  refine ⟨_, rfl, ?_⟩
  have n0_ := Aside0.mk (Kd.R_below (by (with_reducible repeat (first | apply Kd.R_alloc | apply Kd.R_drewN | apply Kd.R_drew)); exact HO211.out) hb)
  have n1_ := Aside0.mk (Kd.V_lower (Kd.V_mono (ok' := fun k_ => (w.heap.size ≤ k_) ∧ k_ ≠ gb206 ∧ k_ ≠ gb207 ∧ k_ ≠ gb208) ho0 (fun k_ hk_ => ⟨Or.elim hk_ (fun hs_ => ((Kd.R_types (Kd.R_types (Kd.R_types (HO211.out) BK206.out (by decide)) BK207.out (by decide)) BK208.out (by decide)).1 k_ hs_.symm).1.1.1.1) (fun hn_ => (Nat.le_trans (below_size (by repeat (first | (with_reducible first | exact HB.out | apply below_alloc | apply pw_below_drewN | apply below_drew1 | refine below_set ?_ GE206.out | refine below_set ?_ GE207.out | refine below_set ?_ GE208.out) | exact HB.out))) hn_)), Or.elim hk_ (fun hs_ => ((Kd.R_types (Kd.R_types (Kd.R_types (HO211.out) BK206.out (by decide)) BK207.out (by decide)) BK208.out (by decide)).1 k_ hs_.symm).1.1.2) (fun hn_ => (Kd.freshB (g := gb206) (o := .cells #[.bool a0_0, .slice A0_1 l0_1.length c0_1] 27 (0, 0)) (by (with_reducible repeat (first | refine blk_drewN ?_ _ | refine blk_drew ?_ | refine blk_alloc ?_ _)); exact BK206.out) k_ hn_)), Or.elim hk_ (fun hs_ => ((Kd.R_types (Kd.R_types (Kd.R_types (HO211.out) BK206.out (by decide)) BK207.out (by decide)) BK208.out (by decide)).1 k_ hs_.symm).1.2) (fun hn_ => (Kd.freshB (g := gb207) (o := .cells #[.bool a1_0, .slice A1_1 l1_1.length c1_1] 27 (0, 0)) (by (with_reducible repeat (first | refine blk_drewN ?_ _ | refine blk_drew ?_ | refine blk_alloc ?_ _)); exact BK207.out) k_ hn_)), Or.elim hk_ (fun hs_ => ((Kd.R_types (Kd.R_types (Kd.R_types (HO211.out) BK206.out (by decide)) BK207.out (by decide)) BK208.out (by decide)).1 k_ hs_.symm).2) (fun hn_ => (Kd.freshB (g := gb208) (o := .cells #[.bool false, .slice none 0 0] 27 (0, 0)) (by (with_reducible repeat (first | refine blk_drewN ?_ _ | refine blk_drew ?_ | refine blk_alloc ?_ _)); exact BK208.out) k_ hn_))⟩)) (below_size (by repeat (first | (with_reducible first | exact HB.out | apply below_alloc | apply pw_below_drewN | apply below_drew1 | refine below_set ?_ GE206.out | refine below_set ?_ GE207.out | refine below_set ?_ GE208.out) | exact HB.out))))
  have n2_ := Aside0.mk (blk_below (g := gb206) (o := .cells #[.bool a0_0, .slice A0_1 l0_1.length c0_1] 27 (0, 0)) (by (with_reducible repeat (first | refine blk_drewN ?_ _ | refine blk_drew ?_ | refine blk_alloc ?_ _)); exact BK206.out) hb)
  have n3_ := Aside0.mk (blk_below (g := gb207) (o := .cells #[.bool a1_0, .slice A1_1 l1_1.length c1_1] 27 (0, 0)) (by (with_reducible repeat (first | refine blk_drewN ?_ _ | refine blk_drew ?_ | refine blk_alloc ?_ _)); exact BK207.out) hb)
  have n4_ := Aside0.mk (blk_below (g := gb208) (o := .cells #[.bool false, .slice none 0 0] 27 (0, 0)) (by (with_reducible repeat (first | refine blk_drewN ?_ _ | refine blk_drew ?_ | refine blk_alloc ?_ _)); exact BK208.out) hb)
  have n5_ := Aside0.mk (below_step (by repeat (first | (with_reducible first | exact HB.out | apply below_alloc | apply pw_below_drewN | apply below_drew1 | refine below_set ?_ GE206.out | refine below_set ?_ GE207.out | refine below_set ?_ GE208.out) | exact HB.out)) hb)
  clear HO211 BK206 BK207 BK208 HB
  have HO211 := n0_
  have HO215 := n1_
  have BK206 := n2_
  have BK207 := n3_
  have BK208 := n4_
  have HB := n5_
  clear n0_ n1_ n2_ n3_ n4_ n5_
  (try clear hb)
  (try clear hb2)
  (try clear hk)
  (try clear hi)
  (try clear ho0)
  obtain ⟨Ao19, co19, eo19⟩ := Kd.V_slice HO215.out
  (first | subst eo19 | (injection eo19 with f1_ f2_ f3_; have f4_ := f1_.symm; have f5_ := f3_.symm; clear f1_ f2_ f3_; subst f4_; subst f5_))
  refine hK.out _ _ ⟨(blk_cell BK206.out 0).trans rfl, (blk_cell BK206.out 1).trans rfl, (blk_cell BK207.out 0).trans rfl, (blk_cell BK207.out 1).trans rfl⟩ (fun hHeld => ?_)
  clear hK K
  refine norm_ (a' := ?_) ?_ ?_
  rotate_left
  ·show Act.put _ (some 17) _ = _
   simp only [Act.put, List.setIfInBounds_toArray, List.set_cons_zero, List.set_cons_succ, i64_w, i32_w]
   rfl
  refine one_ (i := 8) (N := none) #[true, true, true, true, true, true, true, true, true] rfl rfl (one_of HT_.out (by kernel_rfl)) (by decide) (fun K hK => ?_)
  have hs18 : w17.cell? ⟨gb208, 0, none⟩ = some (.bool false) := (blk_cell BK208.out 0).trans rfl
  have hfs18 := blk_frozen BK208.out 0
  have hns18_0 := NB206_208.out
  have hns18_1 := NB207_208.out
  have hms18_0 := NB208_206.out
  have hms18_1 := NB208_207.out
  have hs20 : w17.cell? ⟨gb208, 1, none⟩ = some (.slice none 0 0) := (blk_cell BK208.out 1).trans rfl
  have hfs20 := blk_frozen BK208.out 1
  have hns20_0 := NB206_208.out
  have hns20_1 := NB207_208.out
  have hms20_0 := NB208_206.out
  have hms20_1 := NB208_207.out
  refine skip_ (w1 := ?_) (by rfl) rfl ?_ ?_
  rotate_left
  ·go_simp
   rfl
  refine hK.out _ _ ⟨((cell_far (p := ⟨gb208, _, none⟩) NB206_208.out _).trans (((cell_far (p := ⟨gb208, _, none⟩) NB206_208.out _).trans (hHeld.1)))), ((cell_far (p := ⟨gb208, _, none⟩) NB206_208.out _).trans (((cell_far (p := ⟨gb208, _, none⟩) NB206_208.out _).trans (hHeld.2.1)))), ((cell_far (p := ⟨gb208, _, none⟩) NB207_208.out _).trans (((cell_far (p := ⟨gb208, _, none⟩) NB207_208.out _).trans (hHeld.2.2.1)))), ((cell_far (p := ⟨gb208, _, none⟩) NB207_208.out _).trans (((cell_far (p := ⟨gb208, _, none⟩) NB207_208.out _).trans (hHeld.2.2.2))))⟩ (fun hHeld => ?_)
  clear hK K
  refine done_ (done_of HT_.out (by kernel_rfl)) ?_
  try go_wp2
  refine bodyPost_ret (results_cell_row rfl _ _ gb208 27 #[.bool t212, .slice Ao19 t213.length co19] (0, 0) _ rfl (by (with_reducible repeat (first | refine blk_drewN ?_ _ | refine blk_drew ?_ | refine blk_alloc ?_ _)); refine blk_put (cs := #[.bool t212, .slice none 0 0]) ?_ 1 _ rfl; (with_reducible repeat (first | refine blk_drewN ?_ _ | refine blk_drew ?_ | refine blk_alloc ?_ _)); refine blk_put (cs := #[.bool false, .slice none 0 0]) ?_ 0 _ rfl; (with_reducible repeat (first | refine blk_drewN ?_ _ | refine blk_drew ?_ | refine blk_alloc ?_ _)); exact BK208.out) Tryz.underlying27 rfl (by kernel_rfl)) rfl ?_
  exact ⟨_, by first | rfl | (simp [errW_none, errW_some] <;> rfl) | (simp [*, errW_none, errW_some] <;> rfl), by (with_reducible repeat (first | apply Kd.V_alloc | apply Kd.V_drewN | apply Kd.V_drew)); exact Kd.V_mono (Kd.V_far (p := ⟨gb208, 1, none⟩) (Kd.V_far (p := ⟨gb208, 0, none⟩) (Kd.V_mono HO215.out (fun k_ hk => (⟨hk, hk.2.2.2⟩ : _ ∧ k_ ≠ gb208))) (fun _ hk => hk.2) (.bool t212)) (fun _ hk => hk.2) (.slice Ao19 t213.length co19)) (fun _ hk => hk.1.1), by repeat (first | (with_reducible first | exact HB.out | apply below_alloc | apply pw_below_drewN | apply below_drew1 | refine below_set ?_ GE206.out | refine below_set ?_ GE207.out | refine below_set ?_ GE208.out) | exact HB.out)⟩
 ·rw [if_neg c3] at H
  have c3b0 : (a0_0 == a1_0) = false := by simpa using c3
  (try (have c3b1 : decide (a0_0 = a1_0) = false := by simpa using c3))
  (try (have c3b2 : (a0_0 == a1_0) = false := by simpa using c3))
  (try (have c3b3 : ¬ (a0_0 = a1_0) := by simpa using c3))
  clear c3
  replace H := Option.bind_eq_some_iff.mp H
  obtain ⟨t216, A210, H⟩ := H
  replace H : (if t216 ≥ 0 then ((spec_magSub.f k l0_1 l1_1).bind fun t217 => ((spec_wide.f k a0_0 t217).bind fun bt220 => (some (bt220.1, bt220.2)))) else ((spec_magSub.f k l1_1 l0_1).bind fun t224 => ((spec_wide.f k a1_0 t224).bind fun bt227 => (some (bt227.1, bt227.2))))) = some (r1, r2) := H
  have A21 := Aside0.mk A210
  clear A210
  by_cases c22 : t216 ≥ 0
  ·rw [if_pos c22] at H
   have c22b0 : decide (0 ≤ t216) = true := decide_eq_true c22
   clear c22
   replace H := Option.bind_eq_some_iff.mp H
   obtain ⟨t217, A230, H⟩ := H
   replace H : ((spec_wide.f k a0_0 t217).bind fun bt220 => (some (bt220.1, bt220.2))) = some (r1, r2) := H
   have A23 := Aside0.mk A230
   clear A230
   replace H := Option.bind_eq_some_iff.mp H
   obtain ⟨⟨t220, t221⟩, A240, H⟩ := H
   replace H : (some (t220, t221)) = some (r1, r2) := H
   have A24 := Aside0.mk A240
   clear A240
   simp only [Option.some.injEq, Prod.mk.injEq] at H
   obtain ⟨rfl, rfl⟩ := H
   go_enter Tryz.func25, Tryz.ntmps25
   try go_wp2_with (first | ((with_reducible refine gate_dst (N := 2) rfl ?_); refine box_event ?hg (N := 2) ?hd (cs := #[.bool a0_0, .slice A0_1 l0_1.length c0_1]) (t := 27) ?hr ?_; (case hd => rfl); (case hg => rfl); (case hr => first | (go_simp; done) | (go_simp; rfl)); intro gb206 hg w25 hbox hb; have n0_ := Aside0.mk (below_step (by repeat (first | (with_reducible first | exact HB.out | apply below_alloc | apply pw_below_drewN | apply below_drew1) | exact HB.out)) hb); have n1_ := Aside0.mk (hbox); have n2_ := Aside0.mk ((by rw [hg]; exact (below_size (by repeat (first | (with_reducible first | exact HB.out | apply below_alloc | apply pw_below_drewN | apply below_drew1) | exact HB.out))) : w.heap.size ≤ gb206)); have n3_ := Aside0.mk ((by rw [hg]; exact (below_size (by repeat (first | (with_reducible first | exact HB.out | apply below_alloc | apply pw_below_drewN | apply below_drew1) | exact HB.out))) : w.heap.size ≤ gb206)); clear HB; have HB := n0_; have BK206 := n1_; have GW206 := n2_; have GE206 := n3_; clear n0_ n1_ n2_ n3_; clear hb hbox hg) | ((with_reducible refine gate_dst (N := 3) rfl ?_); refine box_event ?hg (N := 3) ?hd (cs := #[.bool a1_0, .slice A1_1 l1_1.length c1_1]) (t := 27) ?hr ?_; (case hd => rfl); (case hg => rfl); (case hr => first | (go_simp; done) | (go_simp; rfl)); intro gb207 hg w26 hbox hb; have n0_ := Aside0.mk (blk_below (g := gb206) (o := .cells #[.bool a0_0, .slice A0_1 l0_1.length c0_1] 27 (0, 0)) (by (with_reducible repeat (first | refine blk_drewN ?_ _ | refine blk_drew ?_ | refine blk_alloc ?_ _)); exact BK206.out) hb); have n1_ := Aside0.mk (below_step (by repeat (first | (with_reducible first | exact HB.out | apply below_alloc | apply pw_below_drewN | apply below_drew1 | refine below_set ?_ GE206.out) | exact HB.out)) hb); have n2_ := Aside0.mk (hbox); have n3_ := Aside0.mk ((by rw [hg]; exact (below_size (by repeat (first | (with_reducible first | exact HB.out | apply below_alloc | apply pw_below_drewN | apply below_drew1 | refine below_set ?_ GE206.out) | exact HB.out))) : w.heap.size ≤ gb207)); have n4_ := Aside0.mk ((by rw [hg]; exact (below_size (by repeat (first | (with_reducible first | exact HB.out | apply below_alloc | apply pw_below_drewN | apply below_drew1 | refine below_set ?_ GE206.out) | exact HB.out))) : w.heap.size ≤ gb207)); have n5_ := Aside0.mk ((by rw [hg]; exact Nat.ne_of_lt (blk_lt (g := gb206) (o := .cells #[.bool a0_0, .slice A0_1 l0_1.length c0_1] 27 (0, 0)) (by (with_reducible repeat (first | refine blk_drewN ?_ _ | refine blk_drew ?_ | refine blk_alloc ?_ _)); exact BK206.out)) : gb206 ≠ gb207)); have n6_ := Aside0.mk ((by rw [hg]; exact Nat.ne_of_gt (blk_lt (g := gb206) (o := .cells #[.bool a0_0, .slice A0_1 l0_1.length c0_1] 27 (0, 0)) (by (with_reducible repeat (first | refine blk_drewN ?_ _ | refine blk_drew ?_ | refine blk_alloc ?_ _)); exact BK206.out)) : gb207 ≠ gb206)); clear BK206; clear HB; have BK206 := n0_; have HB := n1_; have BK207 := n2_; have GW207 := n3_; have GE207 := n4_; have NB206_207 := n5_; have NB207_206 := n6_; clear n0_ n1_ n2_ n3_ n4_ n5_ n6_; clear hb hbox hg) | ((with_reducible refine gate_dst (N := 4) rfl ?_); refine box_event ?hg (N := 4) ?hd (cs := #[.bool false, .slice none 0 0]) (t := 27) ?hr ?_; (case hd => rfl); (case hg => rfl); (case hr => first | (go_simp; done) | (go_simp; rfl)); intro gb208 hg w27 hbox hb; have n0_ := Aside0.mk (blk_below (g := gb206) (o := .cells #[.bool a0_0, .slice A0_1 l0_1.length c0_1] 27 (0, 0)) (by (with_reducible repeat (first | refine blk_drewN ?_ _ | refine blk_drew ?_ | refine blk_alloc ?_ _)); exact BK206.out) hb); have n1_ := Aside0.mk (blk_below (g := gb207) (o := .cells #[.bool a1_0, .slice A1_1 l1_1.length c1_1] 27 (0, 0)) (by (with_reducible repeat (first | refine blk_drewN ?_ _ | refine blk_drew ?_ | refine blk_alloc ?_ _)); exact BK207.out) hb); have n2_ := Aside0.mk (below_step (by repeat (first | (with_reducible first | exact HB.out | apply below_alloc | apply pw_below_drewN | apply below_drew1 | refine below_set ?_ GE206.out | refine below_set ?_ GE207.out) | exact HB.out)) hb); have n3_ := Aside0.mk (hbox); have n4_ := Aside0.mk ((by rw [hg]; exact (below_size (by repeat (first | (with_reducible first | exact HB.out | apply below_alloc | apply pw_below_drewN | apply below_drew1 | refine below_set ?_ GE206.out | refine below_set ?_ GE207.out) | exact HB.out))) : w.heap.size ≤ gb208)); have n5_ := Aside0.mk ((by rw [hg]; exact (below_size (by repeat (first | (with_reducible first | exact HB.out | apply below_alloc | apply pw_below_drewN | apply below_drew1 | refine below_set ?_ GE206.out | refine below_set ?_ GE207.out) | exact HB.out))) : w.heap.size ≤ gb208)); have n6_ := Aside0.mk ((by rw [hg]; exact Nat.ne_of_lt (blk_lt (g := gb206) (o := .cells #[.bool a0_0, .slice A0_1 l0_1.length c0_1] 27 (0, 0)) (by (with_reducible repeat (first | refine blk_drewN ?_ _ | refine blk_drew ?_ | refine blk_alloc ?_ _)); exact BK206.out)) : gb206 ≠ gb208)); have n7_ := Aside0.mk ((by rw [hg]; exact Nat.ne_of_gt (blk_lt (g := gb206) (o := .cells #[.bool a0_0, .slice A0_1 l0_1.length c0_1] 27 (0, 0)) (by (with_reducible repeat (first | refine blk_drewN ?_ _ | refine blk_drew ?_ | refine blk_alloc ?_ _)); exact BK206.out)) : gb208 ≠ gb206)); have n8_ := Aside0.mk ((by rw [hg]; exact Nat.ne_of_lt (blk_lt (g := gb207) (o := .cells #[.bool a1_0, .slice A1_1 l1_1.length c1_1] 27 (0, 0)) (by (with_reducible repeat (first | refine blk_drewN ?_ _ | refine blk_drew ?_ | refine blk_alloc ?_ _)); exact BK207.out)) : gb207 ≠ gb208)); have n9_ := Aside0.mk ((by rw [hg]; exact Nat.ne_of_gt (blk_lt (g := gb207) (o := .cells #[.bool a1_0, .slice A1_1 l1_1.length c1_1] 27 (0, 0)) (by (with_reducible repeat (first | refine blk_drewN ?_ _ | refine blk_drew ?_ | refine blk_alloc ?_ _)); exact BK207.out)) : gb208 ≠ gb207)); clear BK206; clear BK207; clear HB; have BK206 := n0_; have BK207 := n1_; have HB := n2_; have BK208 := n3_; have GW208 := n4_; have GE208 := n5_; have NB206_208 := n6_; have NB208_206 := n7_; have NB207_208 := n8_; have NB208_207 := n9_; clear n0_ n1_ n2_ n3_ n4_ n5_ n6_ n7_ n8_ n9_; clear hb hbox hg; have hnb28 := NB206_207.out; have hnc28 := NB207_206.out; have hnb29 := NB206_208.out; have hnc29 := NB208_206.out; have hcz30_0 : w27.cell? ⟨gb206, 0, none⟩ = some (.bool a0_0) := (blk_cell BK206.out 0).trans rfl; have hcz30_1 : w27.cell? ⟨gb206, 1, none⟩ = some (.slice A0_1 l0_1.length c0_1) := (blk_cell BK206.out 1).trans rfl; have hfz30_0 := blk_frozen BK206.out 0; have hfz30_1 := blk_frozen BK206.out 1; have hnb31 := NB207_208.out; have hnc31 := NB208_207.out; have hcz32_0 : w27.cell? ⟨gb207, 0, none⟩ = some (.bool a1_0) := (blk_cell BK207.out 0).trans rfl; have hcz32_1 : w27.cell? ⟨gb207, 1, none⟩ = some (.slice A1_1 l1_1.length c1_1) := (blk_cell BK207.out 1).trans rfl; have hfz32_0 := blk_frozen BK207.out 0; have hfz32_1 := blk_frozen BK207.out 1) | ((with_reducible refine gate_callee (f := 27) rfl ?_); refine goesL_ (some 22) rfl rfl Tryz.func27 (by kernel_rfl) rfl #[.slice A0_1 l0_1.length c0_1, .slice A1_1 l1_1.length c1_1] rfl (by (try simp only [List.map_toArray, List.map_cons, List.map_nil]); first | done | rfl | (simp only [List.length_drop, List.length_take]; rfl)) ?_; (with_reducible refine (spec_magCmp.calls k _ _ l0_1 _ _ l1_1 t216 _ ?side1 ?side2 ?side3 ?side4 A21.out).mono ?_); (case side1 => repeat (first | exact (Kd.C_below HR0_1.out HB.out) | (with_reducible refine Kd.C_alloc ?_ _) | (with_reducible refine Kd.C_drewN ?_ _) | (with_reducible refine Kd.C_drew ?_))); (case side2 => exact HC0_1.out); (case side3 => repeat (first | exact (Kd.C_below HR1_1.out HB.out) | (with_reducible refine Kd.C_alloc ?_ _) | (with_reducible refine Kd.C_drewN ?_ _) | (with_reducible refine Kd.C_drew ?_))); (case side4 => exact HC1_1.out); rintro e w' ⟨rfl, ⟨nd, rfl⟩⟩; refine ⟨_, rfl, ?_⟩; (try (rw [drewN_self w27]; generalize hq_ : World.drewN w27 _ = w27; have n0_ : Aside0 (w27.heap[gb206]? = some (.cells #[.bool a0_0, .slice A0_1 l0_1.length c0_1] 27 (0, 0))) := ⟨by rw [← hq_]; exact (by (with_reducible repeat (first | refine blk_drewN ?_ _ | refine blk_drew ?_ | refine blk_alloc ?_ _)); exact BK206.out)⟩; have n1_ : Aside0 (w27.heap[gb207]? = some (.cells #[.bool a1_0, .slice A1_1 l1_1.length c1_1] 27 (0, 0))) := ⟨by rw [← hq_]; exact (by (with_reducible repeat (first | refine blk_drewN ?_ _ | refine blk_drew ?_ | refine blk_alloc ?_ _)); exact BK207.out)⟩; have n2_ : Aside0 (w27.heap[gb208]? = some (.cells #[.bool false, .slice none 0 0] 27 (0, 0))) := ⟨by rw [← hq_]; exact (by (with_reducible repeat (first | refine blk_drewN ?_ _ | refine blk_drew ?_ | refine blk_alloc ?_ _)); exact BK208.out)⟩; have n3_ : Aside0 (Below w.heap.size w w27) := ⟨by rw [← hq_]; exact (by repeat (first | (with_reducible first | exact HB.out | apply below_alloc | apply pw_below_drewN | apply below_drew1 | refine below_set ?_ GE206.out | refine below_set ?_ GE207.out | refine below_set ?_ GE208.out) | exact HB.out))⟩; clear BK206 BK207 BK208 HB hq_; have BK206 := n0_; have BK207 := n1_; have BK208 := n2_; have HB := n3_; clear n0_ n1_ n2_ n3_))))
   have n0_ := Aside0.mk (blk_drew BK206.out)
   have n1_ := Aside0.mk (blk_drew BK207.out)
   have n2_ := Aside0.mk (blk_drew BK208.out)
   have n3_ := Aside0.mk (below_drew1 HB.out)
   clear BK206 BK207 BK208 HB
   have BK206 := n0_
   have BK207 := n1_
   have BK208 := n2_
   have HB := n3_
   clear n0_ n1_ n2_ n3_
   refine start_ (n := 9) (S := fun w' => w'.cell? ⟨gb206, 0, none⟩ = some (.bool a0_0) ∧ w'.cell? ⟨gb206, 1, none⟩ = some (.slice A0_1 l0_1.length c0_1) ∧ w'.cell? ⟨gb207, 0, none⟩ = some (.bool a1_0) ∧ w'.cell? ⟨gb207, 1, none⟩ = some (.slice A1_1 l1_1.length c1_1)) (ds := []) #[false, false, false, false, false, false, false, false, false] (by kernel_rfl) rfl rfl ⟨(blk_cell BK206.out 0).trans rfl, (blk_cell BK206.out 1).trans rfl, (blk_cell BK207.out 0).trans rfl, (blk_cell BK207.out 1).trans rfl⟩ (fun hHeld => ?_); refine with_tabW spec_WideAdd.tab4 spec_WideAdd.bits4 (fun HT_ HW_ => ?_)
   generalize w27.drew = w33 at BK206 BK207 BK208 HB hHeld ⊢
   refine pure_ (i := 0) (N := some 24) (v := ?_) (a' := ?_) #[true, false, false, false, false, false, false, false, false] rfl rfl (any_of HT_.out (by kernel_rfl)) (fun _ _ _ h => h) (Or.inl ⟨by rfl, ?_⟩) ?_ ?_
   rotate_left
   ·intro w'
    go_simp
    with_reducible rfl
   rotate_left
   ·simp only [Act.put, List.setIfInBounds_toArray, List.set_cons_zero, List.set_cons_succ, i64_w, i32_w]
    rfl
   refine pure_ (i := 2) (N := some 26) (v := ?_) (a' := ?_) #[true, false, true, false, false, false, false, false, false] rfl rfl (any_of HT_.out (by kernel_rfl)) (fun _ _ _ h => h) (Or.inl ⟨by rfl, ?_⟩) ?_ ?_
   rotate_left
   ·intro w'
    go_simp
    with_reducible rfl
   rotate_left
   ·simp only [Act.put, List.setIfInBounds_toArray, List.set_cons_zero, List.set_cons_succ, i64_w, i32_w]
    rfl
   refine pure_ (i := 4) (N := some 28) (v := ?_) (a' := ?_) #[true, false, true, false, true, false, false, false, false] rfl rfl (any_of HT_.out (by kernel_rfl)) (fun _ _ _ h => h) (Or.inl ⟨by rfl, ?_⟩) ?_ ?_
   rotate_left
   ·intro w'
    go_simp
    with_reducible rfl
   rotate_left
   ·simp only [Act.put, List.setIfInBounds_toArray, List.set_cons_zero, List.set_cons_succ, i64_w, i32_w]
    rfl
   refine take_ (i := 1) (N := some 25) (v := ?_) (a' := ?_) #[true, true, true, false, true, false, false, false, false] rfl rfl (take_ofW HT_.out HW_.out (by kernel_rfl)) (fun _ _ _ h => h) (Or.inl ⟨by rfl, ?_⟩) hHeld ?_ ?_
   rotate_left
   ·rintro w' ⟨s0, s1, s2, s3⟩
    go_simp
    with_reducible rfl
   rotate_left
   ·simp only [Act.put, List.setIfInBounds_toArray, List.set_cons_zero, List.set_cons_succ, i64_w, i32_w]
    rfl
   refine take_ (i := 3) (N := some 27) (v := ?_) (a' := ?_) #[true, true, true, true, true, false, false, false, false] rfl rfl (take_ofW HT_.out HW_.out (by kernel_rfl)) (fun _ _ _ h => h) (Or.inl ⟨by rfl, ?_⟩) hHeld ?_ ?_
   rotate_left
   ·rintro w' ⟨s0, s1, s2, s3⟩
    go_simp
    with_reducible rfl
   rotate_left
   ·simp only [Act.put, List.setIfInBounds_toArray, List.set_cons_zero, List.set_cons_succ, i64_w, i32_w]
    rfl
   refine take_ (i := 5) (N := some 29) (v := ?_) (a' := ?_) #[true, true, true, true, true, true, false, false, false] rfl rfl (take_ofW HT_.out HW_.out (by kernel_rfl)) (fun _ _ _ h => h) (Or.inl ⟨by rfl, ?_⟩) hHeld ?_ ?_
   rotate_left
   ·rintro w' ⟨s0, s1, s2, s3⟩
    go_simp
    with_reducible rfl
   rotate_left
   ·simp only [Act.put, List.setIfInBounds_toArray, List.set_cons_zero, List.set_cons_succ, i64_w, i32_w]
    rfl
   refine one_ (i := 6) (N := some 30) #[true, true, true, true, true, true, true, false, false] rfl rfl (one_of HT_.out (by kernel_rfl)) (by decide) (fun K hK => ?_)
   refine goes_ Tryz.func50 (by kernel_rfl) rfl #[.slice A0_1 l0_1.length c0_1, .slice A1_1 l1_1.length c1_1] (by rfl) rfl rfl (by (try simp only [List.map_toArray, List.map_cons, List.map_nil]); first | done | rfl | (simp only [List.length_drop, List.length_take]; rfl)) ?_
   with_reducible refine (spec_magSub.calls k _ _ l0_1 _ _ l1_1 t217 _ ?side1 ?side2 ?side3 ?side4 A23.out).mono ?_
   (case side1 => repeat (first | exact (Kd.C_below HR0_1.out HB.out) | (with_reducible refine Kd.C_alloc ?_ _) | (with_reducible refine Kd.C_drewN ?_ _) | (with_reducible refine Kd.C_drew ?_)))
   (case side2 => exact HC0_1.out)
   (case side3 => repeat (first | exact (Kd.C_below HR1_1.out HB.out) | (with_reducible refine Kd.C_alloc ?_ _) | (with_reducible refine Kd.C_drewN ?_ _) | (with_reducible refine Kd.C_drew ?_)))
   (case side4 => exact HC1_1.out)
   rintro e w34 ⟨v218, rfl, ho0, hb⟩
   refine ⟨_, rfl, ?_⟩
   have n0_ := Aside0.mk (Kd.V_lower (Kd.V_mono (ok' := fun k_ => (w.heap.size ≤ k_) ∧ k_ ≠ gb206 ∧ k_ ≠ gb207 ∧ k_ ≠ gb208) ho0 (fun k_ hk_ => ⟨(Nat.le_trans (below_size (by repeat (first | (with_reducible first | exact HB.out | apply below_alloc | apply pw_below_drewN | apply below_drew1 | refine below_set ?_ GE206.out | refine below_set ?_ GE207.out | refine below_set ?_ GE208.out) | exact HB.out))) hk_), (Kd.freshB (g := gb206) (o := .cells #[.bool a0_0, .slice A0_1 l0_1.length c0_1] 27 (0, 0)) (by (with_reducible repeat (first | refine blk_drewN ?_ _ | refine blk_drew ?_ | refine blk_alloc ?_ _)); exact BK206.out) k_ hk_), (Kd.freshB (g := gb207) (o := .cells #[.bool a1_0, .slice A1_1 l1_1.length c1_1] 27 (0, 0)) (by (with_reducible repeat (first | refine blk_drewN ?_ _ | refine blk_drew ?_ | refine blk_alloc ?_ _)); exact BK207.out) k_ hk_), (Kd.freshB (g := gb208) (o := .cells #[.bool false, .slice none 0 0] 27 (0, 0)) (by (with_reducible repeat (first | refine blk_drewN ?_ _ | refine blk_drew ?_ | refine blk_alloc ?_ _)); exact BK208.out) k_ hk_)⟩)) (below_size (by repeat (first | (with_reducible first | exact HB.out | apply below_alloc | apply pw_below_drewN | apply below_drew1 | refine below_set ?_ GE206.out | refine below_set ?_ GE207.out | refine below_set ?_ GE208.out) | exact HB.out))))
   have n1_ := Aside0.mk (blk_below (g := gb206) (o := .cells #[.bool a0_0, .slice A0_1 l0_1.length c0_1] 27 (0, 0)) (by (with_reducible repeat (first | refine blk_drewN ?_ _ | refine blk_drew ?_ | refine blk_alloc ?_ _)); exact BK206.out) hb)
   have n2_ := Aside0.mk (blk_below (g := gb207) (o := .cells #[.bool a1_0, .slice A1_1 l1_1.length c1_1] 27 (0, 0)) (by (with_reducible repeat (first | refine blk_drewN ?_ _ | refine blk_drew ?_ | refine blk_alloc ?_ _)); exact BK207.out) hb)
   have n3_ := Aside0.mk (blk_below (g := gb208) (o := .cells #[.bool false, .slice none 0 0] 27 (0, 0)) (by (with_reducible repeat (first | refine blk_drewN ?_ _ | refine blk_drew ?_ | refine blk_alloc ?_ _)); exact BK208.out) hb)
   have n4_ := Aside0.mk (below_step (by repeat (first | (with_reducible first | exact HB.out | apply below_alloc | apply pw_below_drewN | apply below_drew1 | refine below_set ?_ GE206.out | refine below_set ?_ GE207.out | refine below_set ?_ GE208.out) | exact HB.out)) hb)
   clear BK206 BK207 BK208 HB
   have HO219 := n0_
   have BK206 := n1_
   have BK207 := n2_
   have BK208 := n3_
   have HB := n4_
   clear n0_ n1_ n2_ n3_ n4_
   (try clear hb)
   (try clear hb2)
   (try clear hk)
   (try clear hi)
   (try clear ho0)
   obtain ⟨Ao35, co35, eo35⟩ := Kd.V_slice HO219.out
   (first | subst eo35 | (injection eo35 with f1_ f2_ f3_; have f4_ := f1_.symm; have f5_ := f3_.symm; clear f1_ f2_ f3_; subst f4_; subst f5_))
   refine hK.out _ _ ⟨(blk_cell BK206.out 0).trans rfl, (blk_cell BK206.out 1).trans rfl, (blk_cell BK207.out 0).trans rfl, (blk_cell BK207.out 1).trans rfl⟩ (fun hHeld => ?_)
   clear hK K
   refine norm_ (a' := ?_) ?_ ?_
   rotate_left
   ·show Act.put _ (some 30) _ = _
    simp only [Act.put, List.setIfInBounds_toArray, List.set_cons_zero, List.set_cons_succ, i64_w, i32_w]
    rfl
   refine one_ (i := 7) (N := some 31) #[true, true, true, true, true, true, true, true, false] rfl rfl (one_of HT_.out (by kernel_rfl)) (by decide) (fun K hK => ?_)
   refine goes_ Tryz.func24 (by kernel_rfl) rfl #[.bool a0_0, .slice Ao35 t217.length co35] (by rfl) rfl rfl (by (try simp only [List.map_toArray, List.map_cons, List.map_nil]); first | done | rfl | (simp only [List.length_drop, List.length_take]; rfl)) ?_
   with_reducible refine (spec_wide.calls k a0_0 (fun k_ => ((w.heap.size ≤ k_) ∧ (k_ ≠ gb206 ∧ (k_ ≠ gb207 ∧ k_ ≠ gb208)))) _ _ t217 t220 t221 _ ?side1 A24.out).mono ?_
   (case side1 => exact HO219.out)
   rintro e w36 ⟨v222, rfl, ho0, hb⟩
   refine ⟨_, rfl, ?_⟩
   have n0_ := Aside0.mk (Kd.V_below (by (with_reducible repeat (first | apply Kd.V_alloc | apply Kd.V_drewN | apply Kd.V_drew)); exact HO219.out) hb)
   have n1_ := Aside0.mk (Kd.V_lower (Kd.V_mono (ok' := fun k_ => (w.heap.size ≤ k_) ∧ k_ ≠ gb206 ∧ k_ ≠ gb207 ∧ k_ ≠ gb208) ho0 (fun k_ hk_ => ⟨Or.elim hk_ (fun hs_ => hs_.1) (fun hn_ => (Nat.le_trans (below_size (by repeat (first | (with_reducible first | exact HB.out | apply below_alloc | apply pw_below_drewN | apply below_drew1 | refine below_set ?_ GE206.out | refine below_set ?_ GE207.out | refine below_set ?_ GE208.out) | exact HB.out))) hn_)), Or.elim hk_ (fun hs_ => hs_.2.1) (fun hn_ => (Kd.freshB (g := gb206) (o := .cells #[.bool a0_0, .slice A0_1 l0_1.length c0_1] 27 (0, 0)) (by (with_reducible repeat (first | refine blk_drewN ?_ _ | refine blk_drew ?_ | refine blk_alloc ?_ _)); exact BK206.out) k_ hn_)), Or.elim hk_ (fun hs_ => hs_.2.2.1) (fun hn_ => (Kd.freshB (g := gb207) (o := .cells #[.bool a1_0, .slice A1_1 l1_1.length c1_1] 27 (0, 0)) (by (with_reducible repeat (first | refine blk_drewN ?_ _ | refine blk_drew ?_ | refine blk_alloc ?_ _)); exact BK207.out) k_ hn_)), Or.elim hk_ (fun hs_ => hs_.2.2.2) (fun hn_ => (Kd.freshB (g := gb208) (o := .cells #[.bool false, .slice none 0 0] 27 (0, 0)) (by (with_reducible repeat (first | refine blk_drewN ?_ _ | refine blk_drew ?_ | refine blk_alloc ?_ _)); exact BK208.out) k_ hn_))⟩)) (below_size (by repeat (first | (with_reducible first | exact HB.out | apply below_alloc | apply pw_below_drewN | apply below_drew1 | refine below_set ?_ GE206.out | refine below_set ?_ GE207.out | refine below_set ?_ GE208.out) | exact HB.out))))
   have n2_ := Aside0.mk (blk_below (g := gb206) (o := .cells #[.bool a0_0, .slice A0_1 l0_1.length c0_1] 27 (0, 0)) (by (with_reducible repeat (first | refine blk_drewN ?_ _ | refine blk_drew ?_ | refine blk_alloc ?_ _)); exact BK206.out) hb)
   have n3_ := Aside0.mk (blk_below (g := gb207) (o := .cells #[.bool a1_0, .slice A1_1 l1_1.length c1_1] 27 (0, 0)) (by (with_reducible repeat (first | refine blk_drewN ?_ _ | refine blk_drew ?_ | refine blk_alloc ?_ _)); exact BK207.out) hb)
   have n4_ := Aside0.mk (blk_below (g := gb208) (o := .cells #[.bool false, .slice none 0 0] 27 (0, 0)) (by (with_reducible repeat (first | refine blk_drewN ?_ _ | refine blk_drew ?_ | refine blk_alloc ?_ _)); exact BK208.out) hb)
   have n5_ := Aside0.mk (below_step (by repeat (first | (with_reducible first | exact HB.out | apply below_alloc | apply pw_below_drewN | apply below_drew1 | refine below_set ?_ GE206.out | refine below_set ?_ GE207.out | refine below_set ?_ GE208.out) | exact HB.out)) hb)
   clear HO219 BK206 BK207 BK208 HB
   have HO219 := n0_
   have HO223 := n1_
   have BK206 := n2_
   have BK207 := n3_
   have BK208 := n4_
   have HB := n5_
   clear n0_ n1_ n2_ n3_ n4_ n5_
   (try clear hb)
   (try clear hb2)
   (try clear hk)
   (try clear hi)
   (try clear ho0)
   obtain ⟨Ao38, co38, eo38⟩ := Kd.V_slice HO223.out
   (first | subst eo38 | (injection eo38 with f1_ f2_ f3_; have f4_ := f1_.symm; have f5_ := f3_.symm; clear f1_ f2_ f3_; subst f4_; subst f5_))
   refine hK.out _ _ ⟨(blk_cell BK206.out 0).trans rfl, (blk_cell BK206.out 1).trans rfl, (blk_cell BK207.out 0).trans rfl, (blk_cell BK207.out 1).trans rfl⟩ (fun hHeld => ?_)
   clear hK K
   refine norm_ (a' := ?_) ?_ ?_
   rotate_left
   ·show Act.put _ (some 31) _ = _
    simp only [Act.put, List.setIfInBounds_toArray, List.set_cons_zero, List.set_cons_succ, i64_w, i32_w]
    rfl
   refine one_ (i := 8) (N := none) #[true, true, true, true, true, true, true, true, true] rfl rfl (one_of HT_.out (by kernel_rfl)) (by decide) (fun K hK => ?_)
   have hs37 : w36.cell? ⟨gb208, 0, none⟩ = some (.bool false) := (blk_cell BK208.out 0).trans rfl
   have hfs37 := blk_frozen BK208.out 0
   have hns37_0 := NB206_208.out
   have hns37_1 := NB207_208.out
   have hms37_0 := NB208_206.out
   have hms37_1 := NB208_207.out
   have hs39 : w36.cell? ⟨gb208, 1, none⟩ = some (.slice none 0 0) := (blk_cell BK208.out 1).trans rfl
   have hfs39 := blk_frozen BK208.out 1
   have hns39_0 := NB206_208.out
   have hns39_1 := NB207_208.out
   have hms39_0 := NB208_206.out
   have hms39_1 := NB208_207.out
   refine skip_ (w1 := ?_) (by rfl) rfl ?_ ?_
   rotate_left
   ·go_simp
    rfl
   refine hK.out _ _ ⟨((cell_far (p := ⟨gb208, _, none⟩) NB206_208.out _).trans (((cell_far (p := ⟨gb208, _, none⟩) NB206_208.out _).trans (hHeld.1)))), ((cell_far (p := ⟨gb208, _, none⟩) NB206_208.out _).trans (((cell_far (p := ⟨gb208, _, none⟩) NB206_208.out _).trans (hHeld.2.1)))), ((cell_far (p := ⟨gb208, _, none⟩) NB207_208.out _).trans (((cell_far (p := ⟨gb208, _, none⟩) NB207_208.out _).trans (hHeld.2.2.1)))), ((cell_far (p := ⟨gb208, _, none⟩) NB207_208.out _).trans (((cell_far (p := ⟨gb208, _, none⟩) NB207_208.out _).trans (hHeld.2.2.2))))⟩ (fun hHeld => ?_)
   clear hK K
   refine done_ (done_of HT_.out (by kernel_rfl)) ?_
   try go_wp2
   refine bodyPost_ret (results_cell_row rfl _ _ gb208 27 #[.bool t220, .slice Ao38 t221.length co38] (0, 0) _ rfl (by (with_reducible repeat (first | refine blk_drewN ?_ _ | refine blk_drew ?_ | refine blk_alloc ?_ _)); refine blk_put (cs := #[.bool t220, .slice none 0 0]) ?_ 1 _ rfl; (with_reducible repeat (first | refine blk_drewN ?_ _ | refine blk_drew ?_ | refine blk_alloc ?_ _)); refine blk_put (cs := #[.bool false, .slice none 0 0]) ?_ 0 _ rfl; (with_reducible repeat (first | refine blk_drewN ?_ _ | refine blk_drew ?_ | refine blk_alloc ?_ _)); exact BK208.out) Tryz.underlying27 rfl (by kernel_rfl)) rfl ?_
   exact ⟨_, by first | rfl | (simp [errW_none, errW_some] <;> rfl) | (simp [*, errW_none, errW_some] <;> rfl), by (with_reducible repeat (first | apply Kd.V_alloc | apply Kd.V_drewN | apply Kd.V_drew)); exact Kd.V_mono (Kd.V_far (p := ⟨gb208, 1, none⟩) (Kd.V_far (p := ⟨gb208, 0, none⟩) (Kd.V_mono HO223.out (fun k_ hk => (⟨hk, hk.2.2.2⟩ : _ ∧ k_ ≠ gb208))) (fun _ hk => hk.2) (.bool t220)) (fun _ hk => hk.2) (.slice Ao38 t221.length co38)) (fun _ hk => hk.1.1), by repeat (first | (with_reducible first | exact HB.out | apply below_alloc | apply pw_below_drewN | apply below_drew1 | refine below_set ?_ GE206.out | refine below_set ?_ GE207.out | refine below_set ?_ GE208.out) | exact HB.out)⟩
  ·rw [if_neg c22] at H
   have c22b0 : decide (0 ≤ t216) = false := decide_eq_false c22
   clear c22
   replace H := Option.bind_eq_some_iff.mp H
   obtain ⟨t224, A400, H⟩ := H
   replace H : ((spec_wide.f k a1_0 t224).bind fun bt227 => (some (bt227.1, bt227.2))) = some (r1, r2) := H
   have A40 := Aside0.mk A400
   clear A400
   replace H := Option.bind_eq_some_iff.mp H
   obtain ⟨⟨t227, t228⟩, A410, H⟩ := H
   replace H : (some (t227, t228)) = some (r1, r2) := H
   have A41 := Aside0.mk A410
   clear A410
   simp only [Option.some.injEq, Prod.mk.injEq] at H
   obtain ⟨rfl, rfl⟩ := H
   go_enter Tryz.func25, Tryz.ntmps25
   try go_wp2_with (first | ((with_reducible refine gate_dst (N := 2) rfl ?_); refine box_event ?hg (N := 2) ?hd (cs := #[.bool a0_0, .slice A0_1 l0_1.length c0_1]) (t := 27) ?hr ?_; (case hd => rfl); (case hg => rfl); (case hr => first | (go_simp; done) | (go_simp; rfl)); intro gb206 hg w42 hbox hb; have n0_ := Aside0.mk (below_step (by repeat (first | (with_reducible first | exact HB.out | apply below_alloc | apply pw_below_drewN | apply below_drew1) | exact HB.out)) hb); have n1_ := Aside0.mk (hbox); have n2_ := Aside0.mk ((by rw [hg]; exact (below_size (by repeat (first | (with_reducible first | exact HB.out | apply below_alloc | apply pw_below_drewN | apply below_drew1) | exact HB.out))) : w.heap.size ≤ gb206)); have n3_ := Aside0.mk ((by rw [hg]; exact (below_size (by repeat (first | (with_reducible first | exact HB.out | apply below_alloc | apply pw_below_drewN | apply below_drew1) | exact HB.out))) : w.heap.size ≤ gb206)); clear HB; have HB := n0_; have BK206 := n1_; have GW206 := n2_; have GE206 := n3_; clear n0_ n1_ n2_ n3_; clear hb hbox hg) | ((with_reducible refine gate_dst (N := 3) rfl ?_); refine box_event ?hg (N := 3) ?hd (cs := #[.bool a1_0, .slice A1_1 l1_1.length c1_1]) (t := 27) ?hr ?_; (case hd => rfl); (case hg => rfl); (case hr => first | (go_simp; done) | (go_simp; rfl)); intro gb207 hg w43 hbox hb; have n0_ := Aside0.mk (blk_below (g := gb206) (o := .cells #[.bool a0_0, .slice A0_1 l0_1.length c0_1] 27 (0, 0)) (by (with_reducible repeat (first | refine blk_drewN ?_ _ | refine blk_drew ?_ | refine blk_alloc ?_ _)); exact BK206.out) hb); have n1_ := Aside0.mk (below_step (by repeat (first | (with_reducible first | exact HB.out | apply below_alloc | apply pw_below_drewN | apply below_drew1 | refine below_set ?_ GE206.out) | exact HB.out)) hb); have n2_ := Aside0.mk (hbox); have n3_ := Aside0.mk ((by rw [hg]; exact (below_size (by repeat (first | (with_reducible first | exact HB.out | apply below_alloc | apply pw_below_drewN | apply below_drew1 | refine below_set ?_ GE206.out) | exact HB.out))) : w.heap.size ≤ gb207)); have n4_ := Aside0.mk ((by rw [hg]; exact (below_size (by repeat (first | (with_reducible first | exact HB.out | apply below_alloc | apply pw_below_drewN | apply below_drew1 | refine below_set ?_ GE206.out) | exact HB.out))) : w.heap.size ≤ gb207)); have n5_ := Aside0.mk ((by rw [hg]; exact Nat.ne_of_lt (blk_lt (g := gb206) (o := .cells #[.bool a0_0, .slice A0_1 l0_1.length c0_1] 27 (0, 0)) (by (with_reducible repeat (first | refine blk_drewN ?_ _ | refine blk_drew ?_ | refine blk_alloc ?_ _)); exact BK206.out)) : gb206 ≠ gb207)); have n6_ := Aside0.mk ((by rw [hg]; exact Nat.ne_of_gt (blk_lt (g := gb206) (o := .cells #[.bool a0_0, .slice A0_1 l0_1.length c0_1] 27 (0, 0)) (by (with_reducible repeat (first | refine blk_drewN ?_ _ | refine blk_drew ?_ | refine blk_alloc ?_ _)); exact BK206.out)) : gb207 ≠ gb206)); clear BK206; clear HB; have BK206 := n0_; have HB := n1_; have BK207 := n2_; have GW207 := n3_; have GE207 := n4_; have NB206_207 := n5_; have NB207_206 := n6_; clear n0_ n1_ n2_ n3_ n4_ n5_ n6_; clear hb hbox hg) | ((with_reducible refine gate_dst (N := 4) rfl ?_); refine box_event ?hg (N := 4) ?hd (cs := #[.bool false, .slice none 0 0]) (t := 27) ?hr ?_; (case hd => rfl); (case hg => rfl); (case hr => first | (go_simp; done) | (go_simp; rfl)); intro gb208 hg w44 hbox hb; have n0_ := Aside0.mk (blk_below (g := gb206) (o := .cells #[.bool a0_0, .slice A0_1 l0_1.length c0_1] 27 (0, 0)) (by (with_reducible repeat (first | refine blk_drewN ?_ _ | refine blk_drew ?_ | refine blk_alloc ?_ _)); exact BK206.out) hb); have n1_ := Aside0.mk (blk_below (g := gb207) (o := .cells #[.bool a1_0, .slice A1_1 l1_1.length c1_1] 27 (0, 0)) (by (with_reducible repeat (first | refine blk_drewN ?_ _ | refine blk_drew ?_ | refine blk_alloc ?_ _)); exact BK207.out) hb); have n2_ := Aside0.mk (below_step (by repeat (first | (with_reducible first | exact HB.out | apply below_alloc | apply pw_below_drewN | apply below_drew1 | refine below_set ?_ GE206.out | refine below_set ?_ GE207.out) | exact HB.out)) hb); have n3_ := Aside0.mk (hbox); have n4_ := Aside0.mk ((by rw [hg]; exact (below_size (by repeat (first | (with_reducible first | exact HB.out | apply below_alloc | apply pw_below_drewN | apply below_drew1 | refine below_set ?_ GE206.out | refine below_set ?_ GE207.out) | exact HB.out))) : w.heap.size ≤ gb208)); have n5_ := Aside0.mk ((by rw [hg]; exact (below_size (by repeat (first | (with_reducible first | exact HB.out | apply below_alloc | apply pw_below_drewN | apply below_drew1 | refine below_set ?_ GE206.out | refine below_set ?_ GE207.out) | exact HB.out))) : w.heap.size ≤ gb208)); have n6_ := Aside0.mk ((by rw [hg]; exact Nat.ne_of_lt (blk_lt (g := gb206) (o := .cells #[.bool a0_0, .slice A0_1 l0_1.length c0_1] 27 (0, 0)) (by (with_reducible repeat (first | refine blk_drewN ?_ _ | refine blk_drew ?_ | refine blk_alloc ?_ _)); exact BK206.out)) : gb206 ≠ gb208)); have n7_ := Aside0.mk ((by rw [hg]; exact Nat.ne_of_gt (blk_lt (g := gb206) (o := .cells #[.bool a0_0, .slice A0_1 l0_1.length c0_1] 27 (0, 0)) (by (with_reducible repeat (first | refine blk_drewN ?_ _ | refine blk_drew ?_ | refine blk_alloc ?_ _)); exact BK206.out)) : gb208 ≠ gb206)); have n8_ := Aside0.mk ((by rw [hg]; exact Nat.ne_of_lt (blk_lt (g := gb207) (o := .cells #[.bool a1_0, .slice A1_1 l1_1.length c1_1] 27 (0, 0)) (by (with_reducible repeat (first | refine blk_drewN ?_ _ | refine blk_drew ?_ | refine blk_alloc ?_ _)); exact BK207.out)) : gb207 ≠ gb208)); have n9_ := Aside0.mk ((by rw [hg]; exact Nat.ne_of_gt (blk_lt (g := gb207) (o := .cells #[.bool a1_0, .slice A1_1 l1_1.length c1_1] 27 (0, 0)) (by (with_reducible repeat (first | refine blk_drewN ?_ _ | refine blk_drew ?_ | refine blk_alloc ?_ _)); exact BK207.out)) : gb208 ≠ gb207)); clear BK206; clear BK207; clear HB; have BK206 := n0_; have BK207 := n1_; have HB := n2_; have BK208 := n3_; have GW208 := n4_; have GE208 := n5_; have NB206_208 := n6_; have NB208_206 := n7_; have NB207_208 := n8_; have NB208_207 := n9_; clear n0_ n1_ n2_ n3_ n4_ n5_ n6_ n7_ n8_ n9_; clear hb hbox hg; have hnb45 := NB206_207.out; have hnc45 := NB207_206.out; have hnb46 := NB206_208.out; have hnc46 := NB208_206.out; have hcz47_0 : w44.cell? ⟨gb206, 0, none⟩ = some (.bool a0_0) := (blk_cell BK206.out 0).trans rfl; have hcz47_1 : w44.cell? ⟨gb206, 1, none⟩ = some (.slice A0_1 l0_1.length c0_1) := (blk_cell BK206.out 1).trans rfl; have hfz47_0 := blk_frozen BK206.out 0; have hfz47_1 := blk_frozen BK206.out 1; have hnb48 := NB207_208.out; have hnc48 := NB208_207.out; have hcz49_0 : w44.cell? ⟨gb207, 0, none⟩ = some (.bool a1_0) := (blk_cell BK207.out 0).trans rfl; have hcz49_1 : w44.cell? ⟨gb207, 1, none⟩ = some (.slice A1_1 l1_1.length c1_1) := (blk_cell BK207.out 1).trans rfl; have hfz49_0 := blk_frozen BK207.out 0; have hfz49_1 := blk_frozen BK207.out 1) | ((with_reducible refine gate_callee (f := 27) rfl ?_); refine goesL_ (some 22) rfl rfl Tryz.func27 (by kernel_rfl) rfl #[.slice A0_1 l0_1.length c0_1, .slice A1_1 l1_1.length c1_1] rfl (by (try simp only [List.map_toArray, List.map_cons, List.map_nil]); first | done | rfl | (simp only [List.length_drop, List.length_take]; rfl)) ?_; (with_reducible refine (spec_magCmp.calls k _ _ l0_1 _ _ l1_1 t216 _ ?side1 ?side2 ?side3 ?side4 A21.out).mono ?_); (case side1 => repeat (first | exact (Kd.C_below HR0_1.out HB.out) | (with_reducible refine Kd.C_alloc ?_ _) | (with_reducible refine Kd.C_drewN ?_ _) | (with_reducible refine Kd.C_drew ?_))); (case side2 => exact HC0_1.out); (case side3 => repeat (first | exact (Kd.C_below HR1_1.out HB.out) | (with_reducible refine Kd.C_alloc ?_ _) | (with_reducible refine Kd.C_drewN ?_ _) | (with_reducible refine Kd.C_drew ?_))); (case side4 => exact HC1_1.out); rintro e w' ⟨rfl, ⟨nd, rfl⟩⟩; refine ⟨_, rfl, ?_⟩; (try (rw [drewN_self w44]; generalize hq_ : World.drewN w44 _ = w44; have n0_ : Aside0 (w44.heap[gb206]? = some (.cells #[.bool a0_0, .slice A0_1 l0_1.length c0_1] 27 (0, 0))) := ⟨by rw [← hq_]; exact (by (with_reducible repeat (first | refine blk_drewN ?_ _ | refine blk_drew ?_ | refine blk_alloc ?_ _)); exact BK206.out)⟩; have n1_ : Aside0 (w44.heap[gb207]? = some (.cells #[.bool a1_0, .slice A1_1 l1_1.length c1_1] 27 (0, 0))) := ⟨by rw [← hq_]; exact (by (with_reducible repeat (first | refine blk_drewN ?_ _ | refine blk_drew ?_ | refine blk_alloc ?_ _)); exact BK207.out)⟩; have n2_ : Aside0 (w44.heap[gb208]? = some (.cells #[.bool false, .slice none 0 0] 27 (0, 0))) := ⟨by rw [← hq_]; exact (by (with_reducible repeat (first | refine blk_drewN ?_ _ | refine blk_drew ?_ | refine blk_alloc ?_ _)); exact BK208.out)⟩; have n3_ : Aside0 (Below w.heap.size w w44) := ⟨by rw [← hq_]; exact (by repeat (first | (with_reducible first | exact HB.out | apply below_alloc | apply pw_below_drewN | apply below_drew1 | refine below_set ?_ GE206.out | refine below_set ?_ GE207.out | refine below_set ?_ GE208.out) | exact HB.out))⟩; clear BK206 BK207 BK208 HB hq_; have BK206 := n0_; have BK207 := n1_; have BK208 := n2_; have HB := n3_; clear n0_ n1_ n2_ n3_))))
   have n0_ := Aside0.mk (blk_drew BK206.out)
   have n1_ := Aside0.mk (blk_drew BK207.out)
   have n2_ := Aside0.mk (blk_drew BK208.out)
   have n3_ := Aside0.mk (below_drew1 HB.out)
   clear BK206 BK207 BK208 HB
   have BK206 := n0_
   have BK207 := n1_
   have BK208 := n2_
   have HB := n3_
   clear n0_ n1_ n2_ n3_
   refine start_ (n := 9) (S := fun w' => w'.cell? ⟨gb207, 0, none⟩ = some (.bool a1_0) ∧ w'.cell? ⟨gb207, 1, none⟩ = some (.slice A1_1 l1_1.length c1_1) ∧ w'.cell? ⟨gb206, 0, none⟩ = some (.bool a0_0) ∧ w'.cell? ⟨gb206, 1, none⟩ = some (.slice A0_1 l0_1.length c0_1)) (ds := []) #[false, false, false, false, false, false, false, false, false] (by kernel_rfl) rfl rfl ⟨(blk_cell BK207.out 0).trans rfl, (blk_cell BK207.out 1).trans rfl, (blk_cell BK206.out 0).trans rfl, (blk_cell BK206.out 1).trans rfl⟩ (fun hHeld => ?_); refine with_tabW spec_WideAdd.tab5 spec_WideAdd.bits5 (fun HT_ HW_ => ?_)
   generalize w44.drew = w50 at BK206 BK207 BK208 HB hHeld ⊢
   refine pure_ (i := 0) (N := some 32) (v := ?_) (a' := ?_) #[true, false, false, false, false, false, false, false, false] rfl rfl (any_of HT_.out (by kernel_rfl)) (fun _ _ _ h => h) (Or.inl ⟨by rfl, ?_⟩) ?_ ?_
   rotate_left
   ·intro w'
    go_simp
    with_reducible rfl
   rotate_left
   ·simp only [Act.put, List.setIfInBounds_toArray, List.set_cons_zero, List.set_cons_succ, i64_w, i32_w]
    rfl
   refine pure_ (i := 2) (N := some 34) (v := ?_) (a' := ?_) #[true, false, true, false, false, false, false, false, false] rfl rfl (any_of HT_.out (by kernel_rfl)) (fun _ _ _ h => h) (Or.inl ⟨by rfl, ?_⟩) ?_ ?_
   rotate_left
   ·intro w'
    go_simp
    with_reducible rfl
   rotate_left
   ·simp only [Act.put, List.setIfInBounds_toArray, List.set_cons_zero, List.set_cons_succ, i64_w, i32_w]
    rfl
   refine pure_ (i := 4) (N := some 36) (v := ?_) (a' := ?_) #[true, false, true, false, true, false, false, false, false] rfl rfl (any_of HT_.out (by kernel_rfl)) (fun _ _ _ h => h) (Or.inl ⟨by rfl, ?_⟩) ?_ ?_
   rotate_left
   ·intro w'
    go_simp
    with_reducible rfl
   rotate_left
   ·simp only [Act.put, List.setIfInBounds_toArray, List.set_cons_zero, List.set_cons_succ, i64_w, i32_w]
    rfl
   refine take_ (i := 1) (N := some 33) (v := ?_) (a' := ?_) #[true, true, true, false, true, false, false, false, false] rfl rfl (take_ofW HT_.out HW_.out (by kernel_rfl)) (fun _ _ _ h => h) (Or.inl ⟨by rfl, ?_⟩) hHeld ?_ ?_
   rotate_left
   ·rintro w' ⟨s0, s1, s2, s3⟩
    go_simp
    with_reducible rfl
   rotate_left
   ·simp only [Act.put, List.setIfInBounds_toArray, List.set_cons_zero, List.set_cons_succ, i64_w, i32_w]
    rfl
   refine take_ (i := 3) (N := some 35) (v := ?_) (a' := ?_) #[true, true, true, true, true, false, false, false, false] rfl rfl (take_ofW HT_.out HW_.out (by kernel_rfl)) (fun _ _ _ h => h) (Or.inl ⟨by rfl, ?_⟩) hHeld ?_ ?_
   rotate_left
   ·rintro w' ⟨s0, s1, s2, s3⟩
    go_simp
    with_reducible rfl
   rotate_left
   ·simp only [Act.put, List.setIfInBounds_toArray, List.set_cons_zero, List.set_cons_succ, i64_w, i32_w]
    rfl
   refine take_ (i := 5) (N := some 37) (v := ?_) (a' := ?_) #[true, true, true, true, true, true, false, false, false] rfl rfl (take_ofW HT_.out HW_.out (by kernel_rfl)) (fun _ _ _ h => h) (Or.inl ⟨by rfl, ?_⟩) hHeld ?_ ?_
   rotate_left
   ·rintro w' ⟨s0, s1, s2, s3⟩
    go_simp
    with_reducible rfl
   rotate_left
   ·simp only [Act.put, List.setIfInBounds_toArray, List.set_cons_zero, List.set_cons_succ, i64_w, i32_w]
    rfl
   refine one_ (i := 6) (N := some 38) #[true, true, true, true, true, true, true, false, false] rfl rfl (one_of HT_.out (by kernel_rfl)) (by decide) (fun K hK => ?_)
   refine goes_ Tryz.func50 (by kernel_rfl) rfl #[.slice A1_1 l1_1.length c1_1, .slice A0_1 l0_1.length c0_1] (by rfl) rfl rfl (by (try simp only [List.map_toArray, List.map_cons, List.map_nil]); first | done | rfl | (simp only [List.length_drop, List.length_take]; rfl)) ?_
   with_reducible refine (spec_magSub.calls k _ _ l1_1 _ _ l0_1 t224 _ ?side1 ?side2 ?side3 ?side4 A40.out).mono ?_
   (case side1 => repeat (first | exact (Kd.C_below HR1_1.out HB.out) | (with_reducible refine Kd.C_alloc ?_ _) | (with_reducible refine Kd.C_drewN ?_ _) | (with_reducible refine Kd.C_drew ?_)))
   (case side2 => exact HC1_1.out)
   (case side3 => repeat (first | exact (Kd.C_below HR0_1.out HB.out) | (with_reducible refine Kd.C_alloc ?_ _) | (with_reducible refine Kd.C_drewN ?_ _) | (with_reducible refine Kd.C_drew ?_)))
   (case side4 => exact HC0_1.out)
   rintro e w51 ⟨v225, rfl, ho0, hb⟩
   refine ⟨_, rfl, ?_⟩
   have n0_ := Aside0.mk (Kd.V_lower (Kd.V_mono (ok' := fun k_ => (w.heap.size ≤ k_) ∧ k_ ≠ gb206 ∧ k_ ≠ gb207 ∧ k_ ≠ gb208) ho0 (fun k_ hk_ => ⟨(Nat.le_trans (below_size (by repeat (first | (with_reducible first | exact HB.out | apply below_alloc | apply pw_below_drewN | apply below_drew1 | refine below_set ?_ GE206.out | refine below_set ?_ GE207.out | refine below_set ?_ GE208.out) | exact HB.out))) hk_), (Kd.freshB (g := gb206) (o := .cells #[.bool a0_0, .slice A0_1 l0_1.length c0_1] 27 (0, 0)) (by (with_reducible repeat (first | refine blk_drewN ?_ _ | refine blk_drew ?_ | refine blk_alloc ?_ _)); exact BK206.out) k_ hk_), (Kd.freshB (g := gb207) (o := .cells #[.bool a1_0, .slice A1_1 l1_1.length c1_1] 27 (0, 0)) (by (with_reducible repeat (first | refine blk_drewN ?_ _ | refine blk_drew ?_ | refine blk_alloc ?_ _)); exact BK207.out) k_ hk_), (Kd.freshB (g := gb208) (o := .cells #[.bool false, .slice none 0 0] 27 (0, 0)) (by (with_reducible repeat (first | refine blk_drewN ?_ _ | refine blk_drew ?_ | refine blk_alloc ?_ _)); exact BK208.out) k_ hk_)⟩)) (below_size (by repeat (first | (with_reducible first | exact HB.out | apply below_alloc | apply pw_below_drewN | apply below_drew1 | refine below_set ?_ GE206.out | refine below_set ?_ GE207.out | refine below_set ?_ GE208.out) | exact HB.out))))
   have n1_ := Aside0.mk (blk_below (g := gb206) (o := .cells #[.bool a0_0, .slice A0_1 l0_1.length c0_1] 27 (0, 0)) (by (with_reducible repeat (first | refine blk_drewN ?_ _ | refine blk_drew ?_ | refine blk_alloc ?_ _)); exact BK206.out) hb)
   have n2_ := Aside0.mk (blk_below (g := gb207) (o := .cells #[.bool a1_0, .slice A1_1 l1_1.length c1_1] 27 (0, 0)) (by (with_reducible repeat (first | refine blk_drewN ?_ _ | refine blk_drew ?_ | refine blk_alloc ?_ _)); exact BK207.out) hb)
   have n3_ := Aside0.mk (blk_below (g := gb208) (o := .cells #[.bool false, .slice none 0 0] 27 (0, 0)) (by (with_reducible repeat (first | refine blk_drewN ?_ _ | refine blk_drew ?_ | refine blk_alloc ?_ _)); exact BK208.out) hb)
   have n4_ := Aside0.mk (below_step (by repeat (first | (with_reducible first | exact HB.out | apply below_alloc | apply pw_below_drewN | apply below_drew1 | refine below_set ?_ GE206.out | refine below_set ?_ GE207.out | refine below_set ?_ GE208.out) | exact HB.out)) hb)
   clear BK206 BK207 BK208 HB
   have HO226 := n0_
   have BK206 := n1_
   have BK207 := n2_
   have BK208 := n3_
   have HB := n4_
   clear n0_ n1_ n2_ n3_ n4_
   (try clear hb)
   (try clear hb2)
   (try clear hk)
   (try clear hi)
   (try clear ho0)
   obtain ⟨Ao52, co52, eo52⟩ := Kd.V_slice HO226.out
   (first | subst eo52 | (injection eo52 with f1_ f2_ f3_; have f4_ := f1_.symm; have f5_ := f3_.symm; clear f1_ f2_ f3_; subst f4_; subst f5_))
   refine hK.out _ _ ⟨(blk_cell BK207.out 0).trans rfl, (blk_cell BK207.out 1).trans rfl, (blk_cell BK206.out 0).trans rfl, (blk_cell BK206.out 1).trans rfl⟩ (fun hHeld => ?_)
   clear hK K
   refine norm_ (a' := ?_) ?_ ?_
   rotate_left
   ·show Act.put _ (some 38) _ = _
    simp only [Act.put, List.setIfInBounds_toArray, List.set_cons_zero, List.set_cons_succ, i64_w, i32_w]
    rfl
   refine one_ (i := 7) (N := some 39) #[true, true, true, true, true, true, true, true, false] rfl rfl (one_of HT_.out (by kernel_rfl)) (by decide) (fun K hK => ?_)
   refine goes_ Tryz.func24 (by kernel_rfl) rfl #[.bool a1_0, .slice Ao52 t224.length co52] (by rfl) rfl rfl (by (try simp only [List.map_toArray, List.map_cons, List.map_nil]); first | done | rfl | (simp only [List.length_drop, List.length_take]; rfl)) ?_
   with_reducible refine (spec_wide.calls k a1_0 (fun k_ => ((w.heap.size ≤ k_) ∧ (k_ ≠ gb206 ∧ (k_ ≠ gb207 ∧ k_ ≠ gb208)))) _ _ t224 t227 t228 _ ?side1 A41.out).mono ?_
   (case side1 => exact HO226.out)
   rintro e w53 ⟨v229, rfl, ho0, hb⟩
   refine ⟨_, rfl, ?_⟩
   have n0_ := Aside0.mk (Kd.V_below (by (with_reducible repeat (first | apply Kd.V_alloc | apply Kd.V_drewN | apply Kd.V_drew)); exact HO226.out) hb)
   have n1_ := Aside0.mk (Kd.V_lower (Kd.V_mono (ok' := fun k_ => (w.heap.size ≤ k_) ∧ k_ ≠ gb206 ∧ k_ ≠ gb207 ∧ k_ ≠ gb208) ho0 (fun k_ hk_ => ⟨Or.elim hk_ (fun hs_ => hs_.1) (fun hn_ => (Nat.le_trans (below_size (by repeat (first | (with_reducible first | exact HB.out | apply below_alloc | apply pw_below_drewN | apply below_drew1 | refine below_set ?_ GE206.out | refine below_set ?_ GE207.out | refine below_set ?_ GE208.out) | exact HB.out))) hn_)), Or.elim hk_ (fun hs_ => hs_.2.1) (fun hn_ => (Kd.freshB (g := gb206) (o := .cells #[.bool a0_0, .slice A0_1 l0_1.length c0_1] 27 (0, 0)) (by (with_reducible repeat (first | refine blk_drewN ?_ _ | refine blk_drew ?_ | refine blk_alloc ?_ _)); exact BK206.out) k_ hn_)), Or.elim hk_ (fun hs_ => hs_.2.2.1) (fun hn_ => (Kd.freshB (g := gb207) (o := .cells #[.bool a1_0, .slice A1_1 l1_1.length c1_1] 27 (0, 0)) (by (with_reducible repeat (first | refine blk_drewN ?_ _ | refine blk_drew ?_ | refine blk_alloc ?_ _)); exact BK207.out) k_ hn_)), Or.elim hk_ (fun hs_ => hs_.2.2.2) (fun hn_ => (Kd.freshB (g := gb208) (o := .cells #[.bool false, .slice none 0 0] 27 (0, 0)) (by (with_reducible repeat (first | refine blk_drewN ?_ _ | refine blk_drew ?_ | refine blk_alloc ?_ _)); exact BK208.out) k_ hn_))⟩)) (below_size (by repeat (first | (with_reducible first | exact HB.out | apply below_alloc | apply pw_below_drewN | apply below_drew1 | refine below_set ?_ GE206.out | refine below_set ?_ GE207.out | refine below_set ?_ GE208.out) | exact HB.out))))
   have n2_ := Aside0.mk (blk_below (g := gb206) (o := .cells #[.bool a0_0, .slice A0_1 l0_1.length c0_1] 27 (0, 0)) (by (with_reducible repeat (first | refine blk_drewN ?_ _ | refine blk_drew ?_ | refine blk_alloc ?_ _)); exact BK206.out) hb)
   have n3_ := Aside0.mk (blk_below (g := gb207) (o := .cells #[.bool a1_0, .slice A1_1 l1_1.length c1_1] 27 (0, 0)) (by (with_reducible repeat (first | refine blk_drewN ?_ _ | refine blk_drew ?_ | refine blk_alloc ?_ _)); exact BK207.out) hb)
   have n4_ := Aside0.mk (blk_below (g := gb208) (o := .cells #[.bool false, .slice none 0 0] 27 (0, 0)) (by (with_reducible repeat (first | refine blk_drewN ?_ _ | refine blk_drew ?_ | refine blk_alloc ?_ _)); exact BK208.out) hb)
   have n5_ := Aside0.mk (below_step (by repeat (first | (with_reducible first | exact HB.out | apply below_alloc | apply pw_below_drewN | apply below_drew1 | refine below_set ?_ GE206.out | refine below_set ?_ GE207.out | refine below_set ?_ GE208.out) | exact HB.out)) hb)
   clear HO226 BK206 BK207 BK208 HB
   have HO226 := n0_
   have HO230 := n1_
   have BK206 := n2_
   have BK207 := n3_
   have BK208 := n4_
   have HB := n5_
   clear n0_ n1_ n2_ n3_ n4_ n5_
   (try clear hb)
   (try clear hb2)
   (try clear hk)
   (try clear hi)
   (try clear ho0)
   obtain ⟨Ao55, co55, eo55⟩ := Kd.V_slice HO230.out
   (first | subst eo55 | (injection eo55 with f1_ f2_ f3_; have f4_ := f1_.symm; have f5_ := f3_.symm; clear f1_ f2_ f3_; subst f4_; subst f5_))
   refine hK.out _ _ ⟨(blk_cell BK207.out 0).trans rfl, (blk_cell BK207.out 1).trans rfl, (blk_cell BK206.out 0).trans rfl, (blk_cell BK206.out 1).trans rfl⟩ (fun hHeld => ?_)
   clear hK K
   refine norm_ (a' := ?_) ?_ ?_
   rotate_left
   ·show Act.put _ (some 39) _ = _
    simp only [Act.put, List.setIfInBounds_toArray, List.set_cons_zero, List.set_cons_succ, i64_w, i32_w]
    rfl
   refine one_ (i := 8) (N := none) #[true, true, true, true, true, true, true, true, true] rfl rfl (one_of HT_.out (by kernel_rfl)) (by decide) (fun K hK => ?_)
   have hs54 : w53.cell? ⟨gb208, 0, none⟩ = some (.bool false) := (blk_cell BK208.out 0).trans rfl
   have hfs54 := blk_frozen BK208.out 0
   have hns54_0 := NB206_208.out
   have hns54_1 := NB207_208.out
   have hms54_0 := NB208_206.out
   have hms54_1 := NB208_207.out
   have hs56 : w53.cell? ⟨gb208, 1, none⟩ = some (.slice none 0 0) := (blk_cell BK208.out 1).trans rfl
   have hfs56 := blk_frozen BK208.out 1
   have hns56_0 := NB206_208.out
   have hns56_1 := NB207_208.out
   have hms56_0 := NB208_206.out
   have hms56_1 := NB208_207.out
   refine skip_ (w1 := ?_) (by rfl) rfl ?_ ?_
   rotate_left
   ·go_simp
    rfl
   refine hK.out _ _ ⟨((cell_far (p := ⟨gb208, _, none⟩) NB207_208.out _).trans (((cell_far (p := ⟨gb208, _, none⟩) NB207_208.out _).trans (hHeld.1)))), ((cell_far (p := ⟨gb208, _, none⟩) NB207_208.out _).trans (((cell_far (p := ⟨gb208, _, none⟩) NB207_208.out _).trans (hHeld.2.1)))), ((cell_far (p := ⟨gb208, _, none⟩) NB206_208.out _).trans (((cell_far (p := ⟨gb208, _, none⟩) NB206_208.out _).trans (hHeld.2.2.1)))), ((cell_far (p := ⟨gb208, _, none⟩) NB206_208.out _).trans (((cell_far (p := ⟨gb208, _, none⟩) NB206_208.out _).trans (hHeld.2.2.2))))⟩ (fun hHeld => ?_)
   clear hK K
   refine done_ (done_of HT_.out (by kernel_rfl)) ?_
   try go_wp2
   refine bodyPost_ret (results_cell_row rfl _ _ gb208 27 #[.bool t227, .slice Ao55 t228.length co55] (0, 0) _ rfl (by (with_reducible repeat (first | refine blk_drewN ?_ _ | refine blk_drew ?_ | refine blk_alloc ?_ _)); refine blk_put (cs := #[.bool t227, .slice none 0 0]) ?_ 1 _ rfl; (with_reducible repeat (first | refine blk_drewN ?_ _ | refine blk_drew ?_ | refine blk_alloc ?_ _)); refine blk_put (cs := #[.bool false, .slice none 0 0]) ?_ 0 _ rfl; (with_reducible repeat (first | refine blk_drewN ?_ _ | refine blk_drew ?_ | refine blk_alloc ?_ _)); exact BK208.out) Tryz.underlying27 rfl (by kernel_rfl)) rfl ?_
   exact ⟨_, by first | rfl | (simp [errW_none, errW_some] <;> rfl) | (simp [*, errW_none, errW_some] <;> rfl), by (with_reducible repeat (first | apply Kd.V_alloc | apply Kd.V_drewN | apply Kd.V_drew)); exact Kd.V_mono (Kd.V_far (p := ⟨gb208, 1, none⟩) (Kd.V_far (p := ⟨gb208, 0, none⟩) (Kd.V_mono HO230.out (fun k_ hk => (⟨hk, hk.2.2.2⟩ : _ ∧ k_ ≠ gb208))) (fun _ hk => hk.2) (.bool t227)) (fun _ hk => hk.2) (.slice Ao55 t228.length co55)) (fun _ hk => hk.1.1), by repeat (first | (with_reducible first | exact HB.out | apply below_alloc | apply pw_below_drewN | apply below_drew1 | refine below_set ?_ GE206.out | refine below_set ?_ GE207.out | refine below_set ?_ GE208.out) | exact HB.out)⟩

end Go.Proofs.YtgomeiepiajpeaaGreat.Q
