-- written by programs of ours (wip/tools) out of the kit's printer: the functions of one law, less those that are shared or proved by hand
import Derived.Test.YtiieljnllgeoeaaGreatQ0
import Derived.Test.YtiieljnllgeoeaaGreatQDKd
namespace Go.Proofs.YtiieljnllgeoeaaGreat.Q
open Go.RowKit Go.Proofs.YtiieljnllgeoeaaGreatW.PrintWords Go.Proofs.YtiieljnllgeoeaaGreatW.PrintLast Go.Proofs.YtiieljnllgeoeaaGreatW.PrintMore
attribute [local go_sem] max2_int min2_int max_two min_two max_three min_three max_four min_four
set_option linter.unusedVariables false
set_option linter.unusedSimpArgs false

/-! ### spec_TakeRuns: function 11 -/
mutual
def spec_TakeRuns.l0 : Nat → List Int → Int → Int → List Int → Int → Option (List Int × Bool)
 | 0, _, _, _, _, _ => none
 | k + 1, x0, x1, x2, x8, x9 => if (x8.length : Int) < x2 then ((spec_TakeVLQ.f k x0 x9).bind fun bt175 => (if bt175.2.2 = true then (if (bt175.1 / 2) = 0 then (spec_TakeRuns.j1 k x0 x1 x2 x8 bt175.1 bt175.2.1 (wrap64 (bt175.1 / 2)) true) else (spec_TakeRuns.j1 k x0 x1 x2 x8 bt175.1 bt175.2.1 (wrap64 (bt175.1 / 2)) (decide ((bt175.1 / 2) > 1073741824)))) else (spec_TakeRuns.j1 k x0 x1 x2 x8 bt175.1 bt175.2.1 (wrap64 (bt175.1 / 2)) true))) else (some (x8, true))
def spec_TakeRuns.j1 : Nat → List Int → Int → Int → List Int → Int → Int → Int → Bool → Option (List Int × Bool)
 | 0, _, _, _, _, _, _, _, _ => none
 | k + 1, x0, x1, x2, x8, x10, x11, x13, x46 => if x46 = true then (some (([] : List Int), false)) else (if (Go.bits .and .u64 x10 1) = 1 then ((spec_UnpackBits.f k x0 (wrap64 (8 * x11)) x1 (mn (wrap64 (8 * x13)) (wrap64 (x2 - (x8.length : Int))))).bind fun bt178 => (if bt178.2 = true then (if x8.length + bt178.1.length < 17592186044416 then (spec_TakeRuns.l0 k x0 x1 x2 (x8 ++ bt178.1) (wrap64 (x11 + (wrap64 (x13 * x1))))) else (none)) else (some (([] : List Int), false)))) else (if (wrap64 (x11 + (wrap64 (Int.tdiv (wrap64 (x1 + 7)) 8)))) > (x0.length : Int) then (some (([] : List Int), false)) else (spec_TakeRuns.l1 k x0 x1 x2 x8 x11 x13 (wrap64 (Int.tdiv (wrap64 (x1 + 7)) 8)) 0 0)))
def spec_TakeRuns.l1 : Nat → List Int → Int → Int → List Int → Int → Int → Int → Int → Int → Option (List Int × Bool)
 | 0, _, _, _, _, _, _, _, _, _ => none
 | k + 1, x0, x1, x2, x8, x9, x13, x17, x18, x19 => if x19 < x17 then (if 0 ≤ (wrap64 (x9 + x19)) then (if (wrap64 (x9 + x19)) < (x0.length : Int) then (if 0 ≤ (wrap64 (8 * x19)) then (spec_TakeRuns.l1 k x0 x1 x2 x8 x9 x13 x17 (Go.bits .or .u64 x18 (shl .u64 (IntKind.u64.wrap (rd x0 (wrap64 (x9 + x19)))) (wrap64 (8 * x19)))) (wrap64 (x19 + 1))) else (none)) else (none)) else (none)) else (if x1 < 64 then (if 0 ≤ x1 then (spec_TakeRuns.j3 k x0 x1 x2 x8 x9 x13 x17 x18 (decide ((shr .u64 x18 x1) > 0))) else (none)) else (spec_TakeRuns.j3 k x0 x1 x2 x8 x9 x13 x17 x18 false))
def spec_TakeRuns.j3 : Nat → List Int → Int → Int → List Int → Int → Int → Int → Int → Bool → Option (List Int × Bool)
 | 0, _, _, _, _, _, _, _, _, _ => none
 | k + 1, x0, x1, x2, x8, x9, x13, x17, x18, x110 => if x110 = true then (some (([] : List Int), false)) else (spec_TakeRuns.l2 k x0 x1 x2 x8 (wrap64 (x9 + x17)) x13 x18 0)
def spec_TakeRuns.l2 : Nat → List Int → Int → Int → List Int → Int → Int → Int → Int → Option (List Int × Bool)
 | 0, _, _, _, _, _, _, _, _ => none
 | k + 1, x0, x1, x2, x8, x9, x13, x18, x20 => if x20 < x13 then (if (x8.length : Int) < x2 then (if x8.length < 17592186044416 then (spec_TakeRuns.l2 k x0 x1 x2 (x8 ++ [x18]) x9 x13 x18 (wrap64 (x20 + 1))) else (none)) else (spec_TakeRuns.l0 k x0 x1 x2 x8 x9)) else (spec_TakeRuns.l0 k x0 x1 x2 x8 x9)
end
def spec_TakeRuns.f (k : Nat) (l0 : List Int) (a1 : Int) (a2 : Int) : Option (List Int × Bool) := spec_TakeRuns.l0 k l0 a1 a2 ([] : List Int) 0
theorem spec_TakeRuns.mono_l : ∀ k, (∀ y0 y1 y2 y3 y4, LeO (spec_TakeRuns.l0 k y0 y1 y2 y3 y4) (spec_TakeRuns.l0 (k + 1) y0 y1 y2 y3 y4)) ∧ (∀ y0 y1 y2 y3 y4 y5 y6 y7, LeO (spec_TakeRuns.j1 k y0 y1 y2 y3 y4 y5 y6 y7) (spec_TakeRuns.j1 (k + 1) y0 y1 y2 y3 y4 y5 y6 y7)) ∧ (∀ y0 y1 y2 y3 y4 y5 y6 y7 y8, LeO (spec_TakeRuns.l1 k y0 y1 y2 y3 y4 y5 y6 y7 y8) (spec_TakeRuns.l1 (k + 1) y0 y1 y2 y3 y4 y5 y6 y7 y8)) ∧ (∀ y0 y1 y2 y3 y4 y5 y6 y7 y8, LeO (spec_TakeRuns.j3 k y0 y1 y2 y3 y4 y5 y6 y7 y8) (spec_TakeRuns.j3 (k + 1) y0 y1 y2 y3 y4 y5 y6 y7 y8)) ∧ (∀ y0 y1 y2 y3 y4 y5 y6 y7, LeO (spec_TakeRuns.l2 k y0 y1 y2 y3 y4 y5 y6 y7) (spec_TakeRuns.l2 (k + 1) y0 y1 y2 y3 y4 y5 y6 y7))
 | 0 => ⟨fun _ _ _ _ _ r h => by simp [spec_TakeRuns.l0] at h, fun _ _ _ _ _ _ _ _ r h => by simp [spec_TakeRuns.j1] at h, fun _ _ _ _ _ _ _ _ _ r h => by simp [spec_TakeRuns.l1] at h, fun _ _ _ _ _ _ _ _ _ r h => by simp [spec_TakeRuns.j3] at h, fun _ _ _ _ _ _ _ _ r h => by simp [spec_TakeRuns.l2] at h⟩
 | k + 1 => by
  obtain ⟨ih0, ih1, ih2, ih3, ih4⟩ := spec_TakeRuns.mono_l k
  refine ⟨?_, ?_, ?_, ?_, ?_⟩
  ·intro y0 y1 y2 y3 y4
   unfold spec_TakeRuns.l0
   repeat' first
   | (with_reducible exact ih0 _ _ _ _ _)
   | (with_reducible exact ih1 _ _ _ _ _ _ _ _)
   | (with_reducible exact ih2 _ _ _ _ _ _ _ _ _)
   | (with_reducible exact ih3 _ _ _ _ _ _ _ _ _)
   | (with_reducible exact ih4 _ _ _ _ _ _ _ _)
   | (with_reducible exact spec_TakeVLQ.mono _ _ _)
   | (with_reducible exact spec_UnpackBits.mono _ _ _ _ _)
   | (with_reducible exact LeO.refl _)
   | (with_reducible exact LeO.none _)
   | (with_reducible refine LeO.ite ?_ ?_)
   | (with_reducible refine LeO.bind ?_ (fun _ => ?_))
   | exact ih0 _ _ _ _ _
   | exact ih1 _ _ _ _ _ _ _ _
   | exact ih2 _ _ _ _ _ _ _ _ _
   | exact ih3 _ _ _ _ _ _ _ _ _
   | exact ih4 _ _ _ _ _ _ _ _
   | exact spec_TakeVLQ.mono _ _ _
   | exact spec_UnpackBits.mono _ _ _ _ _
   | exact LeO.none _
   | refine LeO.ite ?_ ?_
   | refine LeO.bind ?_ (fun _ => ?_)
  ·intro y0 y1 y2 y3 y4 y5 y6 y7
   unfold spec_TakeRuns.j1
   repeat' first
   | (with_reducible exact ih0 _ _ _ _ _)
   | (with_reducible exact ih1 _ _ _ _ _ _ _ _)
   | (with_reducible exact ih2 _ _ _ _ _ _ _ _ _)
   | (with_reducible exact ih3 _ _ _ _ _ _ _ _ _)
   | (with_reducible exact ih4 _ _ _ _ _ _ _ _)
   | (with_reducible exact spec_TakeVLQ.mono _ _ _)
   | (with_reducible exact spec_UnpackBits.mono _ _ _ _ _)
   | (with_reducible exact LeO.refl _)
   | (with_reducible exact LeO.none _)
   | (with_reducible refine LeO.ite ?_ ?_)
   | (with_reducible refine LeO.bind ?_ (fun _ => ?_))
   | exact ih0 _ _ _ _ _
   | exact ih1 _ _ _ _ _ _ _ _
   | exact ih2 _ _ _ _ _ _ _ _ _
   | exact ih3 _ _ _ _ _ _ _ _ _
   | exact ih4 _ _ _ _ _ _ _ _
   | exact spec_TakeVLQ.mono _ _ _
   | exact spec_UnpackBits.mono _ _ _ _ _
   | exact LeO.none _
   | refine LeO.ite ?_ ?_
   | refine LeO.bind ?_ (fun _ => ?_)
  ·intro y0 y1 y2 y3 y4 y5 y6 y7 y8
   unfold spec_TakeRuns.l1
   repeat' first
   | (with_reducible exact ih0 _ _ _ _ _)
   | (with_reducible exact ih1 _ _ _ _ _ _ _ _)
   | (with_reducible exact ih2 _ _ _ _ _ _ _ _ _)
   | (with_reducible exact ih3 _ _ _ _ _ _ _ _ _)
   | (with_reducible exact ih4 _ _ _ _ _ _ _ _)
   | (with_reducible exact spec_TakeVLQ.mono _ _ _)
   | (with_reducible exact spec_UnpackBits.mono _ _ _ _ _)
   | (with_reducible exact LeO.refl _)
   | (with_reducible exact LeO.none _)
   | (with_reducible refine LeO.ite ?_ ?_)
   | (with_reducible refine LeO.bind ?_ (fun _ => ?_))
   | exact ih0 _ _ _ _ _
   | exact ih1 _ _ _ _ _ _ _ _
   | exact ih2 _ _ _ _ _ _ _ _ _
   | exact ih3 _ _ _ _ _ _ _ _ _
   | exact ih4 _ _ _ _ _ _ _ _
   | exact spec_TakeVLQ.mono _ _ _
   | exact spec_UnpackBits.mono _ _ _ _ _
   | exact LeO.none _
   | refine LeO.ite ?_ ?_
   | refine LeO.bind ?_ (fun _ => ?_)
  ·intro y0 y1 y2 y3 y4 y5 y6 y7 y8
   unfold spec_TakeRuns.j3
   repeat' first
   | (with_reducible exact ih0 _ _ _ _ _)
   | (with_reducible exact ih1 _ _ _ _ _ _ _ _)
   | (with_reducible exact ih2 _ _ _ _ _ _ _ _ _)
   | (with_reducible exact ih3 _ _ _ _ _ _ _ _ _)
   | (with_reducible exact ih4 _ _ _ _ _ _ _ _)
   | (with_reducible exact spec_TakeVLQ.mono _ _ _)
   | (with_reducible exact spec_UnpackBits.mono _ _ _ _ _)
   | (with_reducible exact LeO.refl _)
   | (with_reducible exact LeO.none _)
   | (with_reducible refine LeO.ite ?_ ?_)
   | (with_reducible refine LeO.bind ?_ (fun _ => ?_))
   | exact ih0 _ _ _ _ _
   | exact ih1 _ _ _ _ _ _ _ _
   | exact ih2 _ _ _ _ _ _ _ _ _
   | exact ih3 _ _ _ _ _ _ _ _ _
   | exact ih4 _ _ _ _ _ _ _ _
   | exact spec_TakeVLQ.mono _ _ _
   | exact spec_UnpackBits.mono _ _ _ _ _
   | exact LeO.none _
   | refine LeO.ite ?_ ?_
   | refine LeO.bind ?_ (fun _ => ?_)
  ·intro y0 y1 y2 y3 y4 y5 y6 y7
   unfold spec_TakeRuns.l2
   repeat' first
   | (with_reducible exact ih0 _ _ _ _ _)
   | (with_reducible exact ih1 _ _ _ _ _ _ _ _)
   | (with_reducible exact ih2 _ _ _ _ _ _ _ _ _)
   | (with_reducible exact ih3 _ _ _ _ _ _ _ _ _)
   | (with_reducible exact ih4 _ _ _ _ _ _ _ _)
   | (with_reducible exact spec_TakeVLQ.mono _ _ _)
   | (with_reducible exact spec_UnpackBits.mono _ _ _ _ _)
   | (with_reducible exact LeO.refl _)
   | (with_reducible exact LeO.none _)
   | (with_reducible refine LeO.ite ?_ ?_)
   | (with_reducible refine LeO.bind ?_ (fun _ => ?_))
   | exact ih0 _ _ _ _ _
   | exact ih1 _ _ _ _ _ _ _ _
   | exact ih2 _ _ _ _ _ _ _ _ _
   | exact ih3 _ _ _ _ _ _ _ _ _
   | exact ih4 _ _ _ _ _ _ _ _
   | exact spec_TakeVLQ.mono _ _ _
   | exact spec_UnpackBits.mono _ _ _ _ _
   | exact LeO.none _
   | refine LeO.ite ?_ ?_
   | refine LeO.bind ?_ (fun _ => ?_)
theorem spec_TakeRuns.mono : ∀ a0 a1 a2 k, LeO (spec_TakeRuns.f k a0 a1 a2) (spec_TakeRuns.f (k + 1) a0 a1 a2) := by
 intro a0 a1 a2 k
 obtain ⟨ih0, ih1, ih2, ih3, ih4⟩ := spec_TakeRuns.mono_l k
 unfold spec_TakeRuns.f
 repeat' first
   | (with_reducible exact ih0 _ _ _ _ _)
   | (with_reducible exact ih1 _ _ _ _ _ _ _ _)
   | (with_reducible exact ih2 _ _ _ _ _ _ _ _ _)
   | (with_reducible exact ih3 _ _ _ _ _ _ _ _ _)
   | (with_reducible exact ih4 _ _ _ _ _ _ _ _)
   | (with_reducible exact spec_TakeVLQ.mono _ _ _)
   | (with_reducible exact spec_UnpackBits.mono _ _ _ _ _)
   | (with_reducible exact LeO.refl _)
   | (with_reducible exact LeO.none _)
   | (with_reducible refine LeO.ite ?_ ?_)
   | (with_reducible refine LeO.bind ?_ (fun _ => ?_))
   | exact ih0 _ _ _ _ _
   | exact ih1 _ _ _ _ _ _ _ _
   | exact ih2 _ _ _ _ _ _ _ _ _
   | exact ih3 _ _ _ _ _ _ _ _ _
   | exact ih4 _ _ _ _ _ _ _ _
   | exact spec_TakeVLQ.mono _ _ _
   | exact spec_UnpackBits.mono _ _ _ _ _
   | exact LeO.none _
   | refine LeO.ite ?_ ?_
   | refine LeO.bind ?_ (fun _ => ?_)
set_option maxHeartbeats 8000000 in
set_option maxRecDepth 100000 in
theorem spec_TakeRuns.calls (k : Nat) (A0 : Option Addr) (c0 : Nat) (l0 : List Int) (a1 : Int) (a2 : Int) (r1 : List Int) (r2 : Bool) (w : World) (hr0 : Kd.C (Kd.int .u8) w A0 l0.length l0) (hc0 : l0.length ≤ c0) (h : spec_TakeRuns.f k l0 a1 a2 = some (r1, r2)) :
  Calls Tryz.prog 11 #[.slice A0 l0.length c0, .int .i64 a1, .int .i64 a2] w fun e w' => ∃ v0_ : Value, e = .returned (.tuple #[v0_, .bool r2]) ∧ Kd.R (Kd.int .u64) 26 w' w.heap.size (fun _ => True) v0_ r1 ∧ Below w.heap.size w w' := by
 have HR0 := Aside0.mk hr0
 have HC0 := Aside0.mk hc0
 clear hr0 hc0
 have HB := Aside0.mk (Below.refl w.heap.size w)
 have H : (spec_TakeRuns.l0 k l0 a1 a2 ([] : List Int) 0) = some (r1, r2) := h
 clear h
 have H' := Aside0.mk H
 clear H
 go_enter Tryz.func11, Tryz.ntmps11
 go_wp2
 go_loopg [8, 9] k (fun kq v8 v9 w' => ∃ (x8_1 : List Int) (x9_1 : Int), v9 = .int .i64 x9_1 ∧ Aside0 (spec_TakeRuns.l0 kq l0 a1 a2 x8_1 x9_1 = some (r1, r2)) ∧ Aside0 (kq ≤ k) ∧ Aside0 (Kd.R (Kd.int .u64) 26 w' w.heap.size (fun _ => True) v8 x8_1) ∧ Aside0 (Below w.heap.size w w'))
 case atStart => exact ⟨(([] : List Int)), (0), (by first | rfl | (simp; done) | (simp [*]; done)), H', ⟨Nat.le_refl _⟩, ⟨by first | exact Kd.R_nil _ _ _ _ _ | exact Kd.N_nil _ _ _ _ _ | exact Kd.V_nil _ _ _ _ _ | exact Kd.Q_nil _ _ _ _ _ | exact Kd.S_nil _ _ _ _ _⟩, ⟨by repeat (first | (with_reducible first | exact HB.out | apply below_alloc | apply pw_below_drewN | apply below_drew1) | exact HB.out)⟩⟩
 case round =>
  clear H'
  try clear c1
  try clear p2
  obtain ⟨x8_1, x9_1, rfl, HA, HK1, HO_8, HB⟩ := hrel
  cases gk with
  | zero => exact absurd HA.out (by simp [spec_TakeRuns.l0])
  | succ k1 =>
   have H := HA.out
   clear HA
   simp only [spec_TakeRuns.l0] at H
   by_cases c4 : (x8_1.length : Int) < a2
   ·rw [if_pos c4] at H
    have c4b0 : decide ((x8_1.length : Int) < a2) = true := decide_eq_true c4
    clear c4
    replace H := Option.bind_eq_some_iff.mp H
    obtain ⟨⟨t175, t176, t177⟩, A50, H⟩ := H
    replace H : (if t177 = true then (if (t175 / 2) = 0 then (spec_TakeRuns.j1 k1 l0 a1 a2 x8_1 t175 t176 (wrap64 (t175 / 2)) true) else (spec_TakeRuns.j1 k1 l0 a1 a2 x8_1 t175 t176 (wrap64 (t175 / 2)) (decide ((t175 / 2) > 1073741824)))) else (spec_TakeRuns.j1 k1 l0 a1 a2 x8_1 t175 t176 (wrap64 (t175 / 2)) true)) = some (r1, r2) := H
    have A5 := Aside0.mk A50
    clear A50
    have HC6 := Aside0.mk H
    clear H
    obtain ⟨Ao7, co7, eo7⟩ := Kd.R_slice HO_8.out
    subst eo7
    go_upto_region 6 with (first | ((with_reducible refine gate_callee (f := 26) rfl ?_); refine goesL_ (some 28) rfl rfl Tryz.func26 (by kernel_rfl) rfl #[.slice A0 l0.length c0, .int .i64 x9_1] rfl (by (try simp only [List.map_toArray, List.map_cons, List.map_nil]); first | done | rfl | (simp only [List.length_drop, List.length_take]; rfl)) ?_; (with_reducible refine (spec_TakeVLQ.calls k1 _ _ l0 x9_1 t175 t176 t177 _ ?side1 ?side2 A5.out).mono ?_); (case side1 => repeat (first | exact (Kd.C_below HR0.out HB.out) | (with_reducible refine Kd.C_alloc ?_ _) | (with_reducible refine Kd.C_drewN ?_ _) | (with_reducible refine Kd.C_drew ?_))); (case side2 => exact HC0.out); rintro e w' ⟨rfl, ⟨nd, rfl⟩⟩; refine ⟨_, rfl, ?_⟩))
    (try simp only [Act.put, List.setIfInBounds_toArray, List.set_cons_zero, List.set_cons_succ])
    go_cut [46] (fun v46 wc => ∃ (kq : Nat) (x46_5 : Bool), v46 = .bool x46_5 ∧ Aside0 (spec_TakeRuns.j1 kq l0 a1 a2 x8_1 t175 t176 (wrap64 (t175 / 2)) x46_5 = some (r1, r2)) ∧ Aside0 (kq ≤ k1) ∧ Aside0 (Kd.R (Kd.int .u64) 26 wc w.heap.size (fun _ => True) (.slice Ao7 x8_1.length co7) x8_1) ∧ Aside0 (Below w.heap.size w wc))
    case first =>
     have H := HC6.out
     clear HC6
     by_cases c8 : t177 = true
     ·subst c8
      have H1 : (if (t175 / 2) = 0 then (spec_TakeRuns.j1 k1 l0 a1 a2 x8_1 t175 t176 (wrap64 (t175 / 2)) true) else (spec_TakeRuns.j1 k1 l0 a1 a2 x8_1 t175 t176 (wrap64 (t175 / 2)) (decide ((t175 / 2) > 1073741824)))) = some (r1, r2) := by rw [if_pos rfl] at H; exact H
      clear H
      have H := H1
      clear H1
      by_cases c9 : (t175 / 2) = 0
      ·rw [if_pos c9] at H
       have c9b0 : ((t175 / 2) == 0) = true := beq_iff_eq.mpr c9
       have c9b1 : ((t175 / 2) != 0) = false := bne_eq_false_iff_eq.mpr c9
       clear c9
       (first | rw [c9b0] | (simp only [i64_w, i32_w]; rw [c9b0]) | skip)
       have H' := Aside0.mk H
       clear H
       go_wp2
       go_meet
       case rel => exact ⟨_, (true), (by first | rfl | (simp; done) | (simp [*]; done)), H', ⟨by have := HK1.out; first | omega | exact Nat.le_refl _⟩, ⟨by (with_reducible repeat (first | apply Kd.R_alloc | apply Kd.R_drewN | apply Kd.R_drew)); exact HO_8.out⟩, ⟨by repeat (first | (with_reducible first | exact HB.out | apply below_alloc | apply pw_below_drewN | apply below_drew1) | exact HB.out)⟩⟩
      ·rw [if_neg c9] at H
       have c9b0 : ((t175 / 2) == 0) = false := beq_eq_false_iff_ne.mpr c9
       have c9b1 : ((t175 / 2) != 0) = true := bne_iff_ne.mpr c9
       (first | rw [c9b0] | (simp only [i64_w, i32_w]; rw [c9b0]) | skip)
       have H' := Aside0.mk H
       clear H
       go_wp2
       go_meet
       case rel => exact ⟨_, (decide ((t175 / 2) > 1073741824)), (by first | rfl | (simp; done) | (simp [*]; done)), H', ⟨by have := HK1.out; first | omega | exact Nat.le_refl _⟩, ⟨by (with_reducible repeat (first | apply Kd.R_alloc | apply Kd.R_drewN | apply Kd.R_drew)); exact HO_8.out⟩, ⟨by repeat (first | (with_reducible first | exact HB.out | apply below_alloc | apply pw_below_drewN | apply below_drew1) | exact HB.out)⟩⟩
     ·replace c8 := Bool.eq_false_iff.mpr c8
      subst c8
      have H1 : (spec_TakeRuns.j1 k1 l0 a1 a2 x8_1 t175 t176 (wrap64 (t175 / 2)) true) = some (r1, r2) := by rw [if_neg (show ¬ (false = true) by decide)] at H; exact H
      clear H
      have H := H1
      clear H1
      have H' := Aside0.mk H
      clear H
      go_wp2
      go_meet
      case rel => exact ⟨_, (true), (by first | rfl | (simp; done) | (simp [*]; done)), H', ⟨by have := HK1.out; first | omega | exact Nat.le_refl _⟩, ⟨by (with_reducible repeat (first | apply Kd.R_alloc | apply Kd.R_drewN | apply Kd.R_drew)); exact HO_8.out⟩, ⟨by repeat (first | (with_reducible first | exact HB.out | apply below_alloc | apply pw_below_drewN | apply below_drew1) | exact HB.out)⟩⟩
    case rest =>
     clear HC6
     try clear c1
     try clear c2
     try clear p2
     try clear c4
     try clear c4b0
     try clear p6
     try clear c8
     try clear c9
     try clear c9b0
     try clear c9b1
     try clear p2
     obtain ⟨kq, x46_5, rfl, HA, HJ5, HO_8, HB⟩ := hcut
     cases kq with
     | zero => exact absurd HA.out (by simp [spec_TakeRuns.j1])
     | succ kj5 =>
      have H := HA.out
      clear HA
      simp only [spec_TakeRuns.j1] at H
      by_cases c10 : x46_5 = true
      ·subst c10
       have H1 : (some (([] : List Int), false)) = some (r1, r2) := by rw [if_pos rfl] at H; exact H
       clear H
       have H := H1
       clear H1
       simp only [Option.some.injEq, Prod.mk.injEq] at H
       obtain ⟨rfl, rfl⟩ := H
       go_wp2
       go_ret2
       exact ⟨_, by first | rfl | (simp [errW_none, errW_some] <;> rfl) | (simp [*, errW_none, errW_some] <;> rfl), by first | exact Kd.R_nil _ _ _ _ _ | exact Kd.N_nil _ _ _ _ _ | exact Kd.V_nil _ _ _ _ _ | exact Kd.Q_nil _ _ _ _ _ | exact Kd.S_nil _ _ _ _ _, by repeat (first | (with_reducible first | exact HB.out | apply below_alloc | apply pw_below_drewN | apply below_drew1) | exact HB.out)⟩
      ·replace c10 := Bool.eq_false_iff.mpr c10
       subst c10
       have H1 : (if (Go.bits .and .u64 t175 1) = 1 then ((spec_UnpackBits.f kj5 l0 (wrap64 (8 * t176)) a1 (mn (wrap64 (8 * (wrap64 (t175 / 2)))) (wrap64 (a2 - (x8_1.length : Int))))).bind fun bt178 => (if bt178.2 = true then (if x8_1.length + bt178.1.length < 17592186044416 then (spec_TakeRuns.l0 kj5 l0 a1 a2 (x8_1 ++ bt178.1) (wrap64 (t176 + (wrap64 ((wrap64 (t175 / 2)) * a1))))) else (none)) else (some (([] : List Int), false)))) else (if (wrap64 (t176 + (wrap64 (Int.tdiv (wrap64 (a1 + 7)) 8)))) > (l0.length : Int) then (some (([] : List Int), false)) else (spec_TakeRuns.l1 kj5 l0 a1 a2 x8_1 t176 (wrap64 (t175 / 2)) (wrap64 (Int.tdiv (wrap64 (a1 + 7)) 8)) 0 0))) = some (r1, r2) := by rw [if_neg (show ¬ (false = true) by decide)] at H; exact H
       clear H
       have H := H1
       clear H1
       by_cases c11 : (Go.bits .and .u64 t175 1) = 1
       ·rw [if_pos c11] at H
        have c11b0 : ((Go.bits .and .u64 t175 1) == 1) = true := beq_iff_eq.mpr c11
        have c11b1 : ((Go.bits .and .u64 t175 1) != 1) = false := bne_eq_false_iff_eq.mpr c11
        clear c11
        obtain ⟨ji12, hji12⟩ : ∃ j_ : Int, (mn (wrap64 (8 * (wrap64 (t175 / 2)))) (wrap64 (a2 - (x8_1.length : Int)))) = j_ := ⟨_, rfl⟩
        replace H : ((spec_UnpackBits.f kj5 l0 (wrap64 (8 * t176)) a1 (ji12)).bind fun bt178 => (if bt178.2 = true then (if x8_1.length + bt178.1.length < 17592186044416 then (spec_TakeRuns.l0 kj5 l0 a1 a2 (x8_1 ++ bt178.1) (wrap64 (t176 + (wrap64 ((wrap64 (t175 / 2)) * a1))))) else (none)) else (some (([] : List Int), false)))) = some (r1, r2) := by first | (rw [hji12] at H; exact H) | (simp only [hji12] at H ⊢; exact H)
        have hji12_ : (if (wrap64 (a2 - (x8_1.length : Int))) < (wrap64 (8 * (wrap64 (t175 / 2)))) then (wrap64 (a2 - (x8_1.length : Int))) else (wrap64 (8 * (wrap64 (t175 / 2))))) = ji12 := hji12
        replace H := Option.bind_eq_some_iff.mp H
        obtain ⟨⟨t178, t179⟩, A130, H⟩ := H
        replace H : (if t179 = true then (if x8_1.length + t178.length < 17592186044416 then (spec_TakeRuns.l0 kj5 l0 a1 a2 (x8_1 ++ t178) (wrap64 (t176 + (wrap64 ((wrap64 (t175 / 2)) * a1))))) else (none)) else (some (([] : List Int), false))) = some (r1, r2) := H
        have A13 := Aside0.mk A130
        clear A130
        by_cases c14 : t179 = true
        ·subst c14
         have H1 : (if x8_1.length + t178.length < 17592186044416 then (spec_TakeRuns.l0 kj5 l0 a1 a2 (x8_1 ++ t178) (wrap64 (t176 + (wrap64 ((wrap64 (t175 / 2)) * a1))))) else (none)) = some (r1, r2) := by rw [if_pos rfl] at H; exact H
         clear H
         have H := H1
         clear H1
         by_cases c15 : x8_1.length + t178.length < 17592186044416
         ·rw [if_pos c15] at H
          have LMc15 := Aside0.mk c15
          clear c15
          obtain ⟨y182, hy182⟩ : ∃ y_ : List Int, y_ = (x8_1 ++ t178) := ⟨_, rfl⟩
          replace H : (spec_TakeRuns.l0 kj5 l0 a1 a2 y182 (wrap64 (t176 + (wrap64 ((wrap64 (t175 / 2)) * a1))))) = some (r1, r2) := by first | (rw [hy182]; with_reducible exact H) | (have H2_ := (Option.bind_some _ _).symm.trans H; rw [hy182]; with_reducible exact H2_) | (have H2_ := (Option.bind_some _ _).symm.trans H; with_reducible exact H2_) | with_reducible exact H | (rw [hy182]; exact H) | exact H
          have Ny182 := Aside0.mk hy182
          clear hy182
          have H' := Aside0.mk H
          clear H
          go_wp2_with (first | ((with_reducible refine gate_callee (f := 27) rfl ?_); refine goesL_ (some 64) rfl rfl Tryz.func27 (by kernel_rfl) rfl #[.slice A0 l0.length c0, .int .i64 (wrap64 (8 * t176)), .int .i64 a1, .int .i64 ji12] rfl (by (try simp only [List.map_toArray, List.map_cons, List.map_nil]); first | done | (simp only [hji12]; rfl) | rfl | (simp only [List.length_drop, List.length_take]; rfl)) ?_; (with_reducible refine (spec_UnpackBits.calls kj5 _ _ l0 (wrap64 (8 * t176)) a1 ji12 t178 true _ ?side1 ?side2 A13.out).mono ?_); (case side1 => repeat (first | exact (Kd.C_below HR0.out HB.out) | (with_reducible refine Kd.C_alloc ?_ _) | (with_reducible refine Kd.C_drewN ?_ _) | (with_reducible refine Kd.C_drew ?_))); (case side2 => exact HC0.out); rintro e w16 ⟨v180, rfl, ho0, hb⟩; refine ⟨_, rfl, ?_⟩; have n0_ := Aside0.mk (Kd.R_elder' (by (with_reducible repeat (first | apply Kd.R_alloc | apply Kd.R_drewN | apply Kd.R_drew)); exact HO_8.out) (Kd.R_base ho0) hb); have n1_ := Aside0.mk (Kd.R_lower (Kd.R_new' ho0 (Kd.R_lt (by (with_reducible repeat (first | apply Kd.R_alloc | apply Kd.R_drewN | apply Kd.R_drew)); exact HO_8.out))) (below_size (by repeat (first | (with_reducible first | exact HB.out | apply below_alloc | apply pw_below_drewN | apply below_drew1) | exact HB.out)))); have n2_ := Aside0.mk (below_step (by repeat (first | (with_reducible first | exact HB.out | apply below_alloc | apply pw_below_drewN | apply below_drew1) | exact HB.out)) hb); clear HO_8; clear HB; have HO_8 := n0_; have HO181 := n1_; have HB := n2_; clear n0_ n1_ n2_; (try clear hb); (try clear hb2); (try clear hk); (try clear hi); (try clear ho0); obtain ⟨Ao18, co18, eo18⟩ := Kd.R_slice HO181.out; subst eo18) | ((with_reducible refine gate_builtin (b := .append) (xs := #[.tmp 69, .tmp 70]) rfl ?_); (try (refine gate_guard (by rfl) ?_; dsimp only)); at_builtin; refine Kd.R_append_rows (Kd.int .u64) (w0 := w) w.heap.size rfl (.tmp 69) (.tmp 70) 37 26 (.int .u64 0) 8 rfl Tryz.underlying37 info26 rfl (by decide) (by omega) (.slice Ao7 x8_1.length co7) x8_1 t178 _ _ _ (fun k_ => some k_ ≠ (.slice Ao18 t178.length co18 : Value).ownBlock) (fun _ => False) rfl rfl ?aO ?aR (fun _ _ h => h) (fun _ h => h.elim) ?aF ?aB ?aS ?aL ?_; (case aR => repeat (first | exact (Kd.R_reads' HO181.out).2.2 | (with_reducible refine Kd.C_alloc ?_ _) | (with_reducible refine Kd.C_drewN ?_ _) | (with_reducible refine Kd.C_drew ?_))); (case aB => exact (by repeat (first | (with_reducible first | exact HB.out | apply below_alloc | apply pw_below_drewN | apply below_drew1) | exact HB.out))); (case aF => exact (fun k_ hk => Kd.fresh' (Kd.R_lt (by (with_reducible repeat (first | apply Kd.R_alloc | apply Kd.R_drewN | apply Kd.R_drew)); exact HO181.out)) k_ hk)); (case aO => exact (by (with_reducible repeat (first | apply Kd.R_alloc | apply Kd.R_drewN | apply Kd.R_drew)); exact Kd.R_mono HO_8.out (fun _ hk => hk.2))); (case aS => exact (below_size (by repeat (first | (with_reducible first | exact HB.out | apply below_alloc | apply pw_below_drewN | apply below_drew1) | exact HB.out)))); (case aL => have := LMc15.out; omega); intro v183 w17 ho hb hg hat; rw [← Ny182.out] at ho; have n0_ := Aside0.mk (Kd.R_after (ok := (fun _ => True)) (by (with_reducible repeat (first | apply Kd.R_alloc | apply Kd.R_drewN | apply Kd.R_drew)); exact HO181.out) hg hat); have n1_ := Aside0.mk (hb); have n2_ := Aside0.mk (ho); clear HO181; clear HB; clear HO_8; have HO181 := n0_; have HB := n1_; have HO184 := n2_; clear n0_ n1_ n2_; clear ho hb hg hat))
          go_roundg kj5
          case measure => have := HK1.out; have := HJ5.out; omega
          case rel => exact ⟨(y182), (wrap64 (t176 + (wrap64 ((wrap64 (t175 / 2)) * a1)))), (by first | rfl | (simp; done) | (simp [*]; done)), H', ⟨by have := HK1.out; have := HJ5.out; omega⟩, ⟨by (with_reducible repeat (first | apply Kd.R_alloc | apply Kd.R_drewN | apply Kd.R_drew)); exact Kd.R_mono HO184.out (fun _ hk => trivial)⟩, ⟨by repeat (first | (with_reducible first | exact HB.out | apply below_alloc | apply pw_below_drewN | apply below_drew1) | exact HB.out)⟩⟩
         ·rw [if_neg c15] at H
          exact absurd H (by simp)
        ·replace c14 := Bool.eq_false_iff.mpr c14
         subst c14
         have H1 : (some (([] : List Int), false)) = some (r1, r2) := by rw [if_neg (show ¬ (false = true) by decide)] at H; exact H
         clear H
         have H := H1
         clear H1
         simp only [Option.some.injEq, Prod.mk.injEq] at H
         obtain ⟨rfl, rfl⟩ := H
         go_wp2_with (first | ((with_reducible refine gate_callee (f := 27) rfl ?_); refine goesL_ (some 64) rfl rfl Tryz.func27 (by kernel_rfl) rfl #[.slice A0 l0.length c0, .int .i64 (wrap64 (8 * t176)), .int .i64 a1, .int .i64 ji12] rfl (by (try simp only [List.map_toArray, List.map_cons, List.map_nil]); first | done | (simp only [hji12]; rfl) | rfl | (simp only [List.length_drop, List.length_take]; rfl)) ?_; (with_reducible refine (spec_UnpackBits.calls kj5 _ _ l0 (wrap64 (8 * t176)) a1 ji12 t178 false _ ?side1 ?side2 A13.out).mono ?_); (case side1 => repeat (first | exact (Kd.C_below HR0.out HB.out) | (with_reducible refine Kd.C_alloc ?_ _) | (with_reducible refine Kd.C_drewN ?_ _) | (with_reducible refine Kd.C_drew ?_))); (case side2 => exact HC0.out); rintro e w19 ⟨v180, rfl, ho0, hb⟩; refine ⟨_, rfl, ?_⟩; have n0_ := Aside0.mk (Kd.R_elder' (by (with_reducible repeat (first | apply Kd.R_alloc | apply Kd.R_drewN | apply Kd.R_drew)); exact HO_8.out) (Kd.R_base ho0) hb); have n1_ := Aside0.mk (Kd.R_lower (Kd.R_new' ho0 (Kd.R_lt (by (with_reducible repeat (first | apply Kd.R_alloc | apply Kd.R_drewN | apply Kd.R_drew)); exact HO_8.out))) (below_size (by repeat (first | (with_reducible first | exact HB.out | apply below_alloc | apply pw_below_drewN | apply below_drew1) | exact HB.out)))); have n2_ := Aside0.mk (below_step (by repeat (first | (with_reducible first | exact HB.out | apply below_alloc | apply pw_below_drewN | apply below_drew1) | exact HB.out)) hb); clear HO_8; clear HB; have HO_8 := n0_; have HO181 := n1_; have HB := n2_; clear n0_ n1_ n2_; (try clear hb); (try clear hb2); (try clear hk); (try clear hi); (try clear ho0)))
         go_ret2
         exact ⟨_, by first | rfl | (simp [errW_none, errW_some] <;> rfl) | (simp only [← hji12]; first | rfl | (simp [errW_none, errW_some] <;> rfl)) | (simp [*, errW_none, errW_some] <;> rfl), by first | exact Kd.R_nil _ _ _ _ _ | exact Kd.N_nil _ _ _ _ _ | exact Kd.V_nil _ _ _ _ _ | exact Kd.Q_nil _ _ _ _ _ | exact Kd.S_nil _ _ _ _ _, by repeat (first | (with_reducible first | exact HB.out | apply below_alloc | apply pw_below_drewN | apply below_drew1) | exact HB.out)⟩
       ·rw [if_neg c11] at H
        have c11b0 : ((Go.bits .and .u64 t175 1) == 1) = false := beq_eq_false_iff_ne.mpr c11
        have c11b1 : ((Go.bits .and .u64 t175 1) != 1) = true := bne_iff_ne.mpr c11
        by_cases c20 : (wrap64 (t176 + (wrap64 (Int.tdiv (wrap64 (a1 + 7)) 8)))) > (l0.length : Int)
        ·rw [if_pos c20] at H
         have c20b0 : decide ((l0.length : Int) < (wrap64 (t176 + (wrap64 (Int.tdiv (wrap64 (a1 + 7)) 8))))) = true := decide_eq_true c20
         clear c20
         simp only [Option.some.injEq, Prod.mk.injEq] at H
         obtain ⟨rfl, rfl⟩ := H
         go_wp2
         go_ret2
         exact ⟨_, by first | rfl | (simp [errW_none, errW_some] <;> rfl) | (simp [*, errW_none, errW_some] <;> rfl), by first | exact Kd.R_nil _ _ _ _ _ | exact Kd.N_nil _ _ _ _ _ | exact Kd.V_nil _ _ _ _ _ | exact Kd.Q_nil _ _ _ _ _ | exact Kd.S_nil _ _ _ _ _, by repeat (first | (with_reducible first | exact HB.out | apply below_alloc | apply pw_below_drewN | apply below_drew1) | exact HB.out)⟩
        ·rw [if_neg c20] at H
         have c20b0 : decide ((l0.length : Int) < (wrap64 (t176 + (wrap64 (Int.tdiv (wrap64 (a1 + 7)) 8))))) = false := decide_eq_false c20
         clear c20
         have H' := Aside0.mk H
         clear H
         go_wp2
         go_loopg [18, 19] kj5 (fun kq v18 v19 w' => ∃ (x18_3 : Int) (x19_3 : Int), v18 = .int .u64 x18_3 ∧ v19 = .int .i64 x19_3 ∧ Aside0 (spec_TakeRuns.l1 kq l0 a1 a2 x8_1 t176 (wrap64 (t175 / 2)) (wrap64 (Int.tdiv (wrap64 (a1 + 7)) 8)) x18_3 x19_3 = some (r1, r2)) ∧ Aside0 (kq ≤ kj5) ∧ Aside0 (Kd.R (Kd.int .u64) 26 w' w.heap.size (fun _ => True) (.slice Ao7 x8_1.length co7) x8_1) ∧ Aside0 (Below w.heap.size w w'))
         case atStart => exact ⟨(0), (0), (by first | rfl | (simp; done) | (simp [*]; done)), (by first | rfl | (simp; done) | (simp [*]; done)), H', ⟨Nat.le_refl _⟩, ⟨by (with_reducible repeat (first | apply Kd.R_alloc | apply Kd.R_drewN | apply Kd.R_drew)); exact HO_8.out⟩, ⟨by repeat (first | (with_reducible first | exact HB.out | apply below_alloc | apply pw_below_drewN | apply below_drew1) | exact HB.out)⟩⟩
         case round =>
          clear H'
          try clear c1
          try clear c2
          try clear p2
          try clear c4
          try clear c4b0
          try clear p6
          try clear c8
          try clear c9
          try clear c9b0
          try clear c9b1
          try clear c10
          try clear c11
          try clear c11b0
          try clear c11b1
          try clear c14
          try clear c15
          try clear c20
          try clear c20b0
          try clear p2
          try clear p6
          obtain ⟨x18_3, x19_3, rfl, rfl, HA, HK3, HO_8, HB⟩ := hrel
          cases gk with
          | zero => exact absurd HA.out (by simp [spec_TakeRuns.l1])
          | succ k3 =>
           have H := HA.out
           clear HA
           simp only [spec_TakeRuns.l1] at H
           by_cases c21 : x19_3 < (wrap64 (Int.tdiv (wrap64 (a1 + 7)) 8))
           ·rw [if_pos c21] at H
            have c21b0 : decide (x19_3 < (wrap64 (Int.tdiv (wrap64 (a1 + 7)) 8))) = true := decide_eq_true c21
            clear c21
            obtain ⟨ji22, hji22⟩ : ∃ j_ : Int, (wrap64 (t176 + x19_3)) = j_ := ⟨_, rfl⟩
            replace H : (if 0 ≤ (ji22) then (if (ji22) < (l0.length : Int) then (if 0 ≤ (wrap64 (8 * x19_3)) then (spec_TakeRuns.l1 k3 l0 a1 a2 x8_1 t176 (wrap64 (t175 / 2)) (wrap64 (Int.tdiv (wrap64 (a1 + 7)) 8)) (Go.bits .or .u64 x18_3 (shl .u64 (IntKind.u64.wrap (rd l0 (ji22))) (wrap64 (8 * x19_3)))) (wrap64 (x19_3 + 1))) else (none)) else (none)) else (none)) = some (r1, r2) := by first | (rw [hji22] at H; exact H) | (simp only [hji22] at H ⊢; exact H)
            have hji22w : (IntKind.i64.wrap (t176 + x19_3)) = ji22 := (i64_w _).trans hji22
            by_cases c23 : 0 ≤ (ji22)
            ·rw [if_pos c23] at H
             have c23b0 : decide (0 ≤ (ji22)) = true := decide_eq_true c23
             clear c23
             by_cases c24 : (ji22) < (l0.length : Int)
             ·rw [if_pos c24] at H
              have c24b0 : decide ((ji22) < (l0.length : Int)) = true := decide_eq_true c24
              clear c24
              obtain ⟨ji25, hji25⟩ : ∃ j_ : Int, (wrap64 (8 * x19_3)) = j_ := ⟨_, rfl⟩
              replace H : (if 0 ≤ (ji25) then (spec_TakeRuns.l1 k3 l0 a1 a2 x8_1 t176 (wrap64 (t175 / 2)) (wrap64 (Int.tdiv (wrap64 (a1 + 7)) 8)) (Go.bits .or .u64 x18_3 (shl .u64 (IntKind.u64.wrap (rd l0 (ji22))) (ji25))) (wrap64 (x19_3 + 1))) else (none)) = some (r1, r2) := by first | (rw [hji25] at H; exact H) | (simp only [hji25] at H ⊢; exact H)
              have hji25w : (IntKind.i64.wrap (8 * x19_3)) = ji25 := (i64_w _).trans hji25
              by_cases c26 : 0 ≤ (ji25)
              ·rw [if_pos c26] at H
               have c26b0 := eq_true c26
               have c26b1 : decide (0 ≤ (ji25)) = true := decide_eq_true c26
               clear c26
               obtain ⟨ji27, hji27⟩ : ∃ j_ : Int, (shl .u64 (IntKind.u64.wrap (rd l0 (ji22))) (ji25)) = j_ := ⟨_, rfl⟩
               replace H : (spec_TakeRuns.l1 k3 l0 a1 a2 x8_1 t176 (wrap64 (t175 / 2)) (wrap64 (Int.tdiv (wrap64 (a1 + 7)) 8)) (Go.bits .or .u64 x18_3 (ji27)) (wrap64 (x19_3 + 1))) = some (r1, r2) := by first | (rw [hji27] at H; exact H) | (simp only [hji27] at H ⊢; exact H)
               have hji27_ : (IntKind.u64.wrap ((IntKind.u64.wrap (rd l0 (ji22))) * 2 ^ min (ji25).toNat 64)) = ji27 := hji27
               have hji27z : (ji25) ≤ 64 → (IntKind.u64.wrap ((IntKind.u64.wrap (rd l0 (ji22))) * 2 ^ (ji25).toNat)) = ji27 := shl_small hji27
               have H' := Aside0.mk H
               clear H
               have p185 : 0 ≤ ((ji22) : Int) := of_decide_eq_true (by first | (with_reducible assumption) | assumption)
               have q185 : (ji22) < (l0.length : Int) := of_decide_eq_true (by first | (with_reducible assumption) | assumption)
               obtain ⟨ad185, e185, hx185_0⟩ := Kd.at_int HR0.out (ji22) p185 q185
               cases e185
               replace hx185_0 := (HB.out.cell (World.block_lt_of_cell? w _ hx185_0)).trans hx185_0
               replace p185 := eq_true p185
               replace q185 := eq_true q185
               go_wp2
               go_roundg k3
               case measure => have := HK1.out; have := HJ5.out; have := HK3.out; omega
               case rel => exact ⟨(Go.bits .or .u64 x18_3 (ji27)), (wrap64 (x19_3 + 1)), (by first | rfl | (simp; done) | (simp only [← hji27] <;> (first | rfl | simp)) | (simp [*]; done)), (by first | rfl | (simp; done) | (simp [*]; done)), H', ⟨by have := HK1.out; have := HJ5.out; have := HK3.out; omega⟩, ⟨by (with_reducible repeat (first | apply Kd.R_alloc | apply Kd.R_drewN | apply Kd.R_drew)); exact HO_8.out⟩, ⟨by repeat (first | (with_reducible first | exact HB.out | apply below_alloc | apply pw_below_drewN | apply below_drew1) | exact HB.out)⟩⟩
              ·rw [if_neg c26] at H
               exact absurd H (by simp)
             ·rw [if_neg c24] at H
              exact absurd H (by simp)
            ·rw [if_neg c23] at H
             exact absurd H (by simp)
           ·rw [if_neg c21] at H
            have c21b0 : decide (x19_3 < (wrap64 (Int.tdiv (wrap64 (a1 + 7)) 8))) = false := decide_eq_false c21
            clear c21
            have HC28 := Aside0.mk H
            clear H
            go_upto_region 22 with (fail)
            go_cut [110] (fun v110 wc => ∃ (kq : Nat) (x110_27 : Bool), v110 = .bool x110_27 ∧ Aside0 (spec_TakeRuns.j3 kq l0 a1 a2 x8_1 t176 (wrap64 (t175 / 2)) (wrap64 (Int.tdiv (wrap64 (a1 + 7)) 8)) x18_3 x110_27 = some (r1, r2)) ∧ Aside0 (kq ≤ k3) ∧ Aside0 (Kd.R (Kd.int .u64) 26 wc w.heap.size (fun _ => True) (.slice Ao7 x8_1.length co7) x8_1) ∧ Aside0 (Below w.heap.size w wc))
            case first =>
             have H := HC28.out
             clear HC28
             by_cases c29 : a1 < 64
             ·rw [if_pos c29] at H
              have c29b0 : decide (a1 < 64) = true := decide_eq_true c29
              clear c29
              (first | rw [c29b0] | (simp only [i64_w, i32_w]; rw [c29b0]) | skip)
              by_cases c30 : 0 ≤ a1
              ·rw [if_pos c30] at H
               have c30b0 := eq_true c30
               have c30b1 : decide (0 ≤ a1) = true := decide_eq_true c30
               clear c30
               obtain ⟨ji31, hji31⟩ : ∃ j_ : Int, (shr .u64 x18_3 a1) = j_ := ⟨_, rfl⟩
               replace H : (spec_TakeRuns.j3 k3 l0 a1 a2 x8_1 t176 (wrap64 (t175 / 2)) (wrap64 (Int.tdiv (wrap64 (a1 + 7)) 8)) x18_3 (decide ((ji31) > 0))) = some (r1, r2) := by first | (rw [hji31] at H; exact H) | (simp only [hji31] at H ⊢; exact H)
               have hji31_ : (x18_3 / 2 ^ min a1.toNat 64) = ji31 := hji31
               have hji31z : a1 ≤ 64 → (x18_3 / 2 ^ a1.toNat) = ji31 := shr_small hji31
               have H' := Aside0.mk H
               clear H
               go_wp2
               go_meet
               case rel => exact ⟨_, (decide ((ji31) > 0)), (by first | rfl | (simp; done) | (simp only [← hji31] <;> (first | rfl | simp)) | (simp [*]; done)), H', ⟨by have := HK1.out; have := HJ5.out; have := HK3.out; first | omega | exact Nat.le_refl _⟩, ⟨by (with_reducible repeat (first | apply Kd.R_alloc | apply Kd.R_drewN | apply Kd.R_drew)); exact HO_8.out⟩, ⟨by repeat (first | (with_reducible first | exact HB.out | apply below_alloc | apply pw_below_drewN | apply below_drew1) | exact HB.out)⟩⟩
              ·rw [if_neg c30] at H
               exact absurd H (by simp)
             ·rw [if_neg c29] at H
              have c29b0 : decide (a1 < 64) = false := decide_eq_false c29
              clear c29
              (first | rw [c29b0] | (simp only [i64_w, i32_w]; rw [c29b0]) | skip)
              have H' := Aside0.mk H
              clear H
              go_wp2
              go_meet
              case rel => exact ⟨_, (false), (by first | rfl | (simp; done) | (simp [*]; done)), H', ⟨by have := HK1.out; have := HJ5.out; have := HK3.out; first | omega | exact Nat.le_refl _⟩, ⟨by (with_reducible repeat (first | apply Kd.R_alloc | apply Kd.R_drewN | apply Kd.R_drew)); exact HO_8.out⟩, ⟨by repeat (first | (with_reducible first | exact HB.out | apply below_alloc | apply pw_below_drewN | apply below_drew1) | exact HB.out)⟩⟩
            case rest =>
             clear HC28
             try clear c1
             try clear p1
             try clear q1
             try clear hx1
             try clear c2
             try clear p2
             try clear c3
             try clear c4
             try clear c4b0
             try clear p6
             try clear c8
             try clear c9
             try clear c9b0
             try clear c9b1
             try clear c10
             try clear c11
             try clear c11b0
             try clear c11b1
             try clear c14
             try clear c15
             try clear p18
             try clear q18
             try clear hx18
             try clear c20
             try clear c20b0
             try clear c21
             try clear c21b0
             try clear c23
             try clear c23b0
             try clear c24
             try clear c24b0
             try clear c26
             try clear c26b0
             try clear c26b1
             try clear c27
             try clear c29
             try clear c29b0
             try clear c30
             try clear c30b0
             try clear c30b1
             try clear hx185_0
             try clear p185
             try clear p2
             try clear p6
             try clear q185
             obtain ⟨kq, x110_27, rfl, HA, HJ27, HO_8, HB⟩ := hcut
             cases kq with
             | zero => exact absurd HA.out (by simp [spec_TakeRuns.j3])
             | succ kj27 =>
              have H := HA.out
              clear HA
              simp only [spec_TakeRuns.j3] at H
              by_cases c32 : x110_27 = true
              ·subst c32
               have H1 : (some (([] : List Int), false)) = some (r1, r2) := by rw [if_pos rfl] at H; exact H
               clear H
               have H := H1
               clear H1
               simp only [Option.some.injEq, Prod.mk.injEq] at H
               obtain ⟨rfl, rfl⟩ := H
               go_wp2
               go_ret2
               exact ⟨_, by first | rfl | (simp [errW_none, errW_some] <;> rfl) | (simp [*, errW_none, errW_some] <;> rfl), by first | exact Kd.R_nil _ _ _ _ _ | exact Kd.N_nil _ _ _ _ _ | exact Kd.V_nil _ _ _ _ _ | exact Kd.Q_nil _ _ _ _ _ | exact Kd.S_nil _ _ _ _ _, by repeat (first | (with_reducible first | exact HB.out | apply below_alloc | apply pw_below_drewN | apply below_drew1) | exact HB.out)⟩
              ·replace c32 := Bool.eq_false_iff.mpr c32
               subst c32
               have H1 : (spec_TakeRuns.l2 kj27 l0 a1 a2 x8_1 (wrap64 (t176 + (wrap64 (Int.tdiv (wrap64 (a1 + 7)) 8)))) (wrap64 (t175 / 2)) x18_3 0) = some (r1, r2) := by rw [if_neg (show ¬ (false = true) by decide)] at H; exact H
               clear H
               have H := H1
               clear H1
               have H' := Aside0.mk H
               clear H
               go_wp2
               go_loopg [8, 20] kj27 (fun kq v8 v20 w' => ∃ (x8_5 : List Int) (x20_5 : Int), v20 = .int .i64 x20_5 ∧ Aside0 (spec_TakeRuns.l2 kq l0 a1 a2 x8_5 (wrap64 (t176 + (wrap64 (Int.tdiv (wrap64 (a1 + 7)) 8)))) (wrap64 (t175 / 2)) x18_3 x20_5 = some (r1, r2)) ∧ Aside0 (kq ≤ kj27) ∧ Aside0 (Kd.R (Kd.int .u64) 26 w' w.heap.size (fun _ => True) v8 x8_5) ∧ Aside0 (Below w.heap.size w w'))
               case atStart => exact ⟨(x8_1), (0), (by first | rfl | (simp; done) | (simp [*]; done)), H', ⟨Nat.le_refl _⟩, ⟨by (with_reducible repeat (first | apply Kd.R_alloc | apply Kd.R_drewN | apply Kd.R_drew)); exact HO_8.out⟩, ⟨by repeat (first | (with_reducible first | exact HB.out | apply below_alloc | apply pw_below_drewN | apply below_drew1) | exact HB.out)⟩⟩
               case round =>
                clear H'
                try clear c1
                try clear p1
                try clear q1
                try clear hx1
                try clear c2
                try clear p2
                try clear c3
                try clear c4
                try clear c4b0
                try clear p6
                try clear c8
                try clear c9
                try clear c9b0
                try clear c9b1
                try clear c10
                try clear c11
                try clear c11b0
                try clear c11b1
                try clear c14
                try clear c15
                try clear p18
                try clear q18
                try clear hx18
                try clear c20
                try clear c20b0
                try clear c21
                try clear c21b0
                try clear c23
                try clear c23b0
                try clear c24
                try clear c24b0
                try clear c26
                try clear c26b0
                try clear c26b1
                try clear c27
                try clear c29
                try clear c29b0
                try clear c30
                try clear c30b0
                try clear c30b1
                try clear c32
                try clear hx185_0
                try clear p1
                try clear p18
                try clear p185
                try clear p2
                try clear p6
                try clear q1
                try clear q18
                try clear q185
                obtain ⟨x8_5, x20_5, rfl, HA, HK5, HO_8, HB⟩ := hrel
                cases gk with
                | zero => exact absurd HA.out (by simp [spec_TakeRuns.l2])
                | succ k5 =>
                 have H := HA.out
                 clear HA
                 simp only [spec_TakeRuns.l2] at H
                 by_cases c33 : x20_5 < (wrap64 (t175 / 2))
                 ·rw [if_pos c33] at H
                  have c33b0 : decide (x20_5 < (wrap64 (t175 / 2))) = true := decide_eq_true c33
                  clear c33
                  by_cases c34 : (x8_5.length : Int) < a2
                  ·rw [if_pos c34] at H
                   have c34b0 : decide ((x8_5.length : Int) < a2) = true := decide_eq_true c34
                   clear c34
                   by_cases c35 : x8_5.length < 17592186044416
                   ·rw [if_pos c35] at H
                    have LMc35 := Aside0.mk c35
                    clear c35
                    obtain ⟨y186, hy186⟩ : ∃ y_ : List Int, y_ = (x8_5 ++ [x18_3]) := ⟨_, rfl⟩
                    replace H : (spec_TakeRuns.l2 k5 l0 a1 a2 y186 (wrap64 (t176 + (wrap64 (Int.tdiv (wrap64 (a1 + 7)) 8)))) (wrap64 (t175 / 2)) x18_3 (wrap64 (x20_5 + 1))) = some (r1, r2) := by first | (rw [hy186]; with_reducible exact H) | (have H2_ := (Option.bind_some _ _).symm.trans H; rw [hy186]; with_reducible exact H2_) | (have H2_ := (Option.bind_some _ _).symm.trans H; with_reducible exact H2_) | with_reducible exact H | (rw [hy186]; exact H) | exact H
                    have Ny186 := Aside0.mk hy186
                    clear hy186
                    have H' := Aside0.mk H
                    clear H
                    obtain ⟨Ao36, co36, eo36⟩ := Kd.R_slice HO_8.out
                    subst eo36
                    go_wp2_with (first | ((with_reducible refine gate_builtin (b := .append) (xs := #[.tmp 125, .tmp 127]) rfl ?_); (try (refine gate_guard (by rfl) ?_; dsimp only)); at_builtin; refine Kd.R_append (Kd.int .u64) (w0 := w) w.heap.size rfl (.tmp 125) (.tmp 127) 37 26 (.int .u64 0) 8 rfl Tryz.underlying37 info26 rfl (by decide) (by omega) (.slice Ao36 x8_5.length co36) x8_5 x18_3 [.int .u64 x18_3] (fun _ => True) (fun _ => False) rfl rfl ?aP (fun _ hk => hk.elim) ?aF ?aO ?aB ?aS ?aL ?_; (case aP => exact rfl); (case aB => exact (by repeat (first | (with_reducible first | exact HB.out | apply below_alloc | apply pw_below_drewN | apply below_drew1) | exact HB.out))); (case aF => exact (fun _ _ => trivial)); (case aO => exact (by (with_reducible repeat (first | apply Kd.R_alloc | apply Kd.R_drewN | apply Kd.R_drew)); exact HO_8.out)); (case aS => exact (below_size (by repeat (first | (with_reducible first | exact HB.out | apply below_alloc | apply pw_below_drewN | apply below_drew1) | exact HB.out)))); (case aL => have := LMc35.out; omega); intro v187 w37 ho hb hg hat; rw [← Ny186.out] at ho; have n0_ := Aside0.mk (hb); have n1_ := Aside0.mk (ho); clear HB; clear HO_8; have HB := n0_; have HO188 := n1_; clear n0_ n1_; clear ho hb hg hat))
                    go_roundg k5
                    case measure => have := HK1.out; have := HJ5.out; have := HK3.out; have := HJ27.out; have := HK5.out; omega
                    case rel => exact ⟨(y186), (wrap64 (x20_5 + 1)), (by first | rfl | (simp; done) | (simp [*]; done)), H', ⟨by have := HK1.out; have := HJ5.out; have := HK3.out; have := HJ27.out; have := HK5.out; omega⟩, ⟨by (with_reducible repeat (first | apply Kd.R_alloc | apply Kd.R_drewN | apply Kd.R_drew)); exact HO188.out⟩, ⟨by repeat (first | (with_reducible first | exact HB.out | apply below_alloc | apply pw_below_drewN | apply below_drew1) | exact HB.out)⟩⟩
                   ·rw [if_neg c35] at H
                    exact absurd H (by simp)
                  ·rw [if_neg c34] at H
                   have c34b0 : decide ((x8_5.length : Int) < a2) = false := decide_eq_false c34
                   clear c34
                   have H' := Aside0.mk H
                   clear H
                   obtain ⟨Ao38, co38, eo38⟩ := Kd.R_slice HO_8.out
                   subst eo38
                   go_wp2
                   go_roundg k5
                   case measure => have := HK1.out; have := HJ5.out; have := HK3.out; have := HJ27.out; have := HK5.out; omega
                   case rel => exact ⟨(x8_5), ((wrap64 (t176 + (wrap64 (Int.tdiv (wrap64 (a1 + 7)) 8))))), (by first | rfl | (simp; done) | (simp [*]; done)), H', ⟨by have := HK1.out; have := HJ5.out; have := HK3.out; have := HJ27.out; have := HK5.out; omega⟩, ⟨by (with_reducible repeat (first | apply Kd.R_alloc | apply Kd.R_drewN | apply Kd.R_drew)); exact HO_8.out⟩, ⟨by repeat (first | (with_reducible first | exact HB.out | apply below_alloc | apply pw_below_drewN | apply below_drew1) | exact HB.out)⟩⟩
                 ·rw [if_neg c33] at H
                  have c33b0 : decide (x20_5 < (wrap64 (t175 / 2))) = false := decide_eq_false c33
                  clear c33
                  have H' := Aside0.mk H
                  clear H
                  go_wp2
                  go_roundg k5
                  case measure => have := HK1.out; have := HJ5.out; have := HK3.out; have := HJ27.out; have := HK5.out; omega
                  case rel => exact ⟨(x8_5), ((wrap64 (t176 + (wrap64 (Int.tdiv (wrap64 (a1 + 7)) 8))))), (by first | rfl | (simp; done) | (simp [*]; done)), H', ⟨by have := HK1.out; have := HJ5.out; have := HK3.out; have := HJ27.out; have := HK5.out; omega⟩, ⟨by (with_reducible repeat (first | apply Kd.R_alloc | apply Kd.R_drewN | apply Kd.R_drew)); exact HO_8.out⟩, ⟨by repeat (first | (with_reducible first | exact HB.out | apply below_alloc | apply pw_below_drewN | apply below_drew1) | exact HB.out)⟩⟩
   ·rw [if_neg c4] at H
    have c4b0 : decide ((x8_1.length : Int) < a2) = false := decide_eq_false c4
    clear c4
    simp only [Option.some.injEq, Prod.mk.injEq] at H
    obtain ⟨rfl, rfl⟩ := H
    obtain ⟨Ao39, co39, eo39⟩ := Kd.R_slice HO_8.out
    subst eo39
    go_wp2
    go_ret2
    exact ⟨_, by first | rfl | (simp [errW_none, errW_some] <;> rfl) | (simp [*, errW_none, errW_some] <;> rfl), by (with_reducible repeat (first | apply Kd.R_alloc | apply Kd.R_drewN | apply Kd.R_drew)); exact HO_8.out, by repeat (first | (with_reducible first | exact HB.out | apply below_alloc | apply pw_below_drewN | apply below_drew1) | exact HB.out)⟩

/-! ### laws_sameWords: function 28 -/
def laws_sameWords.l0 : Nat → List Int → List Int → Int → Int → Option (Bool)
 | 0, _, _, _, _ => none
 | k + 1, x0, x1, x12, x13 => if x13 < x12 then (if 0 ≤ x13 then (if x13 < (x0.length : Int) then (if x13 < (x1.length : Int) then (if (rd x0 x13) = (rd x1 x13) then (laws_sameWords.l0 k x0 x1 x12 (wrap64 (x13 + 1))) else (some false)) else (none)) else (none)) else (none)) else (some true)
def laws_sameWords.f (k : Nat) (l0 : List Int) (l1 : List Int) : Option (Bool) := if (l0.length : Int) = (l1.length : Int) then (laws_sameWords.l0 k l0 l1 (l0.length : Int) 0) else (some false)
theorem laws_sameWords.mono_l : ∀ k, (∀ y0 y1 y2 y3, LeO (laws_sameWords.l0 k y0 y1 y2 y3) (laws_sameWords.l0 (k + 1) y0 y1 y2 y3))
 | 0 => fun _ _ _ _ r h => by simp [laws_sameWords.l0] at h
 | k + 1 => by
  have ih0 := laws_sameWords.mono_l k
  ·intro y0 y1 y2 y3
   unfold laws_sameWords.l0
   repeat' first
   | (with_reducible exact ih0 _ _ _ _)
   | (with_reducible exact LeO.refl _)
   | (with_reducible exact LeO.none _)
   | (with_reducible refine LeO.ite ?_ ?_)
   | (with_reducible refine LeO.bind ?_ (fun _ => ?_))
   | exact ih0 _ _ _ _
   | exact LeO.none _
   | refine LeO.ite ?_ ?_
   | refine LeO.bind ?_ (fun _ => ?_)
theorem laws_sameWords.mono : ∀ a0 a1 k, LeO (laws_sameWords.f k a0 a1) (laws_sameWords.f (k + 1) a0 a1) := by
 intro a0 a1 k
 have ih0 := laws_sameWords.mono_l k
 unfold laws_sameWords.f
 repeat' first
   | (with_reducible exact ih0 _ _ _ _)
   | (with_reducible exact LeO.refl _)
   | (with_reducible exact LeO.none _)
   | (with_reducible refine LeO.ite ?_ ?_)
   | (with_reducible refine LeO.bind ?_ (fun _ => ?_))
   | exact ih0 _ _ _ _
   | exact LeO.none _
   | refine LeO.ite ?_ ?_
   | refine LeO.bind ?_ (fun _ => ?_)
set_option maxHeartbeats 8000000 in
set_option maxRecDepth 100000 in
theorem laws_sameWords.calls (k : Nat) (A0 : Option Addr) (c0 : Nat) (l0 : List Int) (A1 : Option Addr) (c1 : Nat) (l1 : List Int) (r : Bool) (w : World) (hr0 : Kd.C (Kd.int .u64) w A0 l0.length l0) (hc0 : l0.length ≤ c0) (hr1 : Kd.C (Kd.int .u64) w A1 l1.length l1) (hc1 : l1.length ≤ c1) (h : laws_sameWords.f k l0 l1 = some r) :
  Calls Tryz.prog 28 #[.slice A0 l0.length c0, .slice A1 l1.length c1] w fun e w' => e = .returned (.bool r) ∧ Drawn0 w w' := by
 have HR0 := Aside0.mk hr0
 have HC0 := Aside0.mk hc0
 clear hr0 hc0
 have HR1 := Aside0.mk hr1
 have HC1 := Aside0.mk hc1
 clear hr1 hc1
 have H : (if (l0.length : Int) = (l1.length : Int) then (laws_sameWords.l0 k l0 l1 (l0.length : Int) 0) else (some false)) = some r := h
 clear h
 by_cases c3 : (l0.length : Int) = (l1.length : Int)
 ·rw [if_pos c3] at H
  have c3b0 : ((l0.length : Int) == (l1.length : Int)) = true := beq_iff_eq.mpr c3
  have c3b1 : ((l0.length : Int) != (l1.length : Int)) = false := bne_eq_false_iff_eq.mpr c3
  have c3b2 : (l0.length == l1.length) = true := by first | simpa using c3 | (simp at c3 ⊢; omega)
  clear c3
  have H' := Aside0.mk H
  clear H
  go_enter Tryz.func28, Tryz.ntmps28
  go_wp2
  repeat (go_quiet (fail); try go_wp2)
  go_loopg [13] k (fun kq v13 w' => ∃ (x13_1 : Int), v13 = .int .i64 x13_1 ∧ Aside0 (laws_sameWords.l0 kq l0 l1 (l0.length : Int) x13_1 = some r) ∧ Aside0 (kq ≤ k) ∧ Drawn0 w w')
  case atStart => exact ⟨(0), (by first | rfl | (simp; done) | (simp [*]; done)), H', ⟨Nat.le_refl _⟩, by repeat (first | exact Drawn0.refl _ | apply Drawn0.step)⟩
  case round =>
   clear H'
   try clear c1
   try clear c2
   try clear p2
   try clear c3
   try clear c3b0
   try clear c3b1
   try clear c3b2
   obtain ⟨x13_1, rfl, HA, HK1, ⟨m1, rfl⟩⟩ := hrel
   cases gk with
   | zero => exact absurd HA.out (by simp [laws_sameWords.l0])
   | succ k1 =>
    have H := HA.out
    clear HA
    simp only [laws_sameWords.l0] at H
    by_cases c4 : x13_1 < (l0.length : Int)
    ·rw [if_pos c4] at H
     have c4b0 : decide (x13_1 < (l0.length : Int)) = true := decide_eq_true c4
     clear c4
     by_cases c5 : 0 ≤ x13_1
     ·rw [if_pos c5] at H
      have c5b0 : decide (0 ≤ x13_1) = true := decide_eq_true c5
      clear c5
      by_cases c6 : x13_1 < (l0.length : Int)
      ·rw [if_pos c6] at H
       have c6b0 : decide (x13_1 < (l0.length : Int)) = true := decide_eq_true c6
       clear c6
       by_cases c7 : x13_1 < (l1.length : Int)
       ·rw [if_pos c7] at H
        have c7b0 : decide (x13_1 < (l1.length : Int)) = true := decide_eq_true c7
        clear c7
        by_cases c8 : (rd l0 x13_1) = (rd l1 x13_1)
        ·rw [if_pos c8] at H
         have c8b0 : ((rd l0 x13_1) == (rd l1 x13_1)) = true := beq_iff_eq.mpr c8
         have c8b1 : ((rd l0 x13_1) != (rd l1 x13_1)) = false := bne_eq_false_iff_eq.mpr c8
         clear c8
         have H' := Aside0.mk H
         clear H
         have p189 : 0 ≤ (x13_1 : Int) := of_decide_eq_true (by first | (with_reducible assumption) | assumption)
         have q189 : x13_1 < (l0.length : Int) := of_decide_eq_true (by first | (with_reducible assumption) | assumption)
         obtain ⟨ad189, e189, hx189_0⟩ := Kd.at_int HR0.out x13_1 p189 q189
         cases e189
         replace p189 := eq_true p189
         replace q189 := eq_true q189
         have p190 : 0 ≤ (x13_1 : Int) := of_decide_eq_true (by first | (with_reducible assumption) | assumption)
         have q190 : x13_1 < (l1.length : Int) := of_decide_eq_true (by first | (with_reducible assumption) | assumption)
         obtain ⟨ad190, e190, hx190_0⟩ := Kd.at_int HR1.out x13_1 p190 q190
         cases e190
         replace p190 := eq_true p190
         replace q190 := eq_true q190
         go_wp2
         repeat (go_quiet (fail); try go_wp2)
         go_roundg k1
         case measure => have := HK1.out; omega
         case rel => exact ⟨(wrap64 (x13_1 + 1)), (by first | rfl | (simp; done) | (simp [*]; done)), H', ⟨by have := HK1.out; omega⟩, by repeat (first | exact Drawn0.refl _ | apply Drawn0.step)⟩
        ·rw [if_neg c8] at H
         have c8b0 : ((rd l0 x13_1) == (rd l1 x13_1)) = false := beq_eq_false_iff_ne.mpr c8
         have c8b1 : ((rd l0 x13_1) != (rd l1 x13_1)) = true := bne_iff_ne.mpr c8
         obtain rfl := Option.some.inj H
         have p189 : 0 ≤ (x13_1 : Int) := of_decide_eq_true (by first | (with_reducible assumption) | assumption)
         have q189 : x13_1 < (l0.length : Int) := of_decide_eq_true (by first | (with_reducible assumption) | assumption)
         obtain ⟨ad189, e189, hx189_0⟩ := Kd.at_int HR0.out x13_1 p189 q189
         cases e189
         replace p189 := eq_true p189
         replace q189 := eq_true q189
         have p190 : 0 ≤ (x13_1 : Int) := of_decide_eq_true (by first | (with_reducible assumption) | assumption)
         have q190 : x13_1 < (l1.length : Int) := of_decide_eq_true (by first | (with_reducible assumption) | assumption)
         obtain ⟨ad190, e190, hx190_0⟩ := Kd.at_int HR1.out x13_1 p190 q190
         cases e190
         replace p190 := eq_true p190
         replace q190 := eq_true q190
         go_wp2
         repeat (go_quiet (fail); try go_wp2)
         go_ret
         exact ⟨by first | rfl | (simp; done) | (simp [*]; done), by repeat (first | exact Drawn0.refl _ | apply Drawn0.step)⟩
       ·rw [if_neg c7] at H
        exact absurd H (by simp)
      ·rw [if_neg c6] at H
       exact absurd H (by simp)
     ·rw [if_neg c5] at H
      exact absurd H (by simp)
    ·rw [if_neg c4] at H
     have c4b0 : decide (x13_1 < (l0.length : Int)) = false := decide_eq_false c4
     clear c4
     obtain rfl := Option.some.inj H
     go_wp2
     repeat (go_quiet (fail); try go_wp2)
     go_ret
     exact ⟨by first | rfl | (simp; done) | (simp [*]; done), by repeat (first | exact Drawn0.refl _ | apply Drawn0.step)⟩
 ·rw [if_neg c3] at H
  have c3b0 : ((l0.length : Int) == (l1.length : Int)) = false := beq_eq_false_iff_ne.mpr c3
  have c3b1 : ((l0.length : Int) != (l1.length : Int)) = true := bne_iff_ne.mpr c3
  have c3b2 : (l0.length == l1.length) = false := by first | simpa using c3 | (simp at c3 ⊢; omega)
  obtain rfl := Option.some.inj H
  go_enter Tryz.func28, Tryz.ntmps28
  go_wp2
  repeat (go_quiet (fail); try go_wp2)
  go_ret
  exact ⟨by first | rfl | (simp; done) | (simp [*]; done), by repeat (first | exact Drawn0.refl _ | apply Drawn0.step)⟩

end Go.Proofs.YtiieljnllgeoeaaGreat.Q
