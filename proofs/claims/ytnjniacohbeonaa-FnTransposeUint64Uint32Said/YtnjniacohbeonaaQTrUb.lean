-- written by programs of ours (wip/tools) out of the kit's printer: the functions of one law, less those that are shared or proved by hand
import Derived.Test.YtnjniacohbeonaaQ0
import Derived.Test.YtnjniacohbeonaaQTrUa
import Derived.Test.YtnjniacohbeonaaTrUi
namespace Go.Proofs.Ytnjniacohbeonaa.Q
open Go.RowKit Go.Proofs.YtnjniacohbeonaaW.PrintWords Go.Proofs.YtnjniacohbeonaaW.PrintLast Go.Proofs.YtnjniacohbeonaaW.PrintMore
attribute [local go_sem] max2_int min2_int max_two min_two max_three min_three max_four min_four
set_option linter.unusedVariables false
set_option linter.unusedSimpArgs false

/-! ### laws_FnTransposeUint64Uint32: function 6 -/
mutual
def laws_FnTransposeUint64Uint32.j0 : Nat → List Int → List Int → Bool → Option (Bool)
  | 0, _, _, _ => none
  | k + 1, x0, x1, x22 => if x22 = true then (some true) else ((impl_TransposeUint64Uint32.f (([1] : List Int)) (([5, 7] : List Int))).bind fun bt114 => (if bt114.2 = true then (if (bt114.1.length : Int) = 1 then (if 0 < (bt114.1.length : Int) then (laws_FnTransposeUint64Uint32.j1 k x0 x1 ((rd bt114.1 0) == 7)) else (none)) else (laws_FnTransposeUint64Uint32.j1 k x0 x1 false)) else (laws_FnTransposeUint64Uint32.j1 k x0 x1 false)))
def laws_FnTransposeUint64Uint32.j1 : Nat → List Int → List Int → Bool → Option (Bool)
  | 0, _, _, _ => none
  | k + 1, x0, x1, x7 => if (x0.length : Int) > 1000 then (laws_FnTransposeUint64Uint32.j2 k x0 x1 x7 true) else (laws_FnTransposeUint64Uint32.j2 k x0 x1 x7 (decide ((x1.length : Int) > 1000)))
def laws_FnTransposeUint64Uint32.j2 : Nat → List Int → List Int → Bool → Bool → Option (Bool)
  | 0, _, _, _, _ => none
  | k + 1, x0, x1, x7, x48 => if x48 = true then (some x7) else (laws_FnTransposeUint64Uint32.l0 k x0 x1 x7 true ([] : List Int) x0 (x0.length : Int) 0)
def laws_FnTransposeUint64Uint32.l0 : Nat → List Int → List Int → Bool → Bool → List Int → List Int → Int → Int → Option (Bool)
  | 0, _, _, _, _, _, _, _, _ => none
  | k + 1, x0, x1, x7, x8, x9, x50, x51, x52 => if x52 < x51 then (if 0 ≤ x52 then (if x52 < (x50.length : Int) then (if x8 = true then (if (rd x50 x52) ≥ 0 then (if (rd x50 x52) < (IntKind.u64.wrap ((x1.length : Int))) then (if 0 ≤ (rd x50 x52) then (if (rd x50 x52) < (x1.length : Int) then (if x9.length < 35184372088832 then (laws_FnTransposeUint64Uint32.l0 k x0 x1 x7 (decide ((rd x50 x52) < (IntKind.u64.wrap ((x1.length : Int))))) (x9 ++ [(rd x1 (rd x50 x52)) % 4294967296]) x50 x51 (wrap64 (x52 + 1))) else (none)) else (none)) else (none)) else (laws_FnTransposeUint64Uint32.l0 k x0 x1 x7 (decide ((rd x50 x52) < (IntKind.u64.wrap ((x1.length : Int))))) x9 x50 x51 (wrap64 (x52 + 1)))) else (laws_FnTransposeUint64Uint32.l0 k x0 x1 x7 false x9 x50 x51 (wrap64 (x52 + 1)))) else (laws_FnTransposeUint64Uint32.l0 k x0 x1 x7 false x9 x50 x51 (wrap64 (x52 + 1)))) else (none)) else (none)) else ((impl_TransposeUint64Uint32.f x0 x1).bind fun bt124 => (if x8 = true then (if bt124.2 = true then (laws_FnTransposeUint64Uint32.j4 k x7 x9 bt124.1 ((bt124.1.length : Int) != (x9.length : Int))) else (laws_FnTransposeUint64Uint32.j4 k x7 x9 bt124.1 true)) else (if bt124.2 = true then (some false) else (some x7))))
def laws_FnTransposeUint64Uint32.j4 : Nat → Bool → List Int → List Int → Bool → Option (Bool)
  | 0, _, _, _, _ => none
  | k + 1, x7, x9, x12, x99 => if x99 = true then (some false) else (laws_FnTransposeUint64Uint32.l1 k x7 x9 x12 (x12.length : Int) 0)
def laws_FnTransposeUint64Uint32.l1 : Nat → Bool → List Int → List Int → Int → Int → Option (Bool)
  | 0, _, _, _, _, _ => none
  | k + 1, x7, x9, x12, x101, x102 => if x102 < x101 then (if 0 ≤ x102 then (if x102 < (x12.length : Int) then (if x102 < (x9.length : Int) then (if (rd x12 x102) = (rd x9 x102) then (laws_FnTransposeUint64Uint32.l1 k x7 x9 x12 x101 (wrap64 (x102 + 1))) else (some false)) else (none)) else (none)) else (none)) else (some x7)
end
def laws_FnTransposeUint64Uint32.f (k : Nat) (l0 : List Int) (l1 : List Int) : Option (Bool) := if (l0.length : Int) > 2147483647 then (laws_FnTransposeUint64Uint32.j0 k l0 l1 true) else (laws_FnTransposeUint64Uint32.j0 k l0 l1 (decide ((l1.length : Int) > 2147483647)))
theorem laws_FnTransposeUint64Uint32.mono_l : ∀ k, (∀ y0 y1 y2, LeO (laws_FnTransposeUint64Uint32.j0 k y0 y1 y2) (laws_FnTransposeUint64Uint32.j0 (k + 1) y0 y1 y2)) ∧ (∀ y0 y1 y2, LeO (laws_FnTransposeUint64Uint32.j1 k y0 y1 y2) (laws_FnTransposeUint64Uint32.j1 (k + 1) y0 y1 y2)) ∧ (∀ y0 y1 y2 y3, LeO (laws_FnTransposeUint64Uint32.j2 k y0 y1 y2 y3) (laws_FnTransposeUint64Uint32.j2 (k + 1) y0 y1 y2 y3)) ∧ (∀ y0 y1 y2 y3 y4 y5 y6 y7, LeO (laws_FnTransposeUint64Uint32.l0 k y0 y1 y2 y3 y4 y5 y6 y7) (laws_FnTransposeUint64Uint32.l0 (k + 1) y0 y1 y2 y3 y4 y5 y6 y7)) ∧ (∀ y0 y1 y2 y3, LeO (laws_FnTransposeUint64Uint32.j4 k y0 y1 y2 y3) (laws_FnTransposeUint64Uint32.j4 (k + 1) y0 y1 y2 y3)) ∧ (∀ y0 y1 y2 y3 y4, LeO (laws_FnTransposeUint64Uint32.l1 k y0 y1 y2 y3 y4) (laws_FnTransposeUint64Uint32.l1 (k + 1) y0 y1 y2 y3 y4))
  | 0 => ⟨fun _ _ _ r h => by simp [laws_FnTransposeUint64Uint32.j0] at h, fun _ _ _ r h => by simp [laws_FnTransposeUint64Uint32.j1] at h, fun _ _ _ _ r h => by simp [laws_FnTransposeUint64Uint32.j2] at h, fun _ _ _ _ _ _ _ _ r h => by simp [laws_FnTransposeUint64Uint32.l0] at h, fun _ _ _ _ r h => by simp [laws_FnTransposeUint64Uint32.j4] at h, fun _ _ _ _ _ r h => by simp [laws_FnTransposeUint64Uint32.l1] at h⟩
  | k + 1 => by
    obtain ⟨ih0, ih1, ih2, ih3, ih4, ih5⟩ := laws_FnTransposeUint64Uint32.mono_l k
    refine ⟨?_, ?_, ?_, ?_, ?_, ?_⟩
    · intro y0 y1 y2
      unfold laws_FnTransposeUint64Uint32.j0
      repeat' first
      | (with_reducible exact ih0 _ _ _)
      | (with_reducible exact ih1 _ _ _)
      | (with_reducible exact ih2 _ _ _ _)
      | (with_reducible exact ih3 _ _ _ _ _ _ _ _)
      | (with_reducible exact ih4 _ _ _ _)
      | (with_reducible exact ih5 _ _ _ _ _)
      | (with_reducible exact LeO.refl _)
      | (with_reducible exact LeO.none _)
      | (with_reducible refine LeO.ite ?_ ?_)
      | (with_reducible refine LeO.bind ?_ (fun _ => ?_))
      | exact ih0 _ _ _
      | exact ih1 _ _ _
      | exact ih2 _ _ _ _
      | exact ih3 _ _ _ _ _ _ _ _
      | exact ih4 _ _ _ _
      | exact ih5 _ _ _ _ _
      | exact LeO.none _
      | refine LeO.ite ?_ ?_
      | refine LeO.bind ?_ (fun _ => ?_)
    · intro y0 y1 y2
      unfold laws_FnTransposeUint64Uint32.j1
      repeat' first
      | (with_reducible exact ih0 _ _ _)
      | (with_reducible exact ih1 _ _ _)
      | (with_reducible exact ih2 _ _ _ _)
      | (with_reducible exact ih3 _ _ _ _ _ _ _ _)
      | (with_reducible exact ih4 _ _ _ _)
      | (with_reducible exact ih5 _ _ _ _ _)
      | (with_reducible exact LeO.refl _)
      | (with_reducible exact LeO.none _)
      | (with_reducible refine LeO.ite ?_ ?_)
      | (with_reducible refine LeO.bind ?_ (fun _ => ?_))
      | exact ih0 _ _ _
      | exact ih1 _ _ _
      | exact ih2 _ _ _ _
      | exact ih3 _ _ _ _ _ _ _ _
      | exact ih4 _ _ _ _
      | exact ih5 _ _ _ _ _
      | exact LeO.none _
      | refine LeO.ite ?_ ?_
      | refine LeO.bind ?_ (fun _ => ?_)
    · intro y0 y1 y2 y3
      unfold laws_FnTransposeUint64Uint32.j2
      repeat' first
      | (with_reducible exact ih0 _ _ _)
      | (with_reducible exact ih1 _ _ _)
      | (with_reducible exact ih2 _ _ _ _)
      | (with_reducible exact ih3 _ _ _ _ _ _ _ _)
      | (with_reducible exact ih4 _ _ _ _)
      | (with_reducible exact ih5 _ _ _ _ _)
      | (with_reducible exact LeO.refl _)
      | (with_reducible exact LeO.none _)
      | (with_reducible refine LeO.ite ?_ ?_)
      | (with_reducible refine LeO.bind ?_ (fun _ => ?_))
      | exact ih0 _ _ _
      | exact ih1 _ _ _
      | exact ih2 _ _ _ _
      | exact ih3 _ _ _ _ _ _ _ _
      | exact ih4 _ _ _ _
      | exact ih5 _ _ _ _ _
      | exact LeO.none _
      | refine LeO.ite ?_ ?_
      | refine LeO.bind ?_ (fun _ => ?_)
    · intro y0 y1 y2 y3 y4 y5 y6 y7
      unfold laws_FnTransposeUint64Uint32.l0
      repeat' first
      | (with_reducible exact ih0 _ _ _)
      | (with_reducible exact ih1 _ _ _)
      | (with_reducible exact ih2 _ _ _ _)
      | (with_reducible exact ih3 _ _ _ _ _ _ _ _)
      | (with_reducible exact ih4 _ _ _ _)
      | (with_reducible exact ih5 _ _ _ _ _)
      | (with_reducible exact LeO.refl _)
      | (with_reducible exact LeO.none _)
      | (with_reducible refine LeO.ite ?_ ?_)
      | (with_reducible refine LeO.bind ?_ (fun _ => ?_))
      | exact ih0 _ _ _
      | exact ih1 _ _ _
      | exact ih2 _ _ _ _
      | exact ih3 _ _ _ _ _ _ _ _
      | exact ih4 _ _ _ _
      | exact ih5 _ _ _ _ _
      | exact LeO.none _
      | refine LeO.ite ?_ ?_
      | refine LeO.bind ?_ (fun _ => ?_)
    · intro y0 y1 y2 y3
      unfold laws_FnTransposeUint64Uint32.j4
      repeat' first
      | (with_reducible exact ih0 _ _ _)
      | (with_reducible exact ih1 _ _ _)
      | (with_reducible exact ih2 _ _ _ _)
      | (with_reducible exact ih3 _ _ _ _ _ _ _ _)
      | (with_reducible exact ih4 _ _ _ _)
      | (with_reducible exact ih5 _ _ _ _ _)
      | (with_reducible exact LeO.refl _)
      | (with_reducible exact LeO.none _)
      | (with_reducible refine LeO.ite ?_ ?_)
      | (with_reducible refine LeO.bind ?_ (fun _ => ?_))
      | exact ih0 _ _ _
      | exact ih1 _ _ _
      | exact ih2 _ _ _ _
      | exact ih3 _ _ _ _ _ _ _ _
      | exact ih4 _ _ _ _
      | exact ih5 _ _ _ _ _
      | exact LeO.none _
      | refine LeO.ite ?_ ?_
      | refine LeO.bind ?_ (fun _ => ?_)
    · intro y0 y1 y2 y3 y4
      unfold laws_FnTransposeUint64Uint32.l1
      repeat' first
      | (with_reducible exact ih0 _ _ _)
      | (with_reducible exact ih1 _ _ _)
      | (with_reducible exact ih2 _ _ _ _)
      | (with_reducible exact ih3 _ _ _ _ _ _ _ _)
      | (with_reducible exact ih4 _ _ _ _)
      | (with_reducible exact ih5 _ _ _ _ _)
      | (with_reducible exact LeO.refl _)
      | (with_reducible exact LeO.none _)
      | (with_reducible refine LeO.ite ?_ ?_)
      | (with_reducible refine LeO.bind ?_ (fun _ => ?_))
      | exact ih0 _ _ _
      | exact ih1 _ _ _
      | exact ih2 _ _ _ _
      | exact ih3 _ _ _ _ _ _ _ _
      | exact ih4 _ _ _ _
      | exact ih5 _ _ _ _ _
      | exact LeO.none _
      | refine LeO.ite ?_ ?_
      | refine LeO.bind ?_ (fun _ => ?_)
theorem laws_FnTransposeUint64Uint32.mono : ∀ a0 a1 k, LeO (laws_FnTransposeUint64Uint32.f k a0 a1) (laws_FnTransposeUint64Uint32.f (k + 1) a0 a1) := by
  intro a0 a1 k
  obtain ⟨ih0, ih1, ih2, ih3, ih4, ih5⟩ := laws_FnTransposeUint64Uint32.mono_l k
  unfold laws_FnTransposeUint64Uint32.f
  repeat' first
      | (with_reducible exact ih0 _ _ _)
      | (with_reducible exact ih1 _ _ _)
      | (with_reducible exact ih2 _ _ _ _)
      | (with_reducible exact ih3 _ _ _ _ _ _ _ _)
      | (with_reducible exact ih4 _ _ _ _)
      | (with_reducible exact ih5 _ _ _ _ _)
      | (with_reducible exact LeO.refl _)
      | (with_reducible exact LeO.none _)
      | (with_reducible refine LeO.ite ?_ ?_)
      | (with_reducible refine LeO.bind ?_ (fun _ => ?_))
      | exact ih0 _ _ _
      | exact ih1 _ _ _
      | exact ih2 _ _ _ _
      | exact ih3 _ _ _ _ _ _ _ _
      | exact ih4 _ _ _ _
      | exact ih5 _ _ _ _ _
      | exact LeO.none _
      | refine LeO.ite ?_ ?_
      | refine LeO.bind ?_ (fun _ => ?_)
set_option maxHeartbeats 8000000 in
set_option maxRecDepth 100000 in
theorem laws_FnTransposeUint64Uint32.calls (k : Nat) (A0 : Option Addr) (c0 : Nat) (l0 : List Int) (A1 : Option Addr) (c1 : Nat) (l1 : List Int) (r : Bool) (w : World) (hr0 : Kd.C (Kd.int .u64) w A0 l0.length l0) (hc0 : l0.length ≤ c0) (hr1 : Kd.C (Kd.int .i32) w A1 l1.length l1) (hc1 : l1.length ≤ c1) (h : laws_FnTransposeUint64Uint32.f k l0 l1 = some r) :
    Calls Try.prog 6 #[.slice A0 l0.length c0, .slice A1 l1.length c1] w fun e w' => e = .returned (.bool r) ∧ Below w.heap.size w w' := by
  have HR0 := Aside0.mk hr0
  have HC0 := Aside0.mk hc0
  clear hr0 hc0
  have HR1 := Aside0.mk hr1
  have HC1 := Aside0.mk hc1
  clear hr1 hc1
  have HB := Aside0.mk (Below.refl w.heap.size w)
  have H : (if (l0.length : Int) > 2147483647 then (laws_FnTransposeUint64Uint32.j0 k l0 l1 true) else (laws_FnTransposeUint64Uint32.j0 k l0 l1 (decide ((l1.length : Int) > 2147483647)))) = some r := h
  clear h
  have HC3 := Aside0.mk H
  clear H
  go_enter Try.func6, Try.ntmps6
  go_upto_region 1 with (fail)
  repeat (go_quiet (fail); go_upto_region 1 with (fail))
  go_cut [22] (fun v22 wc => ∃ (kq : Nat) (x22_2 : Bool), v22 = .bool x22_2 ∧ Aside0 (laws_FnTransposeUint64Uint32.j0 kq l0 l1 x22_2 = some r) ∧ Aside0 (kq ≤ k) ∧ Aside0 (Below w.heap.size w wc))
  case first =>
    have H := HC3.out
    clear HC3
    by_cases c4 : (l0.length : Int) > 2147483647
    · rw [if_pos c4] at H
      have c4b0 : decide (2147483647 < (l0.length : Int)) = true := decide_eq_true c4
      have c4b1 : decide (2147483647 < l0.length) = true := decide_eq_true (by omega)
      clear c4
      (first | rw [c4b0] | (simp only [i64_w, i32_w]; rw [c4b0]) | skip)
      have H' := Aside0.mk H
      clear H
      go_wp2
      repeat (go_quiet (fail); try go_wp2)
      go_meet
      case rel => exact ⟨_, (true), (by first | rfl | (simp; done) | (simp [*]; done)), H', ⟨by first | omega | exact Nat.le_refl _⟩, ⟨by repeat (first | (with_reducible first | exact HB.out | apply below_alloc | apply pw_below_drewN | apply below_drew1) | exact HB.out)⟩⟩
    · rw [if_neg c4] at H
      have c4b0 : decide (2147483647 < (l0.length : Int)) = false := decide_eq_false c4
      have c4b1 : decide (2147483647 < l0.length) = false := decide_eq_false (by omega)
      clear c4
      (first | rw [c4b0] | (simp only [i64_w, i32_w]; rw [c4b0]) | skip)
      have H' := Aside0.mk H
      clear H
      go_wp2
      repeat (go_quiet (fail); try go_wp2)
      go_meet
      case rel => exact ⟨_, (decide ((l1.length : Int) > 2147483647)), (by first | rfl | (simp; done) | (simp [*]; done)), H', ⟨by first | omega | exact Nat.le_refl _⟩, ⟨by repeat (first | (with_reducible first | exact HB.out | apply below_alloc | apply pw_below_drewN | apply below_drew1) | exact HB.out)⟩⟩
  case rest =>
    clear HC3
    try clear c1
    try clear p2
    try clear c4
    try clear c4b0
    try clear c4b1
    obtain ⟨kq, x22_2, rfl, HA, HJ2, HB⟩ := hcut
    cases kq with
    | zero => exact absurd HA.out (by simp [laws_FnTransposeUint64Uint32.j0])
    | succ kj2 =>
      have H := HA.out
      clear HA
      simp only [laws_FnTransposeUint64Uint32.j0] at H
      by_cases c5 : x22_2 = true
      · subst c5
        have H1 : (some true) = some r := by rw [if_pos rfl] at H; exact H
        clear H
        have H := H1
        clear H1
        obtain rfl := Option.some.inj H
        go_wp2
        repeat (go_quiet (fail); try go_wp2)
        go_ret
        exact ⟨by first | rfl | (simp [errW_none, errW_some] <;> rfl) | (simp [*, errW_none, errW_some] <;> rfl), by repeat (first | (with_reducible first | exact HB.out | apply below_alloc | apply pw_below_drewN | apply below_drew1) | exact HB.out)⟩
      · replace c5 := Bool.eq_false_iff.mpr c5
        subst c5
        have H1 : ((impl_TransposeUint64Uint32.f (([1] : List Int)) (([5, 7] : List Int))).bind fun bt114 => (if bt114.2 = true then (if (bt114.1.length : Int) = 1 then (if 0 < (bt114.1.length : Int) then (laws_FnTransposeUint64Uint32.j1 kj2 l0 l1 ((rd bt114.1 0) == 7)) else (none)) else (laws_FnTransposeUint64Uint32.j1 kj2 l0 l1 false)) else (laws_FnTransposeUint64Uint32.j1 kj2 l0 l1 false))) = some r := by rw [if_neg (show ¬ (false = true) by decide)] at H; exact H
        clear H
        have H := H1
        clear H1
        obtain ⟨y108, hy108⟩ : ∃ y_ : List Int, y_ = (([1] : List Int)) := ⟨_, rfl⟩
        replace H : ((impl_TransposeUint64Uint32.f y108 (([5, 7] : List Int))).bind fun bt114 => (if bt114.2 = true then (if (bt114.1.length : Int) = 1 then (if 0 < (bt114.1.length : Int) then (laws_FnTransposeUint64Uint32.j1 kj2 l0 l1 ((rd bt114.1 0) == 7)) else (none)) else (laws_FnTransposeUint64Uint32.j1 kj2 l0 l1 false)) else (laws_FnTransposeUint64Uint32.j1 kj2 l0 l1 false))) = some r := by first | (rw [hy108]; with_reducible exact H) | (have H2_ := (Option.bind_some _ _).symm.trans H; rw [hy108]; with_reducible exact H2_) | (have H2_ := (Option.bind_some _ _).symm.trans H; with_reducible exact H2_) | with_reducible exact H | (rw [hy108]; exact H) | exact H
        have Ny108 := Aside0.mk hy108
        clear hy108
        obtain ⟨y111, hy111⟩ : ∃ y_ : List Int, y_ = (([5, 7] : List Int)) := ⟨_, rfl⟩
        replace H : ((impl_TransposeUint64Uint32.f y108 y111).bind fun bt114 => (if bt114.2 = true then (if (bt114.1.length : Int) = 1 then (if 0 < (bt114.1.length : Int) then (laws_FnTransposeUint64Uint32.j1 kj2 l0 l1 ((rd bt114.1 0) == 7)) else (none)) else (laws_FnTransposeUint64Uint32.j1 kj2 l0 l1 false)) else (laws_FnTransposeUint64Uint32.j1 kj2 l0 l1 false))) = some r := by first | (rw [hy111]; with_reducible exact H) | (have H2_ := (Option.bind_some _ _).symm.trans H; rw [hy111]; with_reducible exact H2_) | (have H2_ := (Option.bind_some _ _).symm.trans H; with_reducible exact H2_) | with_reducible exact H | (rw [hy111]; exact H) | exact H
        have Ny111 := Aside0.mk hy111
        clear hy111
        replace H := Option.bind_eq_some_iff.mp H
        obtain ⟨⟨t114, t115⟩, A60, H⟩ := H
        replace H : (if t115 = true then (if (t114.length : Int) = 1 then (if 0 < (t114.length : Int) then (laws_FnTransposeUint64Uint32.j1 kj2 l0 l1 ((rd t114 0) == 7)) else (none)) else (laws_FnTransposeUint64Uint32.j1 kj2 l0 l1 false)) else (laws_FnTransposeUint64Uint32.j1 kj2 l0 l1 false)) = some r := H
        have A6 := Aside0.mk A60
        clear A60
        have HC7 := Aside0.mk H
        clear H
        go_upto_region 4 with (first | ((with_reducible refine gate_dst (N := 24) rfl ?_); (try (refine gate_guard (by rfl) ?_; dsimp only)); refine Kd.R_lit (Kd.int .u64) _ 32 ?hg (N := 24) ?hd (xs := ([1] : List Int)) (inner := [.int .u64 1]) (ok := fun _ => True) (okp := fun _ => True) ?hr ?hp (fun _ hk => hk) trivial (Below.refl _ _) (Nat.le_refl _) (by simp) ?_; (case hd => rfl); (case hg => rfl); (case hr => first | (go_simp; done) | (go_simp; rfl)); (case hp => exact (Reps.one (show Kd.M (Kd.int .u64) _ _ _ 1 [.int .u64 1] from rfl) (Reps.none _ _))); intro v109 w8 ho9 hb hg_ hnew_; clear hg_ hnew_; (first | rw [← Ny108.out] at ho9 | (simp only [Int.reduceToNat] at ho9; rw [← Ny108.out] at ho9)); have n0_ := Aside0.mk (Kd.R_lower ho9 (below_size (by repeat (first | (with_reducible first | exact HB.out | apply below_alloc | apply pw_below_drewN | apply below_drew1) | exact HB.out)))); have n1_ := Aside0.mk (below_step (by repeat (first | (with_reducible first | exact HB.out | apply below_alloc | apply pw_below_drewN | apply below_drew1) | exact HB.out)) hb); clear HB; have HO110 := n0_; have HB := n1_; clear n0_ n1_; clear hb ho9) | ((with_reducible refine gate_dst (N := 25) rfl ?_); (try (refine gate_guard (by rfl) ?_; dsimp only)); refine Kd.R_lit (Kd.int .i32) _ 21 ?hg (N := 25) ?hd (xs := ([5, 7] : List Int)) (inner := [.int .i32 5, .int .i32 7]) (ok := fun _ => True) (okp := fun _ => True) ?hr ?hp (fun _ hk => hk) trivial (Below.refl _ _) (Nat.le_refl _) (by simp) ?_; (case hd => rfl); (case hg => rfl); (case hr => first | (go_simp; done) | (go_simp; rfl)); (case hp => exact (Reps.one (show Kd.M (Kd.int .i32) _ _ _ 5 [.int .i32 5] from rfl) (Reps.one (show Kd.M (Kd.int .i32) _ _ _ 7 [.int .i32 7] from rfl) (Reps.none _ _)))); intro v112 w10 ho11 hb hg_ hnew_; clear hg_ hnew_; (first | rw [← Ny111.out] at ho11 | (simp only [Int.reduceToNat] at ho11; rw [← Ny111.out] at ho11)); have n0_ := Aside0.mk (Kd.R_below (by (with_reducible repeat (first | apply Kd.R_alloc | apply Kd.R_drewN | apply Kd.R_drew)); exact HO110.out) hb); have n1_ := Aside0.mk (Kd.R_lower ho11 (below_size (by repeat (first | (with_reducible first | exact HB.out | apply below_alloc | apply pw_below_drewN | apply below_drew1) | exact HB.out)))); have n2_ := Aside0.mk (below_step (by repeat (first | (with_reducible first | exact HB.out | apply below_alloc | apply pw_below_drewN | apply below_drew1) | exact HB.out)) hb); clear HO110; clear HB; have HO110 := n0_; have HO113 := n1_; have HB := n2_; clear n0_ n1_ n2_; clear hb ho11; obtain ⟨Ao12, co12, eo12⟩ := Kd.R_slice HO110.out; subst eo12; obtain ⟨Ao13, co13, eo13⟩ := Kd.R_slice HO113.out; subst eo13) | (go_at_call 21; (with_reducible refine (impl_TransposeUint64Uint32.calls _ _ y108 _ _ y111 t114 t115 _ ?side1 ?side2 ?side3 ?side4 A6.out).mono ?_); (case side1 => repeat (first | exact (Kd.R_reads' HO110.out).2.2 | (with_reducible refine Kd.C_alloc ?_ _) | (with_reducible refine Kd.C_drewN ?_ _) | (with_reducible refine Kd.C_drew ?_))); (case side2 => exact (Kd.R_reads' HO110.out).2.1); (case side3 => repeat (first | exact (Kd.R_reads' HO113.out).2.2 | (with_reducible refine Kd.C_alloc ?_ _) | (with_reducible refine Kd.C_drewN ?_ _) | (with_reducible refine Kd.C_drew ?_))); (case side4 => exact (Kd.R_reads' HO113.out).2.1); rintro e w14 ⟨v116, rfl, ho0, hb⟩; have n0_ := Aside0.mk (Kd.R_below (by (with_reducible repeat (first | apply Kd.R_alloc | apply Kd.R_drewN | apply Kd.R_drew)); exact HO110.out) hb); have n1_ := Aside0.mk (Kd.R_below (by (with_reducible repeat (first | apply Kd.R_alloc | apply Kd.R_drewN | apply Kd.R_drew)); exact HO113.out) hb); have n2_ := Aside0.mk (Kd.R_lower ho0 (below_size (by repeat (first | (with_reducible first | exact HB.out | apply below_alloc | apply pw_below_drewN | apply below_drew1) | exact HB.out)))); have n3_ := Aside0.mk (below_step (by repeat (first | (with_reducible first | exact HB.out | apply below_alloc | apply pw_below_drewN | apply below_drew1) | exact HB.out)) hb); clear HO110; clear HO113; clear HB; have HO110 := n0_; have HO113 := n1_; have HO117 := n2_; have HB := n3_; clear n0_ n1_ n2_ n3_; (try clear hb); (try clear hb2); (try clear hk); (try clear hi); (try clear ho0)))
        repeat (go_quiet (first | ((with_reducible refine gate_dst (N := 24) rfl ?_); (try (refine gate_guard (by rfl) ?_; dsimp only)); refine Kd.R_lit (Kd.int .u64) _ 32 ?hg (N := 24) ?hd (xs := ([1] : List Int)) (inner := [.int .u64 1]) (ok := fun _ => True) (okp := fun _ => True) ?hr ?hp (fun _ hk => hk) trivial (Below.refl _ _) (Nat.le_refl _) (by simp) ?_; (case hd => rfl); (case hg => rfl); (case hr => first | (go_simp; done) | (go_simp; rfl)); (case hp => exact (Reps.one (show Kd.M (Kd.int .u64) _ _ _ 1 [.int .u64 1] from rfl) (Reps.none _ _))); intro v109 w8 ho9 hb hg_ hnew_; clear hg_ hnew_; (first | rw [← Ny108.out] at ho9 | (simp only [Int.reduceToNat] at ho9; rw [← Ny108.out] at ho9)); have n0_ := Aside0.mk (Kd.R_lower ho9 (below_size (by repeat (first | (with_reducible first | exact HB.out | apply below_alloc | apply pw_below_drewN | apply below_drew1) | exact HB.out)))); have n1_ := Aside0.mk (below_step (by repeat (first | (with_reducible first | exact HB.out | apply below_alloc | apply pw_below_drewN | apply below_drew1) | exact HB.out)) hb); clear HB; have HO110 := n0_; have HB := n1_; clear n0_ n1_; clear hb ho9) | ((with_reducible refine gate_dst (N := 25) rfl ?_); (try (refine gate_guard (by rfl) ?_; dsimp only)); refine Kd.R_lit (Kd.int .i32) _ 21 ?hg (N := 25) ?hd (xs := ([5, 7] : List Int)) (inner := [.int .i32 5, .int .i32 7]) (ok := fun _ => True) (okp := fun _ => True) ?hr ?hp (fun _ hk => hk) trivial (Below.refl _ _) (Nat.le_refl _) (by simp) ?_; (case hd => rfl); (case hg => rfl); (case hr => first | (go_simp; done) | (go_simp; rfl)); (case hp => exact (Reps.one (show Kd.M (Kd.int .i32) _ _ _ 5 [.int .i32 5] from rfl) (Reps.one (show Kd.M (Kd.int .i32) _ _ _ 7 [.int .i32 7] from rfl) (Reps.none _ _)))); intro v112 w10 ho11 hb hg_ hnew_; clear hg_ hnew_; (first | rw [← Ny111.out] at ho11 | (simp only [Int.reduceToNat] at ho11; rw [← Ny111.out] at ho11)); have n0_ := Aside0.mk (Kd.R_below (by (with_reducible repeat (first | apply Kd.R_alloc | apply Kd.R_drewN | apply Kd.R_drew)); exact HO110.out) hb); have n1_ := Aside0.mk (Kd.R_lower ho11 (below_size (by repeat (first | (with_reducible first | exact HB.out | apply below_alloc | apply pw_below_drewN | apply below_drew1) | exact HB.out)))); have n2_ := Aside0.mk (below_step (by repeat (first | (with_reducible first | exact HB.out | apply below_alloc | apply pw_below_drewN | apply below_drew1) | exact HB.out)) hb); clear HO110; clear HB; have HO110 := n0_; have HO113 := n1_; have HB := n2_; clear n0_ n1_ n2_; clear hb ho11; obtain ⟨Ao12, co12, eo12⟩ := Kd.R_slice HO110.out; subst eo12; obtain ⟨Ao13, co13, eo13⟩ := Kd.R_slice HO113.out; subst eo13) | (go_at_call 21; (with_reducible refine (impl_TransposeUint64Uint32.calls _ _ y108 _ _ y111 t114 t115 _ ?side1 ?side2 ?side3 ?side4 A6.out).mono ?_); (case side1 => repeat (first | exact (Kd.R_reads' HO110.out).2.2 | (with_reducible refine Kd.C_alloc ?_ _) | (with_reducible refine Kd.C_drewN ?_ _) | (with_reducible refine Kd.C_drew ?_))); (case side2 => exact (Kd.R_reads' HO110.out).2.1); (case side3 => repeat (first | exact (Kd.R_reads' HO113.out).2.2 | (with_reducible refine Kd.C_alloc ?_ _) | (with_reducible refine Kd.C_drewN ?_ _) | (with_reducible refine Kd.C_drew ?_))); (case side4 => exact (Kd.R_reads' HO113.out).2.1); rintro e w14 ⟨v116, rfl, ho0, hb⟩; have n0_ := Aside0.mk (Kd.R_below (by (with_reducible repeat (first | apply Kd.R_alloc | apply Kd.R_drewN | apply Kd.R_drew)); exact HO110.out) hb); have n1_ := Aside0.mk (Kd.R_below (by (with_reducible repeat (first | apply Kd.R_alloc | apply Kd.R_drewN | apply Kd.R_drew)); exact HO113.out) hb); have n2_ := Aside0.mk (Kd.R_lower ho0 (below_size (by repeat (first | (with_reducible first | exact HB.out | apply below_alloc | apply pw_below_drewN | apply below_drew1) | exact HB.out)))); have n3_ := Aside0.mk (below_step (by repeat (first | (with_reducible first | exact HB.out | apply below_alloc | apply pw_below_drewN | apply below_drew1) | exact HB.out)) hb); clear HO110; clear HO113; clear HB; have HO110 := n0_; have HO113 := n1_; have HO117 := n2_; have HB := n3_; clear n0_ n1_ n2_ n3_; (try clear hb); (try clear hb2); (try clear hk); (try clear hi); (try clear ho0))); go_upto_region 4 with (first | ((with_reducible refine gate_dst (N := 24) rfl ?_); (try (refine gate_guard (by rfl) ?_; dsimp only)); refine Kd.R_lit (Kd.int .u64) _ 32 ?hg (N := 24) ?hd (xs := ([1] : List Int)) (inner := [.int .u64 1]) (ok := fun _ => True) (okp := fun _ => True) ?hr ?hp (fun _ hk => hk) trivial (Below.refl _ _) (Nat.le_refl _) (by simp) ?_; (case hd => rfl); (case hg => rfl); (case hr => first | (go_simp; done) | (go_simp; rfl)); (case hp => exact (Reps.one (show Kd.M (Kd.int .u64) _ _ _ 1 [.int .u64 1] from rfl) (Reps.none _ _))); intro v109 w8 ho9 hb hg_ hnew_; clear hg_ hnew_; (first | rw [← Ny108.out] at ho9 | (simp only [Int.reduceToNat] at ho9; rw [← Ny108.out] at ho9)); have n0_ := Aside0.mk (Kd.R_lower ho9 (below_size (by repeat (first | (with_reducible first | exact HB.out | apply below_alloc | apply pw_below_drewN | apply below_drew1) | exact HB.out)))); have n1_ := Aside0.mk (below_step (by repeat (first | (with_reducible first | exact HB.out | apply below_alloc | apply pw_below_drewN | apply below_drew1) | exact HB.out)) hb); clear HB; have HO110 := n0_; have HB := n1_; clear n0_ n1_; clear hb ho9) | ((with_reducible refine gate_dst (N := 25) rfl ?_); (try (refine gate_guard (by rfl) ?_; dsimp only)); refine Kd.R_lit (Kd.int .i32) _ 21 ?hg (N := 25) ?hd (xs := ([5, 7] : List Int)) (inner := [.int .i32 5, .int .i32 7]) (ok := fun _ => True) (okp := fun _ => True) ?hr ?hp (fun _ hk => hk) trivial (Below.refl _ _) (Nat.le_refl _) (by simp) ?_; (case hd => rfl); (case hg => rfl); (case hr => first | (go_simp; done) | (go_simp; rfl)); (case hp => exact (Reps.one (show Kd.M (Kd.int .i32) _ _ _ 5 [.int .i32 5] from rfl) (Reps.one (show Kd.M (Kd.int .i32) _ _ _ 7 [.int .i32 7] from rfl) (Reps.none _ _)))); intro v112 w10 ho11 hb hg_ hnew_; clear hg_ hnew_; (first | rw [← Ny111.out] at ho11 | (simp only [Int.reduceToNat] at ho11; rw [← Ny111.out] at ho11)); have n0_ := Aside0.mk (Kd.R_below (by (with_reducible repeat (first | apply Kd.R_alloc | apply Kd.R_drewN | apply Kd.R_drew)); exact HO110.out) hb); have n1_ := Aside0.mk (Kd.R_lower ho11 (below_size (by repeat (first | (with_reducible first | exact HB.out | apply below_alloc | apply pw_below_drewN | apply below_drew1) | exact HB.out)))); have n2_ := Aside0.mk (below_step (by repeat (first | (with_reducible first | exact HB.out | apply below_alloc | apply pw_below_drewN | apply below_drew1) | exact HB.out)) hb); clear HO110; clear HB; have HO110 := n0_; have HO113 := n1_; have HB := n2_; clear n0_ n1_ n2_; clear hb ho11; obtain ⟨Ao12, co12, eo12⟩ := Kd.R_slice HO110.out; subst eo12; obtain ⟨Ao13, co13, eo13⟩ := Kd.R_slice HO113.out; subst eo13) | (go_at_call 21; (with_reducible refine (impl_TransposeUint64Uint32.calls _ _ y108 _ _ y111 t114 t115 _ ?side1 ?side2 ?side3 ?side4 A6.out).mono ?_); (case side1 => repeat (first | exact (Kd.R_reads' HO110.out).2.2 | (with_reducible refine Kd.C_alloc ?_ _) | (with_reducible refine Kd.C_drewN ?_ _) | (with_reducible refine Kd.C_drew ?_))); (case side2 => exact (Kd.R_reads' HO110.out).2.1); (case side3 => repeat (first | exact (Kd.R_reads' HO113.out).2.2 | (with_reducible refine Kd.C_alloc ?_ _) | (with_reducible refine Kd.C_drewN ?_ _) | (with_reducible refine Kd.C_drew ?_))); (case side4 => exact (Kd.R_reads' HO113.out).2.1); rintro e w14 ⟨v116, rfl, ho0, hb⟩; have n0_ := Aside0.mk (Kd.R_below (by (with_reducible repeat (first | apply Kd.R_alloc | apply Kd.R_drewN | apply Kd.R_drew)); exact HO110.out) hb); have n1_ := Aside0.mk (Kd.R_below (by (with_reducible repeat (first | apply Kd.R_alloc | apply Kd.R_drewN | apply Kd.R_drew)); exact HO113.out) hb); have n2_ := Aside0.mk (Kd.R_lower ho0 (below_size (by repeat (first | (with_reducible first | exact HB.out | apply below_alloc | apply pw_below_drewN | apply below_drew1) | exact HB.out)))); have n3_ := Aside0.mk (below_step (by repeat (first | (with_reducible first | exact HB.out | apply below_alloc | apply pw_below_drewN | apply below_drew1) | exact HB.out)) hb); clear HO110; clear HO113; clear HB; have HO110 := n0_; have HO113 := n1_; have HO117 := n2_; have HB := n3_; clear n0_ n1_ n2_ n3_; (try clear hb); (try clear hb2); (try clear hk); (try clear hi); (try clear ho0))))
        (try simp only [Act.put, List.setIfInBounds_toArray, List.set_cons_zero, List.set_cons_succ])
        go_cut [7] (fun v7 wc => ∃ (kq : Nat) (x7_6 : Bool), v7 = .bool x7_6 ∧ Aside0 (laws_FnTransposeUint64Uint32.j1 kq l0 l1 x7_6 = some r) ∧ Aside0 (kq ≤ kj2) ∧ Aside0 (Below w.heap.size w wc))
        case first =>
          have H := HC7.out
          clear HC7
          by_cases c15 : t115 = true
          · subst c15
            have H1 : (if (t114.length : Int) = 1 then (if 0 < (t114.length : Int) then (laws_FnTransposeUint64Uint32.j1 kj2 l0 l1 ((rd t114 0) == 7)) else (none)) else (laws_FnTransposeUint64Uint32.j1 kj2 l0 l1 false)) = some r := by rw [if_pos rfl] at H; exact H
            clear H
            have H := H1
            clear H1
            by_cases c16 : (t114.length : Int) = 1
            · rw [if_pos c16] at H
              have c16b0 : ((t114.length : Int) == 1) = true := beq_iff_eq.mpr c16
              have c16b1 : ((t114.length : Int) != 1) = false := bne_eq_false_iff_eq.mpr c16
              clear c16
              (first | rw [c16b0] | (simp only [i64_w, i32_w]; rw [c16b0]) | skip)
              by_cases c17 : 0 < (t114.length : Int)
              · rw [if_pos c17] at H
                have c17b0 : decide (0 < (t114.length : Int)) = true := decide_eq_true c17
                have c17b1 : decide (0 < t114.length) = true := decide_eq_true (by omega)
                clear c17
                have H' := Aside0.mk H
                clear H
                obtain ⟨Ao18, co18, eo18⟩ := Kd.R_slice HO117.out
                subst eo18
                have p118 : 0 ≤ (0 : Int) := (by omega)
                have q118 : 0 < (t114.length : Int) := of_decide_eq_true (by first | (with_reducible assumption) | assumption)
                obtain ⟨ad118, e118, hx118_0⟩ := Kd.at_int (Kd.R_reads' HO117.out).2.2 0 p118 q118
                cases e118
                have qi118 : (0 < t114.length) = True := eq_true (by omega)
                (try rw [show ((0 : Int)).toNat = 0 from rfl] at hx118_0)
                (try rw [Addr.add_zero'] at hx118_0)
                replace p118 := eq_true p118
                replace q118 := eq_true q118
                go_wp2
                repeat (go_quiet (fail); try go_wp2)
                go_meet
                case rel => exact ⟨_, (((rd t114 0) == 7)), (by first | rfl | (simp; done) | (simp [*]; done)), H', ⟨by have := HJ2.out; first | omega | exact Nat.le_refl _⟩, ⟨by repeat (first | (with_reducible first | exact HB.out | apply below_alloc | apply pw_below_drewN | apply below_drew1) | exact HB.out)⟩⟩
              · rw [if_neg c17] at H
                exact absurd H (by simp)
            · rw [if_neg c16] at H
              have c16b0 : ((t114.length : Int) == 1) = false := beq_eq_false_iff_ne.mpr c16
              have c16b1 : ((t114.length : Int) != 1) = true := bne_iff_ne.mpr c16
              (first | rw [c16b0] | (simp only [i64_w, i32_w]; rw [c16b0]) | skip)
              have H' := Aside0.mk H
              clear H
              obtain ⟨Ao19, co19, eo19⟩ := Kd.R_slice HO117.out
              subst eo19
              go_wp2
              repeat (go_quiet (fail); try go_wp2)
              go_meet
              case rel => exact ⟨_, (false), (by first | rfl | (simp; done) | (simp [*]; done)), H', ⟨by have := HJ2.out; first | omega | exact Nat.le_refl _⟩, ⟨by repeat (first | (with_reducible first | exact HB.out | apply below_alloc | apply pw_below_drewN | apply below_drew1) | exact HB.out)⟩⟩
          · replace c15 := Bool.eq_false_iff.mpr c15
            subst c15
            have H1 : (laws_FnTransposeUint64Uint32.j1 kj2 l0 l1 false) = some r := by rw [if_neg (show ¬ (false = true) by decide)] at H; exact H
            clear H
            have H := H1
            clear H1
            have H' := Aside0.mk H
            clear H
            go_wp2
            repeat (go_quiet (fail); try go_wp2)
            go_meet
            case rel => exact ⟨_, (false), (by first | rfl | (simp; done) | (simp [*]; done)), H', ⟨by have := HJ2.out; first | omega | exact Nat.le_refl _⟩, ⟨by repeat (first | (with_reducible first | exact HB.out | apply below_alloc | apply pw_below_drewN | apply below_drew1) | exact HB.out)⟩⟩
        case rest =>
          clear HC7
          try clear c1
          try clear p1
          try clear q1
          try clear hx1
          try clear qi1
          try clear p2
          try clear c4
          try clear c4b0
          try clear c4b1
          try clear c5
          try clear c6
          try clear p11
          try clear q11
          try clear hx11
          try clear qi11
          try clear c15
          try clear c16
          try clear c16b0
          try clear c16b1
          try clear c17
          try clear c17b0
          try clear c17b1
          try clear hx118_0
          try clear p118
          try clear p2
          try clear q118
          obtain ⟨kq, x7_6, rfl, HA, HJ6, HB⟩ := hcut
          cases kq with
          | zero => exact absurd HA.out (by simp [laws_FnTransposeUint64Uint32.j1])
          | succ kj6 =>
            have H := HA.out
            clear HA
            simp only [laws_FnTransposeUint64Uint32.j1] at H
            have HC20 := Aside0.mk H
            clear H
            go_upto_region 5 with (fail)
            repeat (go_quiet (fail); go_upto_region 5 with (fail))
            go_cut [48] (fun v48 wc => ∃ (kq : Nat) (x48_19 : Bool), v48 = .bool x48_19 ∧ Aside0 (laws_FnTransposeUint64Uint32.j2 kq l0 l1 x7_6 x48_19 = some r) ∧ Aside0 (kq ≤ kj6) ∧ Aside0 (Below w.heap.size w wc))
            case first =>
              have H := HC20.out
              clear HC20
              by_cases c21 : (l0.length : Int) > 1000
              · rw [if_pos c21] at H
                have c21b0 : decide (1000 < (l0.length : Int)) = true := decide_eq_true c21
                have c21b1 : decide (1000 < l0.length) = true := decide_eq_true (by omega)
                clear c21
                (first | rw [c21b0] | (simp only [i64_w, i32_w]; rw [c21b0]) | skip)
                have H' := Aside0.mk H
                clear H
                go_wp2
                repeat (go_quiet (fail); try go_wp2)
                go_meet
                case rel => exact ⟨_, (true), (by first | rfl | (simp; done) | (simp [*]; done)), H', ⟨by have := HJ2.out; have := HJ6.out; first | omega | exact Nat.le_refl _⟩, ⟨by repeat (first | (with_reducible first | exact HB.out | apply below_alloc | apply pw_below_drewN | apply below_drew1) | exact HB.out)⟩⟩
              · rw [if_neg c21] at H
                have c21b0 : decide (1000 < (l0.length : Int)) = false := decide_eq_false c21
                have c21b1 : decide (1000 < l0.length) = false := decide_eq_false (by omega)
                clear c21
                (first | rw [c21b0] | (simp only [i64_w, i32_w]; rw [c21b0]) | skip)
                have H' := Aside0.mk H
                clear H
                go_wp2
                repeat (go_quiet (fail); try go_wp2)
                go_meet
                case rel => exact ⟨_, (decide ((l1.length : Int) > 1000)), (by first | rfl | (simp; done) | (simp [*]; done)), H', ⟨by have := HJ2.out; have := HJ6.out; first | omega | exact Nat.le_refl _⟩, ⟨by repeat (first | (with_reducible first | exact HB.out | apply below_alloc | apply pw_below_drewN | apply below_drew1) | exact HB.out)⟩⟩
            case rest =>
              clear HC20
              try clear c1
              try clear p1
              try clear q1
              try clear hx1
              try clear qi1
              try clear c2
              try clear p2
              try clear c4
              try clear c4b0
              try clear c4b1
              try clear c5
              try clear c6
              try clear p11
              try clear q11
              try clear hx11
              try clear qi11
              try clear c15
              try clear c16
              try clear c16b0
              try clear c16b1
              try clear c17
              try clear c17b0
              try clear c17b1
              try clear c21
              try clear c21b0
              try clear c21b1
              try clear hx118_0
              try clear p1
              try clear p11
              try clear p118
              try clear p2
              try clear q1
              try clear q11
              try clear q118
              obtain ⟨kq, x48_19, rfl, HA, HJ19, HB⟩ := hcut
              cases kq with
              | zero => exact absurd HA.out (by simp [laws_FnTransposeUint64Uint32.j2])
              | succ kj19 =>
                have H := HA.out
                clear HA
                simp only [laws_FnTransposeUint64Uint32.j2] at H
                by_cases c22 : x48_19 = true
                · subst c22
                  have H1 : (some x7_6) = some r := by rw [if_pos rfl] at H; exact H
                  clear H
                  have H := H1
                  clear H1
                  obtain rfl := Option.some.inj H
                  go_wp2
                  repeat (go_quiet (fail); try go_wp2)
                  go_ret
                  exact ⟨by first | rfl | (simp [errW_none, errW_some] <;> rfl) | (simp [*, errW_none, errW_some] <;> rfl), by repeat (first | (with_reducible first | exact HB.out | apply below_alloc | apply pw_below_drewN | apply below_drew1) | exact HB.out)⟩
                · replace c22 := Bool.eq_false_iff.mpr c22
                  subst c22
                  have H1 : (laws_FnTransposeUint64Uint32.l0 kj19 l0 l1 x7_6 true ([] : List Int) l0 (l0.length : Int) 0) = some r := by rw [if_neg (show ¬ (false = true) by decide)] at H; exact H
                  clear H
                  have H := H1
                  clear H1
                  have H' := Aside0.mk H
                  clear H
                  go_wp2
                  repeat (go_quiet (fail); try go_wp2)
                  go_loopg [8, 9, 52] kj19 (fun kq v8 v9 v52 w' => ∃ (x8_4 : Bool) (x9_4 : List Int) (x52_4 : Int), v8 = .bool x8_4 ∧ v52 = .int .i64 x52_4 ∧ Aside0 (laws_FnTransposeUint64Uint32.l0 kq l0 l1 x7_6 x8_4 x9_4 l0 (l0.length : Int) x52_4 = some r) ∧ Aside0 (kq ≤ kj19) ∧ Aside0 (Kd.R (Kd.int .u32) 44 w' w.heap.size (fun _ => True) v9 x9_4) ∧ Aside0 (Below w.heap.size w w'))
                  case atStart => exact ⟨(true), (([] : List Int)), (0), (by first | rfl | (simp; done) | (simp [*]; done)), (by first | rfl | (simp; done) | (simp [*]; done)), H', ⟨Nat.le_refl _⟩, ⟨by first | exact Kd.R_nil _ _ _ _ _ | exact Kd.N_nil _ _ _ _ _ | exact Kd.V_nil _ _ _ _ _ | exact Kd.Q_nil _ _ _ _ _ | exact Kd.S_nil _ _ _ _ _⟩, ⟨by repeat (first | (with_reducible first | exact HB.out | apply below_alloc | apply pw_below_drewN | apply below_drew1) | exact HB.out)⟩⟩
                  case round =>
                    clear H'
                    try clear c1
                    try clear p1
                    try clear q1
                    try clear hx1
                    try clear qi1
                    try clear c2
                    try clear p2
                    try clear c4
                    try clear c4b0
                    try clear c4b1
                    try clear c5
                    try clear c6
                    try clear p11
                    try clear q11
                    try clear hx11
                    try clear qi11
                    try clear c15
                    try clear c16
                    try clear c16b0
                    try clear c16b1
                    try clear c17
                    try clear c17b0
                    try clear c17b1
                    try clear c21
                    try clear c21b0
                    try clear c21b1
                    try clear c22
                    try clear hx118_0
                    try clear p1
                    try clear p11
                    try clear p118
                    try clear p2
                    try clear q1
                    try clear q11
                    try clear q118
                    obtain ⟨x8_4, x9_4, x52_4, rfl, rfl, HA, HK4, HO_9, HB⟩ := hrel
                    cases gk with
                    | zero => exact absurd HA.out (by simp [laws_FnTransposeUint64Uint32.l0])
                    | succ k4 =>
                      have H := HA.out
                      clear HA
                      simp only [laws_FnTransposeUint64Uint32.l0] at H
                      by_cases c23 : x52_4 < (l0.length : Int)
                      · rw [if_pos c23] at H
                        have c23b0 : decide (x52_4 < (l0.length : Int)) = true := decide_eq_true c23
                        clear c23
                        by_cases c24 : 0 ≤ x52_4
                        · rw [if_pos c24] at H
                          have c24b0 : decide (0 ≤ x52_4) = true := decide_eq_true c24
                          clear c24
                          by_cases c25 : x52_4 < (l0.length : Int)
                          · rw [if_pos c25] at H
                            have c25b0 : decide (x52_4 < (l0.length : Int)) = true := decide_eq_true c25
                            clear c25
                            by_cases c26 : x8_4 = true
                            · subst c26
                              have H1 : (if (rd l0 x52_4) ≥ 0 then (if (rd l0 x52_4) < (IntKind.u64.wrap ((l1.length : Int))) then (if 0 ≤ (rd l0 x52_4) then (if (rd l0 x52_4) < (l1.length : Int) then (if x9_4.length < 35184372088832 then (laws_FnTransposeUint64Uint32.l0 k4 l0 l1 x7_6 (decide ((rd l0 x52_4) < (IntKind.u64.wrap ((l1.length : Int))))) (x9_4 ++ [(rd l1 (rd l0 x52_4)) % 4294967296]) l0 (l0.length : Int) (wrap64 (x52_4 + 1))) else (none)) else (none)) else (none)) else (laws_FnTransposeUint64Uint32.l0 k4 l0 l1 x7_6 (decide ((rd l0 x52_4) < (IntKind.u64.wrap ((l1.length : Int))))) x9_4 l0 (l0.length : Int) (wrap64 (x52_4 + 1)))) else (laws_FnTransposeUint64Uint32.l0 k4 l0 l1 x7_6 false x9_4 l0 (l0.length : Int) (wrap64 (x52_4 + 1)))) = some r := by rw [if_pos rfl] at H; exact H
                              clear H
                              have H := H1
                              clear H1
                              by_cases c27 : (rd l0 x52_4) ≥ 0
                              · rw [if_pos c27] at H
                                have c27b0 : decide (0 ≤ (rd l0 x52_4)) = true := decide_eq_true c27
                                clear c27
                                by_cases c28 : (rd l0 x52_4) < (IntKind.u64.wrap ((l1.length : Int)))
                                · rw [if_pos c28] at H
                                  have c28b0 : decide ((rd l0 x52_4) < (IntKind.u64.wrap ((l1.length : Int)))) = true := decide_eq_true c28
                                  clear c28
                                  by_cases c29 : 0 ≤ (rd l0 x52_4)
                                  · rw [if_pos c29] at H
                                    have c29b0 : decide (0 ≤ (rd l0 x52_4)) = true := decide_eq_true c29
                                    clear c29
                                    by_cases c30 : (rd l0 x52_4) < (l1.length : Int)
                                    · rw [if_pos c30] at H
                                      have c30b0 : decide ((rd l0 x52_4) < (l1.length : Int)) = true := decide_eq_true c30
                                      clear c30
                                      by_cases c31 : x9_4.length < 35184372088832
                                      · rw [if_pos c31] at H
                                        have LMc31 := Aside0.mk c31
                                        clear c31
                                        obtain ⟨y121, hy121⟩ : ∃ y_ : List Int, y_ = (x9_4 ++ [(rd l1 (rd l0 x52_4)) % 4294967296]) := ⟨_, rfl⟩
                                        replace H : (laws_FnTransposeUint64Uint32.l0 k4 l0 l1 x7_6 (decide ((rd l0 x52_4) < (IntKind.u64.wrap ((l1.length : Int))))) y121 l0 (l0.length : Int) (wrap64 (x52_4 + 1))) = some r := by first | (rw [hy121]; with_reducible exact H) | (have H2_ := (Option.bind_some _ _).symm.trans H; rw [hy121]; with_reducible exact H2_) | (have H2_ := (Option.bind_some _ _).symm.trans H; with_reducible exact H2_) | with_reducible exact H | (rw [hy121]; exact H) | exact H
                                        have Ny121 := Aside0.mk hy121
                                        clear hy121
                                        have H' := Aside0.mk H
                                        clear H
                                        have p119 : 0 ≤ (x52_4 : Int) := of_decide_eq_true (by first | (with_reducible assumption) | assumption)
                                        have q119 : x52_4 < (l0.length : Int) := of_decide_eq_true (by first | (with_reducible assumption) | assumption)
                                        obtain ⟨ad119, e119, hx119_0⟩ := Kd.at_int HR0.out x52_4 p119 q119
                                        cases e119
                                        replace hx119_0 := (HB.out.cell (World.block_lt_of_cell? w _ hx119_0)).trans hx119_0
                                        replace p119 := eq_true p119
                                        replace q119 := eq_true q119
                                        have p120 : 0 ≤ ((rd l0 x52_4) : Int) := of_decide_eq_true (by first | (with_reducible assumption) | assumption)
                                        have q120 : (rd l0 x52_4) < (l1.length : Int) := of_decide_eq_true (by first | (with_reducible assumption) | assumption)
                                        obtain ⟨ad120, e120, hx120_0⟩ := Kd.at_int HR1.out (rd l0 x52_4) p120 q120
                                        cases e120
                                        replace hx120_0 := (HB.out.cell (World.block_lt_of_cell? w _ hx120_0)).trans hx120_0
                                        replace p120 := eq_true p120
                                        replace q120 := eq_true q120
                                        go_wp2_with (first | ((with_reducible refine gate_builtin (b := .append) (xs := #[.tmp 69, .tmp 75]) rfl ?_); (try (refine gate_guard (by rfl) ?_; dsimp only)); at_builtin; refine Kd.R_append (Kd.int .u32) (w0 := w) w.heap.size rfl (.tmp 69) (.tmp 75) 25 44 (.int .u32 0) 4 rfl Try.underlying25 info44 rfl (by decide) (by omega) u9 x9_4 ((rd l1 (rd l0 x52_4)) % 4294967296) [.int .u32 ((rd l1 (rd l0 x52_4)) % 4294967296)] (fun _ => True) (fun _ => False) rfl rfl ?aP (fun _ hk => hk.elim) ?aF ?aO ?aB ?aS ?aL ?_; (case aP => exact rfl); (case aB => exact (by repeat (first | (with_reducible first | exact HB.out | apply below_alloc | apply pw_below_drewN | apply below_drew1) | exact HB.out))); (case aF => exact (fun _ _ => trivial)); (case aO => exact (by (with_reducible repeat (first | apply Kd.R_alloc | apply Kd.R_drewN | apply Kd.R_drew)); exact HO_9.out)); (case aS => exact (below_size (by repeat (first | (with_reducible first | exact HB.out | apply below_alloc | apply pw_below_drewN | apply below_drew1) | exact HB.out)))); (case aL => have := LMc31.out; omega); intro v122 w32 ho hb hg hat; rw [← Ny121.out] at ho; have n0_ := Aside0.mk (hb); have n1_ := Aside0.mk (ho); clear HB; clear HO_9; have HB := n0_; have HO123 := n1_; clear n0_ n1_; clear ho hb hg hat))
                                        repeat (go_quiet (first | ((with_reducible refine gate_builtin (b := .append) (xs := #[.tmp 69, .tmp 75]) rfl ?_); (try (refine gate_guard (by rfl) ?_; dsimp only)); at_builtin; refine Kd.R_append (Kd.int .u32) (w0 := w) w.heap.size rfl (.tmp 69) (.tmp 75) 25 44 (.int .u32 0) 4 rfl Try.underlying25 info44 rfl (by decide) (by omega) u9 x9_4 ((rd l1 (rd l0 x52_4)) % 4294967296) [.int .u32 ((rd l1 (rd l0 x52_4)) % 4294967296)] (fun _ => True) (fun _ => False) rfl rfl ?aP (fun _ hk => hk.elim) ?aF ?aO ?aB ?aS ?aL ?_; (case aP => exact rfl); (case aB => exact (by repeat (first | (with_reducible first | exact HB.out | apply below_alloc | apply pw_below_drewN | apply below_drew1) | exact HB.out))); (case aF => exact (fun _ _ => trivial)); (case aO => exact (by (with_reducible repeat (first | apply Kd.R_alloc | apply Kd.R_drewN | apply Kd.R_drew)); exact HO_9.out)); (case aS => exact (below_size (by repeat (first | (with_reducible first | exact HB.out | apply below_alloc | apply pw_below_drewN | apply below_drew1) | exact HB.out)))); (case aL => have := LMc31.out; omega); intro v122 w32 ho hb hg hat; rw [← Ny121.out] at ho; have n0_ := Aside0.mk (hb); have n1_ := Aside0.mk (ho); clear HB; clear HO_9; have HB := n0_; have HO123 := n1_; clear n0_ n1_; clear ho hb hg hat)); try go_wp2_with (first | ((with_reducible refine gate_builtin (b := .append) (xs := #[.tmp 69, .tmp 75]) rfl ?_); (try (refine gate_guard (by rfl) ?_; dsimp only)); at_builtin; refine Kd.R_append (Kd.int .u32) (w0 := w) w.heap.size rfl (.tmp 69) (.tmp 75) 25 44 (.int .u32 0) 4 rfl Try.underlying25 info44 rfl (by decide) (by omega) u9 x9_4 ((rd l1 (rd l0 x52_4)) % 4294967296) [.int .u32 ((rd l1 (rd l0 x52_4)) % 4294967296)] (fun _ => True) (fun _ => False) rfl rfl ?aP (fun _ hk => hk.elim) ?aF ?aO ?aB ?aS ?aL ?_; (case aP => exact rfl); (case aB => exact (by repeat (first | (with_reducible first | exact HB.out | apply below_alloc | apply pw_below_drewN | apply below_drew1) | exact HB.out))); (case aF => exact (fun _ _ => trivial)); (case aO => exact (by (with_reducible repeat (first | apply Kd.R_alloc | apply Kd.R_drewN | apply Kd.R_drew)); exact HO_9.out)); (case aS => exact (below_size (by repeat (first | (with_reducible first | exact HB.out | apply below_alloc | apply pw_below_drewN | apply below_drew1) | exact HB.out)))); (case aL => have := LMc31.out; omega); intro v122 w32 ho hb hg hat; rw [← Ny121.out] at ho; have n0_ := Aside0.mk (hb); have n1_ := Aside0.mk (ho); clear HB; clear HO_9; have HB := n0_; have HO123 := n1_; clear n0_ n1_; clear ho hb hg hat)))
                                        go_roundg k4
                                        case measure => have := HJ2.out; have := HJ6.out; have := HJ19.out; have := HK4.out; omega
                                        case rel => exact ⟨(decide ((rd l0 x52_4) < (IntKind.u64.wrap ((l1.length : Int))))), (y121), (wrap64 (x52_4 + 1)), (by first | rfl | (simp; done) | (simp [*]; done)), (by first | rfl | (simp; done) | (simp [*]; done)), H', ⟨by have := HJ2.out; have := HJ6.out; have := HJ19.out; have := HK4.out; omega⟩, ⟨by (with_reducible repeat (first | apply Kd.R_alloc | apply Kd.R_drewN | apply Kd.R_drew)); exact HO123.out⟩, ⟨by repeat (first | (with_reducible first | exact HB.out | apply below_alloc | apply pw_below_drewN | apply below_drew1) | exact HB.out)⟩⟩
                                      · rw [if_neg c31] at H
                                        exact absurd H (by simp)
                                    · rw [if_neg c30] at H
                                      exact absurd H (by simp)
                                  · rw [if_neg c29] at H
                                    exact absurd H (by simp)
                                · rw [if_neg c28] at H
                                  have c28b0 : decide ((rd l0 x52_4) < (IntKind.u64.wrap ((l1.length : Int)))) = false := decide_eq_false c28
                                  clear c28
                                  have H' := Aside0.mk H
                                  clear H
                                  have p119 : 0 ≤ (x52_4 : Int) := of_decide_eq_true (by first | (with_reducible assumption) | assumption)
                                  have q119 : x52_4 < (l0.length : Int) := of_decide_eq_true (by first | (with_reducible assumption) | assumption)
                                  obtain ⟨ad119, e119, hx119_0⟩ := Kd.at_int HR0.out x52_4 p119 q119
                                  cases e119
                                  replace hx119_0 := (HB.out.cell (World.block_lt_of_cell? w _ hx119_0)).trans hx119_0
                                  replace p119 := eq_true p119
                                  replace q119 := eq_true q119
                                  go_wp2
                                  repeat (go_quiet (fail); try go_wp2)
                                  go_roundg k4
                                  case measure => have := HJ2.out; have := HJ6.out; have := HJ19.out; have := HK4.out; omega
                                  case rel => exact ⟨(decide ((rd l0 x52_4) < (IntKind.u64.wrap ((l1.length : Int))))), (x9_4), (wrap64 (x52_4 + 1)), (by first | rfl | (simp; done) | (simp [*]; done)), (by first | rfl | (simp; done) | (simp [*]; done)), H', ⟨by have := HJ2.out; have := HJ6.out; have := HJ19.out; have := HK4.out; omega⟩, ⟨by (with_reducible repeat (first | apply Kd.R_alloc | apply Kd.R_drewN | apply Kd.R_drew)); exact HO_9.out⟩, ⟨by repeat (first | (with_reducible first | exact HB.out | apply below_alloc | apply pw_below_drewN | apply below_drew1) | exact HB.out)⟩⟩
                              · rw [if_neg c27] at H
                                have c27b0 : decide (0 ≤ (rd l0 x52_4)) = false := decide_eq_false c27
                                clear c27
                                have H' := Aside0.mk H
                                clear H
                                have p119 : 0 ≤ (x52_4 : Int) := of_decide_eq_true (by first | (with_reducible assumption) | assumption)
                                have q119 : x52_4 < (l0.length : Int) := of_decide_eq_true (by first | (with_reducible assumption) | assumption)
                                obtain ⟨ad119, e119, hx119_0⟩ := Kd.at_int HR0.out x52_4 p119 q119
                                cases e119
                                replace hx119_0 := (HB.out.cell (World.block_lt_of_cell? w _ hx119_0)).trans hx119_0
                                replace p119 := eq_true p119
                                replace q119 := eq_true q119
                                go_wp2
                                repeat (go_quiet (fail); try go_wp2)
                                go_roundg k4
                                case measure => have := HJ2.out; have := HJ6.out; have := HJ19.out; have := HK4.out; omega
                                case rel => exact ⟨(false), (x9_4), (wrap64 (x52_4 + 1)), (by first | rfl | (simp; done) | (simp [*]; done)), (by first | rfl | (simp; done) | (simp [*]; done)), H', ⟨by have := HJ2.out; have := HJ6.out; have := HJ19.out; have := HK4.out; omega⟩, ⟨by (with_reducible repeat (first | apply Kd.R_alloc | apply Kd.R_drewN | apply Kd.R_drew)); exact HO_9.out⟩, ⟨by repeat (first | (with_reducible first | exact HB.out | apply below_alloc | apply pw_below_drewN | apply below_drew1) | exact HB.out)⟩⟩
                            · replace c26 := Bool.eq_false_iff.mpr c26
                              subst c26
                              have H1 : (laws_FnTransposeUint64Uint32.l0 k4 l0 l1 x7_6 false x9_4 l0 (l0.length : Int) (wrap64 (x52_4 + 1))) = some r := by rw [if_neg (show ¬ (false = true) by decide)] at H; exact H
                              clear H
                              have H := H1
                              clear H1
                              have H' := Aside0.mk H
                              clear H
                              have p119 : 0 ≤ (x52_4 : Int) := of_decide_eq_true (by first | (with_reducible assumption) | assumption)
                              have q119 : x52_4 < (l0.length : Int) := of_decide_eq_true (by first | (with_reducible assumption) | assumption)
                              obtain ⟨ad119, e119, hx119_0⟩ := Kd.at_int HR0.out x52_4 p119 q119
                              cases e119
                              replace hx119_0 := (HB.out.cell (World.block_lt_of_cell? w _ hx119_0)).trans hx119_0
                              replace p119 := eq_true p119
                              replace q119 := eq_true q119
                              go_wp2
                              repeat (go_quiet (fail); try go_wp2)
                              go_roundg k4
                              case measure => have := HJ2.out; have := HJ6.out; have := HJ19.out; have := HK4.out; omega
                              case rel => exact ⟨(false), (x9_4), (wrap64 (x52_4 + 1)), (by first | rfl | (simp; done) | (simp [*]; done)), (by first | rfl | (simp; done) | (simp [*]; done)), H', ⟨by have := HJ2.out; have := HJ6.out; have := HJ19.out; have := HK4.out; omega⟩, ⟨by (with_reducible repeat (first | apply Kd.R_alloc | apply Kd.R_drewN | apply Kd.R_drew)); exact HO_9.out⟩, ⟨by repeat (first | (with_reducible first | exact HB.out | apply below_alloc | apply pw_below_drewN | apply below_drew1) | exact HB.out)⟩⟩
                          · rw [if_neg c25] at H
                            exact absurd H (by simp)
                        · rw [if_neg c24] at H
                          exact absurd H (by simp)
                      · rw [if_neg c23] at H
                        have c23b0 : decide (x52_4 < (l0.length : Int)) = false := decide_eq_false c23
                        clear c23
                        replace H := Option.bind_eq_some_iff.mp H
                        obtain ⟨⟨t124, t125⟩, A330, H⟩ := H
                        replace H : (if x8_4 = true then (if t125 = true then (laws_FnTransposeUint64Uint32.j4 k4 x7_6 x9_4 t124 ((t124.length : Int) != (x9_4.length : Int))) else (laws_FnTransposeUint64Uint32.j4 k4 x7_6 x9_4 t124 true)) else (if t125 = true then (some false) else (some x7_6))) = some r := H
                        have A33 := Aside0.mk A330
                        clear A330
                        by_cases c34 : x8_4 = true
                        · subst c34
                          have H1 : (if t125 = true then (laws_FnTransposeUint64Uint32.j4 k4 x7_6 x9_4 t124 ((t124.length : Int) != (x9_4.length : Int))) else (laws_FnTransposeUint64Uint32.j4 k4 x7_6 x9_4 t124 true)) = some r := by rw [if_pos rfl] at H; exact H
                          clear H
                          have H := H1
                          clear H1
                          have HC35 := Aside0.mk H
                          clear H
                          go_upto_region 19 with (first | (go_at_call 21; (with_reducible refine (impl_TransposeUint64Uint32.calls _ _ l0 _ _ l1 t124 t125 _ ?side1 ?side2 ?side3 ?side4 A33.out).mono ?_); (case side1 => repeat (first | exact (Kd.C_below HR0.out HB.out) | (with_reducible refine Kd.C_alloc ?_ _) | (with_reducible refine Kd.C_drewN ?_ _) | (with_reducible refine Kd.C_drew ?_))); (case side2 => exact HC0.out); (case side3 => repeat (first | exact (Kd.C_below HR1.out HB.out) | (with_reducible refine Kd.C_alloc ?_ _) | (with_reducible refine Kd.C_drewN ?_ _) | (with_reducible refine Kd.C_drew ?_))); (case side4 => exact HC1.out); rintro e w36 ⟨v126, rfl, ho0, hb⟩; have n0_ := Aside0.mk (Kd.R_elder' (by (with_reducible repeat (first | apply Kd.R_alloc | apply Kd.R_drewN | apply Kd.R_drew)); exact HO_9.out) (Kd.R_base ho0) hb); have n1_ := Aside0.mk (Kd.R_lower (Kd.R_new' ho0 (Kd.R_lt (by (with_reducible repeat (first | apply Kd.R_alloc | apply Kd.R_drewN | apply Kd.R_drew)); exact HO_9.out))) (below_size (by repeat (first | (with_reducible first | exact HB.out | apply below_alloc | apply pw_below_drewN | apply below_drew1) | exact HB.out)))); have n2_ := Aside0.mk (below_step (by repeat (first | (with_reducible first | exact HB.out | apply below_alloc | apply pw_below_drewN | apply below_drew1) | exact HB.out)) hb); clear HO_9; clear HB; have HO_9 := n0_; have HO127 := n1_; have HB := n2_; clear n0_ n1_ n2_; (try clear hb); (try clear hb2); (try clear hk); (try clear hi); (try clear ho0)))
                          repeat (go_quiet (first | (go_at_call 21; (with_reducible refine (impl_TransposeUint64Uint32.calls _ _ l0 _ _ l1 t124 t125 _ ?side1 ?side2 ?side3 ?side4 A33.out).mono ?_); (case side1 => repeat (first | exact (Kd.C_below HR0.out HB.out) | (with_reducible refine Kd.C_alloc ?_ _) | (with_reducible refine Kd.C_drewN ?_ _) | (with_reducible refine Kd.C_drew ?_))); (case side2 => exact HC0.out); (case side3 => repeat (first | exact (Kd.C_below HR1.out HB.out) | (with_reducible refine Kd.C_alloc ?_ _) | (with_reducible refine Kd.C_drewN ?_ _) | (with_reducible refine Kd.C_drew ?_))); (case side4 => exact HC1.out); rintro e w36 ⟨v126, rfl, ho0, hb⟩; have n0_ := Aside0.mk (Kd.R_elder' (by (with_reducible repeat (first | apply Kd.R_alloc | apply Kd.R_drewN | apply Kd.R_drew)); exact HO_9.out) (Kd.R_base ho0) hb); have n1_ := Aside0.mk (Kd.R_lower (Kd.R_new' ho0 (Kd.R_lt (by (with_reducible repeat (first | apply Kd.R_alloc | apply Kd.R_drewN | apply Kd.R_drew)); exact HO_9.out))) (below_size (by repeat (first | (with_reducible first | exact HB.out | apply below_alloc | apply pw_below_drewN | apply below_drew1) | exact HB.out)))); have n2_ := Aside0.mk (below_step (by repeat (first | (with_reducible first | exact HB.out | apply below_alloc | apply pw_below_drewN | apply below_drew1) | exact HB.out)) hb); clear HO_9; clear HB; have HO_9 := n0_; have HO127 := n1_; have HB := n2_; clear n0_ n1_ n2_; (try clear hb); (try clear hb2); (try clear hk); (try clear hi); (try clear ho0))); go_upto_region 19 with (first | (go_at_call 21; (with_reducible refine (impl_TransposeUint64Uint32.calls _ _ l0 _ _ l1 t124 t125 _ ?side1 ?side2 ?side3 ?side4 A33.out).mono ?_); (case side1 => repeat (first | exact (Kd.C_below HR0.out HB.out) | (with_reducible refine Kd.C_alloc ?_ _) | (with_reducible refine Kd.C_drewN ?_ _) | (with_reducible refine Kd.C_drew ?_))); (case side2 => exact HC0.out); (case side3 => repeat (first | exact (Kd.C_below HR1.out HB.out) | (with_reducible refine Kd.C_alloc ?_ _) | (with_reducible refine Kd.C_drewN ?_ _) | (with_reducible refine Kd.C_drew ?_))); (case side4 => exact HC1.out); rintro e w36 ⟨v126, rfl, ho0, hb⟩; have n0_ := Aside0.mk (Kd.R_elder' (by (with_reducible repeat (first | apply Kd.R_alloc | apply Kd.R_drewN | apply Kd.R_drew)); exact HO_9.out) (Kd.R_base ho0) hb); have n1_ := Aside0.mk (Kd.R_lower (Kd.R_new' ho0 (Kd.R_lt (by (with_reducible repeat (first | apply Kd.R_alloc | apply Kd.R_drewN | apply Kd.R_drew)); exact HO_9.out))) (below_size (by repeat (first | (with_reducible first | exact HB.out | apply below_alloc | apply pw_below_drewN | apply below_drew1) | exact HB.out)))); have n2_ := Aside0.mk (below_step (by repeat (first | (with_reducible first | exact HB.out | apply below_alloc | apply pw_below_drewN | apply below_drew1) | exact HB.out)) hb); clear HO_9; clear HB; have HO_9 := n0_; have HO127 := n1_; have HB := n2_; clear n0_ n1_ n2_; (try clear hb); (try clear hb2); (try clear hk); (try clear hi); (try clear ho0))))
                          (try simp only [Act.put, List.setIfInBounds_toArray, List.set_cons_zero, List.set_cons_succ])
                          go_cut [99] (fun v99 wc => ∃ (kq : Nat) (x99_34 : Bool), v99 = .bool x99_34 ∧ Aside0 (laws_FnTransposeUint64Uint32.j4 kq x7_6 x9_4 t124 x99_34 = some r) ∧ Aside0 (kq ≤ k4) ∧ Aside0 (Kd.R (Kd.int .u32) 44 wc w.heap.size (fun k_ => some k_ ≠ (v126 : Value).ownBlock) u9 x9_4) ∧ Aside0 (Kd.R (Kd.int .u32) 44 wc w.heap.size (fun k_ => some k_ ≠ (u9 : Value).ownBlock) v126 t124) ∧ Aside0 (Below w.heap.size w wc))
                          case first =>
                            have H := HC35.out
                            clear HC35
                            by_cases c37 : t125 = true
                            · subst c37
                              have H1 : (laws_FnTransposeUint64Uint32.j4 k4 x7_6 x9_4 t124 ((t124.length : Int) != (x9_4.length : Int))) = some r := by rw [if_pos rfl] at H; exact H
                              clear H
                              have H := H1
                              clear H1
                              have H' := Aside0.mk H
                              clear H
                              obtain ⟨Ao38, co38, eo38⟩ := Kd.R_slice HO127.out
                              subst eo38
                              obtain ⟨Ao39, co39, eo39⟩ := Kd.R_slice HO_9.out
                              subst eo39
                              go_wp2
                              repeat (go_quiet (fail); try go_wp2)
                              go_meet
                              case rel => exact ⟨_, (((t124.length : Int) != (x9_4.length : Int))), (by first | rfl | (simp; done) | (simp [*]; done)), H', ⟨by have := HJ2.out; have := HJ6.out; have := HJ19.out; have := HK4.out; first | omega | exact Nat.le_refl _⟩, ⟨by (with_reducible repeat (first | apply Kd.R_alloc | apply Kd.R_drewN | apply Kd.R_drew)); exact Kd.R_mono HO_9.out (fun _ hk => hk.2)⟩, ⟨by (with_reducible repeat (first | apply Kd.R_alloc | apply Kd.R_drewN | apply Kd.R_drew)); exact Kd.R_mono HO127.out (fun _ hk => hk.2)⟩, ⟨by repeat (first | (with_reducible first | exact HB.out | apply below_alloc | apply pw_below_drewN | apply below_drew1) | exact HB.out)⟩⟩
                            · replace c37 := Bool.eq_false_iff.mpr c37
                              subst c37
                              have H1 : (laws_FnTransposeUint64Uint32.j4 k4 x7_6 x9_4 t124 true) = some r := by rw [if_neg (show ¬ (false = true) by decide)] at H; exact H
                              clear H
                              have H := H1
                              clear H1
                              have H' := Aside0.mk H
                              clear H
                              go_wp2
                              repeat (go_quiet (fail); try go_wp2)
                              go_meet
                              case rel => exact ⟨_, (true), (by first | rfl | (simp; done) | (simp [*]; done)), H', ⟨by have := HJ2.out; have := HJ6.out; have := HJ19.out; have := HK4.out; first | omega | exact Nat.le_refl _⟩, ⟨by (with_reducible repeat (first | apply Kd.R_alloc | apply Kd.R_drewN | apply Kd.R_drew)); exact Kd.R_mono HO_9.out (fun _ hk => hk.2)⟩, ⟨by (with_reducible repeat (first | apply Kd.R_alloc | apply Kd.R_drewN | apply Kd.R_drew)); exact Kd.R_mono HO127.out (fun _ hk => hk.2)⟩, ⟨by repeat (first | (with_reducible first | exact HB.out | apply below_alloc | apply pw_below_drewN | apply below_drew1) | exact HB.out)⟩⟩
                          case rest =>
                            clear HC35
                            try clear c1
                            try clear p1
                            try clear q1
                            try clear hx1
                            try clear qi1
                            try clear c2
                            try clear p2
                            try clear c3
                            try clear c4
                            try clear c4b0
                            try clear c4b1
                            try clear c5
                            try clear c6
                            try clear p6
                            try clear p11
                            try clear q11
                            try clear hx11
                            try clear qi11
                            try clear p12
                            try clear q12
                            try clear hx12
                            try clear c15
                            try clear c16
                            try clear c16b0
                            try clear c16b1
                            try clear c17
                            try clear c17b0
                            try clear c17b1
                            try clear c21
                            try clear c21b0
                            try clear c21b1
                            try clear c22
                            try clear c23
                            try clear c23b0
                            try clear c24
                            try clear c24b0
                            try clear c25
                            try clear c25b0
                            try clear c26
                            try clear c27
                            try clear c27b0
                            try clear c28
                            try clear c28b0
                            try clear c29
                            try clear c29b0
                            try clear c30
                            try clear c30b0
                            try clear c31
                            try clear c34
                            try clear c37
                            try clear hx118_0
                            try clear hx119_0
                            try clear hx120_0
                            try clear p1
                            try clear p11
                            try clear p118
                            try clear p119
                            try clear p120
                            try clear p2
                            try clear q1
                            try clear q11
                            try clear q118
                            try clear q119
                            try clear q120
                            obtain ⟨kq, x99_34, rfl, HA, HJ34, HO_9, HO_12, HB⟩ := hcut
                            cases kq with
                            | zero => exact absurd HA.out (by simp [laws_FnTransposeUint64Uint32.j4])
                            | succ kj34 =>
                              have H := HA.out
                              clear HA
                              simp only [laws_FnTransposeUint64Uint32.j4] at H
                              by_cases c40 : x99_34 = true
                              · subst c40
                                have H1 : (some false) = some r := by rw [if_pos rfl] at H; exact H
                                clear H
                                have H := H1
                                clear H1
                                obtain rfl := Option.some.inj H
                                go_wp2
                                repeat (go_quiet (fail); try go_wp2)
                                go_ret
                                exact ⟨by first | rfl | (simp [errW_none, errW_some] <;> rfl) | (simp [*, errW_none, errW_some] <;> rfl), by repeat (first | (with_reducible first | exact HB.out | apply below_alloc | apply pw_below_drewN | apply below_drew1) | exact HB.out)⟩
                              · replace c40 := Bool.eq_false_iff.mpr c40
                                subst c40
                                have H1 : (laws_FnTransposeUint64Uint32.l1 kj34 x7_6 x9_4 t124 (t124.length : Int) 0) = some r := by rw [if_neg (show ¬ (false = true) by decide)] at H; exact H
                                clear H
                                have H := H1
                                clear H1
                                have H' := Aside0.mk H
                                clear H
                                obtain ⟨Ao41, co41, eo41⟩ := Kd.R_slice HO_12.out
                                subst eo41
                                go_wp2
                                repeat (go_quiet (fail); try go_wp2)
                                go_loopg [102] kj34 (fun kq v102 w' => ∃ (x102_6 : Int), v102 = .int .i64 x102_6 ∧ Aside0 (laws_FnTransposeUint64Uint32.l1 kq x7_6 x9_4 t124 (t124.length : Int) x102_6 = some r) ∧ Aside0 (kq ≤ kj34) ∧ Aside0 (Kd.R (Kd.int .u32) 44 w' w.heap.size (fun k_ => some k_ ≠ ((.slice Ao41 t124.length co41) : Value).ownBlock) u9 x9_4) ∧ Aside0 (Kd.R (Kd.int .u32) 44 w' w.heap.size (fun k_ => some k_ ≠ (u9 : Value).ownBlock) (.slice Ao41 t124.length co41) t124) ∧ Aside0 (Below w.heap.size w w'))
                                case atStart => exact ⟨(0), (by first | rfl | (simp; done) | (simp [*]; done)), H', ⟨Nat.le_refl _⟩, ⟨by (with_reducible repeat (first | apply Kd.R_alloc | apply Kd.R_drewN | apply Kd.R_drew)); exact HO_9.out⟩, ⟨by (with_reducible repeat (first | apply Kd.R_alloc | apply Kd.R_drewN | apply Kd.R_drew)); exact HO_12.out⟩, ⟨by repeat (first | (with_reducible first | exact HB.out | apply below_alloc | apply pw_below_drewN | apply below_drew1) | exact HB.out)⟩⟩
                                case round =>
                                  clear H'
                                  try clear c1
                                  try clear p1
                                  try clear q1
                                  try clear hx1
                                  try clear qi1
                                  try clear c2
                                  try clear p2
                                  try clear c3
                                  try clear c4
                                  try clear c4b0
                                  try clear c4b1
                                  try clear c5
                                  try clear c6
                                  try clear p6
                                  try clear p11
                                  try clear q11
                                  try clear hx11
                                  try clear qi11
                                  try clear p12
                                  try clear q12
                                  try clear hx12
                                  try clear c15
                                  try clear c16
                                  try clear c16b0
                                  try clear c16b1
                                  try clear c17
                                  try clear c17b0
                                  try clear c17b1
                                  try clear c21
                                  try clear c21b0
                                  try clear c21b1
                                  try clear c22
                                  try clear c23
                                  try clear c23b0
                                  try clear c24
                                  try clear c24b0
                                  try clear c25
                                  try clear c25b0
                                  try clear c26
                                  try clear c27
                                  try clear c27b0
                                  try clear c28
                                  try clear c28b0
                                  try clear c29
                                  try clear c29b0
                                  try clear c30
                                  try clear c30b0
                                  try clear c31
                                  try clear c34
                                  try clear c37
                                  try clear c40
                                  try clear hx118_0
                                  try clear hx119_0
                                  try clear hx120_0
                                  try clear p1
                                  try clear p11
                                  try clear p118
                                  try clear p119
                                  try clear p12
                                  try clear p120
                                  try clear p2
                                  try clear p6
                                  try clear q1
                                  try clear q11
                                  try clear q118
                                  try clear q119
                                  try clear q12
                                  try clear q120
                                  obtain ⟨x102_6, rfl, HA, HK6, HO_9, HO_12, HB⟩ := hrel
                                  cases gk with
                                  | zero => exact absurd HA.out (by simp [laws_FnTransposeUint64Uint32.l1])
                                  | succ k6 =>
                                    have H := HA.out
                                    clear HA
                                    simp only [laws_FnTransposeUint64Uint32.l1] at H
                                    by_cases c42 : x102_6 < (t124.length : Int)
                                    · rw [if_pos c42] at H
                                      have c42b0 : decide (x102_6 < (t124.length : Int)) = true := decide_eq_true c42
                                      clear c42
                                      by_cases c43 : 0 ≤ x102_6
                                      · rw [if_pos c43] at H
                                        have c43b0 : decide (0 ≤ x102_6) = true := decide_eq_true c43
                                        clear c43
                                        by_cases c44 : x102_6 < (t124.length : Int)
                                        · rw [if_pos c44] at H
                                          have c44b0 : decide (x102_6 < (t124.length : Int)) = true := decide_eq_true c44
                                          clear c44
                                          by_cases c45 : x102_6 < (x9_4.length : Int)
                                          · rw [if_pos c45] at H
                                            have c45b0 : decide (x102_6 < (x9_4.length : Int)) = true := decide_eq_true c45
                                            clear c45
                                            by_cases c46 : (rd t124 x102_6) = (rd x9_4 x102_6)
                                            · rw [if_pos c46] at H
                                              have c46b0 : ((rd t124 x102_6) == (rd x9_4 x102_6)) = true := beq_iff_eq.mpr c46
                                              have c46b1 : ((rd t124 x102_6) != (rd x9_4 x102_6)) = false := bne_eq_false_iff_eq.mpr c46
                                              clear c46
                                              have H' := Aside0.mk H
                                              clear H
                                              have p128 : 0 ≤ (x102_6 : Int) := of_decide_eq_true (by first | (with_reducible assumption) | assumption)
                                              have q128 : x102_6 < (t124.length : Int) := of_decide_eq_true (by first | (with_reducible assumption) | assumption)
                                              obtain ⟨ad128, e128, hx128_0⟩ := Kd.at_int (Kd.R_reads' HO_12.out).2.2 x102_6 p128 q128
                                              cases e128
                                              replace p128 := eq_true p128
                                              replace q128 := eq_true q128
                                              obtain ⟨Ao47, co47, eo47⟩ := Kd.R_slice HO_9.out
                                              subst eo47
                                              have p129 : 0 ≤ (x102_6 : Int) := of_decide_eq_true (by first | (with_reducible assumption) | assumption)
                                              have q129 : x102_6 < (x9_4.length : Int) := of_decide_eq_true (by first | (with_reducible assumption) | assumption)
                                              obtain ⟨ad129, e129, hx129_0⟩ := Kd.at_int (Kd.R_reads' HO_9.out).2.2 x102_6 p129 q129
                                              cases e129
                                              replace p129 := eq_true p129
                                              replace q129 := eq_true q129
                                              go_wp2
                                              repeat (go_quiet (fail); try go_wp2)
                                              go_roundg k6
                                              case measure => have := HJ2.out; have := HJ6.out; have := HJ19.out; have := HK4.out; have := HJ34.out; have := HK6.out; omega
                                              case rel => exact ⟨(wrap64 (x102_6 + 1)), (by first | rfl | (simp; done) | (simp [*]; done)), H', ⟨by have := HJ2.out; have := HJ6.out; have := HJ19.out; have := HK4.out; have := HJ34.out; have := HK6.out; omega⟩, ⟨by (with_reducible repeat (first | apply Kd.R_alloc | apply Kd.R_drewN | apply Kd.R_drew)); exact HO_9.out⟩, ⟨by (with_reducible repeat (first | apply Kd.R_alloc | apply Kd.R_drewN | apply Kd.R_drew)); exact HO_12.out⟩, ⟨by repeat (first | (with_reducible first | exact HB.out | apply below_alloc | apply pw_below_drewN | apply below_drew1) | exact HB.out)⟩⟩
                                            · rw [if_neg c46] at H
                                              have c46b0 : ((rd t124 x102_6) == (rd x9_4 x102_6)) = false := beq_eq_false_iff_ne.mpr c46
                                              have c46b1 : ((rd t124 x102_6) != (rd x9_4 x102_6)) = true := bne_iff_ne.mpr c46
                                              obtain rfl := Option.some.inj H
                                              have p128 : 0 ≤ (x102_6 : Int) := of_decide_eq_true (by first | (with_reducible assumption) | assumption)
                                              have q128 : x102_6 < (t124.length : Int) := of_decide_eq_true (by first | (with_reducible assumption) | assumption)
                                              obtain ⟨ad128, e128, hx128_0⟩ := Kd.at_int (Kd.R_reads' HO_12.out).2.2 x102_6 p128 q128
                                              cases e128
                                              replace p128 := eq_true p128
                                              replace q128 := eq_true q128
                                              obtain ⟨Ao48, co48, eo48⟩ := Kd.R_slice HO_9.out
                                              subst eo48
                                              have p129 : 0 ≤ (x102_6 : Int) := of_decide_eq_true (by first | (with_reducible assumption) | assumption)
                                              have q129 : x102_6 < (x9_4.length : Int) := of_decide_eq_true (by first | (with_reducible assumption) | assumption)
                                              obtain ⟨ad129, e129, hx129_0⟩ := Kd.at_int (Kd.R_reads' HO_9.out).2.2 x102_6 p129 q129
                                              cases e129
                                              replace p129 := eq_true p129
                                              replace q129 := eq_true q129
                                              go_wp2
                                              repeat (go_quiet (fail); try go_wp2)
                                              go_ret
                                              exact ⟨by first | rfl | (simp [errW_none, errW_some] <;> rfl) | (simp [*, errW_none, errW_some] <;> rfl), by repeat (first | (with_reducible first | exact HB.out | apply below_alloc | apply pw_below_drewN | apply below_drew1) | exact HB.out)⟩
                                          · rw [if_neg c45] at H
                                            exact absurd H (by simp)
                                        · rw [if_neg c44] at H
                                          exact absurd H (by simp)
                                      · rw [if_neg c43] at H
                                        exact absurd H (by simp)
                                    · rw [if_neg c42] at H
                                      have c42b0 : decide (x102_6 < (t124.length : Int)) = false := decide_eq_false c42
                                      clear c42
                                      obtain rfl := Option.some.inj H
                                      go_wp2
                                      repeat (go_quiet (fail); try go_wp2)
                                      go_ret
                                      exact ⟨by first | rfl | (simp [errW_none, errW_some] <;> rfl) | (simp [*, errW_none, errW_some] <;> rfl), by repeat (first | (with_reducible first | exact HB.out | apply below_alloc | apply pw_below_drewN | apply below_drew1) | exact HB.out)⟩
                        · replace c34 := Bool.eq_false_iff.mpr c34
                          subst c34
                          have H1 : (if t125 = true then (some false) else (some x7_6)) = some r := by rw [if_neg (show ¬ (false = true) by decide)] at H; exact H
                          clear H
                          have H := H1
                          clear H1
                          by_cases c49 : t125 = true
                          · subst c49
                            have H1 : (some false) = some r := by rw [if_pos rfl] at H; exact H
                            clear H
                            have H := H1
                            clear H1
                            obtain rfl := Option.some.inj H
                            go_wp2_with (first | (go_at_call 21; (with_reducible refine (impl_TransposeUint64Uint32.calls _ _ l0 _ _ l1 t124 true _ ?side1 ?side2 ?side3 ?side4 A33.out).mono ?_); (case side1 => repeat (first | exact (Kd.C_below HR0.out HB.out) | (with_reducible refine Kd.C_alloc ?_ _) | (with_reducible refine Kd.C_drewN ?_ _) | (with_reducible refine Kd.C_drew ?_))); (case side2 => exact HC0.out); (case side3 => repeat (first | exact (Kd.C_below HR1.out HB.out) | (with_reducible refine Kd.C_alloc ?_ _) | (with_reducible refine Kd.C_drewN ?_ _) | (with_reducible refine Kd.C_drew ?_))); (case side4 => exact HC1.out); rintro e w50 ⟨v126, rfl, ho0, hb⟩; have n0_ := Aside0.mk (Kd.R_elder' (by (with_reducible repeat (first | apply Kd.R_alloc | apply Kd.R_drewN | apply Kd.R_drew)); exact HO_9.out) (Kd.R_base ho0) hb); have n1_ := Aside0.mk (Kd.R_lower (Kd.R_new' ho0 (Kd.R_lt (by (with_reducible repeat (first | apply Kd.R_alloc | apply Kd.R_drewN | apply Kd.R_drew)); exact HO_9.out))) (below_size (by repeat (first | (with_reducible first | exact HB.out | apply below_alloc | apply pw_below_drewN | apply below_drew1) | exact HB.out)))); have n2_ := Aside0.mk (below_step (by repeat (first | (with_reducible first | exact HB.out | apply below_alloc | apply pw_below_drewN | apply below_drew1) | exact HB.out)) hb); clear HO_9; clear HB; have HO_9 := n0_; have HO127 := n1_; have HB := n2_; clear n0_ n1_ n2_; (try clear hb); (try clear hb2); (try clear hk); (try clear hi); (try clear ho0)))
                            repeat (go_quiet (first | (go_at_call 21; (with_reducible refine (impl_TransposeUint64Uint32.calls _ _ l0 _ _ l1 t124 true _ ?side1 ?side2 ?side3 ?side4 A33.out).mono ?_); (case side1 => repeat (first | exact (Kd.C_below HR0.out HB.out) | (with_reducible refine Kd.C_alloc ?_ _) | (with_reducible refine Kd.C_drewN ?_ _) | (with_reducible refine Kd.C_drew ?_))); (case side2 => exact HC0.out); (case side3 => repeat (first | exact (Kd.C_below HR1.out HB.out) | (with_reducible refine Kd.C_alloc ?_ _) | (with_reducible refine Kd.C_drewN ?_ _) | (with_reducible refine Kd.C_drew ?_))); (case side4 => exact HC1.out); rintro e w50 ⟨v126, rfl, ho0, hb⟩; have n0_ := Aside0.mk (Kd.R_elder' (by (with_reducible repeat (first | apply Kd.R_alloc | apply Kd.R_drewN | apply Kd.R_drew)); exact HO_9.out) (Kd.R_base ho0) hb); have n1_ := Aside0.mk (Kd.R_lower (Kd.R_new' ho0 (Kd.R_lt (by (with_reducible repeat (first | apply Kd.R_alloc | apply Kd.R_drewN | apply Kd.R_drew)); exact HO_9.out))) (below_size (by repeat (first | (with_reducible first | exact HB.out | apply below_alloc | apply pw_below_drewN | apply below_drew1) | exact HB.out)))); have n2_ := Aside0.mk (below_step (by repeat (first | (with_reducible first | exact HB.out | apply below_alloc | apply pw_below_drewN | apply below_drew1) | exact HB.out)) hb); clear HO_9; clear HB; have HO_9 := n0_; have HO127 := n1_; have HB := n2_; clear n0_ n1_ n2_; (try clear hb); (try clear hb2); (try clear hk); (try clear hi); (try clear ho0))); try go_wp2_with (first | (go_at_call 21; (with_reducible refine (impl_TransposeUint64Uint32.calls _ _ l0 _ _ l1 t124 true _ ?side1 ?side2 ?side3 ?side4 A33.out).mono ?_); (case side1 => repeat (first | exact (Kd.C_below HR0.out HB.out) | (with_reducible refine Kd.C_alloc ?_ _) | (with_reducible refine Kd.C_drewN ?_ _) | (with_reducible refine Kd.C_drew ?_))); (case side2 => exact HC0.out); (case side3 => repeat (first | exact (Kd.C_below HR1.out HB.out) | (with_reducible refine Kd.C_alloc ?_ _) | (with_reducible refine Kd.C_drewN ?_ _) | (with_reducible refine Kd.C_drew ?_))); (case side4 => exact HC1.out); rintro e w50 ⟨v126, rfl, ho0, hb⟩; have n0_ := Aside0.mk (Kd.R_elder' (by (with_reducible repeat (first | apply Kd.R_alloc | apply Kd.R_drewN | apply Kd.R_drew)); exact HO_9.out) (Kd.R_base ho0) hb); have n1_ := Aside0.mk (Kd.R_lower (Kd.R_new' ho0 (Kd.R_lt (by (with_reducible repeat (first | apply Kd.R_alloc | apply Kd.R_drewN | apply Kd.R_drew)); exact HO_9.out))) (below_size (by repeat (first | (with_reducible first | exact HB.out | apply below_alloc | apply pw_below_drewN | apply below_drew1) | exact HB.out)))); have n2_ := Aside0.mk (below_step (by repeat (first | (with_reducible first | exact HB.out | apply below_alloc | apply pw_below_drewN | apply below_drew1) | exact HB.out)) hb); clear HO_9; clear HB; have HO_9 := n0_; have HO127 := n1_; have HB := n2_; clear n0_ n1_ n2_; (try clear hb); (try clear hb2); (try clear hk); (try clear hi); (try clear ho0))))
                            go_ret
                            exact ⟨by first | rfl | (simp [errW_none, errW_some] <;> rfl) | (simp [*, errW_none, errW_some] <;> rfl), by repeat (first | (with_reducible first | exact HB.out | apply below_alloc | apply pw_below_drewN | apply below_drew1) | exact HB.out)⟩
                          · replace c49 := Bool.eq_false_iff.mpr c49
                            subst c49
                            have H1 : (some x7_6) = some r := by rw [if_neg (show ¬ (false = true) by decide)] at H; exact H
                            clear H
                            have H := H1
                            clear H1
                            obtain rfl := Option.some.inj H
                            go_wp2_with (first | (go_at_call 21; (with_reducible refine (impl_TransposeUint64Uint32.calls _ _ l0 _ _ l1 t124 false _ ?side1 ?side2 ?side3 ?side4 A33.out).mono ?_); (case side1 => repeat (first | exact (Kd.C_below HR0.out HB.out) | (with_reducible refine Kd.C_alloc ?_ _) | (with_reducible refine Kd.C_drewN ?_ _) | (with_reducible refine Kd.C_drew ?_))); (case side2 => exact HC0.out); (case side3 => repeat (first | exact (Kd.C_below HR1.out HB.out) | (with_reducible refine Kd.C_alloc ?_ _) | (with_reducible refine Kd.C_drewN ?_ _) | (with_reducible refine Kd.C_drew ?_))); (case side4 => exact HC1.out); rintro e w51 ⟨v126, rfl, ho0, hb⟩; have n0_ := Aside0.mk (Kd.R_elder' (by (with_reducible repeat (first | apply Kd.R_alloc | apply Kd.R_drewN | apply Kd.R_drew)); exact HO_9.out) (Kd.R_base ho0) hb); have n1_ := Aside0.mk (Kd.R_lower (Kd.R_new' ho0 (Kd.R_lt (by (with_reducible repeat (first | apply Kd.R_alloc | apply Kd.R_drewN | apply Kd.R_drew)); exact HO_9.out))) (below_size (by repeat (first | (with_reducible first | exact HB.out | apply below_alloc | apply pw_below_drewN | apply below_drew1) | exact HB.out)))); have n2_ := Aside0.mk (below_step (by repeat (first | (with_reducible first | exact HB.out | apply below_alloc | apply pw_below_drewN | apply below_drew1) | exact HB.out)) hb); clear HO_9; clear HB; have HO_9 := n0_; have HO127 := n1_; have HB := n2_; clear n0_ n1_ n2_; (try clear hb); (try clear hb2); (try clear hk); (try clear hi); (try clear ho0)))
                            repeat (go_quiet (first | (go_at_call 21; (with_reducible refine (impl_TransposeUint64Uint32.calls _ _ l0 _ _ l1 t124 false _ ?side1 ?side2 ?side3 ?side4 A33.out).mono ?_); (case side1 => repeat (first | exact (Kd.C_below HR0.out HB.out) | (with_reducible refine Kd.C_alloc ?_ _) | (with_reducible refine Kd.C_drewN ?_ _) | (with_reducible refine Kd.C_drew ?_))); (case side2 => exact HC0.out); (case side3 => repeat (first | exact (Kd.C_below HR1.out HB.out) | (with_reducible refine Kd.C_alloc ?_ _) | (with_reducible refine Kd.C_drewN ?_ _) | (with_reducible refine Kd.C_drew ?_))); (case side4 => exact HC1.out); rintro e w51 ⟨v126, rfl, ho0, hb⟩; have n0_ := Aside0.mk (Kd.R_elder' (by (with_reducible repeat (first | apply Kd.R_alloc | apply Kd.R_drewN | apply Kd.R_drew)); exact HO_9.out) (Kd.R_base ho0) hb); have n1_ := Aside0.mk (Kd.R_lower (Kd.R_new' ho0 (Kd.R_lt (by (with_reducible repeat (first | apply Kd.R_alloc | apply Kd.R_drewN | apply Kd.R_drew)); exact HO_9.out))) (below_size (by repeat (first | (with_reducible first | exact HB.out | apply below_alloc | apply pw_below_drewN | apply below_drew1) | exact HB.out)))); have n2_ := Aside0.mk (below_step (by repeat (first | (with_reducible first | exact HB.out | apply below_alloc | apply pw_below_drewN | apply below_drew1) | exact HB.out)) hb); clear HO_9; clear HB; have HO_9 := n0_; have HO127 := n1_; have HB := n2_; clear n0_ n1_ n2_; (try clear hb); (try clear hb2); (try clear hk); (try clear hi); (try clear ho0))); try go_wp2_with (first | (go_at_call 21; (with_reducible refine (impl_TransposeUint64Uint32.calls _ _ l0 _ _ l1 t124 false _ ?side1 ?side2 ?side3 ?side4 A33.out).mono ?_); (case side1 => repeat (first | exact (Kd.C_below HR0.out HB.out) | (with_reducible refine Kd.C_alloc ?_ _) | (with_reducible refine Kd.C_drewN ?_ _) | (with_reducible refine Kd.C_drew ?_))); (case side2 => exact HC0.out); (case side3 => repeat (first | exact (Kd.C_below HR1.out HB.out) | (with_reducible refine Kd.C_alloc ?_ _) | (with_reducible refine Kd.C_drewN ?_ _) | (with_reducible refine Kd.C_drew ?_))); (case side4 => exact HC1.out); rintro e w51 ⟨v126, rfl, ho0, hb⟩; have n0_ := Aside0.mk (Kd.R_elder' (by (with_reducible repeat (first | apply Kd.R_alloc | apply Kd.R_drewN | apply Kd.R_drew)); exact HO_9.out) (Kd.R_base ho0) hb); have n1_ := Aside0.mk (Kd.R_lower (Kd.R_new' ho0 (Kd.R_lt (by (with_reducible repeat (first | apply Kd.R_alloc | apply Kd.R_drewN | apply Kd.R_drew)); exact HO_9.out))) (below_size (by repeat (first | (with_reducible first | exact HB.out | apply below_alloc | apply pw_below_drewN | apply below_drew1) | exact HB.out)))); have n2_ := Aside0.mk (below_step (by repeat (first | (with_reducible first | exact HB.out | apply below_alloc | apply pw_below_drewN | apply below_drew1) | exact HB.out)) hb); clear HO_9; clear HB; have HO_9 := n0_; have HO127 := n1_; have HB := n2_; clear n0_ n1_ n2_; (try clear hb); (try clear hb2); (try clear hk); (try clear hi); (try clear ho0))))
                            go_ret
                            exact ⟨by first | rfl | (simp [errW_none, errW_some] <;> rfl) | (simp [*, errW_none, errW_some] <;> rfl), by repeat (first | (with_reducible first | exact HB.out | apply below_alloc | apply pw_below_drewN | apply below_drew1) | exact HB.out)⟩

/-- THE ONE PURE STATEMENT of laws_FnTransposeUint64Uint32: yours. -/
def laws_FnTransposeUint64Uint32.Pure : Prop := ∀ (l0 : List Int) (l1 : List Int), l0.length ≤ maxLen → l0.length * 8 ≤ 140737488351232 → (∀ x ∈ l0, (Lit.int .u64 x).wf = true) → l1.length ≤ maxLen → l1.length * 4 ≤ 140737488351232 → (∀ x ∈ l1, (Lit.int .i32 x).wf = true) → ∃ k, laws_FnTransposeUint64Uint32.f k l0 l1 = some true
theorem laws_FnTransposeUint64Uint32.walk (P : laws_FnTransposeUint64Uint32.Pure) (a0 : Option Addr) (len0 cap0 : Nat) (z0 : List Int) (a1 : Option Addr) (len1 cap1 : Nat) (z1 : List Int) (w : World) (w0 : (a0 = none ∧ len0 = 0 ∧ cap0 = 0 ∧ z0 = []) ∨ ∃ x, a0 = some x ∧ len0 ≤ cap0 ∧ cap0 ≤ maxLen ∧ z0.length = cap0 ∧ (∀ i, i < z0.length → w.cell? (x.add i) = some (.int .u64 (z0.getD i 0))) ∧ ∀ n ∈ z0, (Lit.int .u64 n).wf = true) (y0 : len0 * 8 ≤ 140737488351232) (w1 : (a1 = none ∧ len1 = 0 ∧ cap1 = 0 ∧ z1 = []) ∨ ∃ x, a1 = some x ∧ len1 ≤ cap1 ∧ cap1 ≤ maxLen ∧ z1.length = cap1 ∧ (∀ i, i < z1.length → w.cell? (x.add i) = some (.int .i32 (z1.getD i 0))) ∧ ∀ n ∈ z1, (Lit.int .i32 n).wf = true) (y1 : len1 * 4 ≤ 140737488351232) :
    Calls Try.prog 6 #[.slice a0 len0 cap0, .slice a1 len1 cap1] w fun e w' => e = .returned (.bool true) ∧ Below w.heap.size w w' := by
  obtain ⟨l0, rfl, hr0, hm0, hw0, hc0⟩ := ReadsInt.ofRowC w0
  obtain ⟨l1, rfl, hr1, hm1, hw1, hc1⟩ := ReadsInt.ofRowC w1
  obtain ⟨k, h⟩ := P l0 l1 hm0 y0 hw0 hm1 y1 hw1
  refine (laws_FnTransposeUint64Uint32.calls k _ _ l0 _ _ l1 true w (Kd.C_of_reads (d := (0 : Int)) (h1 := fun _ => rfl) hr0) hc0 (Kd.C_of_reads (d := (0 : Int)) (h1 := fun _ => rfl) hr1) hc1 h).mono ?_
  rintro e w' ⟨rfl, hd⟩
  exact ⟨rfl, hd⟩

end Go.Proofs.Ytnjniacohbeonaa.Q
