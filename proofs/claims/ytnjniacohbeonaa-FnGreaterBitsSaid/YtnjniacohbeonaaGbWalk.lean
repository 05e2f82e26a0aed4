/- The walk of GreaterBits' functions: began as the print of print.sh (law FnGreaterBits, part x1), which falls in Lean at one limb (a shift of 0 by a variable count); that limb is mended here. -/
import Derived.Test.YtnjniacohbeonaaPFnGreaterBitsx0
namespace Go.Proofs.Ytnjniacohbeonaa.PFnGreaterBits
open Go.RowKit Go.Proofs.YtnjniacohbeonaaW.PrintWords Go.Proofs.YtnjniacohbeonaaW.PrintLast Go.Proofs.YtnjniacohbeonaaW.PrintMore
attribute [local go_sem] max2_int min2_int max_two min_two max_three min_three max_four min_four   -- for this text's walks alone
set_option linter.unusedVariables false
set_option linter.unusedSimpArgs false

/-! ### bmi_greaterThanBitmapGo: function 64 -/
def bmi_greaterThanBitmapGo.l0 : Nat → Int → Int → List Int → Int → Int → Option (Int)
  | 0, _, _, _, _, _ => none
  | k + 1, x1, x5, x8, x9, x10 => if x10 < x9 then (if 0 ≤ x10 then (if x10 < (x8.length : Int) then (if (rd x8 x10) > x1 then (bmi_greaterThanBitmapGo.l0 k x1 (Go.bits .or .u64 x5 (shl .u64 1 x10)) x8 x9 (wrap64 (x10 + 1))) else (bmi_greaterThanBitmapGo.l0 k x1 (Go.bits .or .u64 x5 (shl .u64 0 x10)) x8 x9 (wrap64 (x10 + 1)))) else (none)) else (none)) else (some x5)
def bmi_greaterThanBitmapGo.f (k : Nat) (l0 : List Int) (a1 : Int) : Option (Int) := bmi_greaterThanBitmapGo.l0 k a1 0 l0 (l0.length : Int) 0
theorem bmi_greaterThanBitmapGo.mono_l : ∀ k, (∀ y0 y1 y2 y3 y4, LeO (bmi_greaterThanBitmapGo.l0 k y0 y1 y2 y3 y4) (bmi_greaterThanBitmapGo.l0 (k + 1) y0 y1 y2 y3 y4))
  | 0 => fun _ _ _ _ _ r h => by simp [bmi_greaterThanBitmapGo.l0] at h
  | k + 1 => by
    have ih0 := bmi_greaterThanBitmapGo.mono_l k
    · intro y0 y1 y2 y3 y4
      unfold bmi_greaterThanBitmapGo.l0
      repeat' first
      | (with_reducible exact ih0 _ _ _ _ _)
      | (with_reducible exact LeO.refl _)
      | (with_reducible exact LeO.none _)
      | (with_reducible refine LeO.ite ?_ ?_)
      | (with_reducible refine LeO.bind ?_ (fun _ => ?_))
      | exact ih0 _ _ _ _ _
      | exact LeO.none _
      | refine LeO.ite ?_ ?_
      | refine LeO.bind ?_ (fun _ => ?_)
theorem bmi_greaterThanBitmapGo.mono : ∀ a0 a1 k, LeO (bmi_greaterThanBitmapGo.f k a0 a1) (bmi_greaterThanBitmapGo.f (k + 1) a0 a1) := by
  intro a0 a1 k
  have ih0 := bmi_greaterThanBitmapGo.mono_l k
  unfold bmi_greaterThanBitmapGo.f
  repeat' first
      | (with_reducible exact ih0 _ _ _ _ _)
      | (with_reducible exact LeO.refl _)
      | (with_reducible exact LeO.none _)
      | (with_reducible refine LeO.ite ?_ ?_)
      | (with_reducible refine LeO.bind ?_ (fun _ => ?_))
      | exact ih0 _ _ _ _ _
      | exact LeO.none _
      | refine LeO.ite ?_ ?_
      | refine LeO.bind ?_ (fun _ => ?_)
set_option maxHeartbeats 8000000 in
set_option maxRecDepth 100000 in
theorem bmi_greaterThanBitmapGo.calls (k : Nat) (A0 : Option Addr) (c0 : Nat) (l0 : List Int) (a1 : Int) (r : Int) (w : World) (hr0 : Kd.C (Kd.int .i16) w A0 l0.length l0) (hc0 : l0.length ≤ c0) (h : bmi_greaterThanBitmapGo.f k l0 a1 = some r) :
    Calls Try.prog 64 #[.slice A0 l0.length c0, .int .i16 a1] w fun e w' => e = .returned (.int .u64 r) ∧ Drawn0 w w' := by
  have HR0 := Aside0.mk hr0
  have HC0 := Aside0.mk hc0
  clear hr0 hc0
  have H : (bmi_greaterThanBitmapGo.l0 k a1 0 l0 (l0.length : Int) 0) = some r := h
  clear h
  have H' := Aside0.mk H
  clear H
  go_enter Try.func64, Try.ntmps64
  go_wp2
  go_loopg [5, 10] k (fun kq v5 v10 w' => ∃ (x5_1 : Int) (x10_1 : Int), v5 = .int .u64 x5_1 ∧ v10 = .int .i64 x10_1 ∧ Aside0 (bmi_greaterThanBitmapGo.l0 kq a1 x5_1 l0 (l0.length : Int) x10_1 = some r) ∧ Aside0 (kq ≤ k) ∧ Drawn0 w w')
  case atStart => exact ⟨(0), (0), (by first | rfl | (simp; done) | (simp [*]; done)), (by first | rfl | (simp; done) | (simp [*]; done)), H', ⟨Nat.le_refl _⟩, by repeat (first | exact Drawn0.refl _ | apply Drawn0.step)⟩
  case round =>
    clear H'
    try clear p2
    obtain ⟨x5_1, x10_1, rfl, rfl, HA, HK1, ⟨m1, rfl⟩⟩ := hrel
    cases gk with
    | zero => exact absurd HA.out (by simp [bmi_greaterThanBitmapGo.l0])
    | succ k1 =>
      have H := HA.out
      clear HA
      simp only [bmi_greaterThanBitmapGo.l0] at H
      by_cases c3 : x10_1 < (l0.length : Int)
      · rw [if_pos c3] at H
        have c3b0 : decide (x10_1 < (l0.length : Int)) = true := decide_eq_true c3
        clear c3
        by_cases c4 : 0 ≤ x10_1
        · rw [if_pos c4] at H
          have c4b0 : decide (0 ≤ x10_1) = true := decide_eq_true c4
          clear c4
          by_cases c5 : x10_1 < (l0.length : Int)
          · rw [if_pos c5] at H
            have c5b0 : decide (x10_1 < (l0.length : Int)) = true := decide_eq_true c5
            clear c5
            by_cases c6 : (rd l0 x10_1) > a1
            · rw [if_pos c6] at H
              have c6b0 : decide (a1 < (rd l0 x10_1)) = true := decide_eq_true c6
              clear c6
              have c7b0 := eq_true (of_decide_eq_true (by first | (with_reducible assumption) | assumption) : 0 ≤ x10_1)
              obtain ⟨ji8, hji8⟩ : ∃ j_ : Int, (shl .u64 1 x10_1) = j_ := ⟨_, rfl⟩
              replace H : (bmi_greaterThanBitmapGo.l0 k1 a1 (Go.bits .or .u64 x5_1 (ji8)) l0 (l0.length : Int) (wrap64 (x10_1 + 1))) = some r := by first | (rw [hji8] at H; exact H) | (simp only [hji8] at H ⊢; exact H)
              have hji8_ : (IntKind.u64.wrap (1 * 2 ^ min x10_1.toNat 64)) = ji8 := hji8
              have hji8z : x10_1 ≤ 64 → (IntKind.u64.wrap (1 * 2 ^ x10_1.toNat)) = ji8 := shl_small hji8
              have hji8u : (IntKind.u64.wrap (2 ^ min x10_1.toNat 64)) = ji8 := by have h_ := hji8_; rw [Int.one_mul] at h_; exact h_
              have hji8v : x10_1 ≤ 64 → (IntKind.u64.wrap (2 ^ x10_1.toNat)) = ji8 := fun hle_ => by have h_ := hji8z hle_; rw [Int.one_mul] at h_; exact h_
              have H' := Aside0.mk H
              clear H
              have p101 : 0 ≤ (x10_1 : Int) := of_decide_eq_true (by first | (with_reducible assumption) | assumption)
              have q101 : x10_1 < (l0.length : Int) := of_decide_eq_true (by first | (with_reducible assumption) | assumption)
              obtain ⟨ad101, e101, hx101_0⟩ := Kd.at_int HR0.out x10_1 p101 q101
              cases e101
              replace p101 := eq_true p101
              replace q101 := eq_true q101
              go_wp2
              go_roundg k1
              case measure => have := HK1.out; omega
              case rel => exact ⟨(Go.bits .or .u64 x5_1 (ji8)), (wrap64 (x10_1 + 1)), (by first | rfl | (simp; done) | (simp only [← hji8] <;> (first | rfl | simp)) | (simp [*]; done)), (by first | rfl | (simp; done) | (simp [*]; done)), H', ⟨by have := HK1.out; omega⟩, by repeat (first | exact Drawn0.refl _ | apply Drawn0.step)⟩
            · rw [if_neg c6] at H
              have c6b0 : decide (a1 < (rd l0 x10_1)) = false := decide_eq_false c6
              clear c6
              have c9b0 := eq_true (of_decide_eq_true (by first | (with_reducible assumption) | assumption) : 0 ≤ x10_1)
              obtain ⟨ji10, hji10⟩ : ∃ j_ : Int, (shl .u64 0 x10_1) = j_ := ⟨_, rfl⟩
              replace H : (bmi_greaterThanBitmapGo.l0 k1 a1 (Go.bits .or .u64 x5_1 (ji10)) l0 (l0.length : Int) (wrap64 (x10_1 + 1))) = some r := by first | (rw [hji10] at H; exact H) | (simp only [hji10] at H ⊢; exact H)
              have hji10_ : (IntKind.u64.wrap (0 * 2 ^ min x10_1.toNat 64)) = ji10 := hji10
              have hji10z : x10_1 ≤ 64 → (IntKind.u64.wrap (0 * 2 ^ x10_1.toNat)) = ji10 := shl_small hji10
              have H' := Aside0.mk H
              clear H
              have p101 : 0 ≤ (x10_1 : Int) := of_decide_eq_true (by first | (with_reducible assumption) | assumption)
              have q101 : x10_1 < (l0.length : Int) := of_decide_eq_true (by first | (with_reducible assumption) | assumption)
              obtain ⟨ad101, e101, hx101_0⟩ := Kd.at_int HR0.out x10_1 p101 q101
              cases e101
              replace p101 := eq_true p101
              replace q101 := eq_true q101
              go_wp2
              go_roundg k1
              case measure => have := HK1.out; omega
              case rel => exact ⟨(Go.bits .or .u64 x5_1 (ji10)), (wrap64 (x10_1 + 1)), (by rw [← hji10]; simp [shl, IntKind.wrap_u64]), (by first | rfl | (simp; done) | (simp [*]; done)), H', ⟨by have := HK1.out; omega⟩, by repeat (first | exact Drawn0.refl _ | apply Drawn0.step)⟩
          · rw [if_neg c5] at H
            exact absurd H (by simp)
        · rw [if_neg c4] at H
          exact absurd H (by simp)
      · rw [if_neg c3] at H
        have c3b0 : decide (x10_1 < (l0.length : Int)) = false := decide_eq_false c3
        clear c3
        obtain rfl := Option.some.inj H
        go_wp2
        go_ret
        exact ⟨by first | rfl | (simp; done) | (simp [*]; done), by repeat (first | exact Drawn0.refl _ | apply Drawn0.step)⟩

/-! ### bmi_GreaterThanBitmap: function 45 -/
def bmi_GreaterThanBitmap.f (k : Nat) (l0 : List Int) (a1 : Int) : Option (Int) := (bmi_greaterThanBitmapGo.f k l0 a1).bind fun t102 => (some t102)
theorem bmi_GreaterThanBitmap.mono : ∀ a0 a1 k, LeO (bmi_GreaterThanBitmap.f k a0 a1) (bmi_GreaterThanBitmap.f (k + 1) a0 a1) := by
  intro a0 a1 k
  unfold bmi_GreaterThanBitmap.f
  repeat' first
      | (with_reducible exact bmi_greaterThanBitmapGo.mono _ _ _)
      | (with_reducible exact LeO.refl _)
      | (with_reducible exact LeO.none _)
      | (with_reducible refine LeO.ite ?_ ?_)
      | (with_reducible refine LeO.bind ?_ (fun _ => ?_))
      | exact bmi_greaterThanBitmapGo.mono _ _ _
      | exact LeO.none _
      | refine LeO.ite ?_ ?_
      | refine LeO.bind ?_ (fun _ => ?_)
set_option maxHeartbeats 8000000 in
set_option maxRecDepth 100000 in
theorem bmi_GreaterThanBitmap.calls (k : Nat) (A0 : Option Addr) (c0 : Nat) (l0 : List Int) (a1 : Int) (r : Int) (w : World) (hr0 : Kd.C (Kd.int .i16) w A0 l0.length l0) (hc0 : l0.length ≤ c0) (h : bmi_GreaterThanBitmap.f k l0 a1 = some r) :
    Calls Try.prog 45 #[.slice A0 l0.length c0, .int .i16 a1] w fun e w' => e = .returned (.int .u64 r) ∧ Drawn0 w w' := by
  have HR0 := Aside0.mk hr0
  have HC0 := Aside0.mk hc0
  clear hr0 hc0
  have H : ((bmi_greaterThanBitmapGo.f k l0 a1).bind fun t102 => (some t102)) = some r := h
  clear h
  replace H := Option.bind_eq_some_iff.mp H
  obtain ⟨t102, A30, H⟩ := H
  replace H : (some t102) = some r := H
  have A3 := Aside0.mk A30
  clear A30
  obtain rfl := Option.some.inj H
  go_enter Try.func45, Try.ntmps45
  go_wp2_with (first | ((with_reducible refine gate_callee (f := 64) rfl ?_); refine goesL_ (some 7) rfl rfl Try.func64 (by kernel_rfl) rfl #[.slice A0 l0.length c0, .int .i16 a1] rfl (by (try simp only [List.map_toArray, List.map_cons, List.map_nil]); first | done | rfl | (simp only [List.length_drop, List.length_take]; rfl)) ?_; (with_reducible refine (bmi_greaterThanBitmapGo.calls k _ _ l0 a1 t102 _ ?side1 ?side2 A3.out).mono ?_); (case side1 => repeat (first | exact HR0.out | (with_reducible refine Kd.C_alloc ?_ _) | (with_reducible refine Kd.C_drewN ?_ _) | (with_reducible refine Kd.C_drew ?_))); (case side2 => exact HC0.out); rintro e w' ⟨rfl, ⟨nd, rfl⟩⟩; refine ⟨_, rfl, ?_⟩))
  go_ret
  exact ⟨by first | rfl | (simp; done) | (simp [*]; done), by repeat (first | exact Drawn0.refl _ | apply Drawn0.step)⟩

/-! ### impl_GreaterBits: function 19 -/
def impl_GreaterBits.f (k : Nat) (l0 : List Int) (a1 : Int) : Option (Int) := (bmi_GreaterThanBitmap.f k l0 a1).bind fun t103 => (some t103)
theorem impl_GreaterBits.mono : ∀ a0 a1 k, LeO (impl_GreaterBits.f k a0 a1) (impl_GreaterBits.f (k + 1) a0 a1) := by
  intro a0 a1 k
  unfold impl_GreaterBits.f
  repeat' first
      | (with_reducible exact bmi_GreaterThanBitmap.mono _ _ _)
      | (with_reducible exact LeO.refl _)
      | (with_reducible exact LeO.none _)
      | (with_reducible refine LeO.ite ?_ ?_)
      | (with_reducible refine LeO.bind ?_ (fun _ => ?_))
      | exact bmi_GreaterThanBitmap.mono _ _ _
      | exact LeO.none _
      | refine LeO.ite ?_ ?_
      | refine LeO.bind ?_ (fun _ => ?_)
set_option maxHeartbeats 8000000 in
set_option maxRecDepth 100000 in
theorem impl_GreaterBits.calls (k : Nat) (A0 : Option Addr) (c0 : Nat) (l0 : List Int) (a1 : Int) (r : Int) (w : World) (hr0 : Kd.C (Kd.int .i16) w A0 l0.length l0) (hc0 : l0.length ≤ c0) (h : impl_GreaterBits.f k l0 a1 = some r) :
    Calls Try.prog 19 #[.slice A0 l0.length c0, .int .i16 a1] w fun e w' => e = .returned (.int .u64 r) ∧ Drawn0 w w' := by
  have HR0 := Aside0.mk hr0
  have HC0 := Aside0.mk hc0
  clear hr0 hc0
  have H : ((bmi_GreaterThanBitmap.f k l0 a1).bind fun t103 => (some t103)) = some r := h
  clear h
  replace H := Option.bind_eq_some_iff.mp H
  obtain ⟨t103, A30, H⟩ := H
  replace H : (some t103) = some r := H
  have A3 := Aside0.mk A30
  clear A30
  obtain rfl := Option.some.inj H
  go_enter Try.func19, Try.ntmps19
  go_wp2_with (first | ((with_reducible refine gate_callee (f := 45) rfl ?_); refine goesL_ (some 7) rfl rfl Try.func45 (by kernel_rfl) rfl #[.slice A0 l0.length c0, .int .i16 a1] rfl (by (try simp only [List.map_toArray, List.map_cons, List.map_nil]); first | done | rfl | (simp only [List.length_drop, List.length_take]; rfl)) ?_; (with_reducible refine (bmi_GreaterThanBitmap.calls k _ _ l0 a1 t103 _ ?side1 ?side2 A3.out).mono ?_); (case side1 => repeat (first | exact HR0.out | (with_reducible refine Kd.C_alloc ?_ _) | (with_reducible refine Kd.C_drewN ?_ _) | (with_reducible refine Kd.C_drew ?_))); (case side2 => exact HC0.out); rintro e w' ⟨rfl, ⟨nd, rfl⟩⟩; refine ⟨_, rfl, ?_⟩))
  go_ret
  exact ⟨by first | rfl | (simp; done) | (simp [*]; done), by repeat (first | exact Drawn0.refl _ | apply Drawn0.step)⟩

/-! ### laws_FnGreaterBits: function 4 -/
def laws_FnGreaterBits.l0 : Nat → List Int → Int → Int → List Int → Int → Int → Option (Bool)
  | 0, _, _, _, _, _, _ => none
  | k + 1, x0, x1, x5, x17, x18, x19 => if x19 < x18 then (if 0 ≤ x19 then (if x19 < (x17.length : Int) then (if (rd x17 x19) > x1 then (laws_FnGreaterBits.l0 k x0 x1 (Go.bits .or .u64 x5 (shl .u64 1 x19)) x17 x18 (wrap64 (x19 + 1))) else (laws_FnGreaterBits.l0 k x0 x1 x5 x17 x18 (wrap64 (x19 + 1)))) else (none)) else (none)) else ((impl_GreaterBits.f k x0 x1).bind fun t109 => (if t109 = x5 then ((impl_GreaterBits.f k (([1] : List Int)) 0).bind fun t113 => (some (t113 == 1))) else (some false)))
def laws_FnGreaterBits.f (k : Nat) (l0 : List Int) (a1 : Int) : Option (Bool) := if (l0.length : Int) > 2147483647 then (some true) else (if (l0.length : Int) > 64 then ((impl_GreaterBits.f k (([1] : List Int)) 0).bind fun t107 => (some (t107 == 1))) else (laws_FnGreaterBits.l0 k l0 a1 0 l0 (l0.length : Int) 0))
theorem laws_FnGreaterBits.mono_l : ∀ k, (∀ y0 y1 y2 y3 y4 y5, LeO (laws_FnGreaterBits.l0 k y0 y1 y2 y3 y4 y5) (laws_FnGreaterBits.l0 (k + 1) y0 y1 y2 y3 y4 y5))
  | 0 => fun _ _ _ _ _ _ r h => by simp [laws_FnGreaterBits.l0] at h
  | k + 1 => by
    have ih0 := laws_FnGreaterBits.mono_l k
    · intro y0 y1 y2 y3 y4 y5
      unfold laws_FnGreaterBits.l0
      repeat' first
      | (with_reducible exact ih0 _ _ _ _ _ _)
      | (with_reducible exact impl_GreaterBits.mono _ _ _)
      | (with_reducible exact LeO.refl _)
      | (with_reducible exact LeO.none _)
      | (with_reducible refine LeO.ite ?_ ?_)
      | (with_reducible refine LeO.bind ?_ (fun _ => ?_))
      | exact ih0 _ _ _ _ _ _
      | exact impl_GreaterBits.mono _ _ _
      | exact LeO.none _
      | refine LeO.ite ?_ ?_
      | refine LeO.bind ?_ (fun _ => ?_)
theorem laws_FnGreaterBits.mono : ∀ a0 a1 k, LeO (laws_FnGreaterBits.f k a0 a1) (laws_FnGreaterBits.f (k + 1) a0 a1) := by
  intro a0 a1 k
  have ih0 := laws_FnGreaterBits.mono_l k
  unfold laws_FnGreaterBits.f
  repeat' first
      | (with_reducible exact ih0 _ _ _ _ _ _)
      | (with_reducible exact impl_GreaterBits.mono _ _ _)
      | (with_reducible exact LeO.refl _)
      | (with_reducible exact LeO.none _)
      | (with_reducible refine LeO.ite ?_ ?_)
      | (with_reducible refine LeO.bind ?_ (fun _ => ?_))
      | exact ih0 _ _ _ _ _ _
      | exact impl_GreaterBits.mono _ _ _
      | exact LeO.none _
      | refine LeO.ite ?_ ?_
      | refine LeO.bind ?_ (fun _ => ?_)
set_option maxHeartbeats 8000000 in
set_option maxRecDepth 100000 in
theorem laws_FnGreaterBits.calls (k : Nat) (A0 : Option Addr) (c0 : Nat) (l0 : List Int) (a1 : Int) (r : Bool) (w : World) (hr0 : Kd.C (Kd.int .i16) w A0 l0.length l0) (hc0 : l0.length ≤ c0) (h : laws_FnGreaterBits.f k l0 a1 = some r) :
    Calls Try.prog 4 #[.slice A0 l0.length c0, .int .i16 a1] w fun e w' => e = .returned (.bool r) ∧ Below w.heap.size w w' := by
  have HR0 := Aside0.mk hr0
  have HC0 := Aside0.mk hc0
  clear hr0 hc0
  have HB := Aside0.mk (Below.refl w.heap.size w)
  have H : (if (l0.length : Int) > 2147483647 then (some true) else (if (l0.length : Int) > 64 then ((impl_GreaterBits.f k (([1] : List Int)) 0).bind fun t107 => (some (t107 == 1))) else (laws_FnGreaterBits.l0 k l0 a1 0 l0 (l0.length : Int) 0))) = some r := h
  clear h
  by_cases c3 : (l0.length : Int) > 2147483647
  · rw [if_pos c3] at H
    have c3b0 : decide (2147483647 < (l0.length : Int)) = true := decide_eq_true c3
    have c3b1 : decide (2147483647 < l0.length) = true := decide_eq_true (by omega)
    clear c3
    obtain rfl := Option.some.inj H
    go_enter Try.func4, Try.ntmps4
    go_wp2
    go_ret
    exact ⟨by first | rfl | (simp [errW_none, errW_some] <;> rfl) | (simp [*, errW_none, errW_some] <;> rfl), by repeat (first | (with_reducible first | exact HB.out | apply below_alloc | apply pw_below_drewN | apply below_drew1) | exact HB.out)⟩
  · rw [if_neg c3] at H
    have c3b0 : decide (2147483647 < (l0.length : Int)) = false := decide_eq_false c3
    have c3b1 : decide (2147483647 < l0.length) = false := decide_eq_false (by omega)
    clear c3
    by_cases c4 : (l0.length : Int) > 64
    · rw [if_pos c4] at H
      have c4b0 : decide (64 < (l0.length : Int)) = true := decide_eq_true c4
      have c4b1 : decide (64 < l0.length) = true := decide_eq_true (by omega)
      clear c4
      obtain ⟨y104, hy104⟩ : ∃ y_ : List Int, y_ = (([1] : List Int)) := ⟨_, rfl⟩
      replace H : ((impl_GreaterBits.f k y104 0).bind fun t107 => (some (t107 == 1))) = some r := by first | (rw [hy104]; with_reducible exact H) | (have H2_ := (Option.bind_some _ _).symm.trans H; rw [hy104]; with_reducible exact H2_) | (have H2_ := (Option.bind_some _ _).symm.trans H; with_reducible exact H2_) | with_reducible exact H | (rw [hy104]; exact H) | exact H
      have Ny104 := Aside0.mk hy104
      clear hy104
      replace H := Option.bind_eq_some_iff.mp H
      obtain ⟨t107, A50, H⟩ := H
      replace H : (some (t107 == 1)) = some r := H
      have A5 := Aside0.mk A50
      clear A50
      obtain rfl := Option.some.inj H
      go_enter Try.func4, Try.ntmps4
      go_wp2_with (first | ((with_reducible refine gate_dst (N := 14) rfl ?_); (try (refine gate_guard (by rfl) ?_; dsimp only)); refine Kd.R_lit (Kd.int .i16) _ 35 ?hg (N := 14) ?hd (xs := ([1] : List Int)) (inner := [.int .i16 1]) (ok := fun _ => True) (okp := fun _ => True) ?hr ?hp (fun _ hk => hk) trivial (Below.refl _ _) (Nat.le_refl _) (by simp) ?_; (case hd => rfl); (case hg => rfl); (case hr => first | (go_simp; done) | (go_simp; rfl)); (case hp => exact (Reps.one (show Kd.M (Kd.int .i16) _ _ _ 1 [.int .i16 1] from rfl) (Reps.none _ _))); intro v105 w6 ho7 hb hg_ hnew_; clear hg_ hnew_; (first | rw [← Ny104.out] at ho7 | (simp only [Int.reduceToNat] at ho7; rw [← Ny104.out] at ho7)); have n0_ := Aside0.mk (Kd.R_lower ho7 (below_size (by repeat (first | (with_reducible first | exact HB.out | apply below_alloc | apply pw_below_drewN | apply below_drew1) | exact HB.out)))); have n1_ := Aside0.mk (below_step (by repeat (first | (with_reducible first | exact HB.out | apply below_alloc | apply pw_below_drewN | apply below_drew1) | exact HB.out)) hb); clear HB; have HO106 := n0_; have HB := n1_; clear n0_ n1_; clear hb ho7; obtain ⟨Ao8, co8, eo8⟩ := Kd.R_slice HO106.out; subst eo8) | ((with_reducible refine gate_callee (f := 19) rfl ?_); refine goesL_ (some 15) rfl rfl Try.func19 (by kernel_rfl) rfl #[.slice Ao8 y104.length co8, .int .i16 0] rfl (by (try simp only [List.map_toArray, List.map_cons, List.map_nil]); first | done | rfl | (simp only [List.length_drop, List.length_take]; rfl)) ?_; (with_reducible refine (impl_GreaterBits.calls k _ _ y104 0 t107 _ ?side1 ?side2 A5.out).mono ?_); (case side1 => repeat (first | exact (Kd.R_reads' HO106.out).2.2 | (with_reducible refine Kd.C_alloc ?_ _) | (with_reducible refine Kd.C_drewN ?_ _) | (with_reducible refine Kd.C_drew ?_))); (case side2 => exact (Kd.R_reads' HO106.out).2.1); rintro e w' ⟨rfl, ⟨nd, rfl⟩⟩; refine ⟨_, rfl, ?_⟩))
      go_ret
      exact ⟨by first | rfl | (simp [errW_none, errW_some] <;> rfl) | (simp [*, errW_none, errW_some] <;> rfl), by repeat (first | (with_reducible first | exact HB.out | apply below_alloc | apply pw_below_drewN | apply below_drew1) | exact HB.out)⟩
    · rw [if_neg c4] at H
      have c4b0 : decide (64 < (l0.length : Int)) = false := decide_eq_false c4
      have c4b1 : decide (64 < l0.length) = false := decide_eq_false (by omega)
      clear c4
      have H' := Aside0.mk H
      clear H
      go_enter Try.func4, Try.ntmps4
      go_wp2
      go_loopg [5, 19] k (fun kq v5 v19 w' => ∃ (x5_1 : Int) (x19_1 : Int), v5 = .int .u64 x5_1 ∧ v19 = .int .i64 x19_1 ∧ Aside0 (laws_FnGreaterBits.l0 kq l0 a1 x5_1 l0 (l0.length : Int) x19_1 = some r) ∧ Aside0 (kq ≤ k) ∧ Aside0 (Below w.heap.size w w'))
      case atStart => exact ⟨(0), (0), (by first | rfl | (simp; done) | (simp [*]; done)), (by first | rfl | (simp; done) | (simp [*]; done)), H', ⟨Nat.le_refl _⟩, ⟨by repeat (first | (with_reducible first | exact HB.out | apply below_alloc | apply pw_below_drewN | apply below_drew1) | exact HB.out)⟩⟩
      case round =>
        clear H'
        try clear c1
        try clear p2
        try clear c3
        try clear c3b0
        try clear c3b1
        try clear c4
        try clear c4b0
        try clear c4b1
        obtain ⟨x5_1, x19_1, rfl, rfl, HA, HK1, HB⟩ := hrel
        cases gk with
        | zero => exact absurd HA.out (by simp [laws_FnGreaterBits.l0])
        | succ k1 =>
          have H := HA.out
          clear HA
          simp only [laws_FnGreaterBits.l0] at H
          by_cases c9 : x19_1 < (l0.length : Int)
          · rw [if_pos c9] at H
            have c9b0 : decide (x19_1 < (l0.length : Int)) = true := decide_eq_true c9
            clear c9
            by_cases c10 : 0 ≤ x19_1
            · rw [if_pos c10] at H
              have c10b0 : decide (0 ≤ x19_1) = true := decide_eq_true c10
              clear c10
              by_cases c11 : x19_1 < (l0.length : Int)
              · rw [if_pos c11] at H
                have c11b0 : decide (x19_1 < (l0.length : Int)) = true := decide_eq_true c11
                clear c11
                by_cases c12 : (rd l0 x19_1) > a1
                · rw [if_pos c12] at H
                  have c12b0 : decide (a1 < (rd l0 x19_1)) = true := decide_eq_true c12
                  clear c12
                  have c13b0 := eq_true (of_decide_eq_true (by first | (with_reducible assumption) | assumption) : 0 ≤ x19_1)
                  obtain ⟨ji14, hji14⟩ : ∃ j_ : Int, (shl .u64 1 x19_1) = j_ := ⟨_, rfl⟩
                  replace H : (laws_FnGreaterBits.l0 k1 l0 a1 (Go.bits .or .u64 x5_1 (ji14)) l0 (l0.length : Int) (wrap64 (x19_1 + 1))) = some r := by first | (rw [hji14] at H; exact H) | (simp only [hji14] at H ⊢; exact H)
                  have hji14_ : (IntKind.u64.wrap (1 * 2 ^ min x19_1.toNat 64)) = ji14 := hji14
                  have hji14z : x19_1 ≤ 64 → (IntKind.u64.wrap (1 * 2 ^ x19_1.toNat)) = ji14 := shl_small hji14
                  have hji14u : (IntKind.u64.wrap (2 ^ min x19_1.toNat 64)) = ji14 := by have h_ := hji14_; rw [Int.one_mul] at h_; exact h_
                  have hji14v : x19_1 ≤ 64 → (IntKind.u64.wrap (2 ^ x19_1.toNat)) = ji14 := fun hle_ => by have h_ := hji14z hle_; rw [Int.one_mul] at h_; exact h_
                  have H' := Aside0.mk H
                  clear H
                  have p108 : 0 ≤ (x19_1 : Int) := of_decide_eq_true (by first | (with_reducible assumption) | assumption)
                  have q108 : x19_1 < (l0.length : Int) := of_decide_eq_true (by first | (with_reducible assumption) | assumption)
                  obtain ⟨ad108, e108, hx108_0⟩ := Kd.at_int HR0.out x19_1 p108 q108
                  cases e108
                  replace hx108_0 := (HB.out.cell (World.block_lt_of_cell? w _ hx108_0)).trans hx108_0
                  replace p108 := eq_true p108
                  replace q108 := eq_true q108
                  go_wp2
                  go_roundg k1
                  case measure => have := HK1.out; omega
                  case rel => exact ⟨(Go.bits .or .u64 x5_1 (ji14)), (wrap64 (x19_1 + 1)), (by first | rfl | (simp; done) | (simp only [← hji14] <;> (first | rfl | simp)) | (simp [*]; done)), (by first | rfl | (simp; done) | (simp [*]; done)), H', ⟨by have := HK1.out; omega⟩, ⟨by repeat (first | (with_reducible first | exact HB.out | apply below_alloc | apply pw_below_drewN | apply below_drew1) | exact HB.out)⟩⟩
                · rw [if_neg c12] at H
                  have c12b0 : decide (a1 < (rd l0 x19_1)) = false := decide_eq_false c12
                  clear c12
                  have H' := Aside0.mk H
                  clear H
                  have p108 : 0 ≤ (x19_1 : Int) := of_decide_eq_true (by first | (with_reducible assumption) | assumption)
                  have q108 : x19_1 < (l0.length : Int) := of_decide_eq_true (by first | (with_reducible assumption) | assumption)
                  obtain ⟨ad108, e108, hx108_0⟩ := Kd.at_int HR0.out x19_1 p108 q108
                  cases e108
                  replace hx108_0 := (HB.out.cell (World.block_lt_of_cell? w _ hx108_0)).trans hx108_0
                  replace p108 := eq_true p108
                  replace q108 := eq_true q108
                  go_wp2
                  go_roundg k1
                  case measure => have := HK1.out; omega
                  case rel => exact ⟨(x5_1), (wrap64 (x19_1 + 1)), (by first | rfl | (simp; done) | (simp [*]; done)), (by first | rfl | (simp; done) | (simp [*]; done)), H', ⟨by have := HK1.out; omega⟩, ⟨by repeat (first | (with_reducible first | exact HB.out | apply below_alloc | apply pw_below_drewN | apply below_drew1) | exact HB.out)⟩⟩
              · rw [if_neg c11] at H
                exact absurd H (by simp)
            · rw [if_neg c10] at H
              exact absurd H (by simp)
          · rw [if_neg c9] at H
            have c9b0 : decide (x19_1 < (l0.length : Int)) = false := decide_eq_false c9
            clear c9
            replace H := Option.bind_eq_some_iff.mp H
            obtain ⟨t109, A150, H⟩ := H
            replace H : (if t109 = x5_1 then ((impl_GreaterBits.f k1 (([1] : List Int)) 0).bind fun t113 => (some (t113 == 1))) else (some false)) = some r := H
            have A15 := Aside0.mk A150
            clear A150
            by_cases c16 : t109 = x5_1
            · rw [if_pos c16] at H
              have c16b0 : (t109 == x5_1) = true := beq_iff_eq.mpr c16
              have c16b1 : (t109 != x5_1) = false := bne_eq_false_iff_eq.mpr c16
              clear c16
              obtain ⟨y110, hy110⟩ : ∃ y_ : List Int, y_ = (([1] : List Int)) := ⟨_, rfl⟩
              replace H : ((impl_GreaterBits.f k1 y110 0).bind fun t113 => (some (t113 == 1))) = some r := by first | (rw [hy110]; with_reducible exact H) | (have H2_ := (Option.bind_some _ _).symm.trans H; rw [hy110]; with_reducible exact H2_) | (have H2_ := (Option.bind_some _ _).symm.trans H; with_reducible exact H2_) | with_reducible exact H | (rw [hy110]; exact H) | exact H
              have Ny110 := Aside0.mk hy110
              clear hy110
              replace H := Option.bind_eq_some_iff.mp H
              obtain ⟨t113, A170, H⟩ := H
              replace H : (some (t113 == 1)) = some r := H
              have A17 := Aside0.mk A170
              clear A170
              obtain rfl := Option.some.inj H
              go_wp2_with (first | ((with_reducible refine gate_callee (f := 19) rfl ?_); refine goesL_ (some 34) rfl rfl Try.func19 (by kernel_rfl) rfl #[.slice A0 l0.length c0, .int .i16 a1] rfl (by (try simp only [List.map_toArray, List.map_cons, List.map_nil]); first | done | rfl | (simp only [List.length_drop, List.length_take]; rfl)) ?_; (with_reducible refine (impl_GreaterBits.calls k1 _ _ l0 a1 t109 _ ?side1 ?side2 A15.out).mono ?_); (case side1 => repeat (first | exact (Kd.C_below HR0.out HB.out) | (with_reducible refine Kd.C_alloc ?_ _) | (with_reducible refine Kd.C_drewN ?_ _) | (with_reducible refine Kd.C_drew ?_))); (case side2 => exact HC0.out); rintro e w' ⟨rfl, ⟨nd, rfl⟩⟩; refine ⟨_, rfl, ?_⟩) | ((with_reducible refine gate_dst (N := 38) rfl ?_); (try (refine gate_guard (by rfl) ?_; dsimp only)); refine Kd.R_lit (Kd.int .i16) _ 35 ?hg (N := 38) ?hd (xs := ([1] : List Int)) (inner := [.int .i16 1]) (ok := fun _ => True) (okp := fun _ => True) ?hr ?hp (fun _ hk => hk) trivial (Below.refl _ _) (Nat.le_refl _) (by simp) ?_; (case hd => rfl); (case hg => rfl); (case hr => first | (go_simp; done) | (go_simp; rfl)); (case hp => exact (Reps.one (show Kd.M (Kd.int .i16) _ _ _ 1 [.int .i16 1] from rfl) (Reps.none _ _))); intro v111 w18 ho19 hb hg_ hnew_; clear hg_ hnew_; (first | rw [← Ny110.out] at ho19 | (simp only [Int.reduceToNat] at ho19; rw [← Ny110.out] at ho19)); have n0_ := Aside0.mk (Kd.R_lower ho19 (below_size (by repeat (first | (with_reducible first | exact HB.out | apply below_alloc | apply pw_below_drewN | apply below_drew1) | exact HB.out)))); have n1_ := Aside0.mk (below_step (by repeat (first | (with_reducible first | exact HB.out | apply below_alloc | apply pw_below_drewN | apply below_drew1) | exact HB.out)) hb); clear HB; have HO112 := n0_; have HB := n1_; clear n0_ n1_; clear hb ho19; obtain ⟨Ao20, co20, eo20⟩ := Kd.R_slice HO112.out; subst eo20) | (go_at_call 19; (with_reducible refine (impl_GreaterBits.calls k1 _ _ y110 0 t113 _ ?side1 ?side2 A17.out).mono ?_); (case side1 => repeat (first | exact (Kd.R_reads' HO112.out).2.2 | (with_reducible refine Kd.C_alloc ?_ _) | (with_reducible refine Kd.C_drewN ?_ _) | (with_reducible refine Kd.C_drew ?_))); (case side2 => exact (Kd.R_reads' HO112.out).2.1); rintro e w' ⟨rfl, ⟨nd, rfl⟩⟩))
              go_ret
              exact ⟨by first | rfl | (simp [errW_none, errW_some] <;> rfl) | (simp [*, errW_none, errW_some] <;> rfl), by repeat (first | (with_reducible first | exact HB.out | apply below_alloc | apply pw_below_drewN | apply below_drew1) | exact HB.out)⟩
            · rw [if_neg c16] at H
              have c16b0 : (t109 == x5_1) = false := beq_eq_false_iff_ne.mpr c16
              have c16b1 : (t109 != x5_1) = true := bne_iff_ne.mpr c16
              obtain rfl := Option.some.inj H
              go_wp2_with (first | ((with_reducible refine gate_callee (f := 19) rfl ?_); refine goesL_ (some 34) rfl rfl Try.func19 (by kernel_rfl) rfl #[.slice A0 l0.length c0, .int .i16 a1] rfl (by (try simp only [List.map_toArray, List.map_cons, List.map_nil]); first | done | rfl | (simp only [List.length_drop, List.length_take]; rfl)) ?_; (with_reducible refine (impl_GreaterBits.calls k1 _ _ l0 a1 t109 _ ?side1 ?side2 A15.out).mono ?_); (case side1 => repeat (first | exact (Kd.C_below HR0.out HB.out) | (with_reducible refine Kd.C_alloc ?_ _) | (with_reducible refine Kd.C_drewN ?_ _) | (with_reducible refine Kd.C_drew ?_))); (case side2 => exact HC0.out); rintro e w' ⟨rfl, ⟨nd, rfl⟩⟩; refine ⟨_, rfl, ?_⟩))
              go_ret
              exact ⟨by first | rfl | (simp [errW_none, errW_some] <;> rfl) | (simp [*, errW_none, errW_some] <;> rfl), by repeat (first | (with_reducible first | exact HB.out | apply below_alloc | apply pw_below_drewN | apply below_drew1) | exact HB.out)⟩

/-- THE ONE PURE STATEMENT of laws_FnGreaterBits: yours. -/
def laws_FnGreaterBits.Pure : Prop := ∀ (l0 : List Int) (a1 : Int), l0.length ≤ maxLen → l0.length * 2 ≤ 140737488351232 → (∀ x ∈ l0, (Lit.int .i16 x).wf = true) → (Lit.int .i16 a1).wf = true → ∃ k, laws_FnGreaterBits.f k l0 a1 = some true
theorem laws_FnGreaterBits.walk (P : laws_FnGreaterBits.Pure) (a0 : Option Addr) (len0 cap0 : Nat) (z0 : List Int) (a1 : Int) (w : World) (w0 : (a0 = none ∧ len0 = 0 ∧ cap0 = 0 ∧ z0 = []) ∨ ∃ x, a0 = some x ∧ len0 ≤ cap0 ∧ cap0 ≤ maxLen ∧ z0.length = cap0 ∧ (∀ i, i < z0.length → w.cell? (x.add i) = some (.int .i16 (z0.getD i 0))) ∧ ∀ n ∈ z0, (Lit.int .i16 n).wf = true) (y0 : len0 * 2 ≤ 140737488351232) (w1 : (Lit.int .i16 a1).wf = true) :
    Calls Try.prog 4 #[.slice a0 len0 cap0, .int .i16 a1] w fun e w' => e = .returned (.bool true) ∧ Below w.heap.size w w' := by
  obtain ⟨l0, rfl, hr0, hm0, hw0, hc0⟩ := ReadsInt.ofRowC w0
  obtain ⟨k, h⟩ := P l0 a1 hm0 y0 hw0 w1
  refine (laws_FnGreaterBits.calls k _ _ l0 a1 true w (Kd.C_of_reads (d := (0 : Int)) (h1 := fun _ => rfl) hr0) hc0 h).mono ?_
  rintro e w' ⟨rfl, hd⟩
  exact ⟨rfl, hd⟩

end Go.Proofs.Ytnjniacohbeonaa.PFnGreaterBits
