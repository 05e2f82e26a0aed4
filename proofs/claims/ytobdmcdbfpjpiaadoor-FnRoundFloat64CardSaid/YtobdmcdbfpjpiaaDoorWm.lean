/- Comparisons, one, negation; math.normalize, Frexp, Ldexp. -/
import Derived.Test.YtobdmcdbfpjpiaaDoorWl
namespace Go.Proofs.YtobdmcdbfpjpiaaDoor.Q
open Go.RowKit Go.Proofs.YtobdmcdbfpjpiaaDoorW.PrintWords Go.Proofs.YtobdmcdbfpjpiaaDoorW.PrintLast Go.Proofs.YtobdmcdbfpjpiaaDoorW.PrintMore
set_option linter.unusedVariables false
set_option linter.unusedSimpArgs false
theorem o_lt (s t : Bool) (a b : Nat) (ha : a < 9218868437227405312) (hb : b < 9218868437227405312) : (FloatKind.f64.format.order (W s a) (W t b) == some .lt) = decide (sg s (V a) < sg t (V b)) := by
  show (Ieee.double.order (W s a) (W t b) == some .lt) = _
  rw [order_W s t a b ha hb]
  generalize sg s (V a) = x
  generalize sg t (V b) = y
  rcases Int.lt_trichotomy x y with c | c | c
  · rw [compare_lt_aux c, decide_eq_true c]; rfl
  · subst c; rw [compare_eq_aux, decide_eq_false (by omega)]; rfl
  · rw [compare_gt_aux c, decide_eq_false (by omega)]; rfl
theorem o_gt (s t : Bool) (a b : Nat) (ha : a < 9218868437227405312) (hb : b < 9218868437227405312) : (FloatKind.f64.format.order (W s a) (W t b) == some .gt) = decide (sg t (V b) < sg s (V a)) := by
  show (Ieee.double.order (W s a) (W t b) == some .gt) = _
  rw [order_W s t a b ha hb]
  generalize sg s (V a) = x
  generalize sg t (V b) = y
  rcases Int.lt_trichotomy x y with c | c | c
  · rw [compare_lt_aux c, decide_eq_false (by omega)]; rfl
  · subst c; rw [compare_eq_aux, decide_eq_false (by omega)]; rfl
  · rw [compare_gt_aux c, decide_eq_true c]; rfl
theorem o_eq (s t : Bool) (a b : Nat) (ha : a < 9218868437227405312) (hb : b < 9218868437227405312) : (FloatKind.f64.format.order (W s a) (W t b) == some .eq) = decide (sg s (V a) = sg t (V b)) := by
  show (Ieee.double.order (W s a) (W t b) == some .eq) = _
  rw [order_W s t a b ha hb]
  generalize sg s (V a) = x
  generalize sg t (V b) = y
  rcases Int.lt_trichotomy x y with c | c | c
  · rw [compare_lt_aux c, decide_eq_false (by omega)]; rfl
  · subst c; rw [compare_eq_aux, decide_eq_true rfl]; rfl
  · rw [compare_gt_aux c, decide_eq_false (by omega)]; rfl
theorem neg_W (s : Bool) (r : Nat) (h : r < 9223372036854775808) : Op.negFloat .f64 (W s r) = W (!s) r := by
  show W s r ^^^ 2 ^ 63 = _
  have h1 : (W s r ^^^ 2 ^ 63) / 2 ^ 63 = (if s then 0 else 1) := by
    rw [Nat.xor_div_two_pow]
    unfold W
    cases s
    · simp only [Bool.false_eq_true, if_false]; rw [Nat.div_eq_of_lt (show r < 2 ^ 63 from h)]; rfl
    · simp only [if_true]; rw [show (9223372036854775808 + r) / 2 ^ 63 = 1 by omega]; rfl
  have h2 : (W s r ^^^ 2 ^ 63) % 2 ^ 63 = r := by
    rw [Nat.xor_mod_two_pow, Nat.mod_self, Nat.xor_zero]
    unfold W
    cases s <;> simp <;> omega
  have h3 := Nat.div_add_mod (W s r ^^^ 2 ^ 63) (2 ^ 63)
  rw [h1, h2] at h3
  rw [← h3]
  unfold W
  cases s <;> simp
theorem W_f (r : Nat) : W false r = r := by unfold W; rw [if_neg (by decide)]
theorem one_mul_W (r : Nat) (h1 : r < 9218868437227405312) (hp : -1000 ≤ pl r) : Ieee.double.mul 4607182418800017408 r = some r := by
  have hm := mul_W false false 4607182418800017408 r (by omega) h1
  rw [W_f, W_f, show mg 4607182418800017408 = 4503599627370496 by decide, show pl 4607182418800017408 = -52 by decide, near _ _ _ (by omega), Bool.xor_false, W_f] at hm
  have e : 4503599627370496 * mg r * 2 ^ (-52 + pl r + 1074).toNat = V r := by
    rw [V_eq, show (pl r + 1074).toNat = 52 + (-52 + pl r + 1074).toNat by omega, Nat.pow_add, show (2 : Nat) ^ 52 = 4503599627370496 by decide, Nat.mul_comm 4503599627370496, Nat.mul_assoc]
  rw [e, R_V r h1] at hm
  exact hm
theorem mul_one_W (s : Bool) (r : Nat) (h1 : r < 9218868437227405312) (hp : -1000 ≤ pl r) : Ieee.double.mul (W s r) 4607182418800017408 = some (W s r) := by
  have hm := mul_W s false r 4607182418800017408 h1 (by omega)
  rw [W_f, show mg 4607182418800017408 = 4503599627370496 by decide, show pl 4607182418800017408 = -52 by decide, near _ _ _ (by omega), Bool.xor_false] at hm
  have e : mg r * 4503599627370496 * 2 ^ (pl r + -52 + 1074).toNat = V r := by
    rw [V_eq, show (pl r + 1074).toNat = 52 + (pl r + -52 + 1074).toNat by omega, Nat.pow_add, show (2 : Nat) ^ 52 = 4503599627370496 by decide, Nat.mul_assoc]
  rw [e, R_V r h1] at hm
  exact hm
open Ieee in
theorem div_one_W (s : Bool) (r : Nat) (h1 : r < 9218868437227405312) (hp : -900 ≤ pl r) : Ieee.double.div (W s r) 4607182418800017408 = some (W s r) := by
  have hone : double.read 4607182418800017408 = .number false 4503599627370496 (-52) := by decide
  unfold Format.div
  rw [read_W s r h1, hone]
  unfold Datum.quotient
  simp only
  rw [if_neg (by decide)]
  have hl : (mg r).log2 ≤ 52 := by
    by_cases c : mg r = 0
    · rw [c]; decide
    · have k1 := mg_lt r
      have k2 : (2 : Nat) ^ 53 = 2 * 4503599627370496 := by decide
      have k3 : mg r < 2 ^ 53 := by omega
      have := (Nat.log2_lt c).2 k3
      omega
  rw [show Nat.log2 4503599627370496 = 52 by decide, frb]
  obtain ⟨k, hk⟩ : ∃ k, 52 + 2 + 52 - (mg r).log2 = 52 + k := ⟨52 + 2 - (mg r).log2, by omega⟩
  have hk2 : k ≤ 54 := by omega
  rw [hk, Nat.shiftLeft_eq, Nat.pow_add, show (2 : Nat) ^ 52 = 4503599627370496 by decide]
  rw [show mg r * (4503599627370496 * 2 ^ k) = mg r * 2 ^ k * 4503599627370496 by rw [Nat.mul_comm 4503599627370496, Nat.mul_assoc], Nat.mul_div_cancel _ (by decide), Nat.mul_mod_left]
  show some (double.nearest (s ^^ false) (2 * (mg r * 2 ^ k) + 0) (pl r - -52 - ((52 + k : Nat) : Int) - 1)) = _
  rw [near _ _ _ (by omega), Bool.xor_false]
  have e : (2 * (mg r * 2 ^ k) + 0) * 2 ^ (pl r - -52 - ((52 + k : Nat) : Int) - 1 + 1074).toNat = V r := by
    rw [V_eq, show (pl r + 1074).toNat = 1 + k + (pl r - -52 - ((52 + k : Nat) : Int) - 1 + 1074).toNat by omega, Nat.pow_add, Nat.pow_add, Nat.add_zero, Nat.pow_one]
    generalize 2 ^ (pl r - -52 - ((52 + k : Nat) : Int) - 1 + 1074).toNat = y
    rw [Nat.mul_left_comm 2, Nat.mul_assoc (mg r)]
  rw [e, R_V r h1]
end Go.Proofs.YtobdmcdbfpjpiaaDoor.Q
