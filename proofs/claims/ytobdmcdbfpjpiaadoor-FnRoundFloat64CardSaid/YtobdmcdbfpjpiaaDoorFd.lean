/- A double that is no whole number: what lies below and above it, the difference, the half. -/
import Derived.Test.YtobdmcdbfpjpiaaDoorFc
namespace Go.Proofs.YtobdmcdbfpjpiaaDoor.Q
open Ieee
set_option exponentiation.threshold 3000
set_option linter.unusedVariables false
set_option linter.unusedSimpArgs false
/-- The rung of a whole number. -/
def NW (n : Nat) : Nat := R (n * U)
theorem NW_ok (n : Nat) (h : n < 2 * 4503599627370496) : V (NW n) = n * U ∧ NW n < 9218868437227405312 := R_repr n 1074 h (by omega)
theorem NW_zero : NW 0 = 0 := by unfold NW; rw [Nat.zero_mul, R_zero]
theorem V_zero : V 0 = 0 := by unfold V; rw [if_pos (by decide)]
theorem V_mono {a b : Nat} (hb : b < 9218868437227405312) (h : a ≤ b) : V a ≤ V b := by
  rcases Nat.lt_or_ge (V b) (V a) with c | c
  · have := R_mono (Nat.le_of_lt c)
    rw [R_V a (by omega), R_V b hb] at this
    have e : a = b := by omega
    subst e
    omega
  · exact c
theorem V_pos {a : Nat} (h : a < 9218868437227405312) (h0 : a ≠ 0) : V a ≠ 0 := by
  intro c
  have := R_V a h
  rw [c, R_zero] at this
  omega
/-- A finite rung: 53 digits and a place. -/
theorem V_form (r : Nat) : ∃ M k, V r = M * 2 ^ k ∧ M < 2 * 4503599627370496 ∧ (r < 4503599627370496 → k = 0) := by
  unfold V
  split
  · exact ⟨r, 0, by simp, by omega, fun _ => rfl⟩
  · exact ⟨4503599627370496 + r % 4503599627370496, r / 4503599627370496 - 1, rfl, by omega, fun h => by omega⟩
theorem pow_lt_U (k : Nat) (h : k < 1074) : 2 ^ k * 2 ≤ U := by
  unfold U
  rw [← Nat.pow_succ]
  exact Nat.pow_le_pow_right (by omega) (by omega)
/-- What is no whole number is below 2^52. -/
theorem nonint_lt (r : Nat) (h : V r % U ≠ 0) : V r < 4503599627370496 * U ∧ ∃ M k, V r = M * 2 ^ k ∧ M < 2 * 4503599627370496 ∧ k < 1074 := by
  obtain ⟨M, k, e, hM, _⟩ := V_form r
  have hk : k < 1074 := by
    rcases Nat.lt_or_ge k 1074 with c | c
    · exact c
    · exfalso
      apply h
      rw [e]
      refine Nat.mod_eq_zero_of_dvd (Nat.dvd_trans ?_ (Nat.dvd_mul_left _ _))
      unfold U
      exact Nat.pow_dvd_pow 2 c
  refine ⟨?_, M, k, e, hM, hk⟩
  have h1 := pow_lt_U k hk
  rw [e]
  calc M * 2 ^ k < 2 * 4503599627370496 * 2 ^ k := Nat.mul_lt_mul_of_pos_right hM (Nat.two_pow_pos _)
    _ = 4503599627370496 * (2 ^ k * 2) := by rw [Nat.mul_comm 2 4503599627370496, Nat.mul_assoc, Nat.mul_comm 2]
    _ ≤ 4503599627370496 * U := Nat.mul_le_mul_left _ h1
/-- The magnitude of what lies below. -/
def lowN (s : Bool) (r : Nat) : Nat := if s then V r / U + 1 else V r / U
/-- .. and above. -/
def upN (s : Bool) (r : Nat) : Nat := if s then V r / U else V r / U + 1
theorem q_lt (r : Nat) (h : V r % U ≠ 0) : V r / U < 4503599627370496 := Nat.div_lt_of_lt_mul (by rw [Nat.mul_comm]; exact (nonint_lt r h).1)
theorem more_down (s : Bool) (q r w : Nat) : more .down s q r w = if s = true ∧ r ≠ 0 then 1 else 0 := rfl
theorem more_up (s : Bool) (q r w : Nat) : more .up s q r w = if s = false ∧ r ≠ 0 then 1 else 0 := rfl
theorem floor_W (s : Bool) (r : Nat) (hr : r < 9218868437227405312) (h : V r % U ≠ 0) : intg .down (W s r) = W s (NW (lowN s r)) := by
  rw [intg_W _ s r hr, more_down]
  unfold lowN NW
  cases s with
  | false => rw [if_neg (by simp), if_neg (by simp)]; rfl
  | true => rw [if_pos ⟨rfl, h⟩, if_pos rfl]
theorem ceil_W (s : Bool) (r : Nat) (hr : r < 9218868437227405312) (h : V r % U ≠ 0) : intg .up (W s r) = W s (NW (upN s r)) := by
  rw [intg_W _ s r hr, more_up]
  unfold upN NW
  cases s with
  | true => rw [if_neg (by simp), if_pos rfl]; rfl
  | false => rw [if_pos ⟨rfl, h⟩, if_neg (by simp)]
theorem trunc_W (s : Bool) (r : Nat) (hr : r < 9218868437227405312) : intg .zero (W s r) = W s (NW (V r / U)) := by
  rw [intg_W _ s r hr]
  rfl
theorem whole_W (way : Toward) (s : Bool) (r : Nat) (hr : r < 9218868437227405312) (h : V r % U = 0) : intg way (W s r) = W s r := by
  rw [intg_W _ s r hr, h]
  have e : more way s (V r / U) 0 U = 0 := by
    unfold more
    cases way
    · simp; intro h; exact absurd h (Nat.ne_of_gt U_pos)
    · simp
    · simp
    · rfl
  rw [e, Nat.add_zero, Nat.div_mul_cancel (Nat.dvd_of_mod_eq_zero h), R_V r hr]
/-- The exact difference. -/
def diff (s : Bool) (r : Nat) : Nat := if s then U - V r % U else V r % U
theorem diff_pos (s : Bool) (r : Nat) (h : V r % U ≠ 0) : 0 < diff s r ∧ diff s r < U := by
  have := Nat.mod_lt (V r) U_pos
  unfold diff
  split <;> omega
theorem R_lt_inf (t : Nat) (h : t ≤ 4503599627370496 * U) : R t < 9218868437227405312 := by
  have h1 := R_mono h
  have h2 := (NW_ok 4503599627370496 (by omega)).2
  unfold NW at h2
  omega
theorem diff_W (s : Bool) (r : Nat) (hr : r < 9218868437227405312) (h : V r % U ≠ 0) : double.sub (W s r) (W s (NW (lowN s r))) = some (W false (R (diff s r))) := by
  have hq := q_lt r h
  have hd := Nat.div_add_mod (V r) U
  have hm := Nat.mod_lt (V r) U_pos
  have hn : lowN s r < 2 * 4503599627370496 := by unfold lowN; split <;> omega
  obtain ⟨v1, v2⟩ := NW_ok _ hn
  rw [sub_W s s r _ hr v2, v1]
  refine congrArg some ?_
  have e : sg s (V r) - sg s (lowN s r * U) = (diff s r : Int) := by
    unfold sg lowN diff
    cases s with
    | false =>
      simp only [Bool.false_eq_true, if_false]
      have : V r / U * U = U * (V r / U) := Nat.mul_comm _ _
      omega
    | true =>
      simp only [if_true]
      have : (V r / U + 1) * U = U * (V r / U) + U := by rw [Nat.add_mul, Nat.mul_comm]; omega
      omega
  have hp := (diff_pos s r h).1
  rw [e]
  unfold tot
  rw [if_neg (by omega), Int.natAbs_natCast, decide_eq_false (by omega)]
theorem one_V : V 4607182418800017408 = U ∧ NW 1 = 4607182418800017408 := by
  have h1 : V 4607182418800017408 = U := by
    unfold V U
    rw [if_neg (by decide), show (4607182418800017408 : Nat) / 4503599627370496 = 1023 by decide, show (4607182418800017408 : Nat) % 4503599627370496 = 0 by decide, Nat.add_zero, pow_B, ← Nat.pow_add]
  refine ⟨h1, ?_⟩
  have := R_V 4607182418800017408 (by decide)
  rw [h1] at this
  unfold NW
  rw [Nat.one_mul, this]
/-- What is above, got by adding one: the sign of a zero is lost. -/
theorem plus_W (s : Bool) (r : Nat) (hr : r < 9218868437227405312) (h : V r % U ≠ 0) : double.add (W s (NW (lowN s r))) (W false 4607182418800017408) = some (W (s && upN s r != 0) (NW (upN s r))) := by
  have hq := q_lt r h
  have hn : lowN s r < 2 * 4503599627370496 := by unfold lowN; split <;> omega
  obtain ⟨v1, v2⟩ := NW_ok _ hn
  rw [add_W s false _ _ v2 (by decide), v1, one_V.1]
  refine congrArg some ?_
  unfold tot lowN upN sg NW
  have hu := U_pos
  cases s with
  | false =>
    simp only [Bool.false_eq_true, if_false, Bool.false_and]
    have e : ((V r / U * U : Nat) : Int) + (U : Int) = (((V r / U + 1) * U : Nat) : Int) := by rw [Nat.add_mul, Nat.one_mul]; omega
    rw [e, if_neg (by rw [Nat.add_mul]; omega), decide_eq_false (by omega), Int.natAbs_natCast]
  | true =>
    simp only [Bool.false_eq_true, if_true, if_false, Bool.true_and, Bool.and_false]
    have e : -(((V r / U + 1) * U : Nat) : Int) + (U : Int) = -((V r / U * U : Nat) : Int) := by rw [Nat.add_mul, Nat.one_mul]; omega
    rw [e, Int.natAbs_neg, Int.natAbs_natCast]
    by_cases c : V r / U = 0
    · rw [c, Nat.zero_mul, if_pos (by simp)]; rfl
    · have hpos : 0 < V r / U * U := Nat.mul_pos (Nat.pos_of_ne_zero c) hu
      generalize V r / U * U = T at hpos ⊢
      rw [if_neg (by omega), decide_eq_true (by omega)]
      have : (V r / U != 0) = true := by simpa using c
      rw [this]
theorem half_V : V 4602678819172646912 = H ∧ R H = 4602678819172646912 := by
  have h1 : V 4602678819172646912 = H := by
    unfold V H
    rw [if_neg (by decide), show (4602678819172646912 : Nat) / 4503599627370496 = 1022 by decide, show (4602678819172646912 : Nat) % 4503599627370496 = 0 by decide, Nat.add_zero, pow_B, ← Nat.pow_add]
  refine ⟨h1, ?_⟩
  have := R_V 4602678819172646912 (by decide)
  rwa [h1] at this
end Go.Proofs.YtobdmcdbfpjpiaaDoor.Q
