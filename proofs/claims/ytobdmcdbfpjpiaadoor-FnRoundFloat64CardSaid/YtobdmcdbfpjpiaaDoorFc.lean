/- Doubles, plainly: differences, comparisons, whole parts. -/
import Derived.Test.YtobdmcdbfpjpiaaDoorFb
namespace Go.Proofs.YtobdmcdbfpjpiaaDoor.Q
open Ieee
set_option exponentiation.threshold 3000
set_option linter.unusedVariables false
set_option linter.unusedSimpArgs false
theorem sg_not (t : Bool) (n : Nat) : sg (!t) n = - sg t n := by unfold sg; cases t <;> simp
theorem read_opp (t : Bool) (b : Nat) (hb : b < 9218868437227405312) : (double.read (W t b)).opposite = double.read (W (!t) b) := by
  rw [read_W t b hb, read_W (!t) b hb]; rfl
theorem sub_W (s t : Bool) (a b : Nat) (ha : a < 9218868437227405312) (hb : b < 9218868437227405312) : double.sub (W s a) (W t b) = some (tot (s && !t) (sg s (V a) - sg t (V b))) := by
  have h := add_W s (!t) a b ha hb
  unfold Format.sub
  rw [read_opp t b hb]
  unfold Format.add at h
  rw [h, sg_not, Int.sub_eq_add_neg]
theorem compare_lt_aux {a b : Int} (h : a < b) : compare a b = .lt := by
  show compareOfLessAndEq a b = _
  unfold compareOfLessAndEq
  rw [if_pos h]
theorem compare_gt_aux {a b : Int} (h : b < a) : compare a b = .gt := by
  show compareOfLessAndEq a b = _
  unfold compareOfLessAndEq
  rw [if_neg (by omega), if_neg (by omega)]
theorem compare_eq_aux (a : Int) : compare a a = .eq := by
  show compareOfLessAndEq a a = _
  unfold compareOfLessAndEq
  rw [if_neg (by omega), if_pos rfl]
theorem compare_scale (a b K : Int) (hK : 0 < K) : compare (a * K) (b * K) = compare a b := by
  rcases Int.lt_trichotomy a b with h | h | h
  · have h2 : a * K < b * K := Int.mul_lt_mul_of_pos_right h hK
    rw [compare_lt_aux h2, compare_lt_aux h]
  · subst h; simp
  · have h2 : b * K < a * K := Int.mul_lt_mul_of_pos_right h hK
    rw [compare_gt_aux h2, compare_gt_aux h]
theorem order_W (s t : Bool) (a b : Nat) (ha : a < 9218868437227405312) (hb : b < 9218868437227405312) : double.order (W s a) (W t b) = some (compare (sg s (V a)) (sg t (V b))) := by
  unfold Format.order
  rw [read_W s a ha, read_W t b hb]
  have h1 := pl_ge a
  have h2 := pl_ge b
  have hm : -1074 ≤ min (pl a) (pl b) := by omega
  have e1 := val_scale s (mg a) (pl a) (min (pl a) (pl b)) hm (by omega)
  have e2 := val_scale t (mg b) (pl b) (min (pl a) (pl b)) hm (by omega)
  rw [← V_eq] at e1 e2
  show some (compare _ _) = _
  have hk : 0 < (2 ^ (min (pl a) (pl b) + 1074).toNat : Nat) := Nat.two_pow_pos _
  rw [← e1, ← e2, compare_scale _ _ _ (by omega)]
/-- What a way of rounding to a whole number adds. -/
def more (way : Toward) (s : Bool) (q r w : Nat) : Nat :=
  match way with
  | .even => if w < 2 * r ∨ (w = 2 * r ∧ q % 2 = 1) then 1 else 0
  | .down => if s = true ∧ r ≠ 0 then 1 else 0
  | .up => if s = false ∧ r ≠ 0 then 1 else 0
  | .zero => 0
theorem cut_eq (way : Toward) (s : Bool) (n drop : Nat) : way.cut s n drop = n / 2 ^ drop + more way s (n / 2 ^ drop) (n % 2 ^ drop) (2 ^ drop) := by
  have guard : n / 2 ^ (min drop (n.log2 + 2)) = n / 2 ^ drop ∧ n % 2 ^ (min drop (n.log2 + 2)) = n % 2 ^ drop := by
    by_cases h : drop ≤ n.log2 + 2
    · rw [Nat.min_eq_left h]; exact ⟨rfl, rfl⟩
    · rw [Nat.min_eq_right (by omega)]
      have hn : n < 2 ^ (n.log2 + 1) := Nat.lt_log2_self
      have h1 : n < 2 ^ (n.log2 + 2) := Nat.lt_of_lt_of_le hn (Nat.pow_le_pow_right (by omega) (by omega))
      have h2 : n < 2 ^ drop := Nat.lt_of_lt_of_le h1 (Nat.pow_le_pow_right (by omega) (by omega))
      rw [Nat.div_eq_of_lt h1, Nat.mod_eq_of_lt h1, Nat.div_eq_of_lt h2, Nat.mod_eq_of_lt h2]
      exact ⟨rfl, rfl⟩
  cases way with
  | even => rw [cut_even]; rfl
  | down =>
    unfold Toward.cut more
    simp only [Nat.one_shiftLeft, guard.1, guard.2]
    congr 1
    cases s with
    | false => rw [if_neg (by simp)]; rfl
    | true =>
      by_cases c : n % 2 ^ drop = 0
      · rw [if_neg (by simp [c]), c]; rfl
      · rw [if_pos ⟨rfl, c⟩]
        have : (n % 2 ^ drop != 0) = true := by simpa using c
        rw [this]; rfl
  | up =>
    unfold Toward.cut more
    simp only [Nat.one_shiftLeft, guard.1, guard.2]
    congr 1
    cases s with
    | true => rw [if_neg (by simp)]; rfl
    | false =>
      by_cases c : n % 2 ^ drop = 0
      · rw [if_neg (by simp [c]), c]; rfl
      · rw [if_pos ⟨rfl, c⟩]
        have : (n % 2 ^ drop != 0) = true := by simpa using c
        rw [this]; rfl
  | zero =>
    unfold Toward.cut more
    simp only [Nat.one_shiftLeft, guard.1]
    rfl
theorem more_scale (way : Toward) (s : Bool) (q r w k : Nat) (hk : 0 < k) : more way s q (r * k) (w * k) = more way s q r w := by
  have e0 : (r * k ≠ 0) ↔ r ≠ 0 := by
    constructor
    · intro h h2; rw [h2, Nat.zero_mul] at h; exact h rfl
    · intro h; exact Nat.mul_ne_zero h (by omega)
  have e1 : (w * k < 2 * (r * k)) ↔ (w < 2 * r) := by rw [← Nat.mul_assoc]; exact Nat.mul_lt_mul_right hk
  have e2 : (w * k = 2 * (r * k)) ↔ (w = 2 * r) := by
    rw [← Nat.mul_assoc]
    constructor
    · intro h; exact Nat.eq_of_mul_eq_mul_right hk h
    · intro h; rw [← h]
  unfold more
  cases way <;> simp only [e0, e1, e2]
/-- A number made whole. -/
def intg (way : Toward) (x : Nat) : Nat := double.write ((double.read x).integral way)
theorem intg_W (way : Toward) (s : Bool) (r : Nat) (h : r < 9218868437227405312) : intg way (W s r) = W s (R ((V r / U + more way s (V r / U) (V r % U) U) * U)) := by
  unfold intg
  rw [read_W s r h]
  show double.nearest _ _ 0 = _
  rw [near _ _ _ (by omega), cut_eq]
  obtain ⟨a, h1, h2⟩ : ∃ a : Nat, V r = mg r <<< (pl r).toNat * 2 ^ a ∧ U = 2 ^ (-pl r).toNat * 2 ^ a := by
    have hp := pl_ge r
    rw [V_eq, Nat.shiftLeft_eq]
    by_cases c : 0 ≤ pl r
    · refine ⟨1074, ?_, ?_⟩
      · rw [Nat.mul_assoc, ← Nat.pow_add]; congr 2; omega
      · rw [show (-pl r).toNat = 0 by omega]; unfold U; rw [Nat.pow_zero, Nat.one_mul]
    · refine ⟨(pl r + 1074).toNat, ?_, ?_⟩
      · rw [show (pl r).toNat = 0 by omega, Nat.pow_zero, Nat.mul_one]
      · rw [← Nat.pow_add]; unfold U; congr 1; omega
  have hk : 0 < 2 ^ a := Nat.two_pow_pos _
  have e1 : V r / U = mg r <<< (pl r).toNat / 2 ^ (-pl r).toNat := by rw [h1, h2, Nat.mul_div_mul_right _ _ hk]
  have e2 : V r % U = mg r <<< (pl r).toNat % 2 ^ (-pl r).toNat * 2 ^ a := by rw [h1, h2, Nat.mul_mod_mul_right]
  have e3 : more way s (V r / U) (V r % U) U = more way s (V r / U) (mg r <<< (pl r).toNat % 2 ^ (-pl r).toNat) (2 ^ (-pl r).toNat) := by rw [e2, h2, more_scale _ _ _ _ _ _ hk]
  rw [e3, e1]
  rfl
theorem intg_inf (way : Toward) (s : Bool) : intg way (W s 9218868437227405312) = W s 9218868437227405312 := by cases way <;> cases s <;> decide
end Go.Proofs.YtobdmcdbfpjpiaaDoor.Q
