/- Doubles, plainly: the rung nearest to a number, a rung's value. -/
import Ieee.Arith
namespace Go.Proofs.YtobdmcdbfpjpiaaDoor.Q
open Ieee
set_option exponentiation.threshold 3000
set_option linter.unusedVariables false
set_option linter.unusedSimpArgs false
/-- n / W to the nearest whole number, between two the even one. -/
def cutE (n W : Nat) : Nat := n / W + (if W < 2 * (n % W) ∨ (W = 2 * (n % W) ∧ n / W % 2 = 1) then 1 else 0)
theorem cutE_scale (n W k : Nat) (hk : 0 < k) (hW : 0 < W) : cutE (n * k) (W * k) = cutE n W := by
  unfold cutE
  rw [Nat.mul_div_mul_right _ _ hk, Nat.mul_mod_mul_right]
  have e1 : (W * k < 2 * (n % W * k)) ↔ (W < 2 * (n % W)) := by
    rw [← Nat.mul_assoc]
    exact Nat.mul_lt_mul_right hk
  have e2 : (W * k = 2 * (n % W * k)) ↔ (W = 2 * (n % W)) := by
    rw [← Nat.mul_assoc]
    constructor
    · intro h; exact Nat.eq_of_mul_eq_mul_right hk h
    · intro h; rw [← h]
  simp only [e1, e2]
theorem cutE_exact (n W : Nat) (hW : 0 < W) (h : n % W = 0) : cutE n W = n / W := by
  unfold cutE
  rw [h, if_neg (by omega)]
  rfl
theorem cutE_mono (a b W : Nat) (hW : 0 < W) (h : a ≤ b) : cutE a W ≤ cutE b W := by
  have hq : a / W ≤ b / W := Nat.div_le_div_right h
  unfold cutE
  by_cases e : a / W = b / W
  · have ha := Nat.div_add_mod a W
    have hb := Nat.div_add_mod b W
    rw [e] at ha
    have hr : a % W ≤ b % W := by omega
    rw [e]
    split <;> split <;> omega
  · split <;> split <;> omega
theorem cutE_ge (n W c : Nat) (hW : 0 < W) (h : c * W ≤ n) : c ≤ cutE n W := by
  have : c ≤ n / W := (Nat.le_div_iff_mul_le hW).2 h
  unfold cutE
  omega
theorem cutE_le (n W c : Nat) (hW : 0 < W) (h : n < c * W) : cutE n W ≤ c := by
  have : n / W < c := Nat.div_lt_of_lt_mul (by rw [Nat.mul_comm]; exact h)
  unfold cutE
  split <;> omega
/-- The model's cut, without its guard against long shifts. -/
theorem cut_even (neg : Bool) (n drop : Nat) : Toward.even.cut neg n drop = cutE n (2 ^ drop) := by
  unfold Toward.cut cutE
  simp only [Nat.one_shiftLeft]
  by_cases h : drop ≤ n.log2 + 2
  · rw [Nat.min_eq_left h]
    congr 1
    by_cases c : 2 ^ drop < 2 * (n % 2 ^ drop) ∨ (2 ^ drop = 2 * (n % 2 ^ drop) ∧ n / 2 ^ drop % 2 = 1)
    · rw [if_pos c]
      rcases c with c | ⟨c1, c2⟩
      · rw [decide_eq_true c]; rfl
      · have b1 : (2 ^ drop == 2 * (n % 2 ^ drop)) = true := beq_iff_eq.2 c1
        have b2 : (n / 2 ^ drop % 2 == 1) = true := beq_iff_eq.2 c2
        rw [b1, b2, Bool.and_self, Bool.or_true]; rfl
    · rw [if_neg c]
      have h1 : ¬ 2 ^ drop < 2 * (n % 2 ^ drop) := fun h => c (.inl h)
      have h2 : ¬ (2 ^ drop = 2 * (n % 2 ^ drop) ∧ n / 2 ^ drop % 2 = 1) := fun h => c (.inr h)
      simp only [h1, decide_false, Bool.false_or]
      cases hb : (2 ^ drop == 2 * (n % 2 ^ drop) && n / 2 ^ drop % 2 == 1) with
      | false => rfl
      | true => rw [Bool.and_eq_true, beq_iff_eq, beq_iff_eq] at hb; exact absurd hb h2
  · rw [Nat.min_eq_right (by omega)]
    have hn : n < 2 ^ (n.log2 + 1) := Nat.lt_log2_self
    have h1 : n < 2 ^ (n.log2 + 2) := Nat.lt_of_lt_of_le hn (Nat.pow_le_pow_right (by omega) (by omega))
    have h2 : n < 2 ^ drop := Nat.lt_of_lt_of_le h1 (Nat.pow_le_pow_right (by omega) (by omega))
    have h3 : 2 ^ (n.log2 + 2) = 2 * 2 ^ (n.log2 + 1) := by rw [show n.log2 + 2 = (n.log2 + 1) + 1 by omega, Nat.pow_succ]; omega
    have h4 : 2 ^ (n.log2 + 2) ≤ 2 ^ drop := Nat.pow_le_pow_right (by omega) (by omega)
    rw [Nat.div_eq_of_lt h1, Nat.mod_eq_of_lt h1, Nat.div_eq_of_lt h2, Nat.mod_eq_of_lt h2, if_neg (by omega)]
    have e1 : decide (2 ^ (n.log2 + 2) < 2 * n) = false := decide_eq_false (by omega)
    have e2 : (2 ^ (n.log2 + 2) == 2 * n) = false := by rw [beq_eq_false_iff_ne]; omega
    simp only [e1, e2]
    rfl
/-- Rungs to a binade; what 1 is in units of the least number. -/
def U : Nat := 2 ^ 1074
def H : Nat := 2 ^ 1073
theorem U_eq : U = 2 * H := by unfold U H; rw [show (1074 : Nat) = 1073 + 1 from rfl, Nat.pow_succ, Nat.mul_comm]
theorem H_pos : 0 < H := Nat.two_pow_pos _
theorem U_pos : 0 < U := Nat.two_pow_pos _
/-- The place of the last digit that is kept of t. -/
def last (t : Nat) : Nat := t.log2 - 52
/-- The rung nearest to t units. -/
def R (t : Nat) : Nat := if t = 0 then 0 else min (last t * 4503599627370496 + cutE t (2 ^ last t)) 9218868437227405312
/-- What a rung is, in units. -/
def V (r : Nat) : Nat := if r < 4503599627370496 then r else (4503599627370496 + r % 4503599627370496) * 2 ^ (r / 4503599627370496 - 1)
theorem R_zero : R 0 = 0 := by unfold R; rw [if_pos rfl]
theorem log2_bounds (t : Nat) (h : t ≠ 0) : 2 ^ t.log2 ≤ t ∧ t < 2 ^ (t.log2 + 1) := ⟨Nat.log2_self_le h, Nat.lt_log2_self⟩
theorem log2_mono {a b : Nat} (ha : a ≠ 0) (h : a ≤ b) : a.log2 ≤ b.log2 := by
  have hb : b ≠ 0 := by omega
  rw [Nat.le_log2 hb]
  exact Nat.le_trans (Nat.log2_self_le ha) h
theorem pow_B : (4503599627370496 : Nat) = 2 ^ 52 := by decide
/-- What is kept of t lies below two binades; and, of a great one, in the second. -/
theorem kept_le (t : Nat) (h : t ≠ 0) : cutE t (2 ^ last t) ≤ 2 * 4503599627370496 := by
  refine cutE_le _ _ _ (Nat.two_pow_pos _) ?_
  have h2 := (log2_bounds t h).2
  refine Nat.lt_of_lt_of_le h2 ?_
  rw [show 2 * 4503599627370496 = 2 ^ 53 by decide, ← Nat.pow_add]
  exact Nat.pow_le_pow_right (by omega) (by unfold last; omega)
theorem kept_ge (t : Nat) (h : t ≠ 0) (hl : 0 < last t) : 4503599627370496 ≤ cutE t (2 ^ last t) := by
  refine cutE_ge _ _ _ (Nat.two_pow_pos _) ?_
  refine Nat.le_trans ?_ (log2_bounds t h).1
  rw [pow_B, ← Nat.pow_add]
  exact Nat.pow_le_pow_right (by omega) (by unfold last at *; omega)
theorem R_mono {a b : Nat} (h : a ≤ b) : R a ≤ R b := by
  by_cases ha : a = 0
  · rw [ha, R_zero]; omega
  · have hb : b ≠ 0 := by omega
    have hl := log2_mono ha h
    have hk := kept_le a ha
    unfold R
    rw [if_neg ha, if_neg hb]
    by_cases e : last a = last b
    · rw [e]
      have := cutE_mono a b (2 ^ last b) (Nat.two_pow_pos _) h
      generalize cutE a (2 ^ last b) = ca at *
      generalize cutE b (2 ^ last b) = cb at *
      generalize last b = lb at *
      clear hl hk e
      omega
    · have hlt : last a < last b := by unfold last at *; omega
      have hg := kept_ge b hb (by omega)
      generalize cutE a (2 ^ last a) = ca at *
      generalize cutE b (2 ^ last b) = cb at *
      generalize last b = lb at *
      generalize last a = la at *
      clear hl e
      omega
/-- Numbers of 53 digits are met. -/
theorem R_repr (M k : Nat) (hM : M < 2 * 4503599627370496) (hk : k ≤ 2000) : V (R (M * 2 ^ k)) = M * 2 ^ k ∧ R (M * 2 ^ k) < 9218868437227405312 := by
  by_cases h0 : M = 0
  · subst h0
    rw [Nat.zero_mul, R_zero]
    exact ⟨by unfold V; rw [if_pos (by decide)], by decide⟩
  · have ht : M * 2 ^ k ≠ 0 := Nat.mul_ne_zero h0 (Nat.ne_of_gt (Nat.two_pow_pos _))
    obtain ⟨b1, b2⟩ := log2_bounds _ ht
    obtain ⟨t, hte⟩ : ∃ t, t = M * 2 ^ k := ⟨_, rfl⟩
    rw [← hte] at ht b1 b2 ⊢
    have hlog : t.log2 < 53 + k := by
      rw [Nat.log2_lt ht, hte, Nat.pow_add]
      exact Nat.mul_lt_mul_of_pos_right (by rw [show 2 ^ 53 = 2 * 4503599627370496 by decide]; exact hM) (Nat.two_pow_pos _)
    have hlk : last t ≤ k := by unfold last; omega
    have hdiv : t % 2 ^ last t = 0 := by
      rw [hte]
      exact Nat.mod_eq_zero_of_dvd (Nat.dvd_trans (Nat.pow_dvd_pow 2 (hte ▸ hlk)) (Nat.dvd_mul_left _ _))
    have hc := cutE_exact t (2 ^ last t) (Nat.two_pow_pos _) hdiv
    have hcb := Nat.div_mul_cancel (Nat.dvd_of_mod_eq_zero hdiv)
    have hkl := kept_le t ht
    have hlast : last t ≤ 2000 := by omega
    unfold R
    rw [if_neg ht]
    rw [hc] at hkl ⊢
    by_cases hl : last t = 0
    · rw [hl] at hcb hkl ⊢
      simp only [Nat.pow_zero, Nat.mul_one, Nat.div_one, Nat.zero_mul, Nat.zero_add] at hcb hkl ⊢
      have h53 : t < 2 * 4503599627370496 := by
        refine Nat.lt_of_lt_of_le b2 ?_
        rw [show 2 * 4503599627370496 = 2 ^ 53 by decide]
        exact Nat.pow_le_pow_right (by omega) (by unfold last at hl; omega)
      rw [Nat.min_eq_left (by omega)]
      refine ⟨?_, by omega⟩
      unfold V
      split
      · rfl
      · have e1 : t / 4503599627370496 = 1 := by omega
        have e2 : t % 4503599627370496 = t - 4503599627370496 := by omega
        rw [e1, e2]
        simp only [Nat.sub_self, Nat.pow_zero, Nat.mul_one]
        omega
    · have hg : 4503599627370496 ≤ t / 2 ^ last t := by
        have := kept_ge t ht (by omega)
        rwa [hc] at this
      have hlt : t / 2 ^ last t < 2 * 4503599627370496 := by
        refine Nat.div_lt_of_lt_mul ?_
        refine Nat.lt_of_lt_of_le b2 ?_
        rw [show 2 * 4503599627370496 = 2 ^ 53 by decide, ← Nat.pow_add]
        exact Nat.pow_le_pow_right (by omega) (by unfold last at *; omega)
      obtain ⟨c, hce⟩ : ∃ c, c = t / 2 ^ last t := ⟨_, rfl⟩
      rw [← hce] at hg hlt hcb ⊢
      rw [Nat.min_eq_left (by omega)]
      refine ⟨?_, by omega⟩
      have e1 : (last t * 4503599627370496 + c) / 4503599627370496 = last t + 1 := by
        rw [Nat.add_comm, Nat.add_mul_div_right _ _ (by decide)]; omega
      have e2 : (last t * 4503599627370496 + c) % 4503599627370496 = c - 4503599627370496 := by
        rw [Nat.add_comm, Nat.add_mul_mod_self_right]; omega
      unfold V
      rw [if_neg (by omega), e1, e2, Nat.add_sub_cancel, show 4503599627370496 + (c - 4503599627370496) = c by omega, hcb]
/-- A rung is nearest to what it is. -/
theorem R_V (r : Nat) (h : r < 9218868437227405312) : R (V r) = r := by
  unfold V
  by_cases hr : r < 4503599627370496
  · rw [if_pos hr]
    unfold R
    by_cases h0 : r = 0
    · rw [if_pos h0, h0]
    · rw [if_neg h0]
      have hl : last r = 0 := by
        have : r.log2 < 52 := by rw [Nat.log2_lt h0]; rw [← pow_B]; exact hr
        unfold last; omega
      rw [hl, Nat.pow_zero, cutE_exact r 1 (by omega) (Nat.mod_one r)]
      simp only [Nat.zero_mul, Nat.zero_add, Nat.div_one]
      omega
  · rw [if_neg hr]
    obtain ⟨k, hk⟩ : ∃ k, r / 4503599627370496 = k + 1 := ⟨r / 4503599627370496 - 1, by omega⟩
    rw [hk, Nat.add_sub_cancel]
    have hm : r % 4503599627370496 < 4503599627370496 := Nat.mod_lt _ (by decide)
    have hr2 := Nat.div_add_mod r 4503599627370496
    rw [hk] at hr2
    generalize r % 4503599627370496 = m at *
    have hM0 : (4503599627370496 + m) * 2 ^ k ≠ 0 := Nat.mul_ne_zero (by omega) (Nat.ne_of_gt (Nat.two_pow_pos _))
    have hlog : ((4503599627370496 + m) * 2 ^ k).log2 = 52 + k := by
      rw [Nat.log2_eq_iff hM0]
      constructor
      · rw [Nat.pow_add, ← pow_B]
        exact Nat.mul_le_mul_right _ (by omega)
      · rw [show 52 + k + 1 = 53 + k by omega, Nat.pow_add]
        exact Nat.mul_lt_mul_of_pos_right (by rw [show 2 ^ 53 = 2 * 4503599627370496 by decide]; omega) (Nat.two_pow_pos _)
    have hl : last ((4503599627370496 + m) * 2 ^ k) = k := by unfold last; rw [hlog]; omega
    unfold R
    rw [if_neg hM0, hl, cutE_exact _ _ (Nat.two_pow_pos _) (Nat.mul_mod_left _ _), Nat.mul_div_cancel _ (Nat.two_pow_pos _)]
    omega
end Go.Proofs.YtobdmcdbfpjpiaaDoor.Q
