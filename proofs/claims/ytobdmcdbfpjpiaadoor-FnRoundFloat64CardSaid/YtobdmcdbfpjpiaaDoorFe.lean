/- Doubles, plainly: the half; math.Round on words. -/
import Derived.Test.YtobdmcdbfpjpiaaDoorFd
namespace Go.Proofs.YtobdmcdbfpjpiaaDoor.Q
open Ieee
set_option exponentiation.threshold 3000
set_option linter.unusedVariables false
set_option linter.unusedSimpArgs false
theorem V_lt {a b : Nat} (hb : b < 9218868437227405312) (h : a < b) : V a < V b := by
  have h1 := V_mono hb (Nat.le_of_lt h)
  rcases Nat.lt_or_ge (V a) (V b) with c | c
  · exact c
  · have e : V a = V b := by omega
    have e1 := R_V a (by omega)
    rw [e, R_V b hb] at e1
    omega
def K : Nat := 2 ^ 1020
theorem K_pos : 0 < K := Nat.two_pow_pos _
theorem H_K : H = 2 * 4503599627370496 * K := by
  unfold H K
  rw [show 2 * 4503599627370496 = 2 ^ 53 by decide, ← Nat.pow_add]
theorem U_K : U = 4 * 4503599627370496 * K := by rw [U_eq, H_K]; omega
/-- The one number whose difference is no half but is rounded to one. -/
def oddR : Nat := 4602678819172646911
theorem odd_V : V oddR = 9007199254740991 * K := by
  unfold V oddR K
  rw [if_neg (by decide), show (4602678819172646911 : Nat) / 4503599627370496 = 1021 by decide, show (4602678819172646911 : Nat) % 4503599627370496 = 4503599627370495 by decide]
theorem R_far (D : Nat) (h1 : H + K < D) (h2 : D < U) : 4602678819172646912 < R D := by
  have hk := K_pos
  rw [H_K] at h1
  rw [U_K] at h2
  have h0 : D ≠ 0 := by omega
  have hlog : D.log2 = 1073 := by
    rw [Nat.log2_eq_iff h0]
    have e1 : 2 ^ 1073 = 2 * 4503599627370496 * K := H_K
    have e2 : 2 ^ (1073 + 1) = 4 * 4503599627370496 * K := U_K
    rw [e1, e2]
    omega
  have hl : last D = 1021 := by unfold last; rw [hlog]
  have e3 : 2 ^ 1021 = 2 * K := by unfold K; rw [Nat.mul_comm, ← Nat.pow_succ]
  unfold R
  rw [if_neg h0, hl, e3]
  have hc : 4503599627370496 + 1 ≤ cutE D (2 * K) := by
    unfold cutE
    have hd := Nat.div_add_mod D (2 * K)
    have hm := Nat.mod_lt D (show 0 < 2 * K by omega)
    have hq : 4503599627370496 ≤ D / (2 * K) := (Nat.le_div_iff_mul_le (by omega)).2 (by omega)
    by_cases c : 4503599627370496 + 1 ≤ D / (2 * K)
    · omega
    · have e : D / (2 * K) = 4503599627370496 := by omega
      rw [e] at hd ⊢
      have : 2 * K * 4503599627370496 = 2 * 4503599627370496 * K := by rw [Nat.mul_comm 2 K, Nat.mul_assoc, Nat.mul_comm K, Nat.mul_comm 2]
      rw [if_pos (.inl (by omega))]
      exact Nat.le_refl _
  omega
theorem half_cmp (s : Bool) (r : Nat) (hr : r < 9218868437227405312) (h : V r % U ≠ 0) :
    (V (R (diff s r)) < H → diff s r < H) ∧ (H < V (R (diff s r)) → H < diff s r) ∧ (V (R (diff s r)) = H → diff s r = H ∨ (s = true ∧ r = oddR)) := by
  obtain ⟨d0, d1⟩ := diff_pos s r h
  have hB : diff s r ≤ 4503599627370496 * U := by have := Nat.mul_le_mul_right U (show 1 ≤ 4503599627370496 by omega); omega
  have hRD := R_lt_inf _ hB
  have hRH : R H < 9218868437227405312 := by rw [half_V.2]; omega
  have hVH : V (R H) = H := by rw [half_V.2, half_V.1]
  refine ⟨fun c => ?_, fun c => ?_, fun c => ?_⟩
  · rcases Nat.lt_or_ge (diff s r) H with k | k
    · exact k
    · have := V_mono hRD (R_mono k)
      omega
  · rcases Nat.lt_or_ge H (diff s r) with k | k
    · exact k
    · have := V_mono hRH (R_mono k)
      omega
  · obtain ⟨_, M, k, e, hM, hk⟩ := nonint_lt r h
    have eU : U = 2 ^ (1074 - k) * 2 ^ k := by unfold U; rw [← Nat.pow_add, show 1074 - k + k = 1074 by omega]
    have em : V r % U = (M % 2 ^ (1074 - k)) * 2 ^ k := by rw [e, eU, Nat.mul_mod_mul_right]
    have hp : 0 < 2 ^ (1074 - k) := Nat.two_pow_pos _
    have hmm := Nat.mod_lt M hp
    have hmM := Nat.mod_le M (2 ^ (1074 - k))
    cases s with
    | false =>
      refine .inl ?_
      have ed : diff false r = (M % 2 ^ (1074 - k)) * 2 ^ k := em
      rw [ed] at c ⊢
      rw [(R_repr _ k (by omega) (by omega)).1] at c
      exact c
    | true =>
      have ed : diff true r = (2 ^ (1074 - k) - M % 2 ^ (1074 - k)) * 2 ^ k := by
        show U - V r % U = _
        rw [em, eU, Nat.sub_mul]
      by_cases ck : 1021 ≤ k
      · refine .inl ?_
        have h53 : 2 ^ (1074 - k) ≤ 2 * 4503599627370496 := by
          rw [show 2 * 4503599627370496 = 2 ^ 53 by decide]
          exact Nat.pow_le_pow_right (by omega) (by omega)
        have hm0 : M % 2 ^ (1074 - k) ≠ 0 := by
          intro z
          rw [z, Nat.zero_mul] at em
          exact h em
        rw [ed] at c ⊢
        rw [(R_repr _ k (by omega) (by omega)).1] at c
        exact c
      · refine .inr ⟨rfl, ?_⟩
        have hkp := K_pos
        have hk2 : 2 ^ k ≤ K := Nat.pow_le_pow_right (by omega) (by omega)
        have ht : V r ≤ 9007199254740991 * 2 ^ k := by rw [e]; exact Nat.mul_le_mul_right _ (by omega)
        have hV0 : V r ≠ 0 := by intro z; rw [z, Nat.zero_mod] at h; exact h rfl
        have hUK := U_K
        have hHK := H_K
        have htU : V r < U := by
          have := Nat.mul_le_mul_left 9007199254740991 hk2
          omega
        have hrm : V r % U = V r := Nat.mod_eq_of_lt htU
        have hdd : diff true r = U - V r := by show U - V r % U = _; rw [hrm]
        have hRe : R (diff true r) = 4602678819172646912 := by
          have := R_V (R (diff true r)) hRD
          rw [c, half_V.2] at this
          exact this.symm
        have hnear : ¬ (H + K < U - V r) := by
          intro z
          have := R_far (U - V r) z (by omega)
          rw [hdd] at hRe
          omega
        have hVr : V r = 9007199254740991 * K := by
          have h9 : 9007199254740991 * K ≤ V r := by omega
          have : k = 1020 := by
            rcases Nat.lt_or_ge k 1020 with c2 | c2
            · exfalso
              have h19 : 2 ^ k * 2 ≤ K := by
                rw [← Nat.pow_succ]; exact Nat.pow_le_pow_right (by omega) (by omega)
              have := Nat.mul_le_mul_left 9007199254740991 h19
              omega
            · omega
          subst this
          have : V r ≤ 9007199254740991 * K := by unfold K; exact ht
          omega
        have := R_V r hr
        rw [hVr, ← odd_V, R_V oddR (by decide)] at this
        exact this.symm
theorem pow_two_B (a b : Nat) (h : a + b = 52) : 2 ^ a * 2 ^ b = 4503599627370496 := by
  rw [← Nat.pow_add, h]
/-- What a whole number's rung is. -/
theorem NW_form (n e : Nat) (he : e ≤ 52) (h1 : 2 ^ e ≤ n) (h2 : n ≤ 2 ^ (e + 1)) : NW n = (1022 + e) * 4503599627370496 + n * 2 ^ (52 - e) := by
  have eU : U = 2 ^ (52 - e) * 2 ^ (1022 + e) := by unfold U; rw [← Nat.pow_add, show 52 - e + (1022 + e) = 1074 by omega]
  have eB : 2 ^ e * 2 ^ (52 - e) = 4503599627370496 := pow_two_B _ _ (by omega)
  have hge : 4503599627370496 ≤ n * 2 ^ (52 - e) := by rw [← eB]; exact Nat.mul_le_mul_right _ h1
  have hle : n * 2 ^ (52 - e) ≤ 2 * 4503599627370496 := by
    have := Nat.mul_le_mul_right (2 ^ (52 - e)) h2
    rw [Nat.pow_succ, Nat.mul_comm (2 ^ e) 2, Nat.mul_assoc, eB] at this
    exact this
  have hV : V ((1022 + e) * 4503599627370496 + n * 2 ^ (52 - e)) = n * U := by
    rw [eU, ← Nat.mul_assoc]
    generalize n * 2 ^ (52 - e) = z at hge hle
    unfold V
    rw [if_neg (by omega)]
    by_cases c : z = 2 * 4503599627370496
    · rw [c]
      have e1 : ((1022 + e) * 4503599627370496 + 2 * 4503599627370496) / 4503599627370496 = 1024 + e := by omega
      have e2 : ((1022 + e) * 4503599627370496 + 2 * 4503599627370496) % 4503599627370496 = 0 := by omega
      rw [e1, e2, Nat.add_zero, show 1024 + e - 1 = (1022 + e) + 1 by omega, Nat.pow_succ]
      rw [Nat.mul_comm (2 ^ (1022 + e)) 2, ← Nat.mul_assoc]
    · have e1 : ((1022 + e) * 4503599627370496 + z) / 4503599627370496 = 1023 + e := by omega
      have e2 : ((1022 + e) * 4503599627370496 + z) % 4503599627370496 = z - 4503599627370496 := by omega
      rw [e1, e2, show 1023 + e - 1 = 1022 + e by omega, show 4503599627370496 + (z - 4503599627370496) = z by omega]
  have := R_V ((1022 + e) * 4503599627370496 + n * 2 ^ (52 - e)) (by omega)
  rw [hV] at this
  exact this
theorem half_up (M w : Nat) (hw : 0 < w) : (M + w) / (2 * w) = M / (2 * w) + (if w ≤ M % (2 * w) then 1 else 0) := by
  have hd := Nat.div_add_mod M (2 * w)
  have hm := Nat.mod_lt M (show 0 < 2 * w by omega)
  generalize M / (2 * w) = q at *
  generalize M % (2 * w) = r at *
  rw [← hd]
  split
  · rw [show 2 * w * q + r + w = (r - w) + (q + 1) * (2 * w) by rw [Nat.add_mul, Nat.mul_comm q]; omega, Nat.add_mul_div_right _ _ (by omega), Nat.div_eq_of_lt (by omega)]
    omega
  · rw [show 2 * w * q + r + w = (r + w) + q * (2 * w) by rw [Nat.mul_comm q]; omega, Nat.add_mul_div_right _ _ (by omega), Nat.div_eq_of_lt (by omega)]
    omega
/-- math.Round on a rung. -/
def rndR (r : Nat) : Nat :=
  if r / 4503599627370496 < 1022 then 0
  else if r / 4503599627370496 = 1022 then 4607182418800017408
  else if r / 4503599627370496 < 1075 then (r + 2 ^ (51 - (r / 4503599627370496 - 1023))) / 2 ^ (52 - (r / 4503599627370496 - 1023)) * 2 ^ (52 - (r / 4503599627370496 - 1023))
  else r
theorem rnd_eq (r : Nat) (hr : r < 9218868437227405312) (h : V r % U ≠ 0) : rndR r = NW (V r / U + if H ≤ V r % U then 1 else 0) := by
  have hU := U_pos
  have hone := one_V
  have hhalf := half_V
  unfold rndR
  by_cases c1 : r / 4503599627370496 < 1022
  · rw [if_pos c1]
    have hlt : V r < H := by
      rw [← hhalf.1]
      exact V_lt (by omega) (by omega)
    have hUH := U_eq
    rw [Nat.div_eq_of_lt (by omega), Nat.mod_eq_of_lt (by omega), if_neg (by omega), NW_zero]
  · rw [if_neg c1]
    by_cases c2 : r / 4503599627370496 = 1022
    · rw [if_pos c2]
      have hge : H ≤ V r := by
        rw [← hhalf.1]
        exact V_mono hr (by omega)
      have hlt : V r < U := by
        rw [← hone.1]
        exact V_lt (by omega) (by omega)
      rw [Nat.div_eq_of_lt hlt, Nat.mod_eq_of_lt hlt, if_pos hge, hone.2]
    · rw [if_neg c2]
      have c3 : r / 4503599627370496 < 1075 := by
        rcases Nat.lt_or_ge (r / 4503599627370496) 1075 with c | c
        · exact c
        · exfalso
          apply h
          unfold V
          rw [if_neg (by omega)]
          refine Nat.mod_eq_zero_of_dvd (Nat.dvd_trans ?_ (Nat.dvd_mul_left _ _))
          unfold U
          exact Nat.pow_dvd_pow 2 (by omega)
      rw [if_pos c3]
      obtain ⟨e, he⟩ : ∃ e, r / 4503599627370496 = 1023 + e := ⟨r / 4503599627370496 - 1023, by omega⟩
      have he2 : e ≤ 51 := by omega
      obtain ⟨M, hMe⟩ : ∃ M, M = 4503599627370496 + r % 4503599627370496 := ⟨_, rfl⟩
      have hM1 : 4503599627370496 ≤ M ∧ M < 2 * 4503599627370496 := by omega
      have hr2 : r = (1022 + e) * 4503599627370496 + M := by omega
      have hV : V r = M * 2 ^ (1022 + e) := by
        unfold V
        rw [if_neg (by omega), ← hMe, he, show 1023 + e - 1 = 1022 + e by omega]
      rw [he, show 1023 + e - 1023 = e by omega]
      obtain ⟨w, hw⟩ : ∃ w, w = 2 ^ (51 - e) := ⟨_, rfl⟩
      have hw0 : 0 < w := by rw [hw]; exact Nat.two_pow_pos _
      have hw2 : 2 ^ (52 - e) = 2 * w := by rw [hw, show 52 - e = (51 - e) + 1 by omega, Nat.pow_succ, Nat.mul_comm]
      have eU : U = 2 * w * 2 ^ (1022 + e) := by rw [← hw2, ← Nat.pow_add, show 52 - e + (1022 + e) = 1074 by omega]; rfl
      have eH : H = w * 2 ^ (1022 + e) := by
        have := U_eq
        rw [eU, Nat.mul_assoc] at this
        omega
      have hk : 0 < 2 ^ (1022 + e) := Nat.two_pow_pos _
      have eB : 2 ^ e * (2 * w) = 4503599627370496 := by rw [← hw2]; exact pow_two_B _ _ (by omega)
      have eq1 : V r / U = M / (2 * w) := by rw [hV, eU, Nat.mul_div_mul_right _ _ hk]
      have eq2 : V r % U = M % (2 * w) * 2 ^ (1022 + e) := by rw [hV, eU, Nat.mul_mod_mul_right]
      have eq3 : (H ≤ V r % U) ↔ (w ≤ M % (2 * w)) := by
        rw [eq2, eH]
        constructor
        · intro hh; exact Nat.le_of_mul_le_mul_right hh hk
        · intro hh; exact Nat.mul_le_mul_right _ hh
      rw [eq1]
      simp only [eq3]
      rw [← half_up M w hw0, hw2, ← hw]
      have hn1 : 2 ^ e ≤ (M + w) / (2 * w) := by
        rw [Nat.le_div_iff_mul_le (by omega), eB]; omega
      have hn2 : (M + w) / (2 * w) ≤ 2 ^ (e + 1) := by
        have : (M + w) / (2 * w) < 2 ^ (e + 1) + 1 := by
          refine Nat.div_lt_of_lt_mul ?_
          rw [Nat.mul_add, Nat.pow_succ, Nat.mul_comm (2 * w), Nat.mul_assoc, Nat.mul_comm 2 (2 * w), ← Nat.mul_assoc, eB]
          omega
        omega
      rw [NW_form _ e (by omega) hn1 hn2, hw2]
      have hcB : (1022 + e) * 4503599627370496 = (1022 + e) * 2 ^ e * (2 * w) := by rw [Nat.mul_assoc, eB]
      rw [hr2, hcB, Nat.add_assoc, Nat.add_comm ((1022 + e) * 2 ^ e * (2 * w)), Nat.add_mul_div_right _ _ (by omega), Nat.add_mul]
      omega
theorem rnd_inf : rndR 9218868437227405312 = 9218868437227405312 := by decide
end Go.Proofs.YtobdmcdbfpjpiaaDoor.Q
