/- Both ways of rounding meet. -/
import Derived.Test.YtobdmcdbfpjpiaaDoorWf
namespace Go.Proofs.YtobdmcdbfpjpiaaDoor.Q
open Go.RowKit Go.Proofs.YtobdmcdbfpjpiaaDoorW.PrintWords Go.Proofs.YtobdmcdbfpjpiaaDoorW.PrintLast Go.Proofs.YtobdmcdbfpjpiaaDoorW.PrintMore
set_option exponentiation.threshold 3000
set_option linter.unusedVariables false
set_option linter.unusedSimpArgs false
/-- What the program rounds to. -/
def pickW (m : Nat) (s : Bool) (r : Nat) : Nat := if 4 ≤ m ∧ V (R (diff s r)) ≠ H then W s (rndR r) else wayW m s (W s r)
/-- spec.upper. -/
def upperB (m : Nat) (half : Int) (even neg : Bool) : Bool :=
  if m = 0 then false else if m = 1 then true else if m = 2 then neg else if m = 3 then !neg
  else if half ≠ 0 then decide (half > 0)
  else if m = 4 then false else if m = 5 then true else if m = 6 then neg else if m = 7 then !neg else if m = 8 then !even else even
def halfOf (s : Bool) (r : Nat) : Int := if V (R (diff s r)) < H then -1 else if H < V (R (diff s r)) then 1 else 0
/-- Whether spec.RoundFloat goes up. -/
def goesUp (m : Nat) (s : Bool) (r : Nat) : Bool := upperB m (halfOf s r) (lowN s r % 2 == 0) s
def specN (m : Nat) (s : Bool) (r : Nat) : Nat := if goesUp m s r then upN s r else lowN s r
def specW (m : Nat) (s : Bool) (r : Nat) : Nat := if goesUp m s r then W (s && upN s r != 0) (NW (upN s r)) else W s (NW (lowN s r))
theorem oddN : V oddR / U = 0 ∧ V oddR % U = V oddR ∧ V oddR < H := by
  have h1 := odd_V
  have h2 := U_K
  have h3 := H_K
  have h4 := K_pos
  have hlt : V oddR < U := by omega
  exact ⟨Nat.div_eq_of_lt hlt, Nat.mod_eq_of_lt hlt, by omega⟩
theorem half_sum (Q T : Nat) (h : U * Q + H = T) : T = (2 * Q + 1) * H := by
  rw [← h, U_eq, Nat.add_mul, Nat.one_mul, Nat.mul_assoc 2 H, Nat.mul_comm H Q, Nat.mul_assoc 2 Q]
open Ieee in
theorem mul_W (s t : Bool) (a b : Nat) (ha : a < 9218868437227405312) (hb : b < 9218868437227405312) : double.mul (W s a) (W t b) = some (double.nearest (s ^^ t) (mg a * mg b) (pl a + pl b)) := by
  unfold Format.mul
  rw [read_W s a ha, read_W t b hb]
  rfl
open Ieee in
theorem half_word (s : Bool) (r : Nat) (hr : r < 9218868437227405312) (hrm : V r % U = H) : halfW (W s r) = W s (R ((2 * (V r / U) + 1) * 2 ^ 1072)) ∧ V (R ((2 * (V r / U) + 1) * 2 ^ 1072)) = (2 * (V r / U) + 1) * 2 ^ 1072 ∧ R ((2 * (V r / U) + 1) * 2 ^ 1072) < 9218868437227405312 := by
  have hne : V r % U ≠ 0 := by rw [hrm]; exact Nat.ne_of_gt H_pos
  have hq := q_lt r hne
  have hd := Nat.div_add_mod (V r) U
  have hV : V r = (2 * (V r / U) + 1) * H := by rw [hrm] at hd; exact half_sum _ _ hd
  have hrep := R_repr (2 * (V r / U) + 1) 1072 (by omega) (by omega)
  refine ⟨?_, hrep.1, hrep.2⟩
  have hB : 4503599627370496 ≤ r := by
    rcases Nat.lt_or_ge r 4503599627370496 with c | c
    · exfalso
      have : V r = r := by unfold V; rw [if_pos c]
      have hH : 4503599627370496 ≤ H := by
        rw [H_K]; have := K_pos; omega
      rw [this] at hV
      have : H ≤ r := by rw [hV]; exact Nat.le_mul_of_pos_left _ (by omega)
      omega
    · exact c
  obtain ⟨k, hk⟩ : ∃ k, r / 4503599627370496 = k + 1 := ⟨r / 4503599627370496 - 1, by omega⟩
  have hmg : mg r = 4503599627370496 + r % 4503599627370496 := by unfold mg; rw [if_neg (by omega)]
  have hpl : pl r = -1074 + (k : Int) := by unfold pl; rw [if_neg (by omega), hk]; omega
  have hVk : V r = mg r * 2 ^ k := by rw [V_eq, hpl]; congr 2; omega
  have hk1 : 1 ≤ k := by
    rcases Nat.eq_zero_or_pos k with c | c
    · exfalso
      rw [c, Nat.pow_zero, Nat.mul_one] at hVk
      have h1 := mg_lt r
      have hH : 9007199254740992 ≤ H := by rw [H_K]; have := K_pos; omega
      have : H ≤ V r := by rw [hV]; exact Nat.le_mul_of_pos_left _ (by omega)
      omega
    · exact c
  have hmul := mul_W s false r 4602678819172646912 hr (by omega)
  unfold halfW
  rw [show W false 4602678819172646912 = 4602678819172646912 from rfl] at hmul
  rw [hmul, Option.getD_some]
  have hm2 : mg 4602678819172646912 = 4503599627370496 := by decide
  have hp2 : pl 4602678819172646912 = -53 := by decide
  rw [hm2, hp2, hpl, Bool.xor_false]
  rcases Nat.lt_or_ge k 53 with c | c
  · exfalso
    -- the place is at least that of a half
    have hk52 : 2 ^ k ≤ 2 ^ 52 := Nat.pow_le_pow_right (by omega) (by omega)
    have h1 := mg_lt r
    have h3 : V r < 9007199254740992 * 2 ^ 52 := by
      rw [hVk]
      calc mg r * 2 ^ k ≤ mg r * 2 ^ 52 := Nat.mul_le_mul_left _ hk52
        _ < 9007199254740992 * 2 ^ 52 := Nat.mul_lt_mul_of_pos_right (by omega) (Nat.two_pow_pos _)
    have h4 : H ≤ V r := by
      rw [hV]; exact Nat.le_mul_of_pos_left _ (by omega)
    have h5 : 9007199254740992 * 2 ^ 52 ≤ H := by
      rw [H_K]
      have : 2 ^ 52 ≤ K := Nat.pow_le_pow_right (by omega) (by omega)
      have := Nat.mul_le_mul_left 9007199254740992 this
      omega
    omega
  · rw [near _ _ _ (by omega)]
    refine congrArg (fun z => W s (R z)) ?_
    have e1 : (-1074 + (k : Int) + -53 + 1074).toNat = k - 53 := by omega
    rw [e1]
    have e2 : 2 ^ 53 * 2 ^ (k - 53) = 2 ^ k := by rw [← Nat.pow_add, show 53 + (k - 53) = k by omega]
    have e3 : (2 : Nat) ^ 53 = 2 * 4503599627370496 := by decide
    have e4 : 2 * (2 ^ 1072) = H := by unfold H; rw [Nat.mul_comm, ← Nat.pow_succ]
    have e5 : 2 * (mg r * 4503599627370496 * 2 ^ (k - 53)) = V r := by
      rw [hVk, ← e2, e3]
      rw [Nat.mul_assoc (mg r), ← Nat.mul_assoc 2 (mg r), Nat.mul_comm 2 (mg r), Nat.mul_assoc (mg r) 2, Nat.mul_assoc 2]
    have e6 : 2 * ((2 * (V r / U) + 1) * 2 ^ 1072) = V r := by
      rw [Nat.mul_left_comm, e4]; exact hV.symm
    exact Nat.eq_of_mul_eq_mul_left (by decide) (e5.trans e6.symm)
theorem way9_half (s : Bool) (r : Nat) (hr : r < 9218868437227405312) (hrm : V r % U = H) : wayW 9 s (W s r) = W s (NW (if V r / U % 2 = 0 then V r / U + 1 else V r / U)) := by
  have hne : V r % U ≠ 0 := by rw [hrm]; exact Nat.ne_of_gt H_pos
  have hq := q_lt r hne
  obtain ⟨h1, h2, h3⟩ := half_word s r hr hrm
  show (Ieee.double.add (intg .down (halfW (W s r))) (intg .up (halfW (W s r)))).getD 0 = _
  rw [h1]
  generalize V r / U = q at *
  obtain ⟨ρ, hρ⟩ : ∃ ρ, ρ = R ((2 * q + 1) * 2 ^ 1072) := ⟨_, rfl⟩
  rw [← hρ] at h2 h3 ⊢
  have eU : U = 4 * 2 ^ 1072 := by
    unfold U
    rw [show (4 : Nat) = 2 ^ 2 by decide, ← Nat.pow_add]
  have hp : 0 < 2 ^ 1072 := Nat.two_pow_pos _
  have d1 : V ρ / U = (2 * q + 1) / 4 := by rw [h2, eU, Nat.mul_div_mul_right _ _ hp]
  have d2 : V ρ % U ≠ 0 := by
    rw [h2, eU, Nat.mul_mod_mul_right]
    exact Nat.mul_ne_zero (by omega) (Nat.ne_of_gt hp)
  rw [floor_W s ρ h3 d2, ceil_W s ρ h3 d2]
  have n1 : lowN s ρ < 2 * 4503599627370496 := by unfold lowN; rw [d1]; split <;> omega
  have n2 : upN s ρ < 2 * 4503599627370496 := by unfold upN; rw [d1]; split <;> omega
  obtain ⟨v1, w1⟩ := NW_ok _ n1
  obtain ⟨v2, w2⟩ := NW_ok _ n2
  rw [add_W s s _ _ w1 w2, v1, v2, Option.getD_some]
  have hN : lowN s ρ + upN s ρ = if q % 2 = 0 then q + 1 else q := by
    unfold lowN upN
    rw [d1]
    cases s with
    | false => rw [if_neg (by decide), if_neg (by decide)]; split <;> omega
    | true => rw [if_pos rfl, if_pos rfl]; split <;> omega
  rw [← hN]
  have hpos : 0 < lowN s ρ + upN s ρ := by rw [hN]; split <;> omega
  have hT : sg s (lowN s ρ * U) + sg s (upN s ρ * U) = sg s ((lowN s ρ + upN s ρ) * U) := by
    rw [Nat.add_mul]
    unfold sg
    cases s <;> simp <;> omega
  rw [hT]
  have hU := U_pos
  have hTp : 0 < (lowN s ρ + upN s ρ) * U := Nat.mul_pos hpos hU
  unfold tot NW sg
  generalize (lowN s ρ + upN s ρ) * U = T at hTp ⊢
  cases s with
  | false =>
    simp only [Bool.false_eq_true, if_false]
    rw [if_neg (by omega), decide_eq_false (by omega), Int.natAbs_natCast]
  | true =>
    simp only [if_true]
    rw [if_neg (by omega), decide_eq_true (by omega), Int.natAbs_neg, Int.natAbs_natCast]
theorem way9_odd : wayW 9 true (W true oddR) = W true (NW 1) := by
  have e : NW 1 = 4607182418800017408 := one_V.2
  rw [e]
  decide +kernel
theorem more_even (s : Bool) (q r w : Nat) : more .even s q r w = if w < 2 * r ∨ (w = 2 * r ∧ q % 2 = 1) then 1 else 0 := rfl
theorem way8_half (s : Bool) (r : Nat) (hr : r < 9218868437227405312) (hrm : V r % U = H) : wayW 8 s (W s r) = W s (NW (if V r / U % 2 = 0 then V r / U else V r / U + 1)) := by
  show intg .even (W s r) = _
  rw [intg_W _ s r hr, more_even, hrm]
  have hU := U_eq
  have hH := H_pos
  unfold NW
  by_cases c : V r / U % 2 = 0
  · rw [if_neg (by omega), if_pos c]; rfl
  · rw [if_pos (.inr ⟨hU, by omega⟩), if_neg c]
theorem way8_low (s : Bool) (r : Nat) (hr : r < 9218868437227405312) (hrm : V r % U < H) : wayW 8 s (W s r) = W s (NW (V r / U)) := by
  show intg .even (W s r) = _
  rw [intg_W _ s r hr, more_even]
  have hU := U_eq
  unfold NW
  rw [if_neg (by omega)]
  rfl
/-- The program's number and the reference's: of one magnitude; of one sign, unless they are zeros. -/
theorem meet (m : Nat) (hm : m < 10) (s : Bool) (r : Nat) (hr : r < 9218868437227405312) (h : V r % U ≠ 0) : pickW m s r = W s (NW (specN m s r)) := by
  obtain ⟨c1, c2, c3⟩ := half_cmp s r hr h
  have hU := U_eq
  have hmod := Nat.mod_lt (V r) U_pos
  have w04 : ∀ k, k = 0 ∨ k = 4 → wayW k s (W s r) = W s (NW (lowN s r)) := fun k hk => by unfold wayW; rw [if_pos hk]; exact floor_W s r hr h
  have w15 : ∀ k, k = 1 ∨ k = 5 → wayW k s (W s r) = W s (NW (upN s r)) := fun k hk => by unfold wayW; rw [if_neg (by omega), if_pos hk]; exact ceil_W s r hr h
  have w26 : ∀ k, k = 2 ∨ k = 6 → wayW k s (W s r) = W s (NW (V r / U)) := fun k hk => by unfold wayW; rw [if_neg (by omega), if_neg (by omega), if_pos hk]; exact trunc_W s r hr
  have w37 : ∀ k, k = 3 ∨ k = 7 → wayW k s (W s r) = W s (NW (V r / U + 1)) := fun k hk => by
    unfold wayW
    rw [if_neg (by omega), if_neg (by omega), if_neg (by omega), if_pos hk]
    cases s with
    | true => rw [if_pos rfl, floor_W true r hr h]; rfl
    | false => rw [if_neg (by decide), ceil_W false r hr h]; rfl
  by_cases hm4 : 4 ≤ m
  · by_cases hh : V (R (diff s r)) = H
    · -- a tie, as floats see it
      have hhalf : halfOf s r = 0 := by unfold halfOf; rw [if_neg (by omega), if_neg (by omega)]
      have hpick : pickW m s r = wayW m s (W s r) := by unfold pickW; rw [if_neg (fun k => k.2 hh)]
      rw [hpick]
      unfold specN goesUp
      rw [hhalf]
      have hup : upperB m 0 (lowN s r % 2 == 0) s = if m = 4 then false else if m = 5 then true else if m = 6 then s else if m = 7 then !s else if m = 8 then !(lowN s r % 2 == 0) else (lowN s r % 2 == 0) := by
        unfold upperB
        rw [if_neg (by omega), if_neg (by omega), if_neg (by omega), if_neg (by omega), if_neg (by simp)]
      rw [hup]
      match m, hm, hm4 with
      | 4, _, _ => rw [w04 4 (.inr rfl)]; rfl
      | 5, _, _ => rw [w15 5 (.inr rfl)]; rfl
      | 6, _, _ =>
        rw [w26 6 (.inr rfl)]
        unfold upN lowN
        cases s <;> rfl
      | 7, _, _ =>
        rw [w37 7 (.inr rfl)]
        unfold upN lowN
        cases s <;> rfl
      | 8, _, _ =>
        rcases c3 hh with hD | ⟨hs, hodd⟩
        · have hrm : V r % U = H := by unfold diff at hD; split at hD <;> omega
          rw [way8_half s r hr hrm]
          unfold upN lowN
          generalize V r / U = q
          rcases Nat.mod_two_eq_zero_or_one q with k | k
          · cases s with
            | false => simp [k]
            | true =>
              have : (q + 1) % 2 = 1 := by omega
              simp [k, this]
          · cases s with
            | false => simp [k]
            | true =>
              have : (q + 1) % 2 = 0 := by omega
              simp [k, this]
        · subst hs
          subst hodd
          obtain ⟨o1, o2, o3⟩ := oddN
          rw [way8_low true oddR (by decide) (by rw [o2]; exact o3)]
          unfold upN lowN
          rw [o1]
          rfl
      | 9, _, _ =>
        rcases c3 hh with hD | ⟨hs, hodd⟩
        · have hrm : V r % U = H := by unfold diff at hD; split at hD <;> omega
          rw [way9_half s r hr hrm]
          unfold upN lowN
          generalize V r / U = q
          rcases Nat.mod_two_eq_zero_or_one q with k | k
          · cases s with
            | false => simp [k]
            | true =>
              have : (q + 1) % 2 = 1 := by omega
              simp [k, this]
          · cases s with
            | false => simp [k]
            | true =>
              have : (q + 1) % 2 = 0 := by omega
              simp [k, this]
        · subst hs
          subst hodd
          obtain ⟨o1, o2, o3⟩ := oddN
          rw [way9_odd]
          unfold upN lowN
          rw [o1]
          rfl
    · -- no tie
      have hpick : pickW m s r = W s (rndR r) := by unfold pickW; rw [if_pos ⟨hm4, hh⟩]
      rw [hpick, rnd_eq r hr h]
      unfold specN goesUp
      have hup : ∀ x : Int, x ≠ 0 → upperB m x (lowN s r % 2 == 0) s = decide (x > 0) := fun x hx => by
        unfold upperB
        rw [if_neg (by omega), if_neg (by omega), if_neg (by omega), if_neg (by omega), if_pos hx]
      rcases Nat.lt_or_ge (V (R (diff s r))) H with k | k
      · have hD := c1 k
        have hhalf : halfOf s r = -1 := by unfold halfOf; rw [if_pos k]
        rw [hhalf, hup (-1) (by decide), if_neg (show ¬ decide ((-1 : Int) > 0) = true by decide)]
        unfold diff at hD
        unfold lowN
        cases s with
        | false => simp only [Bool.false_eq_true, if_false] at hD ⊢; rw [if_neg (by omega)]; rfl
        | true => simp only [if_true] at hD ⊢; rw [if_pos (by omega)]
      · have hD := c2 (by omega)
        have hhalf : halfOf s r = 1 := by unfold halfOf; rw [if_neg (by omega), if_pos (by omega)]
        rw [hhalf, hup 1 (by decide), if_pos (show decide ((1 : Int) > 0) = true by decide)]
        unfold diff at hD
        unfold upN
        cases s with
        | false => simp only [Bool.false_eq_true, if_false] at hD ⊢; rw [if_pos (by omega)]
        | true => simp only [if_true] at hD ⊢; rw [if_neg (by omega)]; rfl
  · have hpick : pickW m s r = wayW m s (W s r) := by unfold pickW; rw [if_neg (fun k => hm4 k.1)]
    rw [hpick]
    unfold specN goesUp
    match m, hm with
    | 0, _ => rw [w04 0 (.inl rfl)]; rfl
    | 1, _ => rw [w15 1 (.inl rfl)]; rfl
    | 2, _ =>
      rw [w26 2 (.inl rfl)]
      have : upperB 2 (halfOf s r) (lowN s r % 2 == 0) s = s := rfl
      rw [this]
      unfold upN lowN
      cases s <;> rfl
    | 3, _ =>
      rw [w37 3 (.inl rfl)]
      have : upperB 3 (halfOf s r) (lowN s r % 2 == 0) s = !s := rfl
      rw [this]
      unfold upN lowN
      cases s <;> rfl
    | k + 4, _ => omega
end Go.Proofs.YtobdmcdbfpjpiaaDoor.Q
