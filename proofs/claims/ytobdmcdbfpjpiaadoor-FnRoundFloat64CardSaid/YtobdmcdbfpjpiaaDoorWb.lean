/- math's Abs, IsInf, IsNaN, Signbit, Round, walked. -/
import Derived.Test.YtobdmcdbfpjpiaaDoorWa
namespace Go.Proofs.YtobdmcdbfpjpiaaDoor.Q
open Go.RowKit Go.Proofs.YtobdmcdbfpjpiaaDoorW.PrintWords Go.Proofs.YtobdmcdbfpjpiaaDoorW.PrintLast Go.Proofs.YtobdmcdbfpjpiaaDoorW.PrintMore
set_option linter.unusedVariables false
set_option linter.unusedSimpArgs false
theorem b_and (a b : Nat) (ha : a < 18446744073709551616) (hb : b < 18446744073709551616) : bits .and .u64 (a : Int) (b : Int) = ((a &&& b : Nat) : Int) := by
  have hlt : a &&& b < 2 ^ 64 := Nat.and_lt_two_pow a hb
  have e : (BitVec.ofInt 64 (a : Int) &&& BitVec.ofInt 64 (b : Int)).toNat = a &&& b := by
    rw [BitVec.toNat_and, BitVec.ofInt_natCast, BitVec.ofInt_natCast, BitVec.toNat_ofNat, BitVec.toNat_ofNat, Nat.mod_eq_of_lt ha, Nat.mod_eq_of_lt hb]
  show IntKind.u64.wrap ((BitVec.ofInt 64 (a : Int) &&& BitVec.ofInt 64 (b : Int)).toNat : Int) = _
  rw [e, IntKind.wrap_u64]
  omega
theorem b_or (a b : Nat) (ha : a < 18446744073709551616) (hb : b < 18446744073709551616) : bits .or .u64 (a : Int) (b : Int) = ((a ||| b : Nat) : Int) := by
  have hlt : a ||| b < 2 ^ 64 := Nat.or_lt_two_pow ha hb
  have e : (BitVec.ofInt 64 (a : Int) ||| BitVec.ofInt 64 (b : Int)).toNat = a ||| b := by
    rw [BitVec.toNat_or, BitVec.ofInt_natCast, BitVec.ofInt_natCast, BitVec.toNat_ofNat, BitVec.toNat_ofNat, Nat.mod_eq_of_lt ha, Nat.mod_eq_of_lt hb]
  show IntKind.u64.wrap ((BitVec.ofInt 64 (a : Int) ||| BitVec.ofInt 64 (b : Int)).toNat : Int) = _
  rw [e, IntKind.wrap_u64]
  omega
theorem b_andNot (a b : Nat) (ha : a < 18446744073709551616) (hb : b < 18446744073709551616) : bits .andNot .u64 (a : Int) (b : Int) = ((a &&& (18446744073709551615 - b) : Nat) : Int) := by
  have hlt : a &&& (18446744073709551615 - b) < 2 ^ 64 := Nat.and_lt_two_pow a (by omega)
  have e : (BitVec.ofInt 64 (a : Int) &&& ~~~ (BitVec.ofInt 64 (b : Int))).toNat = a &&& (18446744073709551615 - b) := by
    rw [BitVec.toNat_and, BitVec.toNat_not, BitVec.ofInt_natCast, BitVec.ofInt_natCast, BitVec.toNat_ofNat, BitVec.toNat_ofNat, Nat.mod_eq_of_lt ha, Nat.mod_eq_of_lt hb]
  show IntKind.u64.wrap ((BitVec.ofInt 64 (a : Int) &&& ~~~ (BitVec.ofInt 64 (b : Int))).toNat : Int) = _
  rw [e, IntKind.wrap_u64]
  omega
theorem and_top (y k : Nat) (hk : k ≤ 64) (h : y < 2 ^ 64) : y &&& (2 ^ 64 - 2 ^ k) = y / 2 ^ k * 2 ^ k := by
  have e1 : 2 ^ 64 - 2 ^ k = (2 ^ (64 - k) - 1) <<< k := by
    rw [Nat.shiftLeft_eq, Nat.sub_mul, ← Nat.pow_add, show 64 - k + k = 64 by omega, Nat.one_mul]
  have e2 : y / 2 ^ k * 2 ^ k = (y >>> k) <<< k := by rw [Nat.shiftLeft_eq, Nat.shiftRight_eq_div_pow]
  rw [e1, e2]
  apply Nat.eq_of_testBit_eq
  intro i
  rw [Nat.testBit_and, Nat.testBit_shiftLeft, Nat.testBit_shiftLeft, Nat.testBit_two_pow_sub_one, Nat.testBit_shiftRight]
  by_cases c : k ≤ i
  · have e : k + (i - k) = i := by omega
    rw [e]
    by_cases c2 : i - k < 64 - k
    · simp [c, c2]
    · have : y.testBit i = false := Nat.testBit_lt_two_pow (Nat.lt_of_lt_of_le h (Nat.pow_le_pow_right (by decide) (by omega)))
      simp [this]
  · simp [c]
theorem W_lt (s : Bool) (r : Nat) (h : r < 9223372036854775808) : W s r < 18446744073709551616 := by unfold W; cases s <;> simp <;> omega
theorem w_low (s : Bool) (r : Nat) (h : r < 9223372036854775808) : bits .andNot .u64 ((W s r : Nat) : Int) 9223372036854775808 = (r : Int) := by
  have := b_andNot (W s r) 9223372036854775808 (W_lt s r h) (by omega)
  rw [show ((9223372036854775808 : Nat) : Int) = 9223372036854775808 from rfl] at this
  rw [this, show 18446744073709551615 - 9223372036854775808 = 2 ^ 63 - 1 by decide, Nat.and_two_pow_sub_one_eq_mod]
  unfold W
  cases s <;> simp <;> omega
theorem w_exp (s : Bool) (r : Nat) (h : r < 9223372036854775808) : bits .and .u64 ((W s r : Nat) / 4503599627370496 : Int) 2047 = ((r / 4503599627370496 : Nat) : Int) := by
  have hl := W_lt s r h
  have := b_and (W s r / 4503599627370496) 2047 (by omega) (by omega)
  rw [show (((W s r / 4503599627370496 : Nat)) : Int) = (W s r : Nat) / 4503599627370496 by simp, show ((2047 : Nat) : Int) = 2047 from rfl] at this
  rw [this, show (2047 : Nat) = 2 ^ 11 - 1 by decide, Nat.and_two_pow_sub_one_eq_mod]
  unfold W
  cases s <;> simp <;> omega
theorem w_sign (s : Bool) (r : Nat) (h : r < 9223372036854775808) : bits .and .u64 ((W s r : Nat) : Int) 9223372036854775808 = ((W s 0 : Nat) : Int) := by
  have := b_and (W s r) 9223372036854775808 (W_lt s r h) (by omega)
  rw [show ((9223372036854775808 : Nat) : Int) = 9223372036854775808 from rfl] at this
  rw [this]
  have e : W s r &&& 9223372036854775808 = W s 0 := by
    have h1 := and_top (W s r) 63 (by omega) (W_lt s r h)
    rw [show 2 ^ 64 - 2 ^ 63 = 9223372036854775808 by decide, show 2 ^ 63 = 9223372036854775808 by decide] at h1
    rw [h1]
    unfold W
    cases s <;> simp <;> omega
  rw [e]
set_option maxHeartbeats 1000000 in
set_option maxRecDepth 100000 in
theorem abs_calls (s : Bool) (r : Nat) (h : r < 9223372036854775808) (w : World) : Calls Tryd.prog 14 #[.float .f64 (W s r)] w fun e w' => e = .returned (.float .f64 r) ∧ w' = w := by
  have e5 := ext5
  have e6 := ext6
  have f := w_low s r h
  generalize W s r = x at f ⊢
  go_enter Tryd.func14, Tryd.ntmps14
  go_wp2
  go_ret
  exact ⟨rfl, rfl⟩
theorem w_one (s : Bool) : bits .or .u64 ((W s 0 : Nat) : Int) 4607182418800017408 = ((W s 4607182418800017408 : Nat) : Int) := by
  cases s <;> decide +kernel
theorem rnd_word (s : Bool) (r d : Nat) (h : r ≤ 9218868437227405312) (hd : d ≤ 51) (he : r / 4503599627370496 = 1023 + d) :
    bits .andNot .u64 (IntKind.u64.wrap (((W s r : Nat) : Int) + 2251799813685248 / 2 ^ d)) (4503599627370495 / 2 ^ d) = ((W s (rndR r) : Nat) : Int) := by
  obtain ⟨w, hw⟩ : ∃ w, w = 2 ^ (51 - d) := ⟨_, rfl⟩
  have hw0 : 0 < w := by rw [hw]; exact Nat.two_pow_pos _
  have hw2 : 2 ^ (52 - d) = 2 * w := by rw [hw, show 52 - d = (51 - d) + 1 by omega, Nat.pow_succ, Nat.mul_comm]
  have hdw : 2 ^ d * w = 2251799813685248 := by rw [hw, ← Nat.pow_add, show d + (51 - d) = 51 by omega]
  have hd0 : 0 < 2 ^ d := Nat.two_pow_pos _
  have i1 : (2251799813685248 : Int) / 2 ^ d = (w : Int) := by
    have : (2251799813685248 : Nat) / 2 ^ d = w := by rw [← hdw, Nat.mul_div_cancel_left _ hd0]
    rw [← this]
    simp
  have i2 : (4503599627370495 : Int) / 2 ^ d = ((2 * w - 1 : Nat) : Int) := by
    have : (4503599627370495 : Nat) / 2 ^ d = 2 * w - 1 := by
      have e : 4503599627370495 = 2 ^ d * (2 * w - 1) + (2 ^ d - 1) := by
        rw [Nat.mul_sub, Nat.mul_one, Nat.mul_left_comm, hdw]
        have : 2 ^ d ≤ 2 ^ 51 := Nat.pow_le_pow_right (by omega) hd
        have : 2 ^ 51 = 2251799813685248 := by decide
        omega
      rw [e, Nat.mul_add_div hd0, Nat.div_eq_of_lt (by omega), Nat.add_zero]
    rw [← this]
    simp
  have hwle : 2 * w ≤ 4503599627370496 := by rw [← hw2, pow_B]; exact Nat.pow_le_pow_right (by omega) (by omega)
  have hlt : W s r + w < 18446744073709551616 := by unfold W; cases s <;> simp <;> omega
  have i3 : IntKind.u64.wrap (((W s r : Nat) : Int) + (w : Int)) = ((W s r + w : Nat) : Int) := by rw [IntKind.wrap_u64]; omega
  rw [i1, i2, i3, b_andNot _ _ hlt (by omega)]
  congr 1
  have e2 : 18446744073709551615 - (2 * w - 1) = 2 ^ 64 - 2 ^ (52 - d) := by
    rw [hw2]
    have : 2 ^ 64 = 18446744073709551616 := by decide
    omega
  rw [e2, and_top _ _ (by omega) hlt, hw2]
  have hr : rndR r = (r + w) / (2 * w) * (2 * w) := by
    unfold rndR
    rw [he, if_neg (by omega), if_neg (by omega), if_pos (by omega), show 1023 + d - 1023 = d by omega, hw2, ← hw]
  rw [hr]
  have hdvd : 9223372036854775808 = 2 ^ (d + 11) * (2 * w) := by rw [← hw2, ← Nat.pow_add, show d + 11 + (52 - d) = 63 by omega]
  unfold W
  cases s with
  | false => rfl
  | true =>
    rw [if_pos rfl, if_pos rfl, hdvd, Nat.add_assoc, Nat.add_comm (2 ^ (d + 11) * (2 * w)), Nat.add_mul_div_right _ _ (by omega), Nat.add_mul]
    omega
set_option maxHeartbeats 2000000 in
set_option maxRecDepth 100000 in
theorem round_calls (s : Bool) (r : Nat) (h : r ≤ 9218868437227405312) (w : World) : Calls Tryd.prog 40 #[.float .f64 (W s r)] w fun e w' => e = .returned (.float .f64 (W s (rndR r))) ∧ w' = w := by
  have e5 := ext5
  have e6 := ext6
  have f0 := w_exp s r (by omega)
  have f1 := w_sign s r (by omega)
  have f2 := w_one s
  have hrd := rnd_word s r
  obtain ⟨e, he⟩ : ∃ e, e = r / 4503599627370496 := ⟨_, rfl⟩
  rw [← he] at f0
  by_cases c1 : e < 1022
  · have hres : W s (rndR r) = W s 0 := by unfold rndR; rw [← he, if_pos c1]
    rw [hres]
    have g1 : decide ((e : Int) < 1023) = true := decide_eq_true (by omega)
    have g2 : ((e : Int) == 1022) = false := by rw [beq_eq_false_iff_ne]; omega
    clear hrd hres he c1 h
    generalize W s r = x at *
    go_enter Tryd.func40, Tryd.ntmps40
    go_wp2
    go_ret
    exact ⟨rfl, rfl⟩
  · by_cases c2 : e = 1022
    · have hres : W s (rndR r) = W s 4607182418800017408 := by unfold rndR; rw [← he, if_neg c1, if_pos c2]
      rw [hres]
      subst c2
      clear hrd hres he c1 h
      generalize W s r = x at *
      go_enter Tryd.func40, Tryd.ntmps40
      go_wp2
      go_ret
      exact ⟨rfl, rfl⟩
    · by_cases c3 : e < 1075
      · obtain ⟨d, rfl⟩ : ∃ d, e = 1023 + d := ⟨e - 1023, by omega⟩
        have f3 := hrd d h (by omega) he.symm
        have g1 : decide (((1023 + d : Nat) : Int) < 1023) = false := decide_eq_false (by omega)
        have g2 : decide (((1023 + d : Nat) : Int) < 1075) = true := decide_eq_true (by omega)
        clear hrd he c1 c2 h f1 f2
        generalize W s (rndR r) = y at *
        generalize W s r = x at *
        go_enter Tryd.func40, Tryd.ntmps40
        go_wp2
        go_ret
        exact ⟨rfl, rfl⟩
      · have hres : W s (rndR r) = W s r := by unfold rndR; rw [← he, if_neg c1, if_neg c2, if_neg c3]
        rw [hres]
        have g1 : decide ((e : Int) < 1023) = false := decide_eq_false (by omega)
        have g2 : decide ((e : Int) < 1075) = false := decide_eq_false (by omega)
        clear hrd hres he c1 c2 c3 h f1 f2
        generalize W s r = x at *
        go_enter Tryd.func40, Tryd.ntmps40
        go_wp2
        go_ret
        exact ⟨rfl, rfl⟩
theorem order_inf_top : Ieee.double.order (W false 9218868437227405312) 9218868437227405311 = some .gt := by decide
theorem read_nan (s : Bool) (r : Nat) (h : 9218868437227405312 < r) (h2 : r < 9223372036854775808) : Ieee.double.read (W s r) = .nan s (r - 9218868437227405312) := by
  have e1 : (W s r / 9223372036854775808 % 2 == 1) = s := by unfold W; cases s <;> simp <;> omega
  have e2 : W s r % 9223372036854775808 = r := by unfold W; cases s <;> simp <;> omega
  unfold Ieee.Format.read
  simp only [sgw, bin, infr, lp, e1, e2]
  rw [if_neg (by omega), if_neg (by omega), if_neg (by omega)]
theorem order_top (r : Nat) (h : r < 9223372036854775808) : (Ieee.double.order r 9218868437227405311 == some .gt) = (r == 9218868437227405312) := by
  rcases Nat.lt_trichotomy r 9218868437227405312 with c | c | c
  · have := order_W false false r 9218868437227405311 c (by omega)
    have hw : W false r = r := rfl
    have hw2 : W false 9218868437227405311 = 9218868437227405311 := rfl
    rw [hw, hw2] at this
    rw [this]
    have hle := V_mono (show 9218868437227405311 < 9218868437227405312 by omega) (show r ≤ 9218868437227405311 by omega)
    have hne : (r == 9218868437227405312) = false := by rw [beq_eq_false_iff_ne]; omega
    rw [hne]
    have s1 : sg false (V r) = (V r : Int) := rfl
    have s2 : sg false (V 9218868437227405311) = (V 9218868437227405311 : Int) := rfl
    rw [s1, s2]
    generalize V 9218868437227405311 = a at hle ⊢
    generalize V r = b at hle ⊢
    rcases Nat.lt_or_ge b a with k | k
    · rw [compare_lt_aux (by omega)]; rfl
    · have : b = a := by omega
      subst this
      rw [compare_eq_aux]; rfl
  · subst c
    rw [show (9218868437227405312 : Nat) = W false 9218868437227405312 from rfl, order_inf_top]
    rfl
  · have hr := read_nan false r c h
    have hw : W false r = r := rfl
    rw [hw] at hr
    unfold Ieee.Format.order
    rw [hr]
    have hne : (r == 9218868437227405312) = false := by rw [beq_eq_false_iff_ne]; omega
    rw [hne]
    rfl
set_option maxHeartbeats 1000000 in
set_option maxRecDepth 100000 in
theorem isinf_calls (s : Bool) (r : Nat) (h : r < 9223372036854775808) (w : World) : Calls Tryd.prog 7 #[.float .f64 (W s r), .int .i64 0] w fun e w' => e = .returned (.bool (r == 9218868437227405312)) ∧ w' = w := by
  have HA := Aside0.mk (abs_calls s r h w)
  have ho : (FloatKind.f64.format.order r 9218868437227405311 == some .gt) = (r == 9218868437227405312) := order_top r h
  generalize (r == 9218868437227405312) = b at ho ⊢
  generalize W s r = x at *
  clear h
  go_enter Tryd.func7, Tryd.ntmps7
  go_wp2_with (go_at_call 14; refine HA.out.mono ?_; rintro e w1 ⟨rfl, hw1⟩; subst w1)
  go_ret
  exact ⟨by first | rfl | simp [*], rfl⟩
theorem order_self (s : Bool) (r : Nat) (h : r < 9223372036854775808) : (Ieee.double.order (W s r) (W s r) != some .eq) = decide (9218868437227405312 < r) := by
  rcases Nat.lt_trichotomy r 9218868437227405312 with c | c | c
  · rw [order_W s s r r c c, compare_eq_aux, decide_eq_false (by omega)]; rfl
  · subst c
    cases s <;> decide
  · unfold Ieee.Format.order
    rw [read_nan s r c h, decide_eq_true c]
    rfl
set_option maxHeartbeats 1000000 in
set_option maxRecDepth 100000 in
theorem isnan_calls (s : Bool) (r : Nat) (h : r < 9223372036854775808) (w : World) : Calls Tryd.prog 8 #[.float .f64 (W s r)] w fun e w' => e = .returned (.bool (decide (9218868437227405312 < r))) ∧ w' = w := by
  have ho : (FloatKind.f64.format.order (W s r) (W s r) != some .eq) = decide (9218868437227405312 < r) := order_self s r h
  generalize decide (9218868437227405312 < r) = b at ho ⊢
  generalize W s r = x at *
  clear h
  go_enter Tryd.func8, Tryd.ntmps8
  go_wp2
  go_ret
  exact ⟨by first | rfl | simp [*], rfl⟩
set_option maxHeartbeats 1000000 in
set_option maxRecDepth 100000 in
theorem signbit_calls (s : Bool) (r : Nat) (h : r < 9223372036854775808) (w : World) : Calls Tryd.prog 32 #[.float .f64 (W s r)] w fun e w' => e = .returned (.bool s) ∧ w' = w := by
  have e5 := ext5
  have hd : decide (wrap64 ((W s r : Nat) : Int) < 0) = s := by
    unfold W wrap64
    cases s
    · exact decide_eq_false (by simp; omega)
    · exact decide_eq_true (by simp; omega)
  generalize W s r = x at *
  clear h
  go_enter Tryd.func32, Tryd.ntmps32
  go_wp2
  go_ret
  exact ⟨by first | rfl | simp [*], rfl⟩
end Go.Proofs.YtobdmcdbfpjpiaaDoor.Q
