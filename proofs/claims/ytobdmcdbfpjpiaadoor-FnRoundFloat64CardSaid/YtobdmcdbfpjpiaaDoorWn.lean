/- math.normalize, Frexp, Ldexp. -/
import Derived.Test.YtobdmcdbfpjpiaaDoorWm
namespace Go.Proofs.YtobdmcdbfpjpiaaDoor.Q
open Go.RowKit Go.Proofs.YtobdmcdbfpjpiaaDoorW.PrintWords Go.Proofs.YtobdmcdbfpjpiaaDoorW.PrintLast Go.Proofs.YtobdmcdbfpjpiaaDoorW.PrintMore
set_option linter.unusedVariables false
set_option linter.unusedSimpArgs false
theorem abs_pos (r : Nat) (h : r < 9223372036854775808) (w : World) : Calls Tryd.prog 14 #[.float .f64 r] w fun e w' => e = .returned (.float .f64 r) ∧ w' = w := by
  have := abs_calls false r h w
  rwa [W_f] at this
theorem inf_pos (r : Nat) (h : r < 9218868437227405312) (w : World) : Calls Tryd.prog 7 #[.float .f64 r, .int .i64 0] w fun e w' => e = .returned (.bool false) ∧ w' = w := by
  have := isinf_calls false r (by omega) w
  rwa [W_f, show (r == 9218868437227405312) = false by rw [beq_eq_false_iff_ne]; omega] at this
theorem nan_pos (r : Nat) (h : r < 9218868437227405312) (w : World) : Calls Tryd.prog 8 #[.float .f64 r] w fun e w' => e = .returned (.bool false) ∧ w' = w := by
  have := isnan_calls false r (by omega) w
  rwa [W_f, decide_eq_false (by omega)] at this
theorem zero_ne (s : Bool) (r : Nat) (h1 : r < 9218868437227405312) (h0 : r ≠ 0) : (FloatKind.f64.format.order (W s r) 0 == some .eq) = false := by
  have := o_eq s false r 0 h1 (by omega)
  rw [W_f] at this
  rw [this, V_zero]
  have hv := V_pos h1 h0
  refine decide_eq_false ?_
  unfold sg
  cases s <;> simp <;> omega
set_option maxHeartbeats 1000000 in
set_option maxRecDepth 100000 in
theorem normalize_calls (r : Nat) (h0 : 4503599627370496 ≤ r) (h1 : r < 9218868437227405312) (w : World) : Calls Tryd.prog 54 #[.float .f64 r] w fun e w' => e = .returned (.tuple #[.float .f64 r, .int .i64 0]) ∧ w' = w := by
  have HA := Aside0.mk (abs_pos r (by omega) w)
  have ho := o_lt false false r 4503599627370496 h1 (by omega)
  have hv := V_mono h1 h0
  rw [W_f, W_f, decide_eq_false (by unfold sg; simp; omega)] at ho
  clear h0 h1 hv
  go_enter Tryd.func54, Tryd.ntmps54
  go_wp2_with (go_at_call 14; refine HA.out.mono ?_; rintro e w1 ⟨rfl, hw1⟩; subst w1)
  go_ret2
  exact ⟨rfl, rfl⟩
theorem half_or (r : Nat) (h : r < 9223372036854775808) : bits .or .u64 (((r % 4503599627370496 : Nat)) : Int) 4602678819172646912 = ((1022 * 4503599627370496 + r % 4503599627370496 : Nat) : Int) := by
  have := b_or (r % 4503599627370496) 4602678819172646912 (by omega) (by omega)
  rw [show ((4602678819172646912 : Nat) : Int) = 4602678819172646912 from rfl] at this
  rw [this]
  congr 1
  have k2 : (2 : Nat) ^ 52 = 4503599627370496 := by decide
  have h2 := Nat.two_pow_add_eq_or_of_lt (show r % 4503599627370496 < 2 ^ 52 by omega) 1022
  rw [k2] at h2
  rw [Nat.or_comm, show (4602678819172646912 : Nat) = 4503599627370496 * 1022 by decide, ← h2, Nat.mul_comm]
theorem w_clear (r : Nat) (h : r < 9218868437227405312) : bits .andNot .u64 ((r : Nat) : Int) 9218868437227405312 = ((r % 4503599627370496 : Nat) : Int) := by
  have := b_andNot r 9218868437227405312 (by omega) (by omega)
  rw [show ((9218868437227405312 : Nat) : Int) = 9218868437227405312 from rfl] at this
  rw [this]
  congr 1
  have e : 18446744073709551615 - 9218868437227405312 = (2 ^ 52 - 1) + 2 ^ 63 := by decide
  rw [e]
  have h1 : r = r % 2 ^ 63 := (Nat.mod_eq_of_lt (by omega)).symm
  apply Nat.eq_of_testBit_eq
  intro i
  rw [Nat.testBit_and, show 4503599627370496 = 2 ^ 52 by decide, Nat.testBit_mod_two_pow]
  rcases Nat.lt_or_ge i 63 with c | c
  · have e2 : (2 ^ 52 - 1 + 2 ^ 63).testBit i = decide (i < 52) := by
      rw [Nat.add_comm, Nat.testBit_two_pow_add_gt c, Nat.testBit_two_pow_sub_one]
    rw [e2, Bool.and_comm]
  · have : r.testBit i = false := Nat.testBit_lt_two_pow (Nat.lt_of_lt_of_le (show r < 2 ^ 63 by omega) (Nat.pow_le_pow_right (by omega) c))
    rw [this]; simp
theorem p_exp (r : Nat) (h : r < 9223372036854775808) : bits .and .u64 (((r : Nat) : Int) / 4503599627370496) 2047 = ((r / 4503599627370496 : Nat) : Int) := by
  have := w_exp false r h
  rwa [W_f] at this
set_option maxHeartbeats 2000000 in
set_option maxRecDepth 100000 in
theorem frexp_calls (r : Nat) (h0 : 4503599627370496 ≤ r) (h1 : r < 9218868437227405312) (w : World) : Calls Tryd.prog 51 #[.float .f64 r] w fun e w' => e = .returned (.tuple #[.float .f64 (1022 * 4503599627370496 + r % 4503599627370496), .int .i64 ((r / 4503599627370496 : Nat) - 1022 : Int)]) ∧ w' = w := by
  have e5 := ext5
  have e6 := ext6
  have HN := Aside0.mk (normalize_calls r h0 h1 w)
  have HI := Aside0.mk (inf_pos r h1 w)
  have z1 := zero_ne false r h1 (by omega)
  have HM := Aside0.mk (nan_pos r h1 w)
  have f1 := p_exp r (by omega)
  have f2 := half_or r (by omega)
  have f3 := w_clear r h1
  rw [W_f] at z1
  obtain ⟨q, hq⟩ : ∃ q, q = r / 4503599627370496 := ⟨_, rfl⟩
  rw [← hq] at f1 ⊢
  have hq2 : q < 2047 := by omega
  have w1 : IntKind.i64.wrap (q : Int) = (q : Int) := by rw [IntKind.wrap_i64]; omega
  have w2 : IntKind.i64.wrap ((q : Int) - 1023) = (q : Int) - 1023 := by rw [IntKind.wrap_i64]; omega
  have w3 : IntKind.i64.wrap ((q : Int) - 1023 + 1) = (q : Int) - 1022 := by rw [IntKind.wrap_i64]; omega
  have w4 : wrap64 ((q : Int) - 1022) = (q : Int) - 1022 := by unfold wrap64; omega
  generalize 1022 * 4503599627370496 + r % 4503599627370496 = fr at *
  generalize r % 4503599627370496 = lo at *
  clear h0 h1 hq hq2
  go_enter Tryd.func51, Tryd.ntmps51
  go_wp2_with (first | (go_at_call 54; refine HN.out.mono ?_; rintro e w1 ⟨rfl, hw1⟩; subst w1) | (go_at_call 7; refine HI.out.mono ?_; rintro e w1 ⟨rfl, hw1⟩; subst w1) | (go_at_call 8; refine HM.out.mono ?_; rintro e w1 ⟨rfl, hw1⟩; subst w1))
  go_ret2
  exact ⟨congrArg (fun z => Ending.returned (.tuple #[.float .f64 fr, .int .i64 z])) w4, rfl⟩
set_option maxHeartbeats 1000000 in
set_option maxRecDepth 100000 in
theorem Frexp_calls (r : Nat) (h0 : 4503599627370496 ≤ r) (h1 : r < 9218868437227405312) (w : World) : Calls Tryd.prog 43 #[.float .f64 r] w fun e w' => e = .returned (.tuple #[.float .f64 (1022 * 4503599627370496 + r % 4503599627370496), .int .i64 ((r / 4503599627370496 : Nat) - 1022 : Int)]) ∧ w' = w := by
  have HN := Aside0.mk (frexp_calls r h0 h1 w)
  generalize 1022 * 4503599627370496 + r % 4503599627370496 = fr at *
  generalize ((r / 4503599627370496 : Nat) - 1022 : Int) = q at *
  clear h0 h1
  go_enter Tryd.func43, Tryd.ntmps43
  go_wp2_with (go_at_call 51; refine HN.out.mono ?_; rintro e w1 ⟨rfl, hw1⟩; subst w1)
  go_ret2
  exact ⟨rfl, rfl⟩
theorem two_word (e : Nat) (h : e ≤ 51) : bits .or .u64 0 (IntKind.u64.wrap (((e : Int) + 1024) * 4503599627370496)) = (((1024 + e) * 4503599627370496 : Nat) : Int) := by
  have e1 : IntKind.u64.wrap (((e : Int) + 1024) * 4503599627370496) = (((1024 + e) * 4503599627370496 : Nat) : Int) := by rw [IntKind.wrap_u64]; omega
  have := b_or 0 ((1024 + e) * 4503599627370496) (by omega) (by omega)
  rw [Nat.zero_or] at this
  rw [e1]
  exact this
theorem one_two (e : Nat) (h : e ≤ 51) : Ieee.double.mul 4607182418800017408 ((1024 + e) * 4503599627370496) = some ((1024 + e) * 4503599627370496) := by
  refine one_mul_W _ (by omega) ?_
  unfold pl
  rw [if_neg (by omega)]
  omega
set_option maxHeartbeats 2000000 in
set_option maxRecDepth 100000 in
/-- Two times a power of two. -/
theorem ldexp_calls (e : Nat) (h : e ≤ 51) (w : World) : Calls Tryd.prog 53 #[.float .f64 4611686018427387904, .int .i64 (e : Int)] w fun x w' => x = .returned (.float .f64 ((1024 + e) * 4503599627370496)) ∧ w' = w := by
  have e5 := ext5
  have e6 := ext6
  have HN := Aside0.mk (normalize_calls 4611686018427387904 (by omega) (by omega) w)
  have HI := Aside0.mk (inf_pos 4611686018427387904 (by omega) w)
  have HM := Aside0.mk (nan_pos 4611686018427387904 (by omega) w)
  have z1 : (FloatKind.f64.format.order 4611686018427387904 0 == some .eq) = false := by decide
  have hm := fun (t : TypeId) (W : World) => run_float_arith (P := Tryd.prog) W .mul t .f64 _ _ _ (one_two e h)
  have f1 := two_word e h
  have b1 : bits .and .i64 1024 2047 = 1024 := by decide
  have b2 : bits .andNot .u64 4611686018427387904 9218868437227405312 = 0 := by decide
  have w2 : IntKind.i64.wrap (e : Int) = (e : Int) := by rw [IntKind.wrap_i64]; omega
  have w3 : IntKind.i64.wrap ((e : Int) + 1) = (e : Int) + 1 := by rw [IntKind.wrap_i64]; omega
  have w4 : IntKind.i64.wrap ((e : Int) + 1 + 1023) = (e : Int) + 1024 := by rw [IntKind.wrap_i64]; omega
  have w5 : IntKind.i64.wrap 1 = 1 := by decide
  have g1 : decide ((e : Int) + 1 < -1075) = false := decide_eq_false (by omega)
  have g2 : decide ((e : Int) + 1 > 1023) = false := decide_eq_false (by omega)
  have g3 : decide ((e : Int) + 1 < -1022) = false := decide_eq_false (by omega)
  have u1 : IntKind.u64.wrap ((e : Int) + 1024) = (e : Int) + 1024 := by rw [IntKind.wrap_u64]; omega
  generalize (1024 + e) * 4503599627370496 = y at *
  clear h
  go_enter Tryd.func53, Tryd.ntmps53
  go_wp2_with (first | (go_at_call 54; refine HN.out.mono ?_; rintro e w1 ⟨rfl, hw1⟩; subst w1) | (go_at_call 7; refine HI.out.mono ?_; rintro e w1 ⟨rfl, hw1⟩; subst w1) | (go_at_call 8; refine HM.out.mono ?_; rintro e w1 ⟨rfl, hw1⟩; subst w1))
  go_ret
  exact ⟨rfl, rfl⟩
set_option maxHeartbeats 1000000 in
set_option maxRecDepth 100000 in
theorem Ldexp_calls (e : Nat) (h : e ≤ 51) (w : World) : Calls Tryd.prog 44 #[.float .f64 4611686018427387904, .int .i64 (e : Int)] w fun x w' => x = .returned (.float .f64 ((1024 + e) * 4503599627370496)) ∧ w' = w := by
  have HN := Aside0.mk (ldexp_calls e h w)
  generalize (1024 + e) * 4503599627370496 = y at *
  clear h
  go_enter Tryd.func44, Tryd.ntmps44
  go_wp2_with (go_at_call 53; refine HN.out.mono ?_; rintro e w1 ⟨rfl, hw1⟩; subst w1)
  go_ret
  exact ⟨rfl, rfl⟩
end Go.Proofs.YtobdmcdbfpjpiaaDoor.Q
