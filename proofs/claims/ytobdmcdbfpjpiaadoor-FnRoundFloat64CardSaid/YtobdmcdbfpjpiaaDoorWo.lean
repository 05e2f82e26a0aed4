/- math.Mod by two. -/
import Derived.Test.YtobdmcdbfpjpiaaDoorWn
namespace Go.Proofs.YtobdmcdbfpjpiaaDoor.Q
open Go.RowKit Go.Proofs.YtobdmcdbfpjpiaaDoorW.PrintWords Go.Proofs.YtobdmcdbfpjpiaaDoorW.PrintLast Go.Proofs.YtobdmcdbfpjpiaaDoorW.PrintMore
set_option linter.unusedVariables false
set_option linter.unusedSimpArgs false
theorem NW_top (n e : Nat) (he : e ≤ 52) (h1 : 2 ^ e ≤ n) (h2 : n < 2 ^ (e + 1)) : NW n / 4503599627370496 = 1023 + e := by
  rw [NW_form n e he h1 (Nat.le_of_lt h2)]
  have eB : 2 ^ e * 2 ^ (52 - e) = 4503599627370496 := pow_two_B _ _ (by omega)
  have hp : 0 < 2 ^ (52 - e) := Nat.two_pow_pos _
  have a1 : 4503599627370496 ≤ n * 2 ^ (52 - e) := by rw [← eB]; exact Nat.mul_le_mul_right _ h1
  have a2 : n * 2 ^ (52 - e) < 2 * 4503599627370496 := by
    have := Nat.mul_lt_mul_of_pos_right h2 hp
    rw [Nat.pow_succ, Nat.mul_comm (2 ^ e) 2, Nat.mul_assoc, eB] at this
    exact this
  generalize n * 2 ^ (52 - e) = z at a1 a2
  omega
theorem NW_two (e : Nat) (he : e ≤ 52) : NW (2 ^ e) = (1023 + e) * 4503599627370496 := by
  rw [NW_form (2 ^ e) e he (Nat.le_refl _) (Nat.pow_le_pow_right (by omega) (by omega)), pow_two_B _ _ (by omega)]
  omega
theorem NW_sub (a b : Nat) (ha : a < 2 * 4503599627370496) (h : b ≤ a) : Ieee.double.sub (NW a) (NW b) = some (NW (a - b)) := by
  obtain ⟨v1, w1⟩ := NW_ok a ha
  obtain ⟨v2, w2⟩ := NW_ok b (by omega)
  have hs := sub_W false false (NW a) (NW b) w1 w2
  rw [W_f, W_f, v1, v2] at hs
  rw [hs]
  refine congrArg some ?_
  have e : sg false (a * U) - sg false (b * U) = (((a - b) * U : Nat) : Int) := by
    unfold sg
    have := Nat.mul_le_mul_right U h
    rw [Nat.sub_mul]
    simp
    omega
  rw [e]
  unfold tot NW
  generalize (a - b) * U = T
  rw [Int.natAbs_natCast, decide_eq_false (by omega)]
  cases T <;> exact W_f _
theorem two_NW : NW 2 = 4611686018427387904 := NW_two 1 (by omega)
/-- What stands of a rung that is at least two. -/
theorem mod_step (n : Nat) (h2 : 2 ≤ n) (hn : n < 2 * 4503599627370496) : ∃ e, e ≤ 51 ∧ NW n / 4503599627370496 = 1024 + e ∧ Ieee.double.sub (NW n) ((1024 + e) * 4503599627370496) = some (NW (n - 2 ^ (e + 1))) ∧ 2 ^ (e + 1) ≤ n ∧ (n - 2 ^ (e + 1)) % 2 = n % 2 ∧ 4503599627370496 ≤ NW n := by
  have hl := Nat.log2_self_le (show n ≠ 0 by omega)
  have hg : n < 2 ^ (n.log2 + 1) := Nat.lt_log2_self
  have hle : n.log2 ≤ 52 := by
    have : n < 2 ^ 53 := by have k : (2 : Nat) ^ 53 = 2 * 4503599627370496 := by decide
                            omega
    have := (Nat.log2_lt (show n ≠ 0 by omega)).2 this
    omega
  have h1 : 1 ≤ n.log2 := by
    rcases Nat.eq_zero_or_pos n.log2 with c | c
    · rw [c] at hg
      have : n < 2 := hg
      omega
    · exact c
  obtain ⟨e, he⟩ : ∃ e, n.log2 = e + 1 := ⟨n.log2 - 1, by omega⟩
  rw [he] at hl hg hle
  have ht := NW_top n (e + 1) hle hl hg
  refine ⟨e, by omega, by omega, ?_, hl, ?_, by omega⟩
  · have := NW_sub n (2 ^ (e + 1)) hn hl
    rwa [NW_two (e + 1) hle, show 1023 + (e + 1) = 1024 + e by omega] at this
  · rw [Nat.pow_succ] at hl ⊢
    omega
theorem lt_zero (s : Bool) (n : Nat) (h : n < 2 * 4503599627370496) (h0 : 0 < n) : (FloatKind.f64.format.order (W s (NW n)) 0 == some .lt) = s := by
  obtain ⟨v1, w1⟩ := NW_ok n h
  have := o_lt s false (NW n) 0 w1 (by omega)
  rw [W_f] at this
  rw [this, v1, V_zero]
  have hp : 0 < n * U := Nat.mul_pos h0 U_pos
  unfold sg
  cases s
  · exact decide_eq_false (by simp only [Bool.false_eq_true, if_false]; omega)
  · exact decide_eq_true (by simp only [if_true]; omega)
theorem ge_two (n : Nat) (h : n < 2 * 4503599627370496) : (FloatKind.f64.format.order (NW n) 4611686018427387904 == some .gt || FloatKind.f64.format.order (NW n) 4611686018427387904 == some .eq) = decide (2 ≤ n) := by
  obtain ⟨v1, w1⟩ := NW_ok n h
  obtain ⟨v2, w2⟩ := NW_ok 2 (by omega)
  have h1 := o_gt false false (NW n) (NW 2) w1 w2
  have h2 := o_eq false false (NW n) (NW 2) w1 w2
  rw [W_f, W_f, v1, v2] at h1 h2
  rw [two_NW] at h1 h2
  rw [h1, h2]
  unfold sg
  simp only [Bool.false_eq_true, if_false]
  have hU := U_pos
  rcases Nat.lt_trichotomy n 2 with c | c | c
  · have k := Nat.mul_lt_mul_of_pos_right c hU
    rw [decide_eq_false (by omega), decide_eq_false (by omega), decide_eq_false (by omega)]; rfl
  · subst c; simp
  · have k := Nat.mul_lt_mul_of_pos_right c hU
    rw [decide_eq_true (by omega), decide_eq_true (show 2 ≤ n by omega)]; rfl
theorem fr_ge (r : Nat) : (FloatKind.f64.format.order (1022 * 4503599627370496 + r % 4503599627370496) 4602678819172646912 == some .lt) = false := by
  have hl : 1022 * 4503599627370496 + r % 4503599627370496 < 9218868437227405312 := by omega
  have := o_lt false false _ 4602678819172646912 hl (by omega)
  rw [W_f, W_f] at this
  rw [this]
  have hv := V_mono hl (show 4602678819172646912 ≤ 1022 * 4503599627370496 + r % 4503599627370496 by omega)
  unfold sg
  exact decide_eq_false (by simp; omega)
theorem Frexp_two (w : World) : Calls Tryd.prog 43 #[.float .f64 4611686018427387904] w fun e w' => e = .returned (.tuple #[.float .f64 4602678819172646912, .int .i64 2]) ∧ w' = w :=
  Frexp_calls 4611686018427387904 (by omega) (by omega) w
theorem neg_run (x y : Nat) (h : Op.negFloat .f64 x = y) (W' : World) : (Op.unary .neg (.float .f64 x)).run Tryd.prog W' = .ok (.float .f64 y) W' := by subst h; rfl
/-- A whole number's rest by two. -/
def modW (s : Bool) (n : Nat) : Nat := W s (NW (n % 2))
set_option maxHeartbeats 400000 in
set_option maxRecDepth 100000 in
theorem mod_pos (n : Nat) (h0 : 0 < n) (hn : n < 2 * 4503599627370496) (w : World) : Calls Tryd.prog 23 #[.float .f64 (NW n), .float .f64 4611686018427387904] w fun x w' => x = .returned (.float .f64 (modW false n)) ∧ w' = w := by
  obtain ⟨v1, w1⟩ := NW_ok n hn
  have HI := Aside0.mk (inf_pos (NW n) w1 w)
  have HM1 := Aside0.mk (nan_pos (NW n) w1 w)
  have HM2 := Aside0.mk (nan_pos 4611686018427387904 (by omega) w)
  have HA := Aside0.mk (abs_pos 4611686018427387904 (by omega) w)
  have HF := Aside0.mk (Frexp_two w)
  have HG := Aside0.mk (fun r h0 h1 => Frexp_calls r h0 h1 w)
  have HL := Aside0.mk (fun e he => Ldexp_calls e he w)
  have z1 : (FloatKind.f64.format.order 4611686018427387904 0 == some .eq) = false := by decide
  have c1 := lt_zero false n hn h0
  rw [W_f] at c1
  have HN := Aside0.mk (And.intro hn w1)
  have hx : ∃ x, x = NW n := ⟨_, rfl⟩
  obtain ⟨x, hx⟩ := hx
  rw [← hx] at HI HM1 c1 HN ⊢
  have HX := Aside0.mk hx
  clear v1 w1 hn h0 hx
  go_enter Tryd.func23, Tryd.ntmps23
  go_wp2_with (first | (go_at_call 7; refine HI.out.mono ?_; rintro e w1 ⟨rfl, hw1⟩; subst w1) | (go_at_call 8; (first | refine HM1.out.mono ?_ | refine HM2.out.mono ?_); rintro e w1 ⟨rfl, hw1⟩; subst w1) | (go_at_call 14; refine HA.out.mono ?_; rintro e w1 ⟨rfl, hw1⟩; subst w1) | (go_at_call 43; refine HF.out.mono ?_; rintro e w1 ⟨rfl, hw1⟩; subst w1))
  go_loopg [7] n (fun k p wr => ∃ i : Nat, p = .float .f64 (NW i) ∧ i ≤ k ∧ i % 2 = n % 2 ∧ i ≤ n ∧ wr = w)
  case atStart => exact ⟨n, by rw [HX.out], Nat.le_refl _, rfl, Nat.le_refl _, rfl⟩
  case round =>
    obtain ⟨i, rfl, hk, hm, hin, rfl⟩ := hrel
    have hn := HN.out.1
    by_cases c : 2 ≤ i
    · have cb := ge_two i (by omega)
      rw [decide_eq_true c] at cb
      obtain ⟨e, m1, m2, m3, m4, m5, m6⟩ := mod_step i c (by omega)
      have HG2 := Aside0.mk (HG.out (NW i) m6 (NW_ok i (by omega)).2)
      have HL2 := Aside0.mk (HL.out e m1)
      have g1 := fr_ge (NW i)
      have hs := fun (t : TypeId) (W : World) => run_float_arith (P := Tryd.prog) W .sub t .f64 _ _ _ m3
      rw [m2] at HG2
      have i1 : (((1024 + e : Nat) : Int)) - 1022 = (e : Int) + 2 := by omega
      rw [i1] at HG2
      have i2 : IntKind.i64.wrap ((e : Int) + 2 - 2) = (e : Int) := by rw [IntKind.wrap_i64]; omega
      have i3 : IntKind.i64.wrap (e : Int) = (e : Int) := by rw [IntKind.wrap_i64]; omega
      obtain ⟨fr, hfr⟩ : ∃ fr, fr = 1022 * 4503599627370496 + NW i % 4503599627370496 := ⟨_, rfl⟩
      rw [← hfr] at HG2 g1
      obtain ⟨zz, hzz⟩ : ∃ zz, zz = (1024 + e) * 4503599627370496 := ⟨_, rfl⟩
      rw [← hzz] at HL2 hs
      have HP := Aside0.mk (And.intro m4 (And.intro m5 hk))
      clear m1 m2 m3 m4 m5 m6 hfr hzz hk
      go_wp2_with (first | (go_at_call 43; refine HG2.out.mono ?_; rintro e w1 ⟨rfl, hw1⟩; subst w1) | (go_at_call 44; refine HL2.out.mono ?_; rintro e w1 ⟨rfl, hw1⟩; subst w1))
      go_roundg (gk - 1)
      case measure => have := HP.out.2.2; omega
      case rel => exact ⟨i - 2 ^ (e + 1), rfl, by have h1 := HP.out.1; have h2 := HP.out.2.2; have h3 := Nat.two_pow_pos (e + 1); generalize 2 ^ (e + 1) = z at h1 h3 ⊢; omega, HP.out.2.1.trans hm, Nat.le_trans (Nat.sub_le _ _) hin, rfl⟩
    · have cb := ge_two i (by omega)
      rw [decide_eq_false c] at cb
      have hi : i = n % 2 := by omega
      rw [hi] at cb ⊢
      clear hm hin hk c hn
      go_wp2
      go_ret
      exact ⟨congrArg (fun z => Ending.returned (.float .f64 z)) (W_f (NW (n % 2))).symm, rfl⟩
set_option maxHeartbeats 400000 in
set_option maxRecDepth 100000 in
theorem mod_neg (n : Nat) (h0 : 0 < n) (hn : n < 2 * 4503599627370496) (w : World) : Calls Tryd.prog 23 #[.float .f64 (W true (NW n)), .float .f64 4611686018427387904] w fun x w' => x = .returned (.float .f64 (modW true n)) ∧ w' = w := by
  obtain ⟨v1, w1⟩ := NW_ok n hn
  have HI : Aside0 (Calls Tryd.prog 7 #[.float .f64 (W true (NW n)), .int .i64 0] w fun e w' => e = .returned (.bool false) ∧ w' = w) := ⟨by have := isinf_calls true (NW n) (by omega) w; rwa [show (NW n == 9218868437227405312) = false by rw [beq_eq_false_iff_ne]; omega] at this⟩
  have HM1 : Aside0 (Calls Tryd.prog 8 #[.float .f64 (W true (NW n))] w fun e w' => e = .returned (.bool false) ∧ w' = w) := ⟨by have := isnan_calls true (NW n) (by omega) w; rwa [decide_eq_false (by omega)] at this⟩
  have HM2 := Aside0.mk (nan_pos 4611686018427387904 (by omega) w)
  have HA := Aside0.mk (abs_pos 4611686018427387904 (by omega) w)
  have HF := Aside0.mk (Frexp_two w)
  have HG := Aside0.mk (fun r h0 h1 => Frexp_calls r h0 h1 w)
  have HL := Aside0.mk (fun e he => Ldexp_calls e he w)
  have z1 : (FloatKind.f64.format.order 4611686018427387904 0 == some .eq) = false := by decide
  have c1 := lt_zero true n hn h0
  have ng := neg_W true (NW n) (by omega)
  rw [show (!true) = false from rfl, W_f] at ng
  have hu : ∀ W', (Op.unary .neg (.float .f64 (W true (NW n)))).run Tryd.prog W' = .ok (.float .f64 (NW n)) W' := fun W' => neg_run _ _ ng W'
  have ng2 : Op.negFloat .f64 (NW (n % 2)) = W true (NW (n % 2)) := by
    have := neg_W false (NW (n % 2)) (by have := (NW_ok (n % 2) (by omega)).2; omega)
    rw [W_f] at this
    exact this
  have hu2 : ∀ W', (Op.unary .neg (.float .f64 (NW (n % 2)))).run Tryd.prog W' = .ok (.float .f64 (W true (NW (n % 2)))) W' := fun W' => neg_run _ _ ng2 W'
  have HN := Aside0.mk (And.intro hn w1)
  have hx : ∃ x, x = W true (NW n) := ⟨_, rfl⟩
  obtain ⟨x, hx⟩ := hx
  rw [← hx] at HI HM1 c1 ng hu ⊢
  have HX := Aside0.mk hx
  clear v1 w1 hn h0 hx
  go_enter Tryd.func23, Tryd.ntmps23
  go_wp2_with (first | (go_at_call 7; refine HI.out.mono ?_; rintro e w1 ⟨rfl, hw1⟩; subst w1) | (go_at_call 8; (first | refine HM1.out.mono ?_ | refine HM2.out.mono ?_); rintro e w1 ⟨rfl, hw1⟩; subst w1) | (go_at_call 14; refine HA.out.mono ?_; rintro e w1 ⟨rfl, hw1⟩; subst w1) | (go_at_call 43; refine HF.out.mono ?_; rintro e w1 ⟨rfl, hw1⟩; subst w1))
  go_loopg [7] n (fun k p wr => ∃ i : Nat, p = .float .f64 (NW i) ∧ i ≤ k ∧ i % 2 = n % 2 ∧ i ≤ n ∧ wr = w)
  case atStart => exact ⟨n, by first | rfl | simp [ng], Nat.le_refl _, rfl, Nat.le_refl _, rfl⟩
  case round =>
    obtain ⟨i, rfl, hk, hm, hin, rfl⟩ := hrel
    have hn := HN.out.1
    by_cases c : 2 ≤ i
    · have cb := ge_two i (by omega)
      rw [decide_eq_true c] at cb
      obtain ⟨e, m1, m2, m3, m4, m5, m6⟩ := mod_step i c (by omega)
      have HG2 := Aside0.mk (HG.out (NW i) m6 (NW_ok i (by omega)).2)
      have HL2 := Aside0.mk (HL.out e m1)
      have g1 := fr_ge (NW i)
      have hs := fun (t : TypeId) (W : World) => run_float_arith (P := Tryd.prog) W .sub t .f64 _ _ _ m3
      rw [m2] at HG2
      have i1 : (((1024 + e : Nat) : Int)) - 1022 = (e : Int) + 2 := by omega
      rw [i1] at HG2
      have i2 : IntKind.i64.wrap ((e : Int) + 2 - 2) = (e : Int) := by rw [IntKind.wrap_i64]; omega
      have i3 : IntKind.i64.wrap (e : Int) = (e : Int) := by rw [IntKind.wrap_i64]; omega
      obtain ⟨fr, hfr⟩ : ∃ fr, fr = 1022 * 4503599627370496 + NW i % 4503599627370496 := ⟨_, rfl⟩
      rw [← hfr] at HG2 g1
      obtain ⟨zz, hzz⟩ : ∃ zz, zz = (1024 + e) * 4503599627370496 := ⟨_, rfl⟩
      rw [← hzz] at HL2 hs
      have HP := Aside0.mk (And.intro m4 (And.intro m5 hk))
      clear m1 m2 m3 m4 m5 m6 hfr hzz hk
      go_wp2_with (first | (go_at_call 43; refine HG2.out.mono ?_; rintro e w1 ⟨rfl, hw1⟩; subst w1) | (go_at_call 44; refine HL2.out.mono ?_; rintro e w1 ⟨rfl, hw1⟩; subst w1))
      go_roundg (gk - 1)
      case measure => have := HP.out.2.2; omega
      case rel => exact ⟨i - 2 ^ (e + 1), rfl, by have h1 := HP.out.1; have h2 := HP.out.2.2; have h3 := Nat.two_pow_pos (e + 1); generalize 2 ^ (e + 1) = z at h1 h3 ⊢; omega, HP.out.2.1.trans hm, Nat.le_trans (Nat.sub_le _ _) hin, rfl⟩
    · have cb := ge_two i (by omega)
      rw [decide_eq_false c] at cb
      have hi : i = n % 2 := by omega
      rw [hi] at cb ⊢
      clear hm hin hk c hn
      go_wp2
      go_ret
      exact ⟨congrArg (fun z => Ending.returned (.float .f64 z)) (by first | rfl | exact ng2), rfl⟩
end Go.Proofs.YtobdmcdbfpjpiaaDoor.Q
