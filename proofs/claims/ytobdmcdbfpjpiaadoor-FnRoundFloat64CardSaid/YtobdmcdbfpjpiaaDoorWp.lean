/- math.Mod; spec.RoundFloat. -/
import Derived.Test.YtobdmcdbfpjpiaaDoorWo
namespace Go.Proofs.YtobdmcdbfpjpiaaDoor.Q
open Go.RowKit Go.Proofs.YtobdmcdbfpjpiaaDoorW.PrintWords Go.Proofs.YtobdmcdbfpjpiaaDoorW.PrintLast Go.Proofs.YtobdmcdbfpjpiaaDoorW.PrintMore
set_option linter.unusedVariables false
set_option linter.unusedSimpArgs false
set_option maxHeartbeats 1000000 in
set_option maxRecDepth 100000 in
theorem mod_zero (w : World) : Calls Tryd.prog 23 #[.float .f64 0, .float .f64 4611686018427387904] w fun x w' => x = .returned (.float .f64 0) ∧ w' = w := by
  have HI := Aside0.mk (inf_pos 0 (by omega) w)
  have HM1 := Aside0.mk (nan_pos 0 (by omega) w)
  have HM2 := Aside0.mk (nan_pos 4611686018427387904 (by omega) w)
  have HA := Aside0.mk (abs_pos 4611686018427387904 (by omega) w)
  have HF := Aside0.mk (Frexp_two w)
  have z1 : (FloatKind.f64.format.order 4611686018427387904 0 == some .eq) = false := by decide
  have c1 : (FloatKind.f64.format.order 0 0 == some .lt) = false := by decide
  have c2 : (FloatKind.f64.format.order 0 4611686018427387904 == some .gt || FloatKind.f64.format.order 0 4611686018427387904 == some .eq) = false := by decide
  go_enter Tryd.func23, Tryd.ntmps23
  go_wp2_with (first | (go_at_call 7; refine HI.out.mono ?_; rintro e w1 ⟨rfl, hw1⟩; subst w1) | (go_at_call 8; (first | refine HM1.out.mono ?_ | refine HM2.out.mono ?_); rintro e w1 ⟨rfl, hw1⟩; subst w1) | (go_at_call 14; refine HA.out.mono ?_; rintro e w1 ⟨rfl, hw1⟩; subst w1) | (go_at_call 43; refine HF.out.mono ?_; rintro e w1 ⟨rfl, hw1⟩; subst w1))
  refine wp_loop_rounds 1 ?_
  rw [rounds_succ]
  go_wp2
  go_ret
  exact ⟨rfl, rfl⟩
theorem mod_any (s : Bool) (n : Nat) (h : s = true → 0 < n) (hn : n < 2 * 4503599627370496) (w : World) : Calls Tryd.prog 23 #[.float .f64 (W s (NW n)), .float .f64 4611686018427387904] w fun x w' => x = .returned (.float .f64 (modW s n)) ∧ w' = w := by
  rcases Nat.eq_zero_or_pos n with c | c
  · subst c
    cases s with
    | true => exact absurd (h rfl) (by omega)
    | false =>
      have e : modW false 0 = 0 := by unfold modW; rw [Nat.zero_mod, NW_zero, W_f]
      rw [e, NW_zero, W_f]
      exact mod_zero w
  · cases s with
    | true => exact mod_neg n c hn w
    | false =>
      have := mod_pos n c hn w
      rw [W_f]
      exact this
set_option maxHeartbeats 1000000 in
set_option maxRecDepth 100000 in
theorem Mod_calls (s : Bool) (n : Nat) (h : s = true → 0 < n) (hn : n < 2 * 4503599627370496) (w : World) : Calls Tryd.prog 16 #[.float .f64 (W s (NW n)), .float .f64 4611686018427387904] w fun x w' => x = .returned (.float .f64 (modW s n)) ∧ w' = w := by
  have HN := Aside0.mk (mod_any s n h hn w)
  generalize W s (NW n) = x at *
  generalize modW s n = y at *
  clear h hn
  go_enter Tryd.func16, Tryd.ntmps16
  go_wp2_with (go_at_call 23; refine HN.out.mono ?_; rintro e w1 ⟨rfl, hw1⟩; subst w1)
  go_ret
  exact ⟨rfl, rfl⟩
theorem mod_even (s : Bool) (n : Nat) : (FloatKind.f64.format.order (modW s n) 0 == some .eq) = (n % 2 == 0) := by
  obtain ⟨v1, w1⟩ := NW_ok (n % 2) (by omega)
  have := o_eq s false (NW (n % 2)) 0 w1 (by omega)
  rw [W_f] at this
  unfold modW
  rw [this, v1, V_zero]
  have hU := U_pos
  rcases Nat.mod_two_eq_zero_or_one n with c | c
  · rw [c, Nat.zero_mul]
    cases s <;> rfl
  · rw [c, Nat.one_mul]
    have : ((1 : Nat) == 0) = false := rfl
    rw [this]
    refine decide_eq_false ?_
    unfold sg
    cases s <;> simp <;> omega
set_option maxHeartbeats 1000000 in
set_option maxRecDepth 100000 in
theorem float_whole (x : Nat) (m : Int) (hx : Num x) (hw : intg .down x = x) (ho : (FloatKind.f64.format.order x x == some .eq) = true) (w : World) : Calls Tryd.prog 10 #[.float .f64 x, .int .i64 m] w fun e w' => e = .returned (.float .f64 x) ∧ w' = w := by
  have HF := Aside0.mk (floor_calls x hx w)
  rw [hw] at HF
  clear hw hx
  go_enter Tryd.func10, Tryd.ntmps10
  go_wp2_with (go_at_call 11; refine HF.out.mono ?_; rintro e w1 ⟨rfl, hw1⟩; subst w1)
  go_ret
  exact ⟨rfl, rfl⟩
set_option maxHeartbeats 4000000 in
set_option maxRecDepth 100000 in
theorem float_part (m : Nat) (hm : m < 10) (s : Bool) (r : Nat) (hr : r < 9218868437227405312) (h : V r % U ≠ 0) (w : World) : Calls Tryd.prog 10 #[.float .f64 (W s r), .int .i64 (m : Int)] w fun e w' => e = .returned (.float .f64 (specW m s r)) ∧ w' = w := by
  have HF := Aside0.mk (floor_calls (W s r) ⟨s, r, rfl, by omega⟩ w)
  rw [floor_W s r hr h] at HF
  have hq := q_lt r h
  have hn : lowN s r < 2 * 4503599627370496 := by unfold lowN; split <;> omega
  obtain ⟨v1, w1⟩ := NW_ok _ hn
  have f1 : (FloatKind.f64.format.order (W s (NW (lowN s r))) (W s r) == some .eq) = false := by
    rw [o_eq s s _ r w1 hr, v1]
    refine decide_eq_false ?_
    intro k
    have : lowN s r * U = V r := by
      unfold sg at k
      cases s <;> simp at k <;> omega
    rw [← this, Nat.mul_mod_left] at h
    exact h rfl
  have f2 := fun (t : TypeId) (W' : World) => run_float_arith (P := Tryd.prog) W' .sub t .f64 _ _ _ (diff_W s r hr h)
  have hd : R (diff s r) < 9218868437227405312 := by
    obtain ⟨d0, d1⟩ := diff_pos s r h
    exact R_lt_inf _ (by have := Nat.mul_le_mul_right U (show 1 ≤ 4503599627370496 by omega); omega)
  have f3 := o_lt false false (R (diff s r)) 4602678819172646912 hd (by omega)
  have f4 := o_gt false false (R (diff s r)) 4602678819172646912 hd (by omega)
  rw [W_f, half_V.1] at f3 f4
  have e3 : decide (sg false (V (R (diff s r))) < sg false H) = decide (V (R (diff s r)) < H) := by unfold sg; simp
  have e4 : decide (sg false H < sg false (V (R (diff s r)))) = decide (H < V (R (diff s r))) := by unfold sg; simp
  rw [W_f] at f3 f4 f2
  rw [e3] at f3
  rw [e4] at f4
  have hM := Mod_calls s (lowN s r) (fun k => by subst k; unfold lowN; rw [if_pos rfl]; exact Nat.succ_pos _) hn w
  have HM := Aside0.mk hM
  have f5 := mod_even s (lowN s r)
  have f6 : (FloatKind.f64.format.order (W s r) 0 == some .lt) = s := by
    have := o_lt s false r 0 hr (by omega)
    rw [W_f] at this
    rw [this, V_zero]
    have : V r ≠ 0 := by intro z; rw [z, Nat.zero_mod] at h; exact h rfl
    unfold sg
    cases s
    · exact decide_eq_false (by simp only [Bool.false_eq_true, if_false]; omega)
    · exact decide_eq_true (by simp only [if_true]; simp; omega)
  have HU := Aside0.mk (fun (half : Int) hh => upper_calls m hm half hh (lowN s r % 2 == 0) s w)
  have f7 := fun (t : TypeId) (W' : World) => run_float_arith (P := Tryd.prog) W' .add t .f64 _ _ _ (plus_W s r hr h)
  rw [W_f] at f7
  have hspec : specW m s r = if upperB m (halfOf s r) (lowN s r % 2 == 0) s then W (s && upN s r != 0) (NW (upN s r)) else W s (NW (lowN s r)) := rfl
  have hhalf : halfOf s r = if V (R (diff s r)) < H then -1 else if H < V (R (diff s r)) then 1 else 0 := rfl
  rw [hspec]
  obtain ⟨lt, hlt⟩ : ∃ lt, lt = decide (V (R (diff s r)) < H) := ⟨_, rfl⟩
  obtain ⟨gt, hgt⟩ : ∃ gt, gt = decide (H < V (R (diff s r))) := ⟨_, rfl⟩
  rw [← hlt] at f3
  rw [← hgt] at f4
  have hhalf2 : halfOf s r = if lt then -1 else if gt then 1 else 0 := by rw [hhalf, hlt, hgt]; simp
  clear hspec hhalf e3 e4 hM hd v1 w1 hn hq hlt hgt
  generalize R (diff s r) = dd at *
  generalize modW s (lowN s r) = md at *
  generalize (lowN s r % 2 == 0) = ev at *
  generalize W (s && upN s r != 0) (NW (upN s r)) = hi at *
  generalize W s (NW (lowN s r)) = lo at *
  generalize W s r = x at *
  generalize halfOf s r = hf at *
  clear h hr
  cases lt
  · cases gt
    · obtain rfl : hf = 0 := by rw [hhalf2]; rfl
      have HU1 := Aside0.mk (HU.out 0 (by omega))
      clear HU hhalf2
      cases hu : upperB m 0 ev s
      all_goals (rw [hu] at HU1; clear hu; go_enter Tryd.func10, Tryd.ntmps10; go_wp2_with (first | (go_at_call 11; refine HF.out.mono ?_; rintro e w1 ⟨rfl, hw1⟩; subst w1) | (go_at_call 16; refine HM.out.mono ?_; rintro e w1 ⟨rfl, hw1⟩; subst w1) | (go_at_call 15; refine HU1.out.mono ?_; rintro e w1 ⟨rfl, hw1⟩; subst w1)); go_ret; exact ⟨rfl, rfl⟩)
    · obtain rfl : hf = 1 := by rw [hhalf2]; rfl
      have HU1 := Aside0.mk (HU.out 1 (by omega))
      clear HU hhalf2
      cases hu : upperB m 1 ev s
      all_goals (rw [hu] at HU1; clear hu; go_enter Tryd.func10, Tryd.ntmps10; go_wp2_with (first | (go_at_call 11; refine HF.out.mono ?_; rintro e w1 ⟨rfl, hw1⟩; subst w1) | (go_at_call 16; refine HM.out.mono ?_; rintro e w1 ⟨rfl, hw1⟩; subst w1) | (go_at_call 15; refine HU1.out.mono ?_; rintro e w1 ⟨rfl, hw1⟩; subst w1)); go_ret; exact ⟨rfl, rfl⟩)
  · obtain rfl : hf = -1 := by rw [hhalf2]; rfl
    have HU1 := Aside0.mk (HU.out (-1) (by omega))
    clear HU hhalf2
    cases hu : upperB m (-1) ev s
    all_goals (rw [hu] at HU1; clear hu; go_enter Tryd.func10, Tryd.ntmps10; go_wp2_with (first | (go_at_call 11; refine HF.out.mono ?_; rintro e w1 ⟨rfl, hw1⟩; subst w1) | (go_at_call 16; refine HM.out.mono ?_; rintro e w1 ⟨rfl, hw1⟩; subst w1) | (go_at_call 15; refine HU1.out.mono ?_; rintro e w1 ⟨rfl, hw1⟩; subst w1)); go_ret; exact ⟨rfl, rfl⟩)
end Go.Proofs.YtobdmcdbfpjpiaaDoor.Q
