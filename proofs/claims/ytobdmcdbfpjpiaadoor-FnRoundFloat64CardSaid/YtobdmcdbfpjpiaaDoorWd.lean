/- The ten ways of rounding. -/
import Derived.Test.YtobdmcdbfpjpiaaDoorWc
namespace Go.Proofs.YtobdmcdbfpjpiaaDoor.Q
open Go.RowKit Go.Proofs.YtobdmcdbfpjpiaaDoorW.PrintWords Go.Proofs.YtobdmcdbfpjpiaaDoorW.PrintLast Go.Proofs.YtobdmcdbfpjpiaaDoorW.PrintMore
set_option linter.unusedVariables false
set_option linter.unusedSimpArgs false
open Ieee in
theorem nearest_num (neg : Bool) (m : Nat) (p : Int) : Num (double.nearest neg m p) := by
  unfold Format.nearest
  split
  · exact ⟨neg, 0, word_W _ _, by omega⟩
  · rw [word_W, infr]
    exact ⟨neg, _, rfl, Nat.min_le_right _ _⟩
open Ieee in
theorem mul_num (s t : Bool) (a b : Nat) (ha : a < 9218868437227405312) (hb : b < 9218868437227405312) : ∃ x, double.mul (W s a) (W t b) = some x ∧ Num x := by
  unfold Format.mul
  rw [read_W s a ha, read_W t b hb]
  exact ⟨_, rfl, nearest_num _ _ _⟩
open Ieee in
theorem add_num (s : Bool) (a b : Nat) (ha : a ≤ 9218868437227405312) (hb : b ≤ 9218868437227405312) : ∃ x, double.add (W s a) (W s b) = some x ∧ Num x := by
  rcases Nat.lt_or_ge a 9218868437227405312 with c | c
  · rcases Nat.lt_or_ge b 9218868437227405312 with d | d
    · unfold Format.add
      rw [read_W s a c, read_W s b d]
      exact ⟨_, rfl, nearest_num _ _ _⟩
    · have : b = 9218868437227405312 := by omega
      subst this
      unfold Format.add
      rw [read_W s a c, read_inf s]
      exact ⟨W s 9218868437227405312, by rw [← word_W, ← infr]; rfl, s, _, rfl, Nat.le_refl _⟩
  · have : a = 9218868437227405312 := by omega
    subst this
    unfold Format.add
    rw [read_inf s]
    rcases Nat.lt_or_ge b 9218868437227405312 with d | d
    · rw [read_W s b d]
      exact ⟨W s 9218868437227405312, by rw [← word_W, ← infr]; rfl, s, _, rfl, Nat.le_refl _⟩
    · have : b = 9218868437227405312 := by omega
      subst this
      rw [read_inf s]
      refine ⟨W s 9218868437227405312, ?_, s, _, rfl, Nat.le_refl _⟩
      cases s <;> decide
theorem R_le (t : Nat) : R t ≤ 9218868437227405312 := by
  unfold R
  split
  · omega
  · exact Nat.min_le_right _ _
theorem intg_num (way : Ieee.Toward) (s : Bool) (r : Nat) (h : r ≤ 9218868437227405312) : ∃ r', intg way (W s r) = W s r' ∧ r' ≤ 9218868437227405312 := by
  rcases Nat.lt_or_ge r 9218868437227405312 with c | c
  · rw [intg_W way s r c]
    exact ⟨_, rfl, R_le _⟩
  · have : r = 9218868437227405312 := by omega
    subst this
    exact ⟨_, intg_inf way s, Nat.le_refl _⟩
def halfW (x : Nat) : Nat := (Ieee.double.mul x 4602678819172646912).getD 0
/-- What a way of rounding gives. -/
def wayW (m : Nat) (s : Bool) (x : Nat) : Nat :=
  if m = 0 ∨ m = 4 then intg .down x
  else if m = 1 ∨ m = 5 then intg .up x
  else if m = 2 ∨ m = 6 then intg .zero x
  else if m = 3 ∨ m = 7 then (if s then intg .down x else intg .up x)
  else if m = 8 then intg .even x
  else (Ieee.double.add (intg .down (halfW x)) (intg .up (halfW x))).getD 0
def fnOf (m : Nat) : Nat := [26, 27, 29, 31, 33, 34, 35, 36, 37, 39].getD m 0
set_option maxHeartbeats 1000000 in
set_option maxRecDepth 100000 in
theorem impl_calls (m : Nat) (h : m < 10) (w : World) : Calls Tryd.prog 20 #[.int .i8 (m : Int)] w fun e w' => e = .returned (.func (.func (fnOf m)) #[] #[]) ∧ w' = w := by
  match m, h with
  | 0, _ =>
    go_enter Tryd.func20, Tryd.ntmps20
    go_wp2
    go_ret
    exact ⟨rfl, rfl⟩
  | 1, _ =>
    go_enter Tryd.func20, Tryd.ntmps20
    go_wp2
    go_ret
    exact ⟨rfl, rfl⟩
  | 2, _ =>
    go_enter Tryd.func20, Tryd.ntmps20
    go_wp2
    go_ret
    exact ⟨rfl, rfl⟩
  | 3, _ =>
    go_enter Tryd.func20, Tryd.ntmps20
    go_wp2
    go_ret
    exact ⟨rfl, rfl⟩
  | 4, _ =>
    go_enter Tryd.func20, Tryd.ntmps20
    go_wp2
    go_ret
    exact ⟨rfl, rfl⟩
  | 5, _ =>
    go_enter Tryd.func20, Tryd.ntmps20
    go_wp2
    go_ret
    exact ⟨rfl, rfl⟩
  | 6, _ =>
    go_enter Tryd.func20, Tryd.ntmps20
    go_wp2
    go_ret
    exact ⟨rfl, rfl⟩
  | 7, _ =>
    go_enter Tryd.func20, Tryd.ntmps20
    go_wp2
    go_ret
    exact ⟨rfl, rfl⟩
  | 8, _ =>
    go_enter Tryd.func20, Tryd.ntmps20
    go_wp2
    go_ret
    exact ⟨rfl, rfl⟩
  | 9, _ =>
    go_enter Tryd.func20, Tryd.ntmps20
    go_wp2
    go_ret
    exact ⟨rfl, rfl⟩
set_option maxHeartbeats 1000000 in
set_option maxRecDepth 100000 in
theorem way0_calls (s : Bool) (r : Nat) (h : r ≤ 9218868437227405312) (w : World) : Calls Tryd.prog 26 #[.float .f64 (W s r)] w fun e w' => e = .returned (.float .f64 (wayW 0 s (W s r))) ∧ w' = w := by
  have HC := Aside0.mk (floor_calls (W s r) ⟨s, r, rfl, h⟩ w)
  have hw : wayW 0 s (W s r) = intg .down (W s r) := rfl
  rw [hw]
  generalize intg .down (W s r) = y at *
  generalize W s r = x at *
  clear h hw
  go_enter Tryd.func26, Tryd.ntmps26
  go_wp2_with (go_at_call 11; refine HC.out.mono ?_; rintro e w1 ⟨rfl, hw1⟩; subst w1)
  go_ret
  exact ⟨rfl, rfl⟩
set_option maxHeartbeats 1000000 in
set_option maxRecDepth 100000 in
theorem way1_calls (s : Bool) (r : Nat) (h : r ≤ 9218868437227405312) (w : World) : Calls Tryd.prog 27 #[.float .f64 (W s r)] w fun e w' => e = .returned (.float .f64 (wayW 1 s (W s r))) ∧ w' = w := by
  have HC := Aside0.mk (ceil_calls (W s r) ⟨s, r, rfl, h⟩ w)
  have hw : wayW 1 s (W s r) = intg .up (W s r) := rfl
  rw [hw]
  generalize intg .up (W s r) = y at *
  generalize W s r = x at *
  clear h hw
  go_enter Tryd.func27, Tryd.ntmps27
  go_wp2_with (go_at_call 28; refine HC.out.mono ?_; rintro e w1 ⟨rfl, hw1⟩; subst w1)
  go_ret
  exact ⟨rfl, rfl⟩
set_option maxHeartbeats 1000000 in
set_option maxRecDepth 100000 in
theorem way2_calls (s : Bool) (r : Nat) (h : r ≤ 9218868437227405312) (w : World) : Calls Tryd.prog 29 #[.float .f64 (W s r)] w fun e w' => e = .returned (.float .f64 (wayW 2 s (W s r))) ∧ w' = w := by
  have HC := Aside0.mk (trunc_calls (W s r) ⟨s, r, rfl, h⟩ w)
  have hw : wayW 2 s (W s r) = intg .zero (W s r) := rfl
  rw [hw]
  generalize intg .zero (W s r) = y at *
  generalize W s r = x at *
  clear h hw
  go_enter Tryd.func29, Tryd.ntmps29
  go_wp2_with (go_at_call 30; refine HC.out.mono ?_; rintro e w1 ⟨rfl, hw1⟩; subst w1)
  go_ret
  exact ⟨rfl, rfl⟩
set_option maxHeartbeats 1000000 in
set_option maxRecDepth 100000 in
theorem way4_calls (s : Bool) (r : Nat) (h : r ≤ 9218868437227405312) (w : World) : Calls Tryd.prog 33 #[.float .f64 (W s r)] w fun e w' => e = .returned (.float .f64 (wayW 4 s (W s r))) ∧ w' = w := by
  have HC := Aside0.mk (floor_calls (W s r) ⟨s, r, rfl, h⟩ w)
  have hw : wayW 4 s (W s r) = intg .down (W s r) := rfl
  rw [hw]
  generalize intg .down (W s r) = y at *
  generalize W s r = x at *
  clear h hw
  go_enter Tryd.func33, Tryd.ntmps33
  go_wp2_with (go_at_call 11; refine HC.out.mono ?_; rintro e w1 ⟨rfl, hw1⟩; subst w1)
  go_ret
  exact ⟨rfl, rfl⟩
set_option maxHeartbeats 1000000 in
set_option maxRecDepth 100000 in
theorem way5_calls (s : Bool) (r : Nat) (h : r ≤ 9218868437227405312) (w : World) : Calls Tryd.prog 34 #[.float .f64 (W s r)] w fun e w' => e = .returned (.float .f64 (wayW 5 s (W s r))) ∧ w' = w := by
  have HC := Aside0.mk (ceil_calls (W s r) ⟨s, r, rfl, h⟩ w)
  have hw : wayW 5 s (W s r) = intg .up (W s r) := rfl
  rw [hw]
  generalize intg .up (W s r) = y at *
  generalize W s r = x at *
  clear h hw
  go_enter Tryd.func34, Tryd.ntmps34
  go_wp2_with (go_at_call 28; refine HC.out.mono ?_; rintro e w1 ⟨rfl, hw1⟩; subst w1)
  go_ret
  exact ⟨rfl, rfl⟩
set_option maxHeartbeats 1000000 in
set_option maxRecDepth 100000 in
theorem way6_calls (s : Bool) (r : Nat) (h : r ≤ 9218868437227405312) (w : World) : Calls Tryd.prog 35 #[.float .f64 (W s r)] w fun e w' => e = .returned (.float .f64 (wayW 6 s (W s r))) ∧ w' = w := by
  have HC := Aside0.mk (trunc_calls (W s r) ⟨s, r, rfl, h⟩ w)
  have hw : wayW 6 s (W s r) = intg .zero (W s r) := rfl
  rw [hw]
  generalize intg .zero (W s r) = y at *
  generalize W s r = x at *
  clear h hw
  go_enter Tryd.func35, Tryd.ntmps35
  go_wp2_with (go_at_call 30; refine HC.out.mono ?_; rintro e w1 ⟨rfl, hw1⟩; subst w1)
  go_ret
  exact ⟨rfl, rfl⟩
set_option maxHeartbeats 1000000 in
set_option maxRecDepth 100000 in
theorem way3_calls (s : Bool) (r : Nat) (h : r ≤ 9218868437227405312) (w : World) : Calls Tryd.prog 31 #[.float .f64 (W s r)] w fun e w' => e = .returned (.float .f64 (wayW 3 s (W s r))) ∧ w' = w := by
  have HS := Aside0.mk (signbit_calls s r (by omega) w)
  have HF := Aside0.mk (floor_calls (W s r) ⟨s, r, rfl, h⟩ w)
  have HC := Aside0.mk (ceil_calls (W s r) ⟨s, r, rfl, h⟩ w)
  have hw : wayW 3 s (W s r) = if s then intg .down (W s r) else intg .up (W s r) := rfl
  rw [hw]
  generalize intg .down (W s r) = y at *
  generalize intg .up (W s r) = z at *
  generalize W s r = x at *
  clear h hw
  cases s
  · go_enter Tryd.func31, Tryd.ntmps31
    go_wp2_with (first | (go_at_call 32; refine HS.out.mono ?_; rintro e w1 ⟨rfl, hw1⟩; subst w1) | (go_at_call 11; refine HF.out.mono ?_; rintro e w1 ⟨rfl, hw1⟩; subst w1) | (go_at_call 28; refine HC.out.mono ?_; rintro e w1 ⟨rfl, hw1⟩; subst w1))
    go_ret
    exact ⟨rfl, rfl⟩
  · go_enter Tryd.func31, Tryd.ntmps31
    go_wp2_with (first | (go_at_call 32; refine HS.out.mono ?_; rintro e w1 ⟨rfl, hw1⟩; subst w1) | (go_at_call 11; refine HF.out.mono ?_; rintro e w1 ⟨rfl, hw1⟩; subst w1) | (go_at_call 28; refine HC.out.mono ?_; rintro e w1 ⟨rfl, hw1⟩; subst w1))
    go_ret
    exact ⟨rfl, rfl⟩
set_option maxHeartbeats 1000000 in
set_option maxRecDepth 100000 in
theorem way7_calls (s : Bool) (r : Nat) (h : r ≤ 9218868437227405312) (w : World) : Calls Tryd.prog 36 #[.float .f64 (W s r)] w fun e w' => e = .returned (.float .f64 (wayW 7 s (W s r))) ∧ w' = w := by
  have HS := Aside0.mk (signbit_calls s r (by omega) w)
  have HF := Aside0.mk (floor_calls (W s r) ⟨s, r, rfl, h⟩ w)
  have HC := Aside0.mk (ceil_calls (W s r) ⟨s, r, rfl, h⟩ w)
  have hw : wayW 7 s (W s r) = if s then intg .down (W s r) else intg .up (W s r) := rfl
  rw [hw]
  generalize intg .down (W s r) = y at *
  generalize intg .up (W s r) = z at *
  generalize W s r = x at *
  clear h hw
  cases s
  · go_enter Tryd.func36, Tryd.ntmps36
    go_wp2_with (first | (go_at_call 32; refine HS.out.mono ?_; rintro e w1 ⟨rfl, hw1⟩; subst w1) | (go_at_call 11; refine HF.out.mono ?_; rintro e w1 ⟨rfl, hw1⟩; subst w1) | (go_at_call 28; refine HC.out.mono ?_; rintro e w1 ⟨rfl, hw1⟩; subst w1))
    go_ret
    exact ⟨rfl, rfl⟩
  · go_enter Tryd.func36, Tryd.ntmps36
    go_wp2_with (first | (go_at_call 32; refine HS.out.mono ?_; rintro e w1 ⟨rfl, hw1⟩; subst w1) | (go_at_call 11; refine HF.out.mono ?_; rintro e w1 ⟨rfl, hw1⟩; subst w1) | (go_at_call 28; refine HC.out.mono ?_; rintro e w1 ⟨rfl, hw1⟩; subst w1))
    go_ret
    exact ⟨rfl, rfl⟩
set_option maxHeartbeats 1000000 in
set_option maxRecDepth 100000 in
theorem way8_calls (s : Bool) (r : Nat) (h : r ≤ 9218868437227405312) (w : World) : Calls Tryd.prog 37 #[.float .f64 (W s r)] w fun e w' => e = .returned (.float .f64 (wayW 8 s (W s r))) ∧ w' = w := by
  have he := ext38 (W s r) ⟨s, r, rfl, h⟩
  have hw : wayW 8 s (W s r) = intg .even (W s r) := rfl
  rw [hw]
  generalize intg .even (W s r) = y at *
  generalize W s r = x at *
  clear h hw
  go_enter Tryd.func37, Tryd.ntmps37
  go_wp2
  go_ret
  exact ⟨rfl, rfl⟩
set_option maxHeartbeats 1000000 in
set_option maxRecDepth 100000 in
theorem way9_calls (s : Bool) (r : Nat) (h : r < 9218868437227405312) (w : World) : Calls Tryd.prog 39 #[.float .f64 (W s r)] w fun e w' => e = .returned (.float .f64 (wayW 9 s (W s r))) ∧ w' = w := by
  obtain ⟨x2, hm, s2, r2, rfl, h2⟩ := mul_num s false r 4602678819172646912 h (by omega)
  have hw0 : W false 4602678819172646912 = 4602678819172646912 := rfl
  rw [hw0] at hm
  obtain ⟨a, ha, ha2⟩ := intg_num .down s2 r2 h2
  obtain ⟨b, hb, hb2⟩ := intg_num .up s2 r2 h2
  obtain ⟨z, hz, _⟩ := add_num s2 a b ha2 hb2
  rw [← ha, ← hb] at hz
  have hw : wayW 9 s (W s r) = z := by
    show (Ieee.double.add (intg .down (halfW (W s r))) (intg .up (halfW (W s r)))).getD 0 = z
    unfold halfW
    rw [hm, Option.getD_some, hz]
    rfl
  rw [hw]
  have HF := Aside0.mk (floor_calls (W s2 r2) ⟨s2, r2, rfl, h2⟩ w)
  have HC := Aside0.mk (ceil_calls (W s2 r2) ⟨s2, r2, rfl, h2⟩ w)
  have hm2 := fun (t : TypeId) (W' : World) => run_float_arith (P := Tryd.prog) W' .mul t .f64 _ _ _ hm
  have hz2 := fun (t : TypeId) (W' : World) => run_float_arith (P := Tryd.prog) W' .add t .f64 _ _ _ hz
  generalize intg .down (W s2 r2) = y1 at *
  generalize intg .up (W s2 r2) = y2 at *
  generalize W s2 r2 = x2 at *
  generalize W s r = x at *
  clear h hw hm hz ha hb ha2 hb2 hw0
  go_enter Tryd.func39, Tryd.ntmps39
  go_wp2_with (first | (go_at_call 11; refine HF.out.mono ?_; rintro e w1 ⟨rfl, hw1⟩; subst w1) | (go_at_call 28; refine HC.out.mono ?_; rintro e w1 ⟨rfl, hw1⟩; subst w1))
  go_ret
  exact ⟨rfl, rfl⟩
theorem way_calls (m : Nat) (hm : m < 10) (s : Bool) (r : Nat) (h : r < 9218868437227405312) (w : World) : Calls Tryd.prog (fnOf m) #[.float .f64 (W s r)] w fun e w' => e = .returned (.float .f64 (wayW m s (W s r))) ∧ w' = w := by
  match m, hm with
  | 0, _ => exact way0_calls s r (by omega) w
  | 1, _ => exact way1_calls s r (by omega) w
  | 2, _ => exact way2_calls s r (by omega) w
  | 3, _ => exact way3_calls s r (by omega) w
  | 4, _ => exact way4_calls s r (by omega) w
  | 5, _ => exact way5_calls s r (by omega) w
  | 6, _ => exact way6_calls s r (by omega) w
  | 7, _ => exact way7_calls s r (by omega) w
  | 8, _ => exact way8_calls s r (by omega) w
  | 9, _ => exact way9_calls s r h w
theorem wayi_calls (m : Nat) (hm : m < 4) (s : Bool) (w : World) : Calls Tryd.prog (fnOf m) #[.float .f64 (W s 9218868437227405312)] w fun e w' => e = .returned (.float .f64 (W s 9218868437227405312)) ∧ w' = w := by
  match m, hm with
  | 0, _ => exact (way0_calls s _ (Nat.le_refl _) w).mono fun _ _ h => ⟨h.1.trans (by rw [show wayW 0 s (W s 9218868437227405312) = intg .down (W s 9218868437227405312) from rfl, intg_inf]), h.2⟩
  | 1, _ => exact (way1_calls s _ (Nat.le_refl _) w).mono fun _ _ h => ⟨h.1.trans (by rw [show wayW 1 s (W s 9218868437227405312) = intg .up (W s 9218868437227405312) from rfl, intg_inf]), h.2⟩
  | 2, _ => exact (way2_calls s _ (Nat.le_refl _) w).mono fun _ _ h => ⟨h.1.trans (by rw [show wayW 2 s (W s 9218868437227405312) = intg .zero (W s 9218868437227405312) from rfl, intg_inf]), h.2⟩
  | 3, _ => exact (way3_calls s _ (Nat.le_refl _) w).mono fun _ _ h => ⟨h.1.trans (by rw [show wayW 3 s (W s 9218868437227405312) = if s then intg .down (W s 9218868437227405312) else intg .up (W s 9218868437227405312) from rfl, intg_inf, intg_inf]; cases s <;> rfl), h.2⟩
end Go.Proofs.YtobdmcdbfpjpiaaDoor.Q
