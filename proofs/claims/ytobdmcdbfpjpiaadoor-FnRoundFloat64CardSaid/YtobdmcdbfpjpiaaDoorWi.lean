/- kernels.round's call, whole. -/
import Derived.Test.YtobdmcdbfpjpiaaDoorWh
namespace Go.Proofs.YtobdmcdbfpjpiaaDoor.Q
open Go.RowKit Go.Proofs.YtobdmcdbfpjpiaaDoorW.PrintWords Go.Proofs.YtobdmcdbfpjpiaaDoorW.PrintLast Go.Proofs.YtobdmcdbfpjpiaaDoorW.PrintMore
set_option linter.unusedVariables false
set_option linter.unusedSimpArgs false
theorem ten_ok (n : Nat) (h : n < 23) : tenW n < 9218868437227405312 ∧ mg (tenW n) ≠ 0 := by
  have : (List.range 23).all (fun n => decide (tenW n < 9218868437227405312) && decide (mg (tenW n) ≠ 0)) = true := by decide +kernel
  have := List.all_eq_true.1 this n (List.mem_range.2 h)
  simpa using this
open Ieee in
theorem div_num (s t : Bool) (a b : Nat) (ha : a < 9218868437227405312) (hb : b < 9218868437227405312) (h0 : mg b ≠ 0) : ∃ x, double.div (W s a) (W t b) = some x ∧ Num x := by
  unfold Format.div
  rw [read_W s a ha, read_W t b hb]
  unfold Datum.quotient
  simp only
  rw [if_neg h0]
  exact ⟨_, rfl, nearest_num _ _ _⟩
theorem ten_W (n : Nat) : tenW n = W false (tenW n) := rfl
theorem scale_num (d : Int) (n : Nat) (hn : n < 23) (s : Bool) (r : Nat) (h : r < 9218868437227405312) : ∃ x, scaleW d (W s r) (tenW n) = some x ∧ Num x := by
  obtain ⟨h1, h2⟩ := ten_ok n hn
  unfold scaleW
  rw [ten_W n]
  split
  · exact mul_num s false r _ h h1
  · exact div_num s false r _ h h1 h2
theorem back_num (d : Int) (n : Nat) (hn : n < 23) (s : Bool) (r : Nat) (h : r < 9218868437227405312) : ∃ x, backW d (W s r) (tenW n) = some x ∧ Num x := by
  obtain ⟨h1, h2⟩ := ten_ok n hn
  unfold backW
  rw [ten_W n]
  split
  · exact div_num s false r _ h h1 h2
  · exact mul_num s false r _ h h1
open Ieee in
theorem back_inf (d : Int) (n : Nat) (hn : n < 23) (s : Bool) : backW d (W s 9218868437227405312) (tenW n) = some (W s 9218868437227405312) := by
  obtain ⟨h1, h2⟩ := ten_ok n hn
  unfold backW
  rw [ten_W n]
  split
  · unfold Format.div
    rw [read_inf s, read_W false _ h1]
    show some (double.write (.infinity (s ^^ false))) = _
    rw [Bool.xor_false]
    show some (double.word s double.infRung) = _
    rw [word_W, infr]
  · unfold Format.mul
    rw [read_inf s, read_W false _ h1]
    unfold Datum.product
    simp only
    rw [if_neg h2, Bool.xor_false]
    show some (double.word s double.infRung) = _
    rw [word_W, infr]
theorem W_mod (s : Bool) (r : Nat) (h : r < 9223372036854775808) : W s r % 9223372036854775808 = r ∧ (W s r / 9223372036854775808 == 1) = s := by
  unfold W
  cases s <;> simp <;> omega
/-- What impl's rounding yields: a word, and whether it is right. -/
def resF (v : Nat) (d : Int) (m : Nat) : Nat × Bool :=
  if 9218868437227405312 ≤ v % 9223372036854775808 then (v, true)
  else match scaleW d v (tenW d.natAbs) with
  | none => (v, false)
  | some x =>
    if x % 9223372036854775808 = 9218868437227405312 then (v, false)
    else if V (x % 9223372036854775808) % U = 0 then (v, true)
    else match backW d (pickW m (x / 9223372036854775808 == 1) (x % 9223372036854775808)) (tenW d.natAbs) with
      | none => (v, false)
      | some z => if z % 9223372036854775808 = 9218868437227405312 then (v, false) else (z, true)
/-- What stands in the error's cell. -/
def ErrAt (w : World) (Eb : Nat) (ok : Bool) : Prop := ∃ ev, w.heap[Eb]? = some (.cells #[ev] 38 (0, 0)) ∧ (ok = true → ev = .nilIface) ∧ (ok = false → ∃ a, ev = .iface 61 (.pointer a))
theorem ErrAt.bad {w : World} {Eb : Nat} {a : Option Addr} (h : w.heap[Eb]? = some (.cells #[.iface 61 (.pointer a)] 38 (0, 0))) : ErrAt w Eb false := ⟨_, h, (fun k => by cases k), fun _ => ⟨a, rfl⟩⟩
set_option maxHeartbeats 4000000 in
set_option maxRecDepth 100000 in
theorem call_skip_inf (Rb Eb v : Nat) (hI : Gives 7 #[.float .f64 v, .int .i64 0] (.bool true)) (w : World) :
    Calls Tryd.prog 21 #[.pointer (some ⟨Rb, 0, none⟩), .float .f64 v, .pointer (some ⟨Eb, 0, none⟩)] w fun e w' => e = .returned (.float .f64 v) ∧ w' = w := by
  have HI := Aside0.mk hI
  clear hI
  go_enter Tryd.func21, Tryd.ntmps21
  go_wp2_with (first | (go_at_call 7; refine (HI.out _).mono ?_; rintro e w1 ⟨rfl, hw1⟩; subst w1))
  go_ret
  exact ⟨rfl, rfl⟩
/-- Only block b is turned. -/
structure One (w w' : World) (b : Nat) : Prop where
  kept : Kept w w' (fun k => k = b)
  os : w'.os = w.os
  tape : w'.tape = w.tape
  output : w'.output = w.output
theorem One.refl (w : World) (b : Nat) : One w w b := ⟨Kept.refl _ _, rfl, rfl, rfl⟩
theorem gives_inf (s : Bool) (r : Nat) (h : r < 9223372036854775808) : Gives 7 #[.float .f64 (W s r), .int .i64 0] (.bool (r == 9218868437227405312)) := fun W' => isinf_calls s r h W'
theorem gives_nan (s : Bool) (r : Nat) (h : r < 9223372036854775808) : Gives 8 #[.float .f64 (W s r)] (.bool (decide (9218868437227405312 < r))) := fun W' => isnan_calls s r h W'
theorem call_all (Rb Eb : Nat) (sv : Bool) (rv : Nat) (hv : rv < 9223372036854775808) (d : Int) (hd : d.natAbs < 23) (m : Nat) (hm : m < 10) (w : World) (hR : w.heap[Rb]? = some (rndO (tenW d.natAbs) d m)) (hE : w.heap[Eb]? = some (.cells #[.nilIface] 38 (0, 0))) :
    Calls Tryd.prog 21 #[.pointer (some ⟨Rb, 0, none⟩), .float .f64 (W sv rv), .pointer (some ⟨Eb, 0, none⟩)] w fun e w' => e = .returned (.float .f64 (resF (W sv rv) d m).1) ∧ ErrAt w' Eb (resF (W sv rv) d m).2 ∧ One w w' Eb := by
  have hW := W_mod sv rv hv
  unfold resF
  rw [hW.1]
  have hI := gives_inf sv rv hv
  have hN := gives_nan sv rv hv
  have nilE : ErrAt w Eb true := ⟨_, hE, fun _ => rfl, fun h => by cases h⟩
  by_cases c1 : 9218868437227405312 ≤ rv
  · rw [if_pos c1]
    by_cases c2 : rv = 9218868437227405312
    · subst c2
      rw [show ((9218868437227405312 : Nat) == 9218868437227405312) = true from rfl] at hI
      refine (call_skip_inf Rb Eb (W sv 9218868437227405312) hI w).mono ?_
      rintro e w' ⟨rfl, rfl⟩
      exact ⟨rfl, nilE, One.refl _ _⟩
    · rw [decide_eq_true (by omega)] at hN
      refine (call_skip Rb Eb (W sv rv) (tenW d.natAbs) d m _ hI hN w).mono ?_
      rintro e w' ⟨rfl, rfl⟩
      exact ⟨rfl, nilE, One.refl _ _⟩
  · rw [if_neg c1]
    have e1 : (rv == 9218868437227405312) = false := by rw [beq_eq_false_iff_ne]; omega
    rw [e1] at hI
    rw [decide_eq_false (by omega)] at hN
    obtain ⟨x, hx, s, r, rfl, hr⟩ := scale_num d d.natAbs hd sv rv (by omega)
    rw [hx]
    have hW2 := W_mod s r (by omega)
    simp only
    rw [hW2.1, hW2.2]
    have hF : Gives 11 #[.float .f64 (W s r)] (.float .f64 (intg .down (W s r))) := fun W' => floor_calls _ ⟨s, r, rfl, hr⟩ W'
    by_cases c2 : r = 9218868437227405312
    · rw [if_pos c2]
      subst c2
      have hsub : Ieee.double.sub (W s 9218868437227405312) (intg .down (W s 9218868437227405312)) = none := by
        rw [intg_inf]
        cases s <;> decide
      have hz := back_inf d d.natAbs hd s
      have hJ := gives_inf s 9218868437227405312 (by omega)
      by_cases c4 : 4 ≤ m
      · have hY : Gives 40 #[.float .f64 (W s 9218868437227405312)] (.float .f64 (W s 9218868437227405312)) := fun W' => by
          have := round_calls s 9218868437227405312 (Nat.le_refl _) W'
          rwa [rnd_inf] at this
        refine (call_r_inf Rb Eb (W sv rv) (tenW d.natAbs) _ _ _ _ d m hm c4 hI hN hF hY hJ hx hsub hz w hR hE).mono ?_
        rintro e w' ⟨rfl, ⟨a, ha⟩, k1, k2, k3, k4⟩
        exact ⟨rfl, ErrAt.bad ha, k1, k2, k3, k4⟩
      · have hY : Gives (fnOf m) #[.float .f64 (W s 9218868437227405312)] (.float .f64 (W s 9218868437227405312)) := fun W' => wayi_calls m (by omega) s W'
        refine (call_w_inf Rb Eb (W sv rv) (tenW d.natAbs) _ _ _ _ d m hm (by omega) hI hN hF hY hJ hx hsub hz w hR hE).mono ?_
        rintro e w' ⟨rfl, ⟨a, ha⟩, k1, k2, k3, k4⟩
        exact ⟨rfl, ErrAt.bad ha, k1, k2, k3, k4⟩
    · rw [if_neg c2]
      have hr2 : r < 9218868437227405312 := by omega
      by_cases c3 : V r % U = 0
      · rw [if_pos c3]
        have hsub := sub_W s s r r hr2 hr2
        have hzero : tot (s && !s) (sg s (V r) - sg s (V r)) = 0 := by
          rw [Int.sub_self]
          unfold tot
          rw [if_pos rfl]
          have : R (0 : Int).natAbs = 0 := R_zero
          rw [this]
          cases s <;> rfl
        rw [hzero] at hsub
        refine (call_whole Rb Eb (W sv rv) (tenW d.natAbs) (W s r) (W s r) 0 d m hI hN (by rw [whole_W .down s r hr2 c3] at hF; exact hF) hx hsub (by decide) w hR).mono ?_
        rintro e w' ⟨rfl, rfl⟩
        exact ⟨rfl, nilE, One.refl _ _⟩
      · rw [if_neg c3]
        have hmeet := meet m hm s r hr2 c3
        have hq := q_lt r c3
        have hsn : specN m s r < 2 * 4503599627370496 := by
          unfold specN upN lowN
          split <;> split <;> omega
        obtain ⟨z, hz, sz, rz, rfl, hrz⟩ := back_num d d.natAbs hd s (NW (specN m s r)) (NW_ok _ hsn).2
        rw [← hmeet] at hz
        rw [hz]
        have hWz := W_mod sz rz (by omega)
        simp only
        rw [hWz.1]
        have hsub := diff_W s r hr2 c3
        rw [floor_W s r hr2 c3] at hF
        have hd2 := diff_pos s r c3
        have hRD : R (diff s r) < 9218868437227405312 := R_lt_inf _ (by omega)
        have o0 : (Ieee.double.order (W false (R (diff s r))) 0 == some .eq) = false := by
          have ho := order_W false false (R (diff s r)) 0 hRD (by omega)
          rw [show W false 0 = 0 from rfl] at ho
          rw [ho, V_zero]
          have hne : V (R (diff s r)) ≠ 0 := by
            refine V_pos hRD ?_
            have h1 : R 1 ≤ R (diff s r) := R_mono (by omega)
            have h2 : R 1 = 1 := by decide
            omega
          have : sg false (V (R (diff s r))) = (V (R (diff s r)) : Int) := rfl
          rw [this, show sg false 0 = (0 : Int) from rfl, compare_gt_aux (by omega)]
          rfl
        have oh : (Ieee.double.order (W false (R (diff s r))) 4602678819172646912 != some .eq) = decide (V (R (diff s r)) ≠ H) := by
          have ho := order_W false false (R (diff s r)) 4602678819172646912 hRD (by omega)
          rw [show W false 4602678819172646912 = 4602678819172646912 from rfl, half_V.1] at ho
          rw [ho, show sg false (V (R (diff s r))) = (V (R (diff s r)) : Int) from rfl, show sg false H = (H : Int) from rfl]
          rcases Nat.lt_trichotomy (V (R (diff s r))) H with k | k | k
          · rw [compare_lt_aux (by omega), decide_eq_true (by omega)]; rfl
          · rw [k, compare_eq_aux, decide_eq_false (by simp)]; rfl
          · rw [compare_gt_aux (by omega), decide_eq_true (by omega)]; rfl
        have hJ := gives_inf sz rz (by omega)
        have hM := gives_nan sz rz (by omega)
        rw [decide_eq_false (show ¬ 9218868437227405312 < rz by omega)] at hM
        by_cases c5 : rz = 9218868437227405312
        · rw [if_pos c5]
          rw [show (rz == 9218868437227405312) = true by rw [beq_iff_eq]; exact c5] at hJ
          by_cases c4 : 4 ≤ m
          · by_cases c6 : V (R (diff s r)) = H
            · rw [decide_eq_false (by simp [c6])] at oh
              have hp : pickW m s r = wayW m s (W s r) := by unfold pickW; rw [if_neg (fun k => k.2 c6)]
              rw [hp] at hz
              refine (call_h_over Rb Eb (W sv rv) (tenW d.natAbs) (W s r) _ _ _ _ d m hm c4 hI hN hF (fun W' => way_calls m hm s r hr2 W') hJ hx hsub o0 oh hz w hR hE).mono ?_
              rintro e w' ⟨rfl, ⟨a, ha⟩, k1, k2, k3, k4⟩
              exact ⟨rfl, ErrAt.bad ha, k1, k2, k3, k4⟩
            · rw [decide_eq_true c6] at oh
              have hp : pickW m s r = W s (rndR r) := by unfold pickW; rw [if_pos ⟨c4, c6⟩]
              rw [hp] at hz
              refine (call_r_over Rb Eb (W sv rv) (tenW d.natAbs) (W s r) _ _ _ _ d m hm c4 hI hN hF (fun W' => round_calls s r (by omega) W') hJ hx hsub o0 oh hz w hR hE).mono ?_
              rintro e w' ⟨rfl, ⟨a, ha⟩, k1, k2, k3, k4⟩
              exact ⟨rfl, ErrAt.bad ha, k1, k2, k3, k4⟩
          · have hp : pickW m s r = wayW m s (W s r) := by unfold pickW; rw [if_neg (fun k => c4 k.1)]
            rw [hp] at hz
            refine (call_w_over Rb Eb (W sv rv) (tenW d.natAbs) (W s r) _ _ _ _ d m hm (by omega) hI hN hF (fun W' => way_calls m hm s r hr2 W') hJ hx hsub o0 hz w hR hE).mono ?_
            rintro e w' ⟨rfl, ⟨a, ha⟩, k1, k2, k3, k4⟩
            exact ⟨rfl, ErrAt.bad ha, k1, k2, k3, k4⟩
        · rw [if_neg c5]
          rw [show (rz == 9218868437227405312) = false by rw [beq_eq_false_iff_ne]; exact c5] at hJ
          by_cases c4 : 4 ≤ m
          · by_cases c6 : V (R (diff s r)) = H
            · rw [decide_eq_false (by simp [c6])] at oh
              have hp : pickW m s r = wayW m s (W s r) := by unfold pickW; rw [if_neg (fun k => k.2 c6)]
              rw [hp] at hz
              refine (call_h_part Rb Eb (W sv rv) (tenW d.natAbs) (W s r) _ _ _ _ d m hm c4 hI hN hF (fun W' => way_calls m hm s r hr2 W') hJ hM hx hsub o0 oh hz w hR).mono ?_
              rintro e w' ⟨rfl, rfl⟩
              exact ⟨rfl, nilE, One.refl _ _⟩
            · rw [decide_eq_true c6] at oh
              have hp : pickW m s r = W s (rndR r) := by unfold pickW; rw [if_pos ⟨c4, c6⟩]
              rw [hp] at hz
              refine (call_r_part Rb Eb (W sv rv) (tenW d.natAbs) (W s r) _ _ _ _ d m hm c4 hI hN hF (fun W' => round_calls s r (by omega) W') hJ hM hx hsub o0 oh hz w hR).mono ?_
              rintro e w' ⟨rfl, rfl⟩
              exact ⟨rfl, nilE, One.refl _ _⟩
          · have hp : pickW m s r = wayW m s (W s r) := by unfold pickW; rw [if_neg (fun k => c4 k.1)]
            rw [hp] at hz
            refine (call_w_part Rb Eb (W sv rv) (tenW d.natAbs) (W s r) _ _ _ _ d m hm (by omega) hI hN hF (fun W' => way_calls m hm s r hr2 W') hJ hM hx hsub o0 hz w hR).mono ?_
            rintro e w' ⟨rfl, rfl⟩
            exact ⟨rfl, nilE, One.refl _ _⟩
end Go.Proofs.YtobdmcdbfpjpiaaDoor.Q
