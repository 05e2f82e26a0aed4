/- The law, plainly: the program's result and the reference's meet. -/
import Derived.Test.YtobdmcdbfpjpiaaDoorWp
namespace Go.Proofs.YtobdmcdbfpjpiaaDoor.Q
open Go.RowKit Go.Proofs.YtobdmcdbfpjpiaaDoorW.PrintWords Go.Proofs.YtobdmcdbfpjpiaaDoorW.PrintLast Go.Proofs.YtobdmcdbfpjpiaaDoorW.PrintMore
set_option linter.unusedVariables false
set_option linter.unusedSimpArgs false
theorem specW_form (m : Nat) (s : Bool) (r : Nat) : ∃ s', specW m s r = W s' (NW (specN m s r)) ∧ (specN m s r ≠ 0 → s' = s) := by
  unfold specW specN
  generalize lowN s r = lo
  generalize upN s r = hi
  cases goesUp m s r
  · refine ⟨s, ?_, fun _ => rfl⟩
    rw [if_neg Bool.false_ne_true, if_neg Bool.false_ne_true]
  · refine ⟨s && hi != 0, ?_, fun h => ?_⟩
    · rw [if_pos rfl, if_pos rfl]
    · rw [if_pos rfl] at h
      rw [bne_iff_ne.2 h, Bool.and_true]
theorem specN_lt (m : Nat) (s : Bool) (r : Nat) (h : V r % U ≠ 0) : specN m s r < 2 * 4503599627370496 := by
  have hq := q_lt r h
  unfold specN upN lowN
  split <;> split <;> omega
theorem NW_pl (n : Nat) (h : 0 < n) : -900 ≤ pl (NW n) := by
  have h1 : R U ≤ NW n := R_mono (Nat.le_mul_of_pos_left _ h)
  have h2 : R U = 4607182418800017408 := by
    have := one_V.2
    unfold NW at this
    rwa [Nat.one_mul] at this
  rw [h2] at h1
  unfold pl
  rw [if_neg (by omega)]
  omega
open Ieee in
theorem near_zero (neg : Bool) (p : Int) : double.nearest neg 0 p = W neg 0 := by
  unfold Format.nearest
  rw [if_pos rfl, word_W]
theorem zero_mul_W (s : Bool) (t : Nat) (ht : t < 9218868437227405312) : Ieee.double.mul (W s 0) (W false t) = some (W s 0) := by
  rw [mul_W s false 0 t (by omega) ht, show mg 0 = 0 from rfl, Nat.zero_mul, near_zero, Bool.xor_false]
open Ieee in
theorem zero_div_W (s : Bool) (t : Nat) (ht : t < 9218868437227405312) (h0 : mg t ≠ 0) : double.div (W s 0) (W false t) = some (W s 0) := by
  unfold Format.div
  rw [read_W s 0 (by omega), read_W false t ht, show mg 0 = 0 from rfl]
  unfold Datum.quotient
  simp only
  rw [if_neg h0, Nat.zero_shiftLeft, Nat.zero_div, Nat.zero_mod]
  show some (double.nearest (s ^^ false) 0 _) = _
  rw [near_zero, Bool.xor_false]
/-- What the reference brings back. -/
def lawBack (d : Int) (y P : Nat) : Option Nat := if d < 0 then Ieee.double.mul y P else Ieee.double.div y P
theorem back_zero (d : Int) (n : Nat) (hn : n < 23) (s : Bool) : backW d (W s 0) (tenW n) = some (W s 0) ∧ lawBack d (W s 0) (tenW n) = some (W s 0) := by
  obtain ⟨h1, h2⟩ := ten_ok n hn
  have a := zero_mul_W s (tenW n) h1
  have b := zero_div_W s (tenW n) h1 h2
  rw [← ten_W] at a b
  unfold backW lawBack
  constructor <;> split <;> assumption
theorem back_same (d : Int) (hd : d.natAbs < 23) (s : Bool) (n : Nat) (h0 : 0 < n) (hn : n < 2 * 4503599627370496) : backW d (W s (NW n)) (tenW d.natAbs) = lawBack d (W s (NW n)) (tenW d.natAbs) := by
  unfold backW lawBack
  rcases Int.lt_trichotomy d 0 with c | c | c
  · rw [if_neg (by omega), if_pos c]
  · subst c
    rw [if_neg (by omega), if_neg (by omega)]
    show Ieee.double.mul _ 4607182418800017408 = Ieee.double.div _ 4607182418800017408
    have hp := NW_pl n h0
    rw [mul_one_W s _ (NW_ok n hn).2 (by omega), div_one_W s _ (NW_ok n hn).2 hp]
  · rw [if_pos c, if_neg (by omega)]
theorem resF_part (v : Nat) (d : Int) (m : Nat) (s : Bool) (r : Nat) (hv : v % 9223372036854775808 < 9218868437227405312) (hx : scaleW d v (tenW d.natAbs) = some (W s r)) (hr : r < 9218868437227405312) (h : V r % U ≠ 0) :
    resF v d m = (match backW d (pickW m s r) (tenW d.natAbs) with | none => (v, false) | some z => if z % 9223372036854775808 = 9218868437227405312 then (v, false) else (z, true)) := by
  have hW := W_mod s r (by omega)
  unfold resF
  rw [if_neg (by omega), hx]
  simp only
  rw [hW.1, hW.2, if_neg (by omega), if_neg h]
  cases backW d (pickW m s r) (tenW d.natAbs) <;> rfl
theorem resF_whole (v : Nat) (d : Int) (m : Nat) (s : Bool) (r : Nat) (hv : v % 9223372036854775808 < 9218868437227405312) (hx : scaleW d v (tenW d.natAbs) = some (W s r)) (hr : r < 9218868437227405312) (h : V r % U = 0) :
    resF v d m = (v, true) := by
  have hW := W_mod s r (by omega)
  unfold resF
  rw [if_neg (by omega), hx]
  simp only
  rw [hW.1, if_neg (by omega), if_pos h]
theorem resF_skip (v : Nat) (d : Int) (m : Nat) (hv : 9218868437227405312 ≤ v % 9223372036854775808) : resF v d m = (v, true) := by
  unfold resF
  rw [if_pos hv]
theorem same_eq (s : Bool) (r : Nat) (h : r ≤ 9218868437227405312) : (FloatKind.f64.format.order (W s r) (W s r) == some .eq) = true := by
  have := order_self s r (by omega)
  rw [decide_eq_false (by omega)] at this
  show (Ieee.double.order (W s r) (W s r) == some .eq) = true
  cases hc : (Ieee.double.order (W s r) (W s r) == some .eq) with
  | true => rfl
  | false => rw [bne, hc] at this; cases this
/-- The word that is brought back, and what the program says. -/
theorem agree (v : Nat) (d : Int) (hd : d.natAbs < 23) (m : Nat) (hm : m < 10) (s : Bool) (r : Nat) (hv : v % 9223372036854775808 < 9218868437227405312) (hx : scaleW d v (tenW d.natAbs) = some (W s r)) (hr : r < 9218868437227405312) (h : V r % U ≠ 0) :
    ∃ s1 r1, lawBack d (specW m s r) (tenW d.natAbs) = some (W s1 r1) ∧ r1 ≤ 9218868437227405312 ∧
      ((r1 = 9218868437227405312 ∧ resF v d m = (v, false)) ∨ (r1 < 9218868437227405312 ∧ ∃ z, resF v d m = (z, true) ∧ (FloatKind.f64.format.order z (W s1 r1) == some .eq) = true)) := by
  rw [resF_part v d m s r hv hx hr h, meet m hm s r hr h]
  obtain ⟨s', e1, e2⟩ := specW_form m s r
  have hN := specN_lt m s r h
  rw [e1]
  generalize specN m s r = n at *
  rcases Nat.eq_zero_or_pos n with c | c
  · subst c
    rw [NW_zero]
    obtain ⟨a1, _⟩ := back_zero d d.natAbs hd s
    obtain ⟨_, a2⟩ := back_zero d d.natAbs hd s'
    rw [a1, a2]
    refine ⟨s', 0, rfl, by omega, .inr ⟨by omega, W s 0, ?_, ?_⟩⟩
    · have := (W_mod s 0 (by omega)).1
      simp only
      rw [if_neg (by omega)]
    · rw [o_eq s s' 0 0 (by omega) (by omega), V_zero]
      cases s <;> cases s' <;> rfl
  · have es := e2 (by omega)
    subst es
    rw [back_same d hd s' n c hN]
    obtain ⟨z, hz, s1, r1, rfl, hr1⟩ := back_num d d.natAbs hd s' (NW n) (NW_ok n hN).2
    rw [back_same d hd s' n c hN] at hz
    rw [hz]
    have hW := (W_mod s1 r1 (by omega)).1
    refine ⟨s1, r1, rfl, hr1, ?_⟩
    simp only
    rw [hW]
    rcases Nat.lt_or_ge r1 9218868437227405312 with k | k
    · exact .inr ⟨k, W s1 r1, by rw [if_neg (by omega)], same_eq s1 r1 hr1⟩
    · exact .inl ⟨by omega, by rw [if_pos (by omega)]⟩
theorem spec_ne (m : Nat) (s : Bool) (r : Nat) (hr : r < 9218868437227405312) (h : V r % U ≠ 0) : (FloatKind.f64.format.order (specW m s r) (W s r) == some .eq) = false := by
  obtain ⟨s', e1, e2⟩ := specW_form m s r
  obtain ⟨v1, w1⟩ := NW_ok _ (specN_lt m s r h)
  rw [e1, o_eq s' s _ r w1 hr, v1]
  refine decide_eq_false ?_
  intro k
  have : specN m s r * U = V r := by
    generalize specN m s r * U = a at *
    unfold sg at k
    cases s <;> cases s' <;> simp at k <;> omega
  rw [← this, Nat.mul_mod_left] at h
  exact h rfl
theorem awake_res : resF 4608308318706860032 1 0 = (4608083138725491507, true) := by decide +kernel
end Go.Proofs.YtobdmcdbfpjpiaaDoor.Q
