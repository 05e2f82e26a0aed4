/- The law of RoundFloat64, joined. -/
import Derived.Test.YtobdmcdbfpjpiaaDoorWr
namespace Go.Proofs.YtobdmcdbfpjpiaaDoor.Q
open Go.RowKit Go.Proofs.YtobdmcdbfpjpiaaDoorW.PrintWords Go.Proofs.YtobdmcdbfpjpiaaDoorW.PrintLast Go.Proofs.YtobdmcdbfpjpiaaDoorW.PrintMore
set_option linter.unusedVariables false
set_option linter.unusedSimpArgs false
theorem gives_whole (s : Bool) (r : Nat) (m : Int) (hr : r ≤ 9218868437227405312) (h : r = 9218868437227405312 ∨ V r % U = 0) : Gives 10 #[.float .f64 (W s r), .int .i64 m] (.float .f64 (W s r)) := fun W' => by
  refine float_whole (W s r) m ⟨s, r, rfl, hr⟩ ?_ (same_eq s r hr) W'
  rcases Nat.lt_or_ge r 9218868437227405312 with c | c
  · rcases h with h | h
    · omega
    · exact whole_W .down s r c h
  · have : r = 9218868437227405312 := by omega
    subst this
    exact intg_inf .down s
theorem gives_floor (s : Bool) (r : Nat) (hr : r < 9218868437227405312) (h : V r % U = 0) : Gives 11 #[.float .f64 (W s r)] (.float .f64 (W s r)) := fun W' => by
  have := floor_calls (W s r) ⟨s, r, rfl, by omega⟩ W'
  rwa [whole_W .down s r hr h] at this
theorem gives_ten (d : Int) (n : Nat) (h : d.toNat = n) (hn : n < 23) : Gives 9 #[.int .i64 d] (.float .f64 (tenW n)) := fun W' => by
  have := ten_calls d (by omega) W'
  rwa [h] at this
theorem gives_infB (s : Bool) (r : Nat) (b : Bool) (h : r < 9223372036854775808) (hb : (r == 9218868437227405312) = b) : Gives 7 #[.float .f64 (W s r), .int .i64 0] (.bool b) := fun W' => by
  have := isinf_calls s r h W'
  rwa [hb] at this
theorem yields (sv : Bool) (rv : Nat) (hv : rv < 9223372036854775808) (d : Int) (hd : d.natAbs < 23) (m : Nat) (hm : m < 10) (z : Nat) (ok : Bool) (h : resF (W sv rv) d m = (z, ok)) : Yields2 (W sv rv) d m z ok := fun W' hG => by
  have := impl_walk sv rv hv d hd m hm W' hG
  unfold outF at this
  rwa [h] at this
theorem part_num (m : Nat) (s : Bool) (r : Nat) (h : V r % U ≠ 0) : ∃ s' n, specW m s r = W s' n ∧ n < 9218868437227405312 := by
  obtain ⟨s', e1, _⟩ := specW_form m s r
  exact ⟨s', _, e1, (NW_ok _ (specN_lt m s r h)).2⟩
theorem law_all (sv : Bool) (rv : Nat) (hv : rv < 9223372036854775808) (d m : Int) (w : World) (hG : Glob w) : LawAt (W sv rv) d m w := by
  by_cases far : d < -22 ∨ d > 22 ∨ m < 0 ∨ m > 9
  · exact law_far _ d m far w hG
  · obtain ⟨k, rfl⟩ : ∃ k : Nat, m = (k : Int) := ⟨m.toNat, by omega⟩
    have hk : k < 10 := by omega
    have hd : d.natAbs < 23 := by omega
    have g1 : decide (d < -22) = false := decide_eq_false (by omega)
    have g2 : decide (d > 22) = false := decide_eq_false (by omega)
    have g3 : decide ((k : Int) < 0) = false := decide_eq_false (by omega)
    have g4 : decide ((k : Int) > 9) = false := decide_eq_false (by omega)
    have hW := W_mod sv rv hv
    have hY := yields sv rv hv d hd k hk
    rcases Nat.lt_trichotomy rv 9218868437227405312 with c | c | c
    · have n1 : (FloatKind.f64.format.order (W sv rv) (W sv rv) != some .eq) = false := by
        have := order_self sv rv hv
        rwa [decide_eq_false (by omega)] at this
      have hi := gives_infB sv rv false hv (by rw [beq_eq_false_iff_ne]; omega)
      have hvm : W sv rv % 9223372036854775808 < 9218868437227405312 := by rw [hW.1]; exact c
      obtain ⟨x, hx, s, r, rfl, hr⟩ := scale_num d d.natAbs hd sv rv c
      by_cases dn : d < 0
      · have gd : decide (d < 0) = true := decide_eq_true dn
        have ngd : IntKind.i64.wrap (-d) = -d := by rw [IntKind.wrap_i64]; omega
        have ht := gives_ten d 0 (by omega) (by omega)
        have ht2 := gives_ten (-d) d.natAbs (by omega) hd
        have hs2 : Ieee.double.div (W sv rv) (tenW d.natAbs) = some (W s r) := by
          unfold scaleW at hx
          rwa [if_neg (by omega)] at hx
        obtain ⟨x0, hs1, _⟩ := mul_num sv false rv (tenW 0) c (ten_ok 0 (by omega)).1
        rw [← ten_W] at hs1
        rcases Nat.lt_or_ge r 9218868437227405312 with cr | cr
        · have hj := gives_infB s r false (by omega) (by rw [beq_eq_false_iff_ne]; omega)
          by_cases ci : V r % U = 0
          · exact law_whole_n (W sv rv) d k g1 g2 g3 g4 (tenW 0) (tenW d.natAbs) x0 (W s r) (W s r) 0 0 0 (W s r) true (hY _ _ (resF_whole _ d k s r hvm hx cr ci)) n1 hi ht gd ngd ht2 hs1 hs2 (gives_whole s r _ hr (.inr ci)) hj (same_eq s r hr) (gives_floor s r cr ci) (same_eq s r hr) w hG
          · have hs := fun W' => float_part k hk s r cr ci W'
            have oy := spec_ne k s r cr ci
            obtain ⟨s1, r1, hb, hr1, hcase⟩ := agree (W sv rv) d hd k hk s r hvm hx cr ci
            unfold lawBack at hb
            rw [if_pos dn] at hb
            obtain ⟨s', n', e1, e2⟩ := part_num k s r ci
            obtain ⟨b0, hb1, _⟩ := div_num s' false n' (tenW 0) e2 (ten_ok 0 (by omega)).1 (ten_ok 0 (by omega)).2
            rw [← ten_W, ← e1] at hb1
            rcases hcase with ⟨q1, q2⟩ | ⟨q1, z, q2, q3⟩
            · exact law_refused_n (W sv rv) d k g1 g2 g3 g4 (tenW 0) (tenW d.natAbs) x0 (W s r) (specW k s r) b0 (W s1 r1) (W sv rv) 0 true (hY _ _ q2) n1 hi ht gd ngd ht2 hs1 hs2 hs hj oy hb1 hb (gives_infB s1 r1 true (by omega) (by rw [beq_iff_eq]; exact q1)) w hG
            · exact law_part_n (W sv rv) d k g1 g2 g3 g4 (tenW 0) (tenW d.natAbs) x0 (W s r) (specW k s r) b0 (W s1 r1) z 0 true (hY _ _ q2) n1 hi ht gd ngd ht2 hs1 hs2 hs hj oy hb1 hb (gives_infB s1 r1 false (by omega) (by rw [beq_eq_false_iff_ne]; omega)) q3 w hG
        · have hj := gives_infB s r true (by omega) (by rw [beq_iff_eq]; omega)
          exact law_over_n (W sv rv) d k g1 g2 g3 g4 (tenW 0) (tenW d.natAbs) x0 (W s r) (W s r) 0 0 (resF (W sv rv) d k).1 0 (resF (W sv rv) d k).2 (hY _ _ rfl) n1 hi ht gd ngd ht2 hs1 hs2 (gives_whole s r _ hr (.inl (by omega))) hj w hG
      · have gd : decide (d < 0) = false := decide_eq_false dn
        have ht := gives_ten d d.natAbs (by omega) hd
        have hs1 : Ieee.double.mul (W sv rv) (tenW d.natAbs) = some (W s r) := by
          unfold scaleW at hx
          rwa [if_pos (by omega)] at hx
        rcases Nat.lt_or_ge r 9218868437227405312 with cr | cr
        · have hj := gives_infB s r false (by omega) (by rw [beq_eq_false_iff_ne]; omega)
          by_cases ci : V r % U = 0
          · exact law_whole_p (W sv rv) d k g1 g2 g3 g4 (tenW d.natAbs) 0 0 (W s r) (W s r) 0 0 0 (W s r) true (hY _ _ (resF_whole _ d k s r hvm hx cr ci)) n1 hi ht gd hs1 (gives_whole s r _ hr (.inr ci)) hj (same_eq s r hr) (gives_floor s r cr ci) (same_eq s r hr) w hG
          · have hs := fun W' => float_part k hk s r cr ci W'
            have oy := spec_ne k s r cr ci
            obtain ⟨s1, r1, hb, hr1, hcase⟩ := agree (W sv rv) d hd k hk s r hvm hx cr ci
            unfold lawBack at hb
            rw [if_neg dn] at hb
            rcases hcase with ⟨q1, q2⟩ | ⟨q1, z, q2, q3⟩
            · exact law_refused_p (W sv rv) d k g1 g2 g3 g4 (tenW d.natAbs) 0 0 (W s r) (specW k s r) 0 (W s1 r1) (W sv rv) 0 true (hY _ _ q2) n1 hi ht gd hs1 hs hj oy hb (gives_infB s1 r1 true (by omega) (by rw [beq_iff_eq]; exact q1)) w hG
            · exact law_part_p (W sv rv) d k g1 g2 g3 g4 (tenW d.natAbs) 0 0 (W s r) (specW k s r) 0 (W s1 r1) z 0 true (hY _ _ q2) n1 hi ht gd hs1 hs hj oy hb (gives_infB s1 r1 false (by omega) (by rw [beq_eq_false_iff_ne]; omega)) q3 w hG
        · have hj := gives_infB s r true (by omega) (by rw [beq_iff_eq]; omega)
          exact law_over_p (W sv rv) d k g1 g2 g3 g4 (tenW d.natAbs) 0 0 (W s r) (W s r) 0 0 (resF (W sv rv) d k).1 0 (resF (W sv rv) d k).2 (hY _ _ rfl) n1 hi ht gd hs1 (gives_whole s r _ hr (.inl (by omega))) hj w hG
    · have n1 : (FloatKind.f64.format.order (W sv rv) (W sv rv) != some .eq) = false := by
        have := order_self sv rv hv
        rwa [decide_eq_false (by omega)] at this
      exact law_inf (W sv rv) d k g1 g2 g3 g4 (hY _ _ (resF_skip _ d k (by rw [hW.1]; omega))) n1 (gives_infB sv rv true hv (by rw [beq_iff_eq]; exact c)) w hG
    · have n1 : (FloatKind.f64.format.order (W sv rv) (W sv rv) != some .eq) = true := by
        have := order_self sv rv hv
        rwa [decide_eq_true c] at this
      exact law_nan (W sv rv) d k g1 g2 g3 g4 (hY _ _ (resF_skip _ d k (by rw [hW.1]; omega))) n1 w hG
theorem law_word (v : Nat) (hv : v < 18446744073709551616) (d m : Int) (w : World) (hG : Glob w) : LawAt v d m w := by
  rcases Nat.lt_or_ge v 9223372036854775808 with c | c
  · have := law_all false v c d m w hG
    rwa [W_f] at this
  · have := law_all true (v - 9223372036854775808) (by omega) d m w hG
    have e : W true (v - 9223372036854775808) = v := by unfold W; rw [if_pos rfl]; omega
    rwa [e] at this
end Go.Proofs.YtobdmcdbfpjpiaaDoor.Q
