/- Doubles, plainly: words, their values; sums, comparisons, whole parts. -/
import Derived.Test.YtobdmcdbfpjpiaaDoorFa
namespace Go.Proofs.YtobdmcdbfpjpiaaDoor.Q
open Ieee
set_option linter.unusedVariables false
set_option linter.unusedSimpArgs false
theorem lp : double.leastPlace = -1074 := by decide
theorem bin : double.binade = 4503599627370496 := by decide
theorem infr : double.infRung = 9218868437227405312 := by decide
theorem sgw : double.signWeight = 9223372036854775808 := by decide
theorem frb : double.fractionBits = 52 := by decide
/-- The word of a sign and a rung. -/
def W (s : Bool) (r : Nat) : Nat := if s then 9223372036854775808 + r else r
theorem word_W (s : Bool) (r : Nat) : double.word s r = W s r := by unfold Format.word W; rw [sgw]
theorem log2_mul_pow (m k : Nat) (h : m ≠ 0) : (m * 2 ^ k).log2 = m.log2 + k := by
  have h2 : m * 2 ^ k ≠ 0 := Nat.mul_ne_zero h (Nat.ne_of_gt (Nat.two_pow_pos _))
  obtain ⟨b1, b2⟩ := log2_bounds m h
  rw [Nat.log2_eq_iff h2]
  constructor
  · rw [Nat.pow_add]; exact Nat.mul_le_mul_right _ b1
  · rw [show m.log2 + k + 1 = (m.log2 + 1) + k by omega, Nat.pow_add]; exact Nat.mul_lt_mul_of_pos_right b2 (Nat.two_pow_pos _)
/-- Rounding, in units of the least number. -/
theorem near (neg : Bool) (mag : Nat) (place : Int) (hp : -1074 ≤ place) : double.nearest neg mag place = W neg (R (mag * 2 ^ (place + 1074).toNat)) := by
  unfold Format.nearest
  by_cases h0 : mag = 0
  · rw [if_pos h0, h0, Nat.zero_mul, R_zero, word_W]
  · rw [if_neg h0]
    have ht : mag * 2 ^ (place + 1074).toNat ≠ 0 := Nat.mul_ne_zero h0 (Nat.ne_of_gt (Nat.two_pow_pos _))
    have hl : last (mag * 2 ^ (place + 1074).toNat) = (mag.log2 + (place + 1074).toNat) - 52 := by unfold last; rw [log2_mul_pow _ _ h0]
    simp only [lp, frb, bin, infr, word_W, cut_even, Nat.shiftLeft_eq]
    unfold R
    rw [if_neg ht, hl]
    obtain ⟨a, ha⟩ : ∃ a : Nat, place = (a : Int) - 1074 := ⟨(place + 1074).toNat, by omega⟩
    subst ha
    have ea : ((a : Int) - 1074 + 1074).toNat = a := by omega
    rw [ea]
    generalize mag.log2 = g
    have em : max ((a : Int) - 1074 + (g : Int) - ((52 : Nat) : Int)) (-1074) = ((g + a - 52 : Nat) : Int) - 1074 := by omega
    rw [em]
    generalize g + a - 52 = L
    have e1 : ((L : Int) - 1074 - -1074).toNat = L := by omega
    have e2 : ((a : Int) - 1074 - ((L : Int) - 1074)).toNat = a - L := by omega
    have e3 : ((L : Int) - 1074 - ((a : Int) - 1074)).toNat = L - a := by omega
    rw [e1, e2, e3]
    have hc : cutE (mag * 2 ^ (a - L)) (2 ^ (L - a)) = cutE (mag * 2 ^ a) (2 ^ L) := by
      rcases Nat.le_total L a with h | h
      · rw [show L - a = 0 by omega]
        have := cutE_scale (mag * 2 ^ (a - L)) (2 ^ 0) (2 ^ L) (Nat.two_pow_pos _) (Nat.two_pow_pos _)
        rw [Nat.mul_assoc, ← Nat.pow_add, ← Nat.pow_add, show a - L + L = a by omega, Nat.zero_add] at this
        exact this.symm
      · rw [show a - L = 0 by omega]
        have := cutE_scale (mag * 2 ^ 0) (2 ^ (L - a)) (2 ^ a) (Nat.two_pow_pos _) (Nat.two_pow_pos _)
        rw [Nat.mul_assoc, ← Nat.pow_add, ← Nat.pow_add, show L - a + a = L by omega, Nat.zero_add] at this
        exact this.symm
    rw [hc]
/-- A finite rung's digits and its place. -/
def mg (r : Nat) : Nat := if r < 4503599627370496 then r else 4503599627370496 + r % 4503599627370496
def pl (r : Nat) : Int := if r < 4503599627370496 then -1074 else -1074 + (r / 4503599627370496 - 1 : Nat)
theorem pl_ge (r : Nat) : -1074 ≤ pl r := by unfold pl; split <;> omega
theorem V_eq (r : Nat) : V r = mg r * 2 ^ (pl r + 1074).toNat := by
  unfold V mg pl
  split
  · simp
  · congr 2
    omega
theorem mg_lt (r : Nat) : mg r < 2 * 4503599627370496 := by unfold mg; split <;> omega
theorem read_W (s : Bool) (r : Nat) (h : r < 9218868437227405312) : double.read (W s r) = .number s (mg r) (pl r) := by
  have e1 : (W s r / 9223372036854775808 % 2 == 1) = s := by unfold W; cases s <;> simp <;> omega
  have e2 : W s r % 9223372036854775808 = r := by unfold W; cases s <;> simp <;> omega
  unfold Format.read mg pl
  simp only [sgw, bin, infr, lp, e1, e2]
  by_cases c : r < 4503599627370496
  · rw [if_pos c, if_pos c, if_pos c]
  · rw [if_neg c, if_neg c, if_neg c, if_pos h]
theorem read_inf (s : Bool) : double.read (W s 9218868437227405312) = .infinity s := by cases s <;> decide
/-- Signed. -/
def sg (s : Bool) (n : Nat) : Int := if s then -(n : Int) else (n : Int)
theorem signed_eq (s : Bool) (m up : Nat) : signed s m up = sg s (m * 2 ^ up) := by unfold signed sg; simp only [Nat.shiftLeft_eq]
theorem sg_scale (s : Bool) (n k : Nat) : sg s n * (k : Int) = sg s (n * k) := by unfold sg; cases s <;> simp [Int.neg_mul]
theorem pow_split (p b : Int) (hb : -1074 ≤ b) (h : b ≤ p) : 2 ^ (p + 1074).toNat = 2 ^ (p - b).toNat * 2 ^ (b + 1074).toNat := by
  rw [← Nat.pow_add]
  congr 1
  omega
theorem val_scale (s : Bool) (m : Nat) (p b : Int) (hb : -1074 ≤ b) (h : b ≤ p) : signed s m (p - b).toNat * ((2 ^ (b + 1074).toNat : Nat) : Int) = sg s (m * 2 ^ (p + 1074).toNat) := by
  rw [signed_eq, sg_scale, Nat.mul_assoc, ← pow_split p b hb h]
/-- A total, written. -/
def tot (z : Bool) (t : Int) : Nat := W (if t = 0 then z else decide (t < 0)) (R t.natAbs)
theorem add_W (s t : Bool) (a b : Nat) (ha : a < 9218868437227405312) (hb : b < 9218868437227405312) : double.add (W s a) (W t b) = some (tot (s && t) (sg s (V a) + sg t (V b))) := by
  unfold Format.add
  rw [read_W s a ha, read_W t b hb]
  have h1 := pl_ge a
  have h2 := pl_ge b
  have hm : -1074 ≤ min (pl a) (pl b) := by omega
  have e1 := val_scale s (mg a) (pl a) (min (pl a) (pl b)) hm (by omega)
  have e2 := val_scale t (mg b) (pl b) (min (pl a) (pl b)) hm (by omega)
  rw [← V_eq] at e1 e2
  show some (double.write (Datum.number _ _ _)) = _
  unfold Format.write tot
  simp only
  rw [near _ _ _ hm]
  have hk : 0 < (2 ^ (min (pl a) (pl b) + 1074).toNat : Nat) := Nat.two_pow_pos _
  rw [← e1, ← e2, ← Int.add_mul]
  generalize signed s (mg a) (pl a - min (pl a) (pl b)).toNat + signed t (mg b) (pl b - min (pl a) (pl b)).toNat = T
  generalize 2 ^ (min (pl a) (pl b) + 1074).toNat = K at hk
  have hK : (0 : Int) < (K : Int) := by omega
  have z1 : (T * (K : Int) = 0) ↔ T = 0 := by
    constructor
    · intro h; rcases Int.mul_eq_zero.1 h with h | h <;> omega
    · intro h; rw [h, Int.zero_mul]
  have z2 : (T * (K : Int) < 0) ↔ T < 0 := by
    constructor
    · intro h
      rcases Int.lt_or_le T 0 with h2 | h2
      · exact h2
      · have := Int.mul_nonneg h2 (Int.le_of_lt hK); omega
    · intro h; exact Int.mul_neg_of_neg_of_pos h hK
  rw [Int.natAbs_mul, Int.natAbs_natCast]
  simp only [z1, z2]
end Go.Proofs.YtobdmcdbfpjpiaaDoor.Q
