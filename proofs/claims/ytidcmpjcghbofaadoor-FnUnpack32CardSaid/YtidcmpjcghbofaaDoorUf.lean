/- The fields of words: as the unpacking reckons them. -/
import Derived.Test.YtidcmpjcghbofaaDoorUs
namespace Go.Proofs.YtidcmpjcghbofaaDoor.Q
open Go.RowKit Go.Proofs.YtidcmpjcghbofaaDoorW.PrintWords Go.Proofs.YtidcmpjcghbofaaDoorW.PrintLast Go.Proofs.YtidcmpjcghbofaaDoorW.PrintMore
set_option linter.unusedVariables false
set_option linter.unusedSimpArgs false

theorem word_lt (l : List Int) (k : Nat) : word l k < 2 ^ 32 := Nat.mod_lt _ (Nat.two_pow_pos _)
/-- Within a word. -/
theorem fld_in (l : List Int) (w j k s : Nat) (h : j * w = 32 * k + s) (hs : s + w ≤ 32) (P M : Int) (hP : P = ((2 ^ s : Nat) : Int)) (hM : M = ((2 ^ w : Nat) : Int)) : ((word l k : Nat) : Int) / P % M = ((unp l w j : Nat) : Int) := by
  rw [unp_in l w j k s h hs, hP, hM]; simp
theorem fld_first (l : List Int) (w j k : Nat) (h : j * w = 32 * k) (hs : w ≤ 32) (M : Int) (hM : M = ((2 ^ w : Nat) : Int)) : ((word l k : Nat) : Int) % M = ((unp l w j : Nat) : Int) := by
  have e := fld_in l w j k 0 (by omega) (by omega) 1 M (by simp) hM
  rw [Int.ediv_one] at e; exact e
theorem fld_top (l : List Int) (w j k s : Nat) (h : j * w = 32 * k + s) (hs : s + w = 32) (P : Int) (hP : P = ((2 ^ s : Nat) : Int)) : ((word l k : Nat) : Int) / P = ((unp l w j : Nat) : Int) := by
  rw [unp_in l w j k s h (by omega), hP]
  have h1 := word_lt l k
  have e := two_add s w 32 (by omega)
  have h2 : word l k / 2 ^ s < 2 ^ w := Nat.div_lt_of_lt_mul (by rw [← e]; exact h1)
  rw [Nat.mod_eq_of_lt h2]; simp
/-- Over the end of a word. -/
theorem fld_over (l : List Int) (w j k s t : Nat) (h : j * w = 32 * k + s) (ht : s + w = 32 + t) (h0 : 0 < t) (h1 : s ≤ 32) (hw : w ≤ 32) (P T M : Int) (hP : P = ((2 ^ s : Nat) : Int)) (hT : T = ((2 ^ t : Nat) : Int)) (hM : M = ((2 ^ (32 - s) : Nat) : Int)) :
    bits .or .u32 (((word l k : Nat) : Int) / P) (IntKind.u32.wrap (((word l (k + 1) : Nat) : Int).tmod T * M)) = ((unp l w j : Nat) : Int) := by
  rw [unp_over l w j k s h (by omega) h1 hw, show s + w - 32 = t by omega, hP, hT, hM]
  have a1 := word_lt l k
  have e := two_add s (32 - s) 32 (by omega)
  have h2 : word l k / 2 ^ s < 2 ^ (32 - s) := Nat.div_lt_of_lt_mul (by rw [← e]; exact a1)
  have e1 : Int.tmod ((word l (k + 1) : Nat) : Int) ((2 ^ t : Nat) : Int) = ((word l (k + 1) % 2 ^ t : Nat) : Int) := tmod_nat _ _
  have e2 : (((word l k : Nat) : Int) / ((2 ^ s : Nat) : Int)) = ((word l k / 2 ^ s : Nat) : Int) := by simp
  have h3 : word l (k + 1) % 2 ^ t < 2 ^ t := Nat.mod_lt _ (Nat.two_pow_pos _)
  rw [e1, e2]
  generalize word l (k + 1) % 2 ^ t = b at h3
  generalize word l k / 2 ^ s = a at h2
  have e3 := two_add t (32 - s) w (by omega)
  have h4 : (b + 1) * 2 ^ (32 - s) ≤ 2 ^ t * 2 ^ (32 - s) := Nat.mul_le_mul_right _ h3
  rw [← e3, Nat.add_mul, Nat.one_mul] at h4
  have h5 : 2 ^ w ≤ 2 ^ 32 := Nat.pow_le_pow_right (by decide) hw
  have e4 : ((b : Int) * ((2 ^ (32 - s) : Nat) : Int)) = ((2 ^ (32 - s) * b : Nat) : Int) := by rw [Nat.mul_comm]; simp
  have e5 : b * 2 ^ (32 - s) = 2 ^ (32 - s) * b := Nat.mul_comm _ _
  rw [e4, wraps_u32 _ (by omega) (by omega), or_low .u32 32 (by decide) wraps_u32 (32 - s) a b h2 (by omega), e5]
theorem cons_eq {a b : Int} {l m : List Int} (h : a = b) (k : l = m) : a :: l = b :: m := by rw [h, k]
end Go.Proofs.YtidcmpjcghbofaaDoor.Q
