/- Plain numbers: the bytes of a list as one number, the lowest first; its words of 32 bits and its fields of w bits. -/
import Derived.WalkKit
import Derived.Laws.BitsLemmas
import Derived.WideLaws
namespace Go.Proofs.YtidcmpjcghbofaaDoor.Q
def num : List Int → Nat
  | [] => 0
  | b :: l => b.toNat + 256 * num l

theorem num_byte : ∀ (l : List Int) (_ : ∀ x ∈ l, 0 ≤ x ∧ x ≤ 255) (i : Nat), i < l.length → num l / 256 ^ i % 256 = (l.getD i 0).toNat := by
  intro l
  induction l with
  | nil => intro _ i hi; simp at hi
  | cons b l ih =>
    intro hl i hi
    have hb := hl b (by simp)
    cases i with
    | zero =>
      simp only [num, Nat.pow_zero, Nat.div_one, List.getD_cons_zero]
      omega
    | succ i =>
      have h := ih (fun x hx => hl x (by simp [hx])) i (by simpa using hi)
      rw [Nat.pow_succ, Nat.mul_comm, ← Nat.div_div_eq_div_mul, List.getD_cons_succ, ← h]
      congr 2
      simp only [num]
      omega

/-- Word k. -/
def word (l : List Int) (k : Nat) : Nat := num l / 2 ^ (32 * k) % 2 ^ 32

theorem word_bytes (l : List Int) (hl : ∀ x ∈ l, 0 ≤ x ∧ x ≤ 255) (k : Nat) (hk : 4 * k + 4 ≤ l.length) :
    word l k = (l.getD (4 * k) 0).toNat + 256 * (l.getD (4 * k + 1) 0).toNat + 65536 * (l.getD (4 * k + 2) 0).toNat + 16777216 * (l.getD (4 * k + 3) 0).toNat := by
  have h0 := num_byte l hl (4 * k) (by omega)
  have h1 := num_byte l hl (4 * k + 1) (by omega)
  have h2 := num_byte l hl (4 * k + 2) (by omega)
  have h3 := num_byte l hl (4 * k + 3) (by omega)
  rw [Nat.pow_add, ← Nat.div_div_eq_div_mul] at h1 h2 h3
  have e : (256 : Nat) ^ (4 * k) = 2 ^ (32 * k) := by
    rw [show (256 : Nat) = 2 ^ 8 by rfl, ← Nat.pow_mul]; congr 1; omega
  rw [e] at h0 h1 h2 h3
  unfold word
  rw [← h0, ← h1, ← h2, ← h3]
  generalize num l / 2 ^ (32 * k) = M
  omega

theorem num_bit (l : List Int) (hl : ∀ x ∈ l, 0 ≤ x ∧ x ≤ 255) (i : Nat) (hi : i < 8 * l.length) : num l / 2 ^ i % 2 = (l.getD (i / 8) 0).toNat / 2 ^ (i % 8) % 2 := by
  rw [← num_byte l hl (i / 8) (by omega)]
  have e : (2 : Nat) ^ i = 256 ^ (i / 8) * 2 ^ (i % 8) := by
    rw [show (256 : Nat) = 2 ^ 8 by rfl, ← Nat.pow_mul, ← Nat.pow_add]; congr 1; omega
  rw [e, ← Nat.div_div_eq_div_mul]
  generalize num l / 256 ^ (i / 8) = M
  have h8 : i % 8 < 8 := Nat.mod_lt _ (by omega)
  generalize i % 8 = r at h8
  have : r = 0 ∨ r = 1 ∨ r = 2 ∨ r = 3 ∨ r = 4 ∨ r = 5 ∨ r = 6 ∨ r = 7 := by omega
  rcases this with rfl | rfl | rfl | rfl | rfl | rfl | rfl | rfl <;> omega

/-- Number j of so many bits. -/
def unp (l : List Int) (w j : Nat) : Nat := num l / 2 ^ (j * w) % 2 ^ w

theorem unp_in (l : List Int) (w j k s : Nat) (h : j * w = 32 * k + s) (hs : s + w ≤ 32) : unp l w j = word l k / 2 ^ s % 2 ^ w := by
  unfold unp word
  rw [h, Nat.pow_add, ← Nat.div_div_eq_div_mul]
  generalize num l / 2 ^ (32 * k) = M
  rw [show (32 : Nat) = s + (32 - s) by omega, Nat.pow_add, Nat.mod_mul_right_div_self, Nat.mod_mod_of_dvd]
  exact Nat.pow_dvd_pow 2 (by omega)

theorem two_add (a b c : Nat) (h : c = a + b) : 2 ^ c = 2 ^ a * 2 ^ b := by rw [h, Nat.pow_add]

theorem unp_over (l : List Int) (w j k s : Nat) (h : j * w = 32 * k + s) (hs : 32 < s + w) (h1 : s ≤ 32) (hw : w ≤ 32) : unp l w j = word l k / 2 ^ s + (word l (k + 1) % 2 ^ (s + w - 32)) * 2 ^ (32 - s) := by
  unfold unp word
  rw [h, Nat.pow_add, ← Nat.div_div_eq_div_mul, two_add (32 * k) 32 (32 * (k + 1)) (by omega), ← Nat.div_div_eq_div_mul]
  generalize num l / 2 ^ (32 * k) = M
  have e32 := two_add s (32 - s) 32 (by omega)
  have ew := two_add (32 - s) (s + w - 32) w (by omega)
  rw [Nat.mod_mod_of_dvd _ (Nat.pow_dvd_pow 2 (by omega : s + w - 32 ≤ 32))]
  rw [e32, ew, Nat.mod_mul_right_div_self, Nat.mod_mul, ← Nat.div_div_eq_div_mul]
  rw [Nat.mul_comm (2 ^ (32 - s)) (M / 2 ^ s / 2 ^ (32 - s) % _)]

theorem wraps_u64 (n : Int) (h₀ : 0 ≤ n) (h₁ : n < 2 ^ 63) : IntKind.u64.wrap n = n := by
  rw [IntKind.wrap_u64]; omega
theorem wraps_u32 (n : Int) (h₀ : 0 ≤ n) (h₁ : n < 2 ^ 32) : IntKind.u32.wrap n = n := by
  rw [IntKind.wrap_u32]; omega
/-- A low number or a multiple of a greater power: their sum. -/
theorem or_low (k : IntKind) (j : Nat) (hj : j ≤ k.bits) (hk : ∀ n : Int, 0 ≤ n → n < 2 ^ j → k.wrap n = n) (i a b : Nat) (ha : a < 2 ^ i) (hb : a + 2 ^ i * b < 2 ^ j) :
    bits .or k (a : Int) ((2 ^ i * b : Nat) : Int) = ((a + 2 ^ i * b : Nat) : Int) := by
  rw [(bits_nat k j hj hk a (2 ^ i * b) (by omega) (by omega)).2, Nat.or_comm, ← Nat.two_pow_add_eq_or_of_lt ha, Nat.add_comm]
theorem and_one (x : Nat) (hx : x < 256) : bits .and .u8 (x : Int) 1 = ((x % 2 : Nat) : Int) := by
  have h := bits_mask .u8 8 (by decide) wraps_u8 1 (by decide) (x : Int) (by omega) (by omega)
  have e : (2 : Int) ^ 1 - 1 = 1 := by decide
  rw [e] at h
  rw [h]; omega
end Go.Proofs.YtidcmpjcghbofaaDoor.Q
