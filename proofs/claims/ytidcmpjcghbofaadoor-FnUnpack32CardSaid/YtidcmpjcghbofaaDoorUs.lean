/- The laws of the unpacking of 32 numbers, over numbers and lists alone: the reference's bits, one by one, are the fields of the bytes' number. -/
import Derived.Test.YtidcmpjcghbofaaDoorNum
import Derived.Test.YtidcmpjcghbofaaDoorQU4a
namespace Go.Proofs.YtidcmpjcghbofaaDoor.Q
open Go.RowKit Go.Proofs.YtidcmpjcghbofaaDoorW.PrintWords Go.Proofs.YtidcmpjcghbofaaDoorW.PrintLast Go.Proofs.YtidcmpjcghbofaaDoorW.PrintMore
set_option linter.unusedVariables false
set_option linter.unusedSimpArgs false

/-- The fields after so many bits. -/
def upto (l : List Int) (w i : Nat) : List Int := (List.range 32).map fun j => ((num l / 2 ^ (j * w) % 2 ^ (min w (i - j * w)) : Nat) : Int)
def fields (l : List Int) (w : Nat) : List Int := (List.range 32).map fun j => ((unp l w j : Nat) : Int)

theorem upto_length (l : List Int) (w i : Nat) : (upto l w i).length = 32 := by simp [upto]
theorem upto_start (l : List Int) (w : Nat) : upto l w 0 = List.replicate 32 0 := by
  unfold upto
  have : ∀ j, ((num l / 2 ^ (j * w) % 2 ^ (min w (0 - j * w)) : Nat) : Int) = 0 := by
    intro j; rw [Nat.zero_sub, Nat.min_zero, Nat.pow_zero, Nat.mod_one]; rfl
  simp only [this]
  decide
theorem upto_end (l : List Int) (w : Nat) : upto l w (32 * w) = fields l w := by
  unfold upto fields unp
  refine List.map_congr_left fun j hj => ?_
  have hj' := List.mem_range.1 hj
  have h : w ≤ 32 * w - j * w := by
    rw [← Nat.sub_mul]
    exact Nat.le_mul_of_pos_left w (by omega)
  rw [Nat.min_eq_left h]

theorem upto_step (l : List Int) (w q t : Nat) (hq : q < 32) (ht : t < w) :
    (upto l w (q * w + t)).set q (((num l / 2 ^ (q * w) % 2 ^ t + 2 ^ t * (num l / 2 ^ (q * w + t) % 2) : Nat)) : Int) = upto l w (q * w + t + 1) := by
  refine List.ext_getElem (by simp [upto]) fun j h1 h2 => ?_
  have hj : j < 32 := by simpa [upto] using h2
  rw [List.getElem_set]
  by_cases hjq : q = j
  · subst hjq
    rw [if_pos rfl]
    simp only [upto, List.getElem_map, List.getElem_range]
    rw [show q * w + t + 1 - q * w = t + 1 by omega, Nat.min_eq_right (by omega : t + 1 ≤ w), Nat.mod_pow_succ, Nat.div_div_eq_div_mul, Nat.pow_add]
  · rw [if_neg hjq]
    simp only [upto, List.getElem_map, List.getElem_range]
    rcases Nat.lt_or_ge j q with h | h
    · have hm : (j + 1) * w ≤ q * w := Nat.mul_le_mul_right w h
      rw [Nat.add_mul, Nat.one_mul] at hm
      rw [Nat.min_eq_left (by omega), Nat.min_eq_left (by omega)]
    · have hm : (q + 1) * w ≤ j * w := Nat.mul_le_mul_right w (by omega)
      rw [Nat.add_mul, Nat.one_mul] at hm
      rw [show q * w + t - j * w = 0 by omega, show q * w + t + 1 - j * w = 0 by omega]

theorem upto_at (l : List Int) (w q t : Nat) (hq : q < 32) (ht : t < w) : rd (upto l w (q * w + t)) (q : Int) = ((num l / 2 ^ (q * w) % 2 ^ t : Nat) : Int) := by
  show (upto l w (q * w + t)).getD q 0 = _
  rw [List.getD_eq_getElem?_getD, List.getElem?_eq_getElem (by rw [upto_length]; exact hq)]
  simp only [upto, List.getElem_map, List.getElem_range, Option.getD_some]
  rw [show q * w + t - q * w = t by omega, Nat.min_eq_right (by omega)]

/-- One bit, as the reference reckons it. -/
theorem bit_now (l : List Int) (hl : ∀ x ∈ l, 0 ≤ x ∧ x ≤ 255) (a i t : Nat) (ha : a < 2 ^ t) (ht : t < 32) (hi : i < 8 * l.length) :
    bits .or .u64 (a : Int) (shl .u64 (IntKind.u64.wrap (bits .and .u8 (shr .u8 (rd l ((i / 8 : Nat) : Int)) ((i % 8 : Nat) : Int)) 1)) (t : Int)) = ((a + 2 ^ t * (num l / 2 ^ i % 2) : Nat) : Int) := by
  have hlt : i / 8 < l.length := by omega
  have hrd : rd l ((i / 8 : Nat) : Int) = ((l.getD (i / 8) 0).toNat : Int) := by
    show l.getD (i / 8) 0 = _
    have hm := hl (l.getD (i / 8) 0) (by rw [List.getD_eq_getElem?_getD, List.getElem?_eq_getElem hlt]; exact List.getElem_mem hlt)
    omega
  have hb : (l.getD (i / 8) 0).toNat < 256 := by
    have hm := hl (l.getD (i / 8) 0) (by rw [List.getD_eq_getElem?_getD, List.getElem?_eq_getElem hlt]; exact List.getElem_mem hlt)
    omega
  rw [hrd, num_bit l hl i hi]
  generalize (l.getD (i / 8) 0).toNat = B at hb
  have hr8 : i % 8 < 8 := Nat.mod_lt _ (by decide)
  generalize i % 8 = r at hr8
  have e1 : shr .u8 (B : Int) (r : Int) = ((B / 2 ^ r : Nat) : Int) := by
    unfold shr
    rw [Int.toNat_natCast, show IntKind.u8.bits = 8 from rfl, Nat.min_eq_left (by omega)]
    simp
  have hd : B / 2 ^ r < 256 := Nat.lt_of_le_of_lt (Nat.div_le_self _ _) hb
  rw [e1, and_one _ hd]
  generalize hbit : B / 2 ^ r % 2 = b
  have hb2 : b < 2 := by rw [← hbit]; exact Nat.mod_lt _ (by decide)
  rw [wraps_u64 (b : Int) (by omega) (by omega)]
  have hp : 2 ^ t ≤ 2 ^ 31 := Nat.pow_le_pow_right (by decide) (by omega)
  have hpb : 2 ^ t * b ≤ 2 ^ 31 := by
    rcases (by omega : b = 0 ∨ b = 1) with rfl | rfl
    · simp
    · simpa using hp
  have e2 : shl .u64 (b : Int) (t : Int) = ((2 ^ t * b : Nat) : Int) := by
    unfold shl
    rw [Int.toNat_natCast, show IntKind.u64.bits = 64 from rfl, Nat.min_eq_left (by omega)]
    have : (b : Int) * 2 ^ t = ((2 ^ t * b : Nat) : Int) := by rw [Nat.mul_comm]; simp
    rw [this]
    exact wraps_u64 _ (by omega) (by omega)
  rw [e2]
  exact or_low .u64 63 (by decide) wraps_u64 t a b ha (by omega)

theorem w64 (n : Nat) (h : n < 2 ^ 62) : wrap64 (n : Int) = (n : Int) := by unfold wrap64; omega
theorem tdiv_nat (i w : Nat) : Int.tdiv (i : Int) (w : Int) = ((i / w : Nat) : Int) := by rw [Int.tdiv_eq_ediv_of_nonneg (by omega), ← Int.natCast_ediv]
theorem tmod_nat (i w : Nat) : Int.tmod (i : Int) (w : Int) = ((i % w : Nat) : Int) := by rw [Int.tmod_eq_emod_of_nonneg (by omega), ← Int.natCast_emod]

theorem spec_run (l : List Int) (hl : ∀ x ∈ l, 0 ≤ x ∧ x ≤ 255) (w : Nat) (h1 : 1 ≤ w) (h2 : w ≤ 32) (hn : l.length = 4 * w) (d : Nat) : ∀ k i : Nat, i + d = 32 * w → d < k →
    spec_UnpackBits.l0 k l 0 (w : Int) 32 (upto l w i) (i : Int) = some (fields l w, true) := by
  induction d with
  | zero =>
    intro k i hi hk
    obtain ⟨k, rfl⟩ : ∃ m, k = m + 1 := ⟨k - 1, by omega⟩
    simp only [spec_UnpackBits.l0]
    have e : wrap64 (32 * (w : Int)) = 32 * (w : Int) := by unfold wrap64; omega
    rw [e, if_neg (by omega), show i = 32 * w by omega, upto_end]
  | succ d ih =>
    intro k i hi hk
    obtain ⟨k, rfl⟩ : ∃ m, k = m + 1 := ⟨k - 1, by omega⟩
    have hq : i / w < 32 := Nat.div_lt_of_lt_mul (by rw [Nat.mul_comm]; omega)
    have ht : i % w < w := Nat.mod_lt _ (by omega)
    have hi' : i = i / w * w + i % w := by rw [Nat.mul_comm]; exact (Nat.div_add_mod i w).symm
    have hq0 : (0 : Int) ≤ ((i / w : Nat) : Int) := Int.natCast_nonneg _
    have hq1 : ((i / w : Nat) : Int) < ((32 : Nat) : Int) := by exact_mod_cast hq
    have ht0 : (0 : Int) ≤ ((i % w : Nat) : Int) := Int.natCast_nonneg _
    have ht32 : i % w < 32 := Nat.lt_of_lt_of_le ht h2
    have hi8 : i < 8 * l.length := by omega
    have h8 : i / 8 < 2 ^ 62 := by omega
    have hi2 : i < 2 ^ 62 := by omega
    have hi1 : i + 1 < 2 ^ 62 := by omega
    have hq2 : i / w < 2 ^ 62 := Nat.lt_trans hq (by decide)
    have hw2 : 32 * w < 2 ^ 62 := by omega
    have f1 : (i : Int) < 32 * (w : Int) := by omega
    have f2 : ¬ (w : Int) = 0 := by omega
    have f3 : (0 : Int) ≤ ((i / 8 : Nat) : Int) := Int.natCast_nonneg _
    have f4 : ((i / 8 : Nat) : Int) < (l.length : Int) := by omega
    have f5 : (0 : Int) ≤ ((i % 8 : Nat) : Int) := Int.natCast_nonneg _
    have f6 : i + 1 + d = 32 * w := by omega
    have f7 : d < k := by omega
    have hu := upto_at l w (i / w) (i % w) hq ht
    have hs := upto_step l w (i / w) (i % w) hq ht
    rw [← hi'] at hu hs
    have hb := bit_now l hl (num l / 2 ^ (i / w * w) % 2 ^ (i % w)) i (i % w) (Nat.mod_lt _ (Nat.two_pow_pos _)) ht32 hi8
    have hlen := upto_length l w i
    have e32 : wrap64 (32 * (w : Int)) = 32 * (w : Int) := w64 (32 * w) hw2
    have ew : wrap64 (Int.tdiv (i : Int) (w : Int)) = ((i / w : Nat) : Int) := by rw [tdiv_nat]; exact w64 _ hq2
    have e0 : wrap64 (0 + (i : Int)) = (i : Int) := by rw [Int.zero_add]; exact w64 _ hi2
    have e8 : wrap64 (Int.tdiv (i : Int) 8) = ((i / 8 : Nat) : Int) := (congrArg wrap64 (tdiv_nat i 8)).trans (w64 _ h8)
    have em8 : Int.tmod (i : Int) 8 = ((i % 8 : Nat) : Int) := tmod_nat i 8
    have emw : Int.tmod (i : Int) (w : Int) = ((i % w : Nat) : Int) := tmod_nat i w
    have es : wrap64 ((i : Int) + 1) = ((i + 1 : Nat) : Int) := w64 (i + 1) hi1
    simp only [spec_UnpackBits.l0]
    rw [e32, ew, e0, e8, em8, emw, es, hu, hb, hlen, Int.toNat_natCast, hs]
    rw [if_pos f1, if_neg f2, if_pos hq0, if_pos hq1, if_pos f3, if_pos f4, if_pos f5, if_pos ht0]
    exact ih k (i + 1) f6 f7

theorem spec_is (l : List Int) (hl : ∀ x ∈ l, 0 ≤ x ∧ x ≤ 255) (w : Nat) (h1 : 1 ≤ w) (h2 : w ≤ 32) (hn : l.length = 4 * w) (k : Nat) (hk : 1024 < k) :
    spec_UnpackBits.f k l 0 (w : Int) 32 = some (fields l w, true) := by
  unfold spec_UnpackBits.f
  have e1 : wrap64 (32 * (w : Int)) = 32 * (w : Int) := by unfold wrap64; omega
  have e2 : wrap64 (0 + 32 * (w : Int)) = 32 * (w : Int) := by unfold wrap64; omega
  have e3 : wrap64 (8 * (l.length : Int)) = 32 * (w : Int) := by unfold wrap64; omega
  rw [e1, e2, e3, if_neg (by omega), if_pos (by omega), if_pos (by decide)]
  have h := spec_run l hl w h1 h2 hn (32 * w) k 0 (by omega) (by omega)
  rw [upto_start] at h
  exact h

theorem same_run (x : List Int) (hx : x.length = 32) (hr : ∀ v ∈ x, 0 ≤ v ∧ v < 4294967296) (d : Nat) : ∀ k i : Nat, i + d = 32 → d < k → laws_unpacked.l0 k x x (i : Int) = some true := by
  induction d with
  | zero =>
    intro k i hi hk
    obtain ⟨k, rfl⟩ : ∃ m, k = m + 1 := ⟨k - 1, by omega⟩
    simp only [laws_unpacked.l0]
    rw [if_neg (by omega)]
  | succ d ih =>
    intro k i hi hk
    obtain ⟨k, rfl⟩ : ∃ m, k = m + 1 := ⟨k - 1, by omega⟩
    have hlt : i < x.length := by omega
    have hv : 0 ≤ rd x (i : Int) ∧ rd x (i : Int) < 4294967296 := by
      refine hr _ ?_
      show x.getD i 0 ∈ x
      rw [List.getD_eq_getElem?_getD, List.getElem?_eq_getElem hlt]
      exact List.getElem_mem hlt
    have ew : IntKind.u64.wrap (rd x (i : Int)) = rd x (i : Int) := wraps_u64 _ hv.1 (by omega)
    have es : wrap64 ((i : Int) + 1) = ((i + 1 : Nat) : Int) := by unfold wrap64; omega
    simp only [laws_unpacked.l0]
    rw [if_pos (by omega), if_pos (by omega), if_pos (by omega), if_pos (by omega), ew, if_pos rfl, es]
    exact ih k (i + 1) (by omega) (by omega)

theorem fields_length (l : List Int) (w : Nat) : (fields l w).length = 32 := by simp [fields]
theorem fields_bound (l : List Int) (w : Nat) (h2 : w ≤ 32) : ∀ v ∈ fields l w, 0 ≤ v ∧ v < 4294967296 := by
  intro v hv
  obtain ⟨j, _, rfl⟩ := List.mem_map.1 hv
  have h : unp l w j < 2 ^ 32 := Nat.lt_of_lt_of_le (Nat.mod_lt _ (Nat.two_pow_pos _)) (Nat.pow_le_pow_right (by decide) h2)
  omega

theorem unpacked_is (l : List Int) (hl : ∀ x ∈ l, 0 ≤ x ∧ x ≤ 255) (w : Nat) (h1 : 1 ≤ w) (h2 : w ≤ 32) (hn : l.length = 4 * w) (k : Nat) (hk : 1024 < k) :
    laws_unpacked.f k l (w : Int) (fields l w) true = some true := by
  unfold laws_unpacked.f
  rw [spec_is l hl w h1 h2 hn k hk]
  obtain ⟨k, rfl⟩ : ∃ m, k = m + 1 := ⟨k - 1, by omega⟩
  simp only [Option.bind_some, if_true, fields_length, laws_unpacked.j0]
  rw [if_neg (by decide)]
  exact same_run _ (fields_length l w) (fields_bound l w h2) 32 k 0 (by omega) (by omega)

/-- What a call answers: of so many bytes. -/
def unpF (w : Nat) (l0 : List Int) : Option (List Int × Bool) := if l0.length = 4 * w ∧ (∀ x ∈ l0, 0 ≤ x ∧ x ≤ 255) then some (fields l0 w, true) else none
theorem unpF_is (w : Nat) (l0 : List Int) (hn : l0.length = 4 * w) (hb : ∀ x ∈ l0, 0 ≤ x ∧ x ≤ 255) : unpF w l0 = some (fields l0 w, true) := by unfold unpF; rw [if_pos ⟨hn, hb⟩]
end Go.Proofs.YtidcmpjcghbofaaDoor.Q
