/- Several texts of ours in one: Pi, Pk, Pl, Pm, Pn. -/
import Derived.Test.YtiieljnllgeoeaaGreatQDKd
import Derived.Test.YtiieljnllgeoeaaGreatQDKe
import Derived.Test.YtiieljnllgeoeaaGreatHZ
/- The plain law: groups of seven bits read back. -/
namespace Go.Proofs.YtiieljnllgeoeaaGreat.Q
open Go.RowKit Go.Proofs.YtiieljnllgeoeaaGreatW.PrintWords Go.Proofs.YtiieljnllgeoeaaGreatW.PrintLast Go.Proofs.YtiieljnllgeoeaaGreatW.PrintMore
set_option linter.unusedVariables false
set_option linter.unusedSimpArgs false
theorem and127 (x : Nat) (h : x < 256) : IntKind.u64.wrap (Go.bits .and .u8 (x : Int) 127) = ((x % 128 : Nat) : Int) := by
 have e : ∀ y : _root_.Fin 256, IntKind.u64.wrap (Go.bits .and .u8 ((y.val : Nat) : Int) 127) = ((y.val % 128 : Nat) : Int) := by decide +kernel
 exact e ⟨x, h⟩
theorem shl_is (m s : Nat) (hs : s ≤ 64) : shl .u64 (m : Int) (s : Int) = ((m * 2 ^ s % 18446744073709551616 : Nat) : Int) := by
 unfold shl
 have e : min (s : Int).toNat IntKind.u64.bits = s := by simp [IntKind.bits]; omega
 rw [e]
 have : (m : Int) * 2 ^ s = ((m * 2 ^ s : Nat) : Int) := by simp
 rw [this]
 generalize m * 2 ^ s = x
 simp [IntKind.wrap, IntKind.bits, IntKind.signed]
theorem or_shl (a m s : Nat) (ha : a < 2 ^ s) (hs : s < 64) (h : a + m * 2 ^ s < 18446744073709551616) : Go.bits .or .u64 (a : Int) (shl .u64 (m : Int) (s : Int)) = ((a + m * 2 ^ s : Nat) : Int) := by
 have h2 : (2 : Nat) ^ s < 2 ^ 64 := Nat.pow_lt_pow_right (by omega) hs
 rw [shl_is m s (by omega), u64_or_nat a _ (by omega) (Nat.mod_lt _ (by omega)), or_add a m s ha hs, Nat.mod_eq_of_lt h]
theorem rd_at (data : List Int) (p : Nat) (x : Int) (t : List Int) (h : data.drop p = x :: t) : rd data (p : Int) = x ∧ p < data.length ∧ data.drop (p + 1) = t := by
 have hp : p < data.length := by
  rcases Nat.lt_or_ge p data.length with h1 | h1
  ·exact h1
  ·rw [List.drop_eq_nil_of_le h1] at h; cases h
 have e := List.drop_eq_getElem_cons hp
 rw [e] at h
 injection h with h1 h2
 refine ⟨?_, hp, h2⟩
 unfold rd
 rw [Int.toNat_natCast, List.getD_eq_getElem?_getD, List.getElem?_eq_getElem hp, ← h1]
 rfl
theorem vlq_end (data : List Int) (hd : data.length < 1000000) (p acc m s k R : Nat) (t : List Int) (h1 : data.drop p = (m : Int) :: t) (hm : m < 128) (hs : s < 63) (ho : Go.bits .or .u64 (acc : Int) (shl .u64 (m : Int) (s : Int)) = (R : Int)) :
  spec_TakeVLQ.l0 (k + 3) data (p : Int) (acc : Int) (s : Int) = some ((R : Int), ((p + 1 : Nat) : Int), true) := by
 obtain ⟨r1, r2, r3⟩ := rd_at data p _ _ h1
 have hw : wrap64 ((p : Int) + 1) = ((p + 1 : Nat) : Int) := by unfold wrap64; omega
 clear h1 r3
 unfold spec_TakeVLQ.l0
 rw [if_pos (by omega), decide_eq_true (by omega)]
 unfold spec_TakeVLQ.j1
 rw [if_pos rfl, if_pos (by omega), if_pos (by omega), if_neg (by omega), r1]
 unfold spec_TakeVLQ.j2
 rw [if_neg (by decide), if_pos (by omega), if_pos (by omega), and127 m (by omega), Nat.mod_eq_of_lt hm, ho, hw]
theorem vlq_more (data : List Int) (hd : data.length < 1000000) (p acc m s k R : Nat) (t : List Int) (h1 : data.drop p = ((m % 128 + 128 : Nat) : Int) :: t) (hs : s < 63) (ho : Go.bits .or .u64 (acc : Int) (shl .u64 ((m % 128 : Nat) : Int) (s : Int)) = (R : Int)) :
  spec_TakeVLQ.l0 (k + 3) data (p : Int) (acc : Int) (s : Int) = spec_TakeVLQ.l0 k data ((p + 1 : Nat) : Int) (R : Int) ((s + 7 : Nat) : Int) := by
 obtain ⟨r1, r2, r3⟩ := rd_at data p _ _ h1
 have hw : wrap64 ((p : Int) + 1) = ((p + 1 : Nat) : Int) := by unfold wrap64; omega
 have hw7 : wrap64 ((s : Int) + 7) = ((s + 7 : Nat) : Int) := by unfold wrap64; omega
 have ha := and127 (m % 128 + 128) (by omega)
 rw [show (m % 128 + 128) % 128 = m % 128 by omega] at ha
 clear h1 r3
 conv => lhs; unfold spec_TakeVLQ.l0
 rw [if_pos (by omega), decide_eq_true (by omega)]
 conv => lhs; unfold spec_TakeVLQ.j1
 rw [if_pos rfl, if_pos (by omega), if_pos (by omega), if_neg (by omega), r1]
 conv => lhs; unfold spec_TakeVLQ.j2
 rw [if_neg (by decide), if_pos (by omega), if_neg (by omega), ha, ho, hw, hw7]
theorem or_zero (m : Nat) (h : m < 18446744073709551616) : Go.bits .or .u64 ((0 : Nat) : Int) (shl .u64 (m : Int) ((0 : Nat) : Int)) = (m : Int) := by
 have := or_shl 0 m 0 (by decide) (by decide) (by simpa using h)
 simpa using this
/-- A number of at most three groups. -/
theorem vlq_at (data : List Int) (hd : data.length < 1000000) (m p k : Nat) (t : List Int) (h : data.drop p = leb m ++ t) (hm : m < 2097152) (hk : 9 ≤ k) :
  spec_TakeVLQ.f k data (p : Int) = some ((m : Int), ((p + (leb m).length : Nat) : Int), true) ∧ data.drop (p + (leb m).length) = t := by
 have hdrop : data.drop (p + (leb m).length) = t := by rw [← List.drop_drop, h, List.drop_left]
 refine ⟨?_, hdrop⟩
 obtain ⟨k, rfl⟩ : ∃ j, k = j + 9 := ⟨k - 9, by omega⟩
 unfold spec_TakeVLQ.f
 by_cases c1 : m < 128
 ·have e : leb m = [(m : Int)] := by rw [leb, if_pos c1]
  rw [e] at h ⊢
  exact vlq_end data hd p 0 m 0 (k + 6) m t h c1 (by decide) (or_zero m (by omega))
 ·by_cases c2 : m < 16384
  ·have e : leb m = [((m % 128 + 128 : Nat) : Int), ((m / 128 : Nat) : Int)] := by rw [leb, if_neg c1, leb, if_pos (by omega)]
   rw [e] at h ⊢
   have h2 := (rd_at data p _ _ h).2.2
   rw [show (0 : Int) = ((0 : Nat) : Int) from rfl, vlq_more data hd p 0 m 0 (k + 6) (m % 128) _ h (by decide) (or_zero _ (by omega))]
   have ho := or_shl (m % 128) (m / 128) 7 (by omega) (by decide) (by omega)
   rw [vlq_end data hd (p + 1) (m % 128) (m / 128) (0 + 7) (k + 3) _ _ h2 (by omega) (by decide) ho]
   rw [show m % 128 + m / 128 * 2 ^ 7 = m by omega]
   rfl
  ·have e : leb m = [((m % 128 + 128 : Nat) : Int), ((m / 128 % 128 + 128 : Nat) : Int), ((m / 128 / 128 : Nat) : Int)] := by rw [leb, if_neg c1, leb, if_neg (by omega), leb, if_pos (by omega)]
   rw [e] at h ⊢
   have h2 := (rd_at data p _ _ h).2.2
   have h3 := (rd_at data (p + 1) _ _ h2).2.2
   rw [show (0 : Int) = ((0 : Nat) : Int) from rfl, vlq_more data hd p 0 m 0 (k + 6) (m % 128) _ h (by decide) (or_zero _ (by omega))]
   have ho := or_shl (m % 128) (m / 128 % 128) 7 (by omega) (by decide) (by omega)
   rw [vlq_more data hd (p + 1) (m % 128) (m / 128) (0 + 7) (k + 3) _ _ h2 (by decide) ho]
   have ho2 := or_shl (m % 128 + m / 128 % 128 * 2 ^ 7) (m / 128 / 128) 14 (by omega) (by decide) (by omega)
   rw [vlq_end data hd (p + 1 + 1) _ (m / 128 / 128) (0 + 7 + 7) k _ _ h3 (by omega) (by decide) ho2]
   rw [show m % 128 + m / 128 % 128 * 2 ^ 7 + m / 128 / 128 * 2 ^ 14 = m by omega]
   rfl
end Go.Proofs.YtiieljnllgeoeaaGreat.Q

/- The plain law: packed numbers read back. -/
namespace Go.Proofs.YtiieljnllgeoeaaGreat.Q
open Go.RowKit Go.Proofs.YtiieljnllgeoeaaGreatW.PrintWords Go.Proofs.YtiieljnllgeoeaaGreatW.PrintLast Go.Proofs.YtiieljnllgeoeaaGreatW.PrintMore
set_option linter.unusedVariables false
set_option linter.unusedSimpArgs false
theorem u8_bit (b s : Nat) (hb : b < 256) (hs : s < 8) : IntKind.u64.wrap (Go.bits .and .u8 (shr .u8 (b : Int) (s : Int)) 1) = ((b / 2 ^ s % 2 : Nat) : Int) := by
 have e : ∀ x : _root_.Fin 256, ∀ y : _root_.Fin 8, IntKind.u64.wrap (Go.bits .and .u8 (shr .u8 ((x.val : Nat) : Int) ((y.val : Nat) : Int)) 1) = ((x.val / 2 ^ y.val % 2 : Nat) : Int) := by decide +kernel
 exact e ⟨b, hb⟩ ⟨s, hs⟩
theorem pack_bit (w : Nat) (l : List Nat) (hl : ∀ x ∈ l, x < 2 ^ w) : ∀ j r : Nat, r < w → j < l.length → pack w l / 2 ^ (w * j + r) % 2 = l.getD j 0 / 2 ^ r % 2 := by
 induction l with
 | nil => intro j r _ h; simp at h
 | cons x l ih =>
  intro j r hr hj
  have hx := hl x List.mem_cons_self
  have hp : pack w (x :: l) = x + 2 ^ w * pack w l := by first | rfl | (simp only [pack]; done) | (simp [pack, Nat.mul_comm])
  rw [hp]
  cases j with
  | zero =>
   rw [Nat.mul_zero, Nat.zero_add]
   have e : 2 ^ w = 2 ^ r * (2 * 2 ^ (w - r - 1)) := by
    rw [← Nat.pow_succ', ← Nat.pow_add]; congr 1; omega
   rw [e, Nat.mul_assoc, Nat.add_mul_div_left _ _ (Nat.two_pow_pos r), Nat.mul_assoc, Nat.add_mul_mod_self_left]
   rfl
  | succ j =>
   have e : w * (j + 1) + r = w + (w * j + r) := by rw [Nat.mul_add, Nat.mul_one]; omega
   rw [e, Nat.pow_add, ← Nat.div_div_eq_div_mul, Nat.add_mul_div_left _ _ (Nat.two_pow_pos w), Nat.div_eq_of_lt hx, Nat.zero_add]
   exact ih (fun y hy => hl y (List.mem_cons_of_mem _ hy)) j r hr (by simpa using hj)
theorem byte_bit (P i : Nat) : P / 256 ^ (i / 8) % 256 / 2 ^ (i % 8) % 2 = P / 2 ^ i % 2 := by
 have h1 : (256 : Nat) ^ (i / 8) = 2 ^ (8 * (i / 8)) := by rw [Nat.pow_mul]
 have h2 : 2 ^ i = 2 ^ (8 * (i / 8)) * 2 ^ (i % 8) := by rw [← Nat.pow_add]; congr 1; omega
 rw [h1, h2, ← Nat.div_div_eq_div_mul]
 generalize P / 2 ^ (8 * (i / 8)) = Q
 have h3 : i % 8 < 8 := by omega
 generalize i % 8 = s at h3
 have h4 : 256 = 2 ^ s * (2 * 2 ^ (7 - s)) := by
  rw [← Nat.pow_succ', ← Nat.pow_add, show s + (7 - s).succ = 8 by omega]
 conv => lhs; rw [h4, Nat.mod_mul_right_div_self]
 rw [Nat.mod_mul_right_mod]
/-- What is read back when so many bits have been. -/
def outs (w m : Nat) (l : List Nat) (i : Nat) : List Int := (List.range m).map fun j => ((l.getD j 0 % 2 ^ (min w (i - j * w)) : Nat) : Int)
theorem outs_len (w m : Nat) (l : List Nat) (i : Nat) : (outs w m l i).length = m := by simp [outs]
theorem outs_zero (w m : Nat) (l : List Nat) : outs w m l 0 = List.replicate m 0 := by
 apply List.ext_getElem
 ·simp [outs]
 ·intro j h1 h2
  simp [outs, Nat.mod_one]
theorem outs_end (w m : Nat) (l : List Nat) (hw : 1 ≤ w) (hm : m ≤ l.length) (hl : ∀ x ∈ l, x < 2 ^ w) : outs w m l (m * w) = (l.take m).map (fun n => ((n : Nat) : Int)) := by
 apply List.ext_getElem
 ·simp [outs]; omega
 ·intro j h1 h2
  have hj : j < m := by simpa [outs] using h1
  have hmin : min w (m * w - j * w) = w := by
   have : (j + 1) * w ≤ m * w := Nat.mul_le_mul_right w hj
   rw [Nat.add_mul, Nat.one_mul] at this
   omega
  have hx : l.getD j 0 < 2 ^ w := hl _ (by rw [List.getD_eq_getElem?_getD, List.getElem?_eq_getElem (by omega)]; exact List.getElem_mem _)
  simp only [outs, List.getElem_map, List.getElem_range, List.getElem_take]
  rw [hmin, Nat.mod_eq_of_lt hx, List.getD_eq_getElem?_getD, List.getElem?_eq_getElem (by omega)]
  rfl
theorem bit_step (x r : Nat) : x % 2 ^ (r + 1) = x % 2 ^ r + x / 2 ^ r % 2 * 2 ^ r := by
 rw [Nat.pow_succ, Nat.mod_mul, Nat.mul_comm (2 ^ r)]
theorem outs_step (w m : Nat) (l : List Nat) (j r : Nat) (hr : r < w) (hj : j < m) : outs w m l (j * w + r + 1) = (outs w m l (j * w + r)).set j ((l.getD j 0 % 2 ^ r + l.getD j 0 / 2 ^ r % 2 * 2 ^ r : Nat) : Int) := by
 apply List.ext_getElem
 ·simp [outs]
 ·intro i h1 h2
  have hi : i < m := by simpa [outs] using h1
  rw [List.getElem_set]
  simp only [outs, List.getElem_map, List.getElem_range]
  by_cases c : j = i
  ·subst c
   rw [if_pos rfl, show min w (j * w + r + 1 - j * w) = r + 1 by omega, bit_step]
  ·rw [if_neg c]
   rcases Nat.lt_or_gt_of_ne c with h | h
   ·have : (j + 1) * w ≤ i * w := Nat.mul_le_mul_right w h
    rw [Nat.add_mul, Nat.one_mul] at this
    rw [show j * w + r + 1 - i * w = 0 by omega, show j * w + r - i * w = 0 by omega]
   ·have : (i + 1) * w ≤ j * w := Nat.mul_le_mul_right w h
    rw [Nat.add_mul, Nat.one_mul] at this
    rw [show min w (j * w + r + 1 - i * w) = w by omega, show min w (j * w + r - i * w) = w by omega]
theorem outs_at (w m : Nat) (l : List Nat) (j r : Nat) (hr : r < w) (hj : j < m) : rd (outs w m l (j * w + r)) (j : Int) = ((l.getD j 0 % 2 ^ r : Nat) : Int) := by
 unfold rd
 rw [Int.toNat_natCast, List.getD_eq_getElem?_getD, List.getElem?_eq_getElem (by rw [outs_len]; exact hj)]
 simp only [outs, List.getElem_map, List.getElem_range, Option.getD_some]
 rw [show min w (j * w + r - j * w) = r by omega]
/-- A byte of the packed ones. -/
theorem rd_byte (data : List Int) (q n P : Nat) (t : List Int) (h : data.drop q = toB n P ++ t) (b : Nat) (hb : b < n) : rd data ((q + b : Nat) : Int) = ((P / 256 ^ b % 256 : Nat) : Int) ∧ q + b < data.length := by
 have hl : q + n ≤ data.length := by
  have := congrArg List.length h
  rw [List.length_drop, List.length_append, toB_len] at this
  omega
 refine ⟨?_, by omega⟩
 unfold rd
 rw [Int.toNat_natCast, ← toB_at n P b hb, List.getD_eq_getElem?_getD, List.getD_eq_getElem?_getD]
 have e : data[q + b]? = (data.drop q)[b]? := by rw [List.getElem?_drop]
 rw [e, h, List.getElem?_append_left (by rw [toB_len]; exact hb)]
end Go.Proofs.YtiieljnllgeoeaaGreat.Q

/- The plain law: packed numbers read back, by the law's reader. -/
namespace Go.Proofs.YtiieljnllgeoeaaGreat.Q
open Go.RowKit Go.Proofs.YtiieljnllgeoeaaGreatW.PrintWords Go.Proofs.YtiieljnllgeoeaaGreatW.PrintLast Go.Proofs.YtiieljnllgeoeaaGreatW.PrintMore
set_option linter.unusedVariables false
set_option linter.unusedSimpArgs false
theorem w64k (n : Nat) (h : n < 4000000000000) : wrap64 (n : Int) = (n : Int) := by unfold wrap64; omega
theorem tdiv_k (a b : Nat) : Int.tdiv (a : Int) (b : Int) = ((a / b : Nat) : Int) := by
 rw [Int.tdiv_eq_ediv_of_nonneg (Int.natCast_nonneg a)]; rfl
theorem tmod_k (a b : Nat) : Int.tmod (a : Int) (b : Int) = ((a % b : Nat) : Int) := by
 rw [Int.tmod_eq_emod_of_nonneg (Int.natCast_nonneg a)]; rfl
/-- One bit more. -/
theorem unpack_step (data : List Int) (q w m i j r a b k : Nat) (O : List Int) (B : Nat) (hq : q ≤ 1000000) (hw1 : 1 ≤ w) (hmw : m * w ≤ 20000) (hi : i < m * w) (hj : i / w = j) (hr : i % w = r) (hO : O.length = m) (hjm : j < m)
  (hb : q + i / 8 < data.length) (hB : B < 256) (e1 : rd data ((q + i / 8 : Nat) : Int) = (B : Int)) (e2 : rd O (j : Int) = (a : Int)) (e3 : B / 2 ^ (i % 8) % 2 = b) (ha : a < 2 ^ r) (hr63 : r < 64) (hab : a + b * 2 ^ r < 18446744073709551616) :
  spec_UnpackBits.l0 (k + 1) data ((8 * q : Nat) : Int) (w : Int) (m : Int) O (i : Int) = spec_UnpackBits.l0 k data ((8 * q : Nat) : Int) (w : Int) (m : Int) (O.set j ((a + b * 2 ^ r : Nat) : Int)) ((i + 1 : Nat) : Int) := by
 have b1 : m * w < 4000000000000 := by omega
 have b0 : i < 4000000000000 := by omega
 have b2 : 8 * q + i < 4000000000000 := by omega
 have b3 : q + i / 8 < 4000000000000 := by omega
 have b4 : i + 1 < 4000000000000 := by omega
 have b5 : j < 4000000000000 := Nat.lt_of_le_of_lt (hj ▸ Nat.div_le_self i w) b0
 have b6 : (8 * q + i) / 8 = q + i / 8 := by omega
 have b7 : (8 * q + i) % 8 = i % 8 := by omega
 have t2 : ¬ ((w : Int) = 0) := by omega
 have hwm : wrap64 ((m : Int) * (w : Int)) = ((m * w : Nat) : Int) := by
  rw [← Int.natCast_mul]; exact w64k _ b1
 have d1 : wrap64 (Int.tdiv (i : Int) (w : Int)) = (j : Int) := by
  rw [tdiv_k, hj]; exact w64k _ b5
 have d2 : wrap64 (((8 * q : Nat) : Int) + (i : Int)) = ((8 * q + i : Nat) : Int) := by
  rw [← Int.natCast_add]; exact w64k _ b2
 have d3 : wrap64 (Int.tdiv ((8 * q + i : Nat) : Int) 8) = ((q + i / 8 : Nat) : Int) := by
  rw [show (8 : Int) = ((8 : Nat) : Int) from rfl, tdiv_k, b6]
  exact w64k _ b3
 have d4 : Int.tmod ((8 * q + i : Nat) : Int) 8 = ((i % 8 : Nat) : Int) := by
  rw [show (8 : Int) = ((8 : Nat) : Int) from rfl, tmod_k, b7]
 have d5 : Int.tmod (i : Int) (w : Int) = (r : Int) := by rw [tmod_k, hr]
 have d6 : wrap64 ((i : Int) + 1) = ((i + 1 : Nat) : Int) := w64k (i + 1) b4
 have t1 : (i : Int) < ((m * w : Nat) : Int) := Int.ofNat_lt.2 hi
 have t3 : (0 : Int) ≤ (j : Int) := Int.natCast_nonneg j
 have t4 : (j : Int) < (O.length : Int) := by rw [hO]; exact Int.ofNat_lt.2 hjm
 have t5 : (0 : Int) ≤ ((q + i / 8 : Nat) : Int) := Int.natCast_nonneg _
 have t6 : ((q + i / 8 : Nat) : Int) < (data.length : Int) := Int.ofNat_lt.2 hb
 have t7 : (0 : Int) ≤ ((i % 8 : Nat) : Int) := Int.natCast_nonneg _
 have t8 : (0 : Int) ≤ (r : Int) := Int.natCast_nonneg _
 have h8 : i % 8 < 8 := Nat.mod_lt _ (by decide)
 have hbit := u8_bit B (i % 8) hB h8
 rw [e3] at hbit
 have hor := or_shl a b r ha hr63 hab
 conv => lhs; unfold spec_UnpackBits.l0
 rw [hwm, if_pos t1, if_neg t2, d1, if_pos t3, if_pos t4, d2, d3, if_pos t5, if_pos t6, d4, if_pos t7, d5, if_pos t8, d6, e1, e2, hbit, hor, Int.toNat_natCast]
theorem unpack_loop (data : List Int) (q w m : Nat) (l : List Nat) (t : List Int) (hq : q ≤ 1000000) (hw : 1 ≤ w) (hw2 : w ≤ 10) (hl : ∀ x ∈ l, x < 2 ^ w) (h8 : l.length % 8 = 0) (hll : l.length ≤ 504) (hm : m ≤ l.length) (h : data.drop q = toB (w * l.length / 8) (pack w l) ++ t) :
  ∀ (R i k : Nat), R = m * w - i → i ≤ m * w → R + 1 ≤ k → spec_UnpackBits.l0 k data ((8 * q : Nat) : Int) (w : Int) (m : Int) (outs w m l i) (i : Int) = some ((l.take m).map (fun n => ((n : Nat) : Int)), true) := by
 have hmw : m * w ≤ 20000 := Nat.le_trans (Nat.mul_le_mul (show m ≤ 504 by omega) hw2) (by decide)
 intro R
 induction R with
 | zero =>
  intro i k hR hi hk
  obtain ⟨k, rfl⟩ : ∃ j, k = j + 1 := ⟨k - 1, by omega⟩
  have hi2 : i = m * w := by omega
  subst hi2
  have hwm : wrap64 ((m : Int) * (w : Int)) = ((m * w : Nat) : Int) := by
   rw [← Int.natCast_mul]; exact w64k _ (by omega)
  unfold spec_UnpackBits.l0
  rw [hwm, if_neg (Int.lt_irrefl _), outs_end w m l hw hm hl]
 | succ R ih =>
  intro i k hR hi hk
  obtain ⟨k, rfl⟩ : ∃ j, k = j + 1 := ⟨k - 1, by omega⟩
  have hjr : i = i / w * w + i % w := by rw [Nat.mul_comm]; exact (Nat.div_add_mod i w).symm
  have hr : i % w < w := Nat.mod_lt _ (by omega)
  have hj : i / w < m := by rw [Nat.div_lt_iff_lt_mul (by omega)]; omega
  have hb : i / 8 < w * l.length / 8 := by
   have h1 : i < w * l.length := by
    have : m * w ≤ l.length * w := Nat.mul_le_mul_right w hm
    rw [Nat.mul_comm w]; omega
   have h2 : w * l.length = 8 * (w * (l.length / 8)) := by
    rw [← Nat.mul_assoc, Nat.mul_comm 8 w, Nat.mul_assoc, show 8 * (l.length / 8) = l.length by omega]
   omega
  obtain ⟨e1, e2⟩ := rd_byte data q _ _ t h (i / 8) hb
  have hnext := ih (i + 1) k (by omega) (by omega) (by omega)
  have hstep := outs_step w m l (i / w) (i % w) hr hj
  have hat := outs_at w m l (i / w) (i % w) hr hj
  rw [← hjr] at hstep hat
  have hpb := pack_bit w l hl (i / w) (i % w) hr (by omega)
  rw [show w * (i / w) + i % w = i from Nat.div_add_mod i w] at hpb
  rw [← byte_bit] at hpb
  have hP : pack w l / 256 ^ (i / 8) % 256 < 256 := Nat.mod_lt _ (by decide)
  have hA := Nat.mod_lt (l.getD (i / w) 0) (Nat.two_pow_pos (i % w))
  have h63 : i % w < 64 := by omega
  have hAB : l.getD (i / w) 0 % 2 ^ (i % w) + l.getD (i / w) 0 / 2 ^ (i % w) % 2 * 2 ^ (i % w) < 18446744073709551616 := by
   have h2 : 2 ^ (i % w) ≤ 2 ^ 10 := Nat.pow_le_pow_right (by omega) (by omega)
   have h3 : l.getD (i / w) 0 / 2 ^ (i % w) % 2 < 2 := Nat.mod_lt _ (by decide)
   have h4 : l.getD (i / w) 0 / 2 ^ (i % w) % 2 * 2 ^ (i % w) ≤ 1 * 2 ^ 10 := Nat.mul_le_mul (by omega) h2
   generalize l.getD (i / w) 0 / 2 ^ (i % w) % 2 * 2 ^ (i % w) = y at h4
   generalize l.getD (i / w) 0 % 2 ^ (i % w) = x at hA
   generalize 2 ^ (i % w) = z at hA h2
   omega
  rw [unpack_step data q w m i (i / w) (i % w) _ _ k _ _ hq hw hmw (by omega) rfl rfl (outs_len _ _ _ _) hj e2 hP e1 hat hpb hA h63 hAB, ← hstep]
  exact hnext
/-- Packed numbers, the first ones of them. -/
theorem unpack_is (data : List Int) (hd : data.length < 1000000) (q w m k : Nat) (l : List Nat) (t : List Int) (hq : q ≤ 1000000) (hw : 1 ≤ w) (hw2 : w ≤ 10) (hl : ∀ x ∈ l, x < 2 ^ w) (h8 : l.length % 8 = 0) (hll : l.length ≤ 504) (hm : m ≤ l.length) (h : data.drop q = toB (w * l.length / 8) (pack w l) ++ t) (hql : q ≤ data.length) (hk : 20001 ≤ k) :
  spec_UnpackBits.f k data ((8 * q : Nat) : Int) (w : Int) (m : Int) = some ((l.take m).map (fun n => ((n : Nat) : Int)), true) := by
 have hmw : m * w ≤ 20000 := Nat.le_trans (Nat.mul_le_mul (show m ≤ 504 by omega) hw2) (by decide)
 have hlen : q + w * l.length / 8 ≤ data.length := by
  have := congrArg List.length h
  rw [List.length_drop, List.length_append, toB_len] at this
  omega
 have hfit : m * w ≤ 8 * (w * l.length / 8) := by
  have h1 : m * w ≤ l.length * w := Nat.mul_le_mul_right w hm
  have h2 : w * l.length = 8 * (w * (l.length / 8)) := by
   rw [← Nat.mul_assoc, Nat.mul_comm 8 w, Nat.mul_assoc, show 8 * (l.length / 8) = l.length by omega]
  rw [Nat.mul_comm l.length] at h1
  omega
 have b1 : m * w < 4000000000000 := by omega
 have b2 : 8 * q + m * w < 4000000000000 := by omega
 have b3 : 8 * data.length < 4000000000000 := by omega
 have g1 : ¬ (((8 * q + m * w : Nat) : Int) > ((8 * data.length : Nat) : Int)) := by
  have : 8 * q + m * w ≤ 8 * data.length := by omega
  omega
 have g2 : m ≤ 35184372088832 := by omega
 have hloop := unpack_loop data q w m l t hq hw hw2 hl h8 hll hm h (m * w) 0 k (by omega) (by omega) (by omega)
 have hwm : wrap64 ((m : Int) * (w : Int)) = ((m * w : Nat) : Int) := by
  rw [← Int.natCast_mul]; exact w64k _ b1
 have hs : wrap64 (((8 * q : Nat) : Int) + ((m * w : Nat) : Int)) = ((8 * q + m * w : Nat) : Int) := by
  rw [← Int.natCast_add]; exact w64k _ b2
 have h8d : wrap64 (8 * (data.length : Int)) = ((8 * data.length : Nat) : Int) := w64k (8 * data.length) b3
 rw [outs_zero] at hloop
 unfold spec_UnpackBits.f
 rw [hwm, hs, h8d, if_neg g1, if_pos (Int.natCast_nonneg m), Int.toNat_natCast, if_pos g2]
 exact hloop
end Go.Proofs.YtiieljnllgeoeaaGreat.Q

/- The plain law: runs read back. -/
namespace Go.Proofs.YtiieljnllgeoeaaGreat.Q
open Go.RowKit Go.Proofs.YtiieljnllgeoeaaGreatW.PrintWords Go.Proofs.YtiieljnllgeoeaaGreatW.PrintLast Go.Proofs.YtiieljnllgeoeaaGreatW.PrintMore
set_option linter.unusedVariables false
set_option linter.unusedSimpArgs false
def ints (l : List Nat) : List Int := l.map fun n => ((n : Nat) : Int)
theorem ints_len (l : List Nat) : (ints l).length = l.length := by simp [ints]
theorem ints_app (a b : List Nat) : ints (a ++ b) = ints a ++ ints b := by simp [ints]
theorem and1 (m : Nat) (h : m < 18446744073709551616) : Go.bits .and .u64 (m : Int) 1 = ((m % 2 : Nat) : Int) := by
 have := and_mask m 1 h (by decide)
 simpa using this
theorem half_k (m : Nat) : (m : Int) / 2 = ((m / 2 : Nat) : Int) := rfl
theorem mn_k (a b : Nat) : mn (a : Int) (b : Int) = ((min a b : Nat) : Int) := by unfold mn; omega
/-- A run's head is read, and what kind it is. -/
theorem head_step (data : List Int) (hd : data.length < 1000000) (w n : Int) (p m k : Nat) (out t : List Int) (hout : (out.length : Int) < n) (h : data.drop p = leb m ++ t) (hm : m < 2097152) (hm2 : 2 ≤ m) (hk : 9 ≤ k) :
  spec_TakeRuns.l0 (k + 1) data w n out (p : Int) = spec_TakeRuns.j1 k data w n out (m : Int) ((p + (leb m).length : Nat) : Int) ((m / 2 : Nat) : Int) false ∧ data.drop (p + (leb m).length) = t := by
 obtain ⟨hv, hdr⟩ := vlq_at data hd m p k t h hm hk
 refine ⟨?_, hdr⟩
 have g1 : ¬ (((m / 2 : Nat) : Int) = 0) := by omega
 have g2 : decide (((m / 2 : Nat) : Int) > 1073741824) = false := decide_eq_false (by omega)
 have g3 : m / 2 < 4000000000000 := by omega
 have g4 := w64k (m / 2) g3
 conv => lhs; unfold spec_TakeRuns.l0
 rw [if_pos hout, hv, Option.bind_some]
 dsimp only
 rw [if_pos rfl, half_k, if_neg g1, g2, g4]
/-- A run of packed numbers. -/
theorem packed_step (data : List Int) (hd : data.length < 1000000) (w n p k : Nat) (out : List Int) (l : List Nat) (t : List Int) (hw : 1 ≤ w) (hw2 : w ≤ 10) (hl : ∀ x ∈ l, x < 2 ^ w) (h8 : l.length % 8 = 0) (h0 : 0 < l.length) (hll : l.length ≤ 504)
  (hout : out.length < n) (hn : n ≤ 1000000) (h : data.drop p = pk w l ++ t) (hk : 20001 ≤ k) :
  spec_TakeRuns.l0 (k + 2) data (w : Int) (n : Int) out (p : Int) = spec_TakeRuns.l0 k data (w : Int) (n : Int) (out ++ ints (l.take (n - out.length))) ((p + (pk w l).length : Nat) : Int) := by
 obtain ⟨m, hm⟩ : ∃ m, m = l.length / 8 * 2 + 1 := ⟨_, rfl⟩
 have hlm : leb m = [(m : Int)] := leb_lo m (by omega)
 have hpk : pk w l = leb m ++ toB (w * l.length / 8) (pack w l) := by rw [hlm, hm]; rfl
 have h' : data.drop p = leb m ++ (toB (w * l.length / 8) (pack w l) ++ t) := by rw [h, hpk, List.append_assoc]
 obtain ⟨e1, e2⟩ := head_step data hd (w : Int) (n : Int) p m (k + 1) out _ (by omega) h' (by omega) (by omega) (by omega)
 have hlen1 : (leb m).length = 1 := by rw [hlm]; rfl
 rw [hlen1] at e1 e2
 have hp1 : p + 1 ≤ data.length := by
  have := congrArg List.length h'
  rw [List.length_drop, List.length_append, hlen1] at this
  omega
 have hc : m / 2 = l.length / 8 := by omega
 have hm2 : m % 2 = 1 := by omega
 have hcl : 8 * (l.length / 8) = l.length := by omega
 obtain ⟨c, hcc⟩ : ∃ c, c = l.length / 8 := ⟨_, rfl⟩
 have hcw : w * l.length / 8 = c * w := by
  rw [← hcl, ← hcc, Nat.mul_left_comm, Nat.mul_div_cancel_left _ (by decide), Nat.mul_comm]
 have hcw2 : c * w ≤ 1000 := Nat.le_trans (Nat.mul_le_mul (show c ≤ 63 by omega) hw2) (by decide)
 have hpl : (pk w l).length = 1 + c * w := by rw [pk_len, hcw]
 have hmin : min (8 * c) (n - out.length) ≤ l.length := by omega
 have hun := unpack_is data hd (p + 1) w (min (8 * c) (n - out.length)) k l t (by omega) hw hw2 hl h8 hll hmin e2 hp1 hk
 have htk : l.take (min (8 * c) (n - out.length)) = l.take (n - out.length) := by
  rw [hcc, hcl]
  rcases Nat.le_total (n - out.length) l.length with q | q
  ·rw [Nat.min_eq_right q]
  ·rw [Nat.min_eq_left q, List.take_of_length_le (Nat.le_refl _), List.take_of_length_le q]
 have hol : out.length + (ints (l.take (n - out.length))).length < 17592186044416 := by
  rw [ints_len, List.length_take]; omega
 have b1 : 8 * (p + 1) < 4000000000000 := by omega
 have b2 : 8 * c < 4000000000000 := by omega
 have b3 : n - out.length < 4000000000000 := by omega
 have b4 : c * w < 4000000000000 := by omega
 have b5 : p + 1 + c * w < 4000000000000 := by omega
 have b6 : (n : Int) - (out.length : Int) = ((n - out.length : Nat) : Int) := by omega
 have b7 : p + 1 + c * w = p + (pk w l).length := by omega
 have hm64 : m < 18446744073709551616 := by omega
 have c1 : wrap64 (8 * ((p + 1 : Nat) : Int)) = ((8 * (p + 1) : Nat) : Int) := w64k (8 * (p + 1)) b1
 have c2 : wrap64 (8 * (c : Int)) = ((8 * c : Nat) : Int) := w64k (8 * c) b2
 have c3 : wrap64 ((n : Int) - (out.length : Int)) = ((n - out.length : Nat) : Int) := by rw [b6]; exact w64k _ b3
 have c4 : wrap64 ((c : Int) * (w : Int)) = ((c * w : Nat) : Int) := by rw [← Int.natCast_mul]; exact w64k _ b4
 have c5 : wrap64 (((p + 1 : Nat) : Int) + ((c * w : Nat) : Int)) = ((p + (pk w l).length : Nat) : Int) := by
  rw [← Int.natCast_add, b7]; rw [b7] at b5; exact w64k _ b5
 rw [show k + 2 = k + 1 + 1 from rfl, e1, hc, ← hcc]
 conv => lhs; unfold spec_TakeRuns.j1
 rw [if_neg Bool.false_ne_true, and1 m hm64, hm2, if_pos (show ((1 : Nat) : Int) = 1 from rfl), c1, c2, c3, mn_k, hun, Option.bind_some]
 dsimp only
 rw [if_pos rfl, htk, c4, c5]
 exact if_pos hol
/-- The bytes of a repeated number. -/
theorem l1_loop (data : List Int) (w n c size p v : Nat) (out t : List Int) (hp : p + size < 1000000) (hsz : size ≤ 7) (hv : v < 256 ^ size) (hw : w < 64) (h : data.drop p = toB size v ++ t) :
  ∀ (R i k : Nat), R = size - i → i ≤ size → spec_TakeRuns.l1 (k + R + 1) data (w : Int) (n : Int) out (p : Int) (c : Int) (size : Int) ((v % 256 ^ i : Nat) : Int) (i : Int) = spec_TakeRuns.j3 k data (w : Int) (n : Int) out (p : Int) (c : Int) (size : Int) (v : Int) (decide (shr .u64 (v : Int) (w : Int) > 0)) := by
 intro R
 induction R with
 | zero =>
  intro i k hR hi
  have hi2 : i = size := by omega
  subst hi2
  have g1 : ((w : Int) < 64) := by omega
  conv => lhs; unfold spec_TakeRuns.l1
  rw [if_neg (Int.lt_irrefl _), if_pos g1, if_pos (Int.natCast_nonneg w), Nat.mod_eq_of_lt hv]
 | succ R ih =>
  intro i k hR hi
  have hi3 : i < size := by omega
  have hnext := ih (i + 1) k (by omega) (by omega)
  obtain ⟨e1, e2⟩ := rd_byte data p size v t h i hi3
  have b1 : p + i < 4000000000000 := by omega
  have b2 : 8 * i < 4000000000000 := by omega
  have b3 : i + 1 < 4000000000000 := by omega
  have g1 : (i : Int) < (size : Int) := by omega
  have g2 : ((p + i : Nat) : Int) < (data.length : Int) := by omega
  have h256 : (256 : Nat) ^ i = 2 ^ (8 * i) := by rw [Nat.pow_mul]
  have hA : v % 256 ^ i < 2 ^ (8 * i) := by rw [← h256]; exact Nat.mod_lt _ (Nat.pow_pos (by decide))
  have hS : v % 256 ^ i + v / 256 ^ i % 256 * 2 ^ (8 * i) = v % 256 ^ (i + 1) := by
   rw [← h256, Nat.pow_succ, Nat.mod_mul, Nat.mul_comm (256 ^ i)]
  have hB : v % 256 ^ (i + 1) < 18446744073709551616 := by
   have h1 : v % 256 ^ (i + 1) ≤ v := Nat.mod_le _ _
   have h2 : (256 : Nat) ^ size ≤ 256 ^ 7 := Nat.pow_le_pow_right (by decide) hsz
   have h3 : (256 : Nat) ^ 7 < 18446744073709551616 := by decide
   generalize (256 : Nat) ^ size = y at hv h2
   generalize (256 : Nat) ^ 7 = z at h2 h3
   omega
  have hor := or_shl (v % 256 ^ i) (v / 256 ^ i % 256) (8 * i) hA (by omega) (by rw [hS]; exact hB)
  rw [hS] at hor
  have hby : v / 256 ^ i % 256 < 256 := Nat.mod_lt _ (by decide)
  have hu : IntKind.u64.wrap ((v / 256 ^ i % 256 : Nat) : Int) = ((v / 256 ^ i % 256 : Nat) : Int) := by
   generalize v / 256 ^ i % 256 = y at hby
   simp [IntKind.wrap, IntKind.bits, IntKind.signed]; omega
  have c1 : wrap64 ((p : Int) + (i : Int)) = ((p + i : Nat) : Int) := by rw [← Int.natCast_add]; exact w64k _ b1
  have c2 : wrap64 (8 * (i : Int)) = ((8 * i : Nat) : Int) := w64k (8 * i) b2
  have c3 : wrap64 ((i : Int) + 1) = ((i + 1 : Nat) : Int) := w64k (i + 1) b3
  rw [show k + (R + 1) + 1 = (k + R + 1) + 1 by omega]
  conv => lhs; unfold spec_TakeRuns.l1
  rw [if_pos g1, c1, if_pos (Int.natCast_nonneg _), if_pos g2, c2, if_pos (Int.natCast_nonneg _), e1, hu, hor, c3]
  exact hnext
/-- So many of a repeated number as are asked for. -/
theorem l2_loop (data : List Int) (w n c p v : Nat) (hc : c < 1000000) (hn : n ≤ 1000000) : ∀ (R i : Nat) (out : List Int), R = c - i → i ≤ c → out.length ≤ n →
  ∃ K, ∀ k, spec_TakeRuns.l2 (k + K) data (w : Int) (n : Int) out (p : Int) (c : Int) (v : Int) (i : Int) = spec_TakeRuns.l0 k data (w : Int) (n : Int) (out ++ ints (List.replicate (min (c - i) (n - out.length)) v)) (p : Int) := by
 intro R
 induction R with
 | zero =>
  intro i out hR hi ho
  have hi2 : i = c := by omega
  subst hi2
  refine ⟨1, fun k => ?_⟩
  conv => lhs; unfold spec_TakeRuns.l2
  rw [if_neg (Int.lt_irrefl _), Nat.sub_self, Nat.zero_min]
  simp [ints]
 | succ R ih =>
  intro i out hR hi ho
  have g1 : (i : Int) < (c : Int) := by omega
  by_cases ho2 : out.length < n
  ·obtain ⟨K, hK⟩ := ih (i + 1) (out ++ [(v : Int)]) (by omega) (by omega) (by simp; omega)
   refine ⟨K + 1, fun k => ?_⟩
   have g2 : (out.length : Int) < (n : Int) := by omega
   have g3 : out.length < 17592186044416 := by omega
   have b3 : i + 1 < 4000000000000 := by omega
   have hr : out ++ ints (List.replicate (min (c - i) (n - out.length)) v) = (out ++ [(v : Int)]) ++ ints (List.replicate (min (c - (i + 1)) (n - (out ++ [(v : Int)]).length)) v) := by
    have e : min (c - i) (n - out.length) = min (c - (i + 1)) (n - (out ++ [(v : Int)]).length) + 1 := by
     rw [List.length_append, List.length_singleton]; omega
    rw [e, List.replicate_succ]
    simp [ints]
   have c3 : wrap64 ((i : Int) + 1) = ((i + 1 : Nat) : Int) := w64k (i + 1) b3
   rw [hr, ← hK k, ← Nat.add_assoc]
   conv => lhs; unfold spec_TakeRuns.l2
   rw [if_pos g1, if_pos g2, if_pos g3, c3]
  ·refine ⟨1, fun k => ?_⟩
   have g2 : ¬ ((out.length : Int) < (n : Int)) := by omega
   have e : min (c - i) (n - out.length) = 0 := by omega
   rw [e]
   conv => lhs; unfold spec_TakeRuns.l2
   rw [if_pos g1, if_neg g2]
   simp [ints]
theorem shr_none (v w : Nat) (h : v < 2 ^ w) (hw : w < 64) : shr .u64 (v : Int) (w : Int) = 0 := by
 have hm : min w 64 = w := by omega
 have hz : ((v : Int) / (2 : Int) ^ w) = 0 := by
  have : ((v : Int) / (2 : Int) ^ w) = ((v / 2 ^ w : Nat) : Int) := by simp
  rw [this, Nat.div_eq_of_lt h]; rfl
 simp [shr, IntKind.wrap, IntKind.bits, IntKind.signed, hm, hz]
/-- A run of one number. -/
theorem again_step (data : List Int) (hd : data.length < 1000000) (w n p c v : Nat) (out t : List Int) (hw : 1 ≤ w) (hw2 : w ≤ 10) (hv : v < 2 ^ w) (h0 : 0 < c) (hc : c < 1000000) (hout : out.length < n) (hn : n ≤ 1000000) (h : data.drop p = rp w c v ++ t) :
  ∃ K, ∀ k, 20001 ≤ k → spec_TakeRuns.l0 (k + K) data (w : Int) (n : Int) out (p : Int) = spec_TakeRuns.l0 k data (w : Int) (n : Int) (out ++ ints (List.replicate (min c (n - out.length)) v)) ((p + (rp w c v).length : Nat) : Int) := by
 have h' : data.drop p = leb (2 * c) ++ (toB ((w + 7) / 8) v ++ t) := by rw [h]; unfold rp; rw [List.append_assoc]
 obtain ⟨size, hs⟩ : ∃ s, s = (w + 7) / 8 := ⟨_, rfl⟩
 rw [← hs] at h'
 have hrl : p + (rp w c v).length = p + (leb (2 * c)).length + size := by unfold rp; rw [List.length_append, toB_len, ← hs]; omega
 have hdl : p + (leb (2 * c)).length + size ≤ data.length := by
  have := congrArg List.length h'
  rw [List.length_drop, List.length_append, List.length_append, toB_len] at this
  by_cases q : p ≤ data.length
  ·omega
  ·have := (leb_len 3 (2 * c) (by omega) (by omega)).1; omega
 obtain ⟨q, hq⟩ : ∃ q, q = p + (leb (2 * c)).length := ⟨_, rfl⟩
 have hv2 : v < 256 ^ size := by
  have h1 : (2 : Nat) ^ w ≤ 2 ^ (8 * size) := Nat.pow_le_pow_right (by decide) (by omega)
  have h2 : (256 : Nat) ^ size = 2 ^ (8 * size) := by rw [Nat.pow_mul]
  rw [h2]
  exact Nat.lt_of_lt_of_le hv h1
 have hh := fun k hk => head_step data hd (w : Int) (n : Int) p (2 * c) k out _ (by omega) h' (by omega) (by omega) hk
 rw [← hq] at hrl hdl hh
 have hdr := (hh 9 (Nat.le_refl _)).2
 obtain ⟨K, hK⟩ := l2_loop data w n c (q + size) v hc hn c 0 out (by omega) (by omega) (by omega)
 refine ⟨K + 1 + size + 1 + 1 + 1, fun k hk => ?_⟩
 have e1 := (hh (k + K + 1 + size + 1 + 1) (by omega)).1
 have hl1 := l1_loop data w n c size q v out t (by omega) (by omega) hv2 (by omega) hdr size 0 (k + K + 1) (by omega) (by omega)
 rw [Nat.pow_zero, Nat.mod_one, show ((0 : Nat) : Int) = 0 from rfl] at hl1
 have hK := hK k
 rw [Nat.sub_zero, show ((0 : Nat) : Int) = 0 from rfl] at hK
 have g1 : ¬ (((q + size : Nat) : Int) > (data.length : Int)) := by omega
 have hm2 : 2 * c % 2 = 0 := by omega
 have hm64 : 2 * c < 18446744073709551616 := by omega
 have b1 : w + 7 < 4000000000000 := by omega
 have b2 : size < 4000000000000 := by omega
 have b3 : q + size < 4000000000000 := by omega
 have g3 : ¬ (((0 : Nat) : Int) = 1) := by decide
 have w63 : w < 64 := by omega
 have kk : k + (K + 1 + size + 1 + 1 + 1) = k + K + 1 + size + 1 + 1 + 1 := by omega
 have c1 : wrap64 ((w : Int) + 7) = ((w + 7 : Nat) : Int) := w64k (w + 7) b1
 have c2 : wrap64 (Int.tdiv ((w + 7 : Nat) : Int) 8) = (size : Int) := by
  rw [show (8 : Int) = ((8 : Nat) : Int) from rfl, tdiv_k, ← hs]; exact w64k _ b2
 have c3 : wrap64 ((q : Int) + (size : Int)) = ((q + size : Nat) : Int) := by rw [← Int.natCast_add]; exact w64k _ b3
 have c4 : decide (shr .u64 (v : Int) (w : Int) > 0) = false := by rw [shr_none v w hv w63]; rfl
 rw [kk, e1, Nat.mul_div_cancel_left c (by decide)]
 conv => lhs; unfold spec_TakeRuns.j1
 rw [if_neg Bool.false_ne_true, and1 _ hm64, hm2, if_neg g3, c1, c2, c3, if_neg g1]
 refine hl1.trans ?_
 rw [c4]
 conv => lhs; unfold spec_TakeRuns.j3
 rw [if_neg Bool.false_ne_true, c3]
 rw [hrl]
 exact hK
end Go.Proofs.YtiieljnllgeoeaaGreat.Q

/- The plain law: all runs read back. -/
namespace Go.Proofs.YtiieljnllgeoeaaGreat.Q
open Go.RowKit Go.Proofs.YtiieljnllgeoeaaGreatW.PrintWords Go.Proofs.YtiieljnllgeoeaaGreatW.PrintLast Go.Proofs.YtiieljnllgeoeaaGreatW.PrintMore
set_option linter.unusedVariables false
set_option linter.unusedSimpArgs false
/-- What is written at the end: runs of the numbers, with at most eight zeros behind them. -/
theorem ok_done8 {w : Nat} (hw : 1 ≤ w) {e : RE} {V : List Nat} (h : Ok w e V) (hn : V.length < 1000000) : ∃ z, z ≤ 8 ∧ Runs w (e.done w).dn (V ++ List.replicate z 0) ∧ 8 * (e.done w).dn.length ≤ (1 + w) * (V.length + 8) := by
 obtain ⟨V1, hr, hx, hb, h8, hl, hc⟩ := h.runs
 unfold RE.done
 have hmul : ∀ a b : Nat, a ≤ b → (1 + w) * a ≤ (1 + w) * b := fun a b q => Nat.mul_le_mul_left _ q
 by_cases c : e.L = [] ∧ e.rep = 0 ∧ e.bf = []
 ·rw [if_pos c]
  obtain ⟨c1, c2, c3⟩ := c
  rcases hc with ⟨a1, a2, a3, a4, a5⟩ | ⟨a1, _⟩
  ·rw [c1, c3] at a3
   have : V = V1 := by simpa using a3
   subst this
   exact ⟨0, Nat.zero_le _, by simpa using hr, Nat.le_trans hb (hmul _ _ (by omega))⟩
  ·omega
 ·rw [if_neg c]
  by_cases d : 0 < e.rep ∧ e.L = [] ∧ (e.rep = e.bf.length ∨ e.bf = [])
  ·rw [if_pos d]
   obtain ⟨d1, d2, d3⟩ := d
   have hV : V = V1 ++ List.replicate e.rep e.cur := by
    rcases hc with ⟨a1, a2, a3, a4, a5⟩ | ⟨a1, a2, a3, a4⟩
    ·have hrb : e.rep = e.bf.length := by
      rcases d3 with q | q
      ·exact q
      ·rw [q] at a4; simp at a4; omega
     rw [hrb, Nat.sub_self, List.drop_zero, ← hrb] at a5
     rw [a3, d2, ← a5]; simp
    ·exact a4
   have hcx : e.cur < 2 ^ w := hx _ (by rw [hV]; exact List.mem_append_right _ (List.mem_replicate.2 ⟨by omega, rfl⟩))
   refine ⟨0, Nat.zero_le _, ?_, ?_⟩
   ·rw [List.replicate_zero, List.append_nil, hV]
    exact Runs.again _ _ hr d1 hcx
   ·show 8 * (e.dn ++ rp w e.rep e.cur).length ≤ _
    have hlV : V.length = V1.length + e.rep := by rw [hV]; simp
    rw [List.length_append, Nat.mul_add]
    by_cases q : 8 ≤ e.rep
    ·have := rp_len w e.rep e.cur hw q (by omega)
     have h2 := hmul (V1.length + e.rep) (V.length + 8) (by omega)
     rw [Nat.mul_add] at h2
     omega
    ·have hlb := (leb_len 1 (2 * e.rep) (by omega) (by omega)).2
     have h2 := hmul (V1.length + 8) (V.length + 8) (by omega)
     rw [Nat.mul_add (1 + w) V1.length] at h2
     unfold rp
     rw [List.length_append, toB_len]
     omega
  ·rw [if_neg d]
   rcases hc with ⟨a1, a2, a3, a4, a5⟩ | ⟨a1, a2, a3, a4⟩
   ·obtain ⟨z, hzz, hz, hz8⟩ : ∃ z, z ≤ 8 ∧ pad8 e.bf = e.bf ++ List.replicate z 0 ∧ (pad8 e.bf).length % 8 = 0 ∧ (pad8 e.bf).length ≤ 8 := by
     unfold pad8
     by_cases q : e.bf = []
     ·exact ⟨0, Nat.zero_le _, by rw [if_pos q, q]; simp, by rw [if_pos q]; simp⟩
     ·refine ⟨8 - e.bf.length, Nat.sub_le _ _, by rw [if_neg q], ?_⟩
      rw [if_neg q, List.length_append, List.length_replicate]
      omega
    have hVz : V ++ List.replicate z 0 = V1 ++ (e.L ++ pad8 e.bf) := by rw [hz, a3]; simp
    obtain ⟨g1, g2, g3, g4, g5, g6⟩ := ok_shut (w := w) (e := ({ e with bf := pad8 e.bf } : RE).lit) (V := []) (V1 := V1) hr (fun x hh => by
     have hh : x ∈ e.L ++ pad8 e.bf := hh
     have : x ∈ V ++ List.replicate z 0 := by rw [hVz]; exact List.mem_append_right _ hh
     rcases List.mem_append.1 this with q | q
     ·exact hx x q
     ·rw [(List.mem_replicate.1 q).2]; exact Nat.two_pow_pos w) hb (by show (e.L ++ pad8 e.bf).length % 8 = 0; rw [List.length_append]; omega) (by show (e.L ++ pad8 e.bf).length ≤ 504; rw [List.length_append]; omega)
    refine ⟨z, hzz, by rw [hVz]; exact g5, Nat.le_trans g6 (hmul _ _ ?_)⟩
    show (V1 ++ (e.L ++ pad8 e.bf)).length ≤ _
    rw [a3]
    simp only [List.length_append]
    omega
   ·exact absurd ⟨by omega, a3, .inr a2⟩ d
/-- The first numbers of runs. -/
theorem runs_read {w : Nat} (hw : 1 ≤ w) (hw2 : w ≤ 10) (n : Nat) (hn : n ≤ 1000000) (data : List Int) (hd : data.length < 1000000) {b : List Int} {W : List Nat} (h : Runs w b W) : W.length < 1000000 → ∀ t, data = b ++ t →
  (n ≤ W.length → ∃ K, ∀ k, 20001 ≤ k → spec_TakeRuns.l0 (k + K) data (w : Int) (n : Int) [] 0 = some (ints (W.take n), true)) ∧
  (W.length ≤ n → ∃ K, ∀ k, 20001 ≤ k → spec_TakeRuns.l0 (k + K) data (w : Int) (n : Int) [] 0 = spec_TakeRuns.l0 k data (w : Int) (n : Int) (ints W) (b.length : Int)) := by
 have fin : ∀ (W' : List Nat) (p : Int) (k : Nat), n ≤ W'.length → W'.length ≤ n → 20001 ≤ k → spec_TakeRuns.l0 k data (w : Int) (n : Int) (ints W') p = some (ints W', true) := by
  intro W' p k h1 h2 hk
  obtain ⟨k, rfl⟩ : ∃ j, k = j + 1 := ⟨k - 1, by omega⟩
  have g : ¬ (((ints W').length : Int) < (n : Int)) := by rw [ints_len]; omega
  unfold spec_TakeRuns.l0
  rw [if_neg g]
 induction h with
 | nil =>
  intro _ t _
  refine ⟨fun h0 => ⟨0, fun k hk => ?_⟩, fun _ => ⟨0, fun k _ => rfl⟩⟩
  have hn0 : n = 0 := by simpa using h0
  subst hn0
  exact fin [] 0 k (Nat.le_refl _) (Nat.le_refl _) hk
 | @packed b V l hr h8 h0 hll hx ih =>
  intro hW t ht
  rw [List.length_append] at hW
  obtain ⟨i1, i2⟩ := ih (by omega) (pk w l ++ t) (by rw [ht, List.append_assoc])
  have hdrop : data.drop b.length = pk w l ++ t := by rw [ht, List.append_assoc, List.drop_left]
  have step : V.length < n → ∃ K, ∀ k, 20001 ≤ k → spec_TakeRuns.l0 (k + K) data (w : Int) (n : Int) [] 0 = spec_TakeRuns.l0 k data (w : Int) (n : Int) (ints (V ++ l.take (n - V.length))) (((b ++ pk w l).length : Nat) : Int) := by
   intro hlt
   obtain ⟨K, hK⟩ := i2 (Nat.le_of_lt hlt)
   refine ⟨2 + K, fun k hk => ?_⟩
   have h1 := hK (k + 2) (by omega)
   have h2 := packed_step data hd w n b.length k (ints V) l t hw hw2 hx h8 h0 hll (by rw [ints_len]; exact hlt) hn hdrop hk
   rw [ints_len, ← ints_app, ← List.length_append] at h2
   rw [← Nat.add_assoc, h1, h2]
  constructor
  ·intro hnW
   rcases Nat.lt_or_ge V.length n with hlt | hge
   ·obtain ⟨K, hK⟩ := step hlt
    refine ⟨K, fun k hk => ?_⟩
    rw [List.length_append] at hnW
    rw [hK k hk, fin _ _ k (by rw [List.length_append, List.length_take]; omega) (by rw [List.length_append, List.length_take]; omega) hk, List.take_append, List.take_of_length_le (Nat.le_of_lt hlt)]
   ·obtain ⟨K, hK⟩ := i1 hge
    exact ⟨K, fun k hk => by rw [hK k hk, List.take_append_of_le_length hge]⟩
  ·intro hWn
   rw [List.length_append] at hWn
   obtain ⟨K, hK⟩ := step (by omega)
   refine ⟨K, fun k hk => ?_⟩
   rw [hK k hk, List.take_of_length_le (by omega)]
 | @again b V c v hr h0 hv ih =>
  intro hW t ht
  rw [List.length_append, List.length_replicate] at hW
  obtain ⟨i1, i2⟩ := ih (by omega) (rp w c v ++ t) (by rw [ht, List.append_assoc])
  have hdrop : data.drop b.length = rp w c v ++ t := by rw [ht, List.append_assoc, List.drop_left]
  have step : V.length < n → ∃ K, ∀ k, 20001 ≤ k → spec_TakeRuns.l0 (k + K) data (w : Int) (n : Int) [] 0 = spec_TakeRuns.l0 k data (w : Int) (n : Int) (ints (V ++ List.replicate (min c (n - V.length)) v)) (((b ++ rp w c v).length : Nat) : Int) := by
   intro hlt
   obtain ⟨K, hK⟩ := i2 (Nat.le_of_lt hlt)
   obtain ⟨K2, h2⟩ := again_step data hd w n b.length c v (ints V) t hw hw2 hv h0 (by omega) (by rw [ints_len]; exact hlt) hn hdrop
   refine ⟨K2 + K, fun k hk => ?_⟩
   have h1 := hK (k + K2) (by omega)
   have h2 := h2 k hk
   rw [ints_len, ← ints_app, ← List.length_append] at h2
   rw [← Nat.add_assoc, h1, h2]
  constructor
  ·intro hnW
   rcases Nat.lt_or_ge V.length n with hlt | hge
   ·obtain ⟨K, hK⟩ := step hlt
    refine ⟨K, fun k hk => ?_⟩
    rw [List.length_append, List.length_replicate] at hnW
    rw [hK k hk, fin _ _ k (by rw [List.length_append, List.length_replicate]; omega) (by rw [List.length_append, List.length_replicate]; omega) hk, List.take_append, List.take_of_length_le (Nat.le_of_lt hlt), List.take_replicate, Nat.min_comm]
   ·obtain ⟨K, hK⟩ := i1 hge
    exact ⟨K, fun k hk => by rw [hK k hk, List.take_append_of_le_length hge]⟩
  ·intro hWn
   rw [List.length_append, List.length_replicate] at hWn
   obtain ⟨K, hK⟩ := step (by omega)
   refine ⟨K, fun k hk => ?_⟩
   rw [hK k hk, show min c (n - V.length) = c by omega]
/-- What the program writes is what the law's reader reads. -/
theorem enc_read (w : Nat) (hw : 1 ≤ w) (hw2 : w ≤ 10) (V : List Nat) (hl : V.length ≤ 1000) (hv : ∀ v ∈ V, v < 2 ^ w) : ∃ K, ∀ k, 20001 ≤ k → spec_TakeRuns.f (k + K) (enc w V) (w : Int) (V.length : Int) = some (ints V, true) := by
 have hok := ok_fold hw V V.length (Nat.le_refl _) hv (by omega)
 rw [List.take_length] at hok
 obtain ⟨z, hz, hr, hb⟩ := ok_done8 hw hok (by omega)
 have hlen : (enc w V).length < 1000000 := by
  have h1 : (1 + w) * (V.length + 8) ≤ 11 * 1008 := Nat.mul_le_mul (by omega) (by omega)
  unfold enc
  omega
 obtain ⟨K, hK⟩ := (runs_read hw hw2 V.length (by omega) (enc w V) hlen hr (by rw [List.length_append, List.length_replicate]; omega) [] (by rw [List.append_nil]; rfl)).1 (by rw [List.length_append]; omega)
 refine ⟨K, fun k hk => ?_⟩
 have := hK k hk
 rw [List.take_append_of_le_length (Nat.le_refl _), List.take_length] at this
 exact this
end Go.Proofs.YtiieljnllgeoeaaGreat.Q
