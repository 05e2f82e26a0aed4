/- Several texts of ours in one: Pc, Pd. -/
import Derived.Test.YtdekingogcmboaaQDLb
import Derived.Test.YtdekingogcmboaaPb
import Derived.Test.YtdekingogcmboaaMB
/- What is read back, plainly: groups of seven bits, fields, numbers with a sign. -/
namespace Go.Proofs.Ytdekingogcmboaa.Q
open Go.RowKit Go.Proofs.YtdekingogcmboaaW.PrintWords Go.Proofs.YtdekingogcmboaaW.PrintLast Go.Proofs.YtdekingogcmboaaW.PrintMore
set_option linter.unusedVariables false
set_option linter.unusedSimpArgs false
theorem and127 (x : Nat) (h : x < 256) : IntKind.u64.wrap (Go.bits .and .u8 (x : Int) 127) = ((x % 128 : Nat) : Int) := by
  have e : ∀ y : Fin 256, IntKind.u64.wrap (Go.bits .and .u8 ((y.val : Nat) : Int) 127) = ((y.val % 128 : Nat) : Int) := by decide +kernel
  exact e ⟨x, h⟩
theorem shl_is (m s : Nat) (hs : s ≤ 64) : shl .u64 (m : Int) (s : Int) = ((m * 2 ^ s % 18446744073709551616 : Nat) : Int) := by
  unfold shl
  have e : min (s : Int).toNat IntKind.u64.bits = s := by simp [IntKind.bits]; omega
  rw [e]
  have : (m : Int) * 2 ^ s = ((m * 2 ^ s : Nat) : Int) := by simp
  rw [this]
  generalize m * 2 ^ s = x
  simp [IntKind.wrap, IntKind.bits, IntKind.signed]
theorem or_shl (a m s : Nat) (ha : a < 2 ^ s) (hs : s < 64) (h : a + m * 2 ^ s < 18446744073709551616) : Go.bits .or .u64 (a : Int) (shl .u64 (m : Int) (s : Int)) = ((a + m * 2 ^ s : Nat) : Int) := by
  have h2 : (2 : Nat) ^ s < 2 ^ 64 := Nat.pow_lt_pow_right (by omega) hs
  rw [shl_is m s (by omega), u64_or_nat a _ (by omega) (Nat.mod_lt _ (by omega)), or_add a m s ha hs, Nat.mod_eq_of_lt h]
theorem rd_at (data : List Int) (p : Nat) (x : Int) (t : List Int) (h : data.drop p = x :: t) : rd data (p : Int) = x ∧ p < data.length ∧ data.drop (p + 1) = t := by
  have hp : p < data.length := by
    rcases Nat.lt_or_ge p data.length with h1 | h1
    · exact h1
    · rw [List.drop_eq_nil_of_le h1] at h; cases h
  have e := List.drop_eq_getElem_cons hp
  rw [e] at h
  injection h with h1 h2
  refine ⟨?_, hp, h2⟩
  unfold rd
  rw [Int.toNat_natCast, List.getD_eq_getElem?_getD, List.getElem?_eq_getElem hp, ← h1]
  rfl
theorem leb_end (data : List Int) (hd : data.length < 1000000) (p acc m s k R : Nat) (t : List Int) (h1 : data.drop p = (m : Int) :: t) (hm : m < 128) (hs : s < 64) (ho : Go.bits .or .u64 (acc : Int) (shl .u64 (m : Int) (s : Int)) = (R : Int)) :
    spec_leb.l0 (k + 2) data (p : Int) (acc : Int) (s : Int) = some ((R : Int), ((p + 1 : Nat) : Int), true) := by
  obtain ⟨r1, r2, r3⟩ := rd_at data p _ _ h1
  have hw : wrap64 ((p : Int) + 1) = ((p + 1 : Nat) : Int) := by unfold wrap64; omega
  clear h1 r3
  unfold spec_leb.l0
  rw [if_pos (by omega), decide_eq_true (by omega)]
  unfold spec_leb.j1
  rw [if_pos rfl, if_pos (by omega), if_pos (by omega), if_pos (by omega), r1, if_pos (by omega), and127 m (by omega), Nat.mod_eq_of_lt hm, ho, hw]
theorem leb_more (data : List Int) (hd : data.length < 1000000) (p acc m s k R : Nat) (t : List Int) (h1 : data.drop p = ((m % 128 + 128 : Nat) : Int) :: t) (hs : s < 64) (ho : Go.bits .or .u64 (acc : Int) (shl .u64 ((m % 128 : Nat) : Int) (s : Int)) = (R : Int)) :
    spec_leb.l0 (k + 2) data (p : Int) (acc : Int) (s : Int) = spec_leb.l0 k data ((p + 1 : Nat) : Int) (R : Int) ((s + 7 : Nat) : Int) := by
  obtain ⟨r1, r2, r3⟩ := rd_at data p _ _ h1
  have hw : wrap64 ((p : Int) + 1) = ((p + 1 : Nat) : Int) := by unfold wrap64; omega
  have hw7 : wrap64 ((s : Int) + 7) = ((s + 7 : Nat) : Int) := by unfold wrap64; omega
  have ha := and127 (m % 128 + 128) (by omega)
  rw [show (m % 128 + 128) % 128 = m % 128 by omega] at ha
  clear h1 r3
  conv => lhs; unfold spec_leb.l0
  rw [if_pos (by omega), decide_eq_true (by omega)]
  conv => lhs; unfold spec_leb.j1
  rw [if_pos rfl, if_pos (by omega), if_pos (by omega), if_pos (by omega), r1, if_neg (by omega), ha, ho, hw, hw7]
theorem split7 (acc m P Q : Nat) (hQ : Q = 128 * P) : acc + m % 128 * P + m / 128 * Q = acc + m * P := by
  subst hQ
  have h : m * P = (m % 128) * P + (m / 128) * (128 * P) := by
    rw [← Nat.mul_assoc, ← Nat.add_mul]
    congr 1
    omega
  rw [h, Nat.add_assoc]
theorem lo7 (acc m P Q : Nat) (hQ : Q = 128 * P) (h : acc < P) : acc + m % 128 * P < Q := by
  subst hQ
  have : (m % 128 + 1) * P ≤ 128 * P := Nat.mul_le_mul_right _ (by omega)
  rw [Nat.add_mul, Nat.one_mul] at this
  omega
theorem leb_loop (data : List Int) (hd : data.length < 1000000) (j : Nat) : ∀ (i m acc p k : Nat) (t : List Int), j = 9 - i → data.drop p = leb m ++ t → acc < 2 ^ (7 * i) → acc + m * 2 ^ (7 * i) < 18446744073709551616 → i ≤ 9 → (i < 9 ∨ m < 128) → 2 * j + 2 ≤ k →
    spec_leb.l0 k data (p : Int) (acc : Int) ((7 * i : Nat) : Int) = some (((acc + m * 2 ^ (7 * i) : Nat) : Int), ((p + (leb m).length : Nat) : Int), true) := by
  induction j with
  | zero =>
    intro i m acc p k t hj h1 h2 h3 h4 h5 h6
    have hm : m < 128 := by omega
    obtain ⟨k, rfl⟩ : ∃ q, k = q + 2 := ⟨k - 2, by omega⟩
    rw [leb_lo m hm] at h1 ⊢
    exact leb_end data hd p acc m (7 * i) k _ t h1 hm (by omega) (or_shl acc m (7 * i) h2 (by omega) h3)
  | succ j ih =>
    intro i m acc p k t hj h1 h2 h3 h4 h5 h6
    obtain ⟨k, rfl⟩ : ∃ q, k = q + 2 := ⟨k - 2, by omega⟩
    have h7 : 7 * i < 64 := by omega
    by_cases hm : m < 128
    · rw [leb_lo m hm] at h1 ⊢
      exact leb_end data hd p acc m (7 * i) k _ t h1 hm h7 (or_shl acc m (7 * i) h2 h7 h3)
    · rw [leb_hi m hm, List.cons_append] at h1
      have h9 : i < 9 := by omega
      have hq : (2 : Nat) ^ (7 * (i + 1)) = 128 * 2 ^ (7 * i) := by rw [Nat.mul_add, Nat.pow_add, Nat.mul_comm]
      have hs := split7 acc m (2 ^ (7 * i)) (2 ^ (7 * (i + 1))) hq
      have hl := lo7 acc m (2 ^ (7 * i)) (2 ^ (7 * (i + 1))) hq h2
      have hlt : acc + m % 128 * 2 ^ (7 * i) < 18446744073709551616 := Nat.lt_of_le_of_lt (by rw [← hs]; exact Nat.le_add_right _ _) h3
      have hm9 : i + 1 < 9 ∨ m / 128 < 128 := by
        rcases Nat.lt_or_ge (i + 1) 9 with h | h
        · exact .inl h
        · right
          have hi : i = 8 := by omega
          rw [hi] at h3
          have h3' : m * 2 ^ 56 < 18446744073709551616 := Nat.lt_of_le_of_lt (Nat.le_add_left _ _) h3
          have : m < 256 := by
            rcases Nat.lt_or_ge m 256 with h | h
            · exact h
            · have := Nat.mul_le_mul_right (2 ^ 56) h
              have e : 256 * 2 ^ 56 = 18446744073709551616 := by decide
              rw [e] at this
              exact absurd h3' (Nat.not_lt.2 this)
          omega
      have hstep := leb_more data hd p acc m (7 * i) k _ _ h1 h7 (or_shl acc (m % 128) (7 * i) h2 h7 hlt)
      have hr := (rd_at data p _ _ h1).2.2
      have hih := ih (i + 1) (m / 128) (acc + m % 128 * 2 ^ (7 * i)) (p + 1) k t (by omega) hr hl (by rw [hs]; exact h3) (by omega) hm9 (by omega)
      rw [hstep, show 7 * i + 7 = 7 * (i + 1) by omega, hih, hs, leb_hi m hm, List.length_cons, show p + 1 + (leb (m / 128)).length = p + ((leb (m / 128)).length + 1) by omega]
theorem leb_at (data : List Int) (hd : data.length < 1000000) (m p k : Nat) (t : List Int) (h : data.drop p = leb m ++ t) (hm : m < 18446744073709551616) (hk : 24 ≤ k) :
    spec_leb.f k data (p : Int) = some ((m : Int), ((p + (leb m).length : Nat) : Int), true) := by
  have := leb_loop data hd 9 0 m 0 p k t rfl h (by simp) (by simpa using hm) (by omega) (by omega) (by omega)
  unfold spec_leb.f
  simpa using this
theorem unzig_is (v : Int) (h1 : -9223372036854775808 ≤ v) (h2 : v ≤ 9223372036854775807) : spec_unzig.f (zz v : Int) = some v := by
  unfold spec_unzig.f
  have hz : (zz v : Int) = if 0 ≤ v then 2 * v else -2 * v - 1 := by unfold zz; split <;> omega
  have hb : Go.bits .and .u64 (zz v : Int) 1 = (zz v : Int) % 2 := by
    have hlt : zz v < 18446744073709551616 := by unfold zz; split <;> omega
    have := u64_and_nat (zz v) 1 hlt (by omega)
    rw [show ((1 : Nat) : Int) = 1 from rfl] at this
    rw [this, Nat.and_one_is_mod]
    omega
  rw [hb]
  congr 1
  show IntKind.i64.wrap ((BitVec.ofInt 64 (wrap64 ((zz v : Int) / 2)) ^^^ BitVec.ofInt 64 (wrap64 (-(wrap64 ((zz v : Int) % 2))))).toNat : Int) = v
  rw [hz]
  by_cases c : 0 ≤ v
  · rw [if_pos c]
    have e1 : wrap64 (-(wrap64 ((2 * v) % 2))) = 0 := by unfold wrap64; omega
    have e2 : wrap64 ((2 * v) / 2) = v := by unfold wrap64; omega
    have e3 : BitVec.ofInt 64 (0 : Int) = 0#64 := by decide
    rw [e1, e2, e3, BitVec.xor_zero, BitVec.toNat_ofInt]
    simp [IntKind.wrap, IntKind.bits, IntKind.signed]
    omega
  · rw [if_neg c]
    have e1 : wrap64 (-(wrap64 ((-2 * v - 1) % 2))) = -1 := by unfold wrap64; omega
    have e2 : wrap64 ((-2 * v - 1) / 2) = -1 - v := by unfold wrap64; omega
    have e3 : BitVec.ofInt 64 (-1 : Int) = BitVec.allOnes 64 := by decide
    rw [e1, e2, e3, BitVec.xor_allOnes, BitVec.toNat_not, BitVec.toNat_ofInt]
    simp [IntKind.wrap, IntKind.bits, IntKind.signed]
    omega
theorem wrapTo64 (x : Int) : spec_wrapTo.f x 64 = some (wrap64 x) := by
  have e : spec_signed.f (IntKind.u64.wrap x) 64 = some (wrap64 x) := by
    unfold spec_signed.f
    have h0 : wrap64 (64 - 64) = 0 := by unfold wrap64; omega
    rw [h0, if_pos (by omega)]
    congr 1
    unfold shr shl
    simp [IntKind.wrap, IntKind.bits, IntKind.signed, wrap64]
    try omega
  unfold spec_wrapTo.f
  rw [e]
  rfl
theorem wrapTo32 (x : Int) : spec_wrapTo.f x 32 = some (wrap32 x) := by
  have e : spec_signed.f (IntKind.u64.wrap x) 32 = some (wrap32 x) := by
    unfold spec_signed.f
    have h0 : wrap64 (64 - 32) = 32 := by unfold wrap64; omega
    rw [h0, if_pos (by omega)]
    congr 1
    unfold shr shl
    simp [IntKind.wrap, IntKind.bits, IntKind.signed, wrap64, wrap32]
    try omega
  unfold spec_wrapTo.f
  rw [e]
  rfl
end Go.Proofs.Ytdekingogcmboaa.Q

/- Fields of packed bits, read one by one, plainly. -/
namespace Go.Proofs.Ytdekingogcmboaa.Q
open Go.RowKit Go.Proofs.YtdekingogcmboaaW.PrintWords Go.Proofs.YtdekingogcmboaaW.PrintLast Go.Proofs.YtdekingogcmboaaW.PrintMore
set_option linter.unusedVariables false
set_option linter.unusedSimpArgs false
theorem wr_nat (z : Nat) (h : z ≤ 4000000000000) : wrap64 (z : Int) = (z : Int) := by unfold wrap64; omega
theorem wr_add (a b : Nat) (h : a + b ≤ 4000000000000) : wrap64 ((a : Int) + (b : Int)) = ((a + b : Nat) : Int) := by unfold wrap64; omega
theorem wr_one (a : Nat) (h : a ≤ 4000000000) : wrap64 ((a : Int) + 1) = ((a + 1 : Nat) : Int) := by unfold wrap64; omega
theorem wr_mul (a b : Nat) (h : b * a ≤ 4000000000000) : wrap64 ((a : Int) * (b : Int)) = ((b * a : Nat) : Int) := by
  rw [show (a : Int) * (b : Int) = ((b * a : Nat) : Int) by rw [Nat.mul_comm]; simp]
  exact wr_nat _ h
theorem u8_one (x : Nat) (h : x < 256) : Go.bits .and .u8 (x : Int) 1 = ((x % 2 : Nat) : Int) := by
  have e : ∀ y : Fin 256, Go.bits .and .u8 ((y.val : Nat) : Int) 1 = ((y.val % 2 : Nat) : Int) := by decide +kernel
  exact e ⟨x, h⟩
theorem bit_at (n P idx : Nat) (h : idx < 8 * n) (hn : n ≤ 1000) : spec_Bit.f (toB n P) (idx : Int) = some (decide (P / 2 ^ idx % 2 = 1)) := by
  have q1 : (0 : Int) ≤ ((idx / 8 : Nat) : Int) := by omega
  have q2 : ((idx / 8 : Nat) : Int) < (n : Int) := by omega
  have q3 : (0 : Int) ≤ ((idx % 8 : Nat) : Int) := by omega
  have q4 : idx / 8 < n := by omega
  have q5 : idx / 8 ≤ 4000000000000 := by omega
  have hd : Int.tdiv (idx : Int) 8 = ((idx / 8 : Nat) : Int) := by rw [Int.tdiv_eq_ediv_of_nonneg (by omega)]; omega
  have hm : Int.tmod (idx : Int) 8 = ((idx % 8 : Nat) : Int) := by rw [Int.tmod_eq_emod_of_nonneg (by omega)]; omega
  have hl : (toB n P).length = n := toB_len n P
  have hb := bit_of n P idx h
  have hr : rd (toB n P) ((idx / 8 : Nat) : Int) = ((P / 256 ^ (idx / 8) % 256 : Nat) : Int) := by
    show (toB n P).getD (((idx / 8 : Nat) : Int)).toNat 0 = _
    rw [Int.toNat_natCast, toB_at n P _ q4]
  rw [toB_at n P _ q4, Int.toNat_natCast] at hb
  have hsh : shr .u8 ((P / 256 ^ (idx / 8) % 256 : Nat) : Int) ((idx % 8 : Nat) : Int) = ((P / 256 ^ (idx / 8) % 256 / 2 ^ (idx % 8) : Nat) : Int) := by
    unfold shr
    have e : min (((idx % 8 : Nat) : Int)).toNat IntKind.u8.bits = idx % 8 := by simp [IntKind.bits]; omega
    rw [e]
    simp
  have hx : P / 256 ^ (idx / 8) % 256 / 2 ^ (idx % 8) < 256 := Nat.lt_of_le_of_lt (Nat.div_le_self _ _) (Nat.mod_lt _ (by omega))
  have h1 := u8_one _ hx
  unfold spec_Bit.f
  rw [hd, hm, wr_nat (idx / 8) q5, hr, hsh, hl, h1, hb, if_pos q1, if_pos q2, if_pos q3]
  congr 1
  generalize P / 2 ^ idx % 2 = z
  by_cases c : z = 1
  · subst c; rfl
  · rw [decide_eq_false c]
    have : ¬ ((z : Int) = 1) := by omega
    simpa using this
theorem lt_sum (a Q : Nat) (h : a < Q) (hq : Q ≤ 9223372036854775808) : a + 1 * Q < 18446744073709551616 := by omega
theorem packed_loop (n P i w : Nat) (hi : i < 32) (hw : w ≤ 64) (hn : n = 4 * w) (r : Nat) : ∀ (j k : Nat), r = w - j → j ≤ w → r + 1 ≤ k →
    spec_packedAt.l0 k (toB n P) (i : Int) (w : Int) ((P / 2 ^ (w * i) % 2 ^ j : Nat) : Int) (w : Int) (j : Int) = some ((P / 2 ^ (w * i) % 2 ^ w : Nat) : Int) := by
  induction r with
  | zero =>
    intro j k hr hj hk
    have hjw : j = w := by omega
    subst hjw
    obtain ⟨k, rfl⟩ : ∃ q, k = q + 1 := ⟨k - 1, by omega⟩
    unfold spec_packedAt.l0
    rw [if_neg (by omega)]
  | succ r ih =>
    intro j k hr hj hk
    obtain ⟨k, rfl⟩ : ∃ q, k = q + 1 := ⟨k - 1, by omega⟩
    have p1 : (j : Int) < (w : Int) := by omega
    have p2 : (0 : Int) ≤ (j : Int) := by omega
    have p3 : j < 64 := by omega
    have p4 : n ≤ 1000 := by omega
    have hm : i * w ≤ 31 * 64 := Nat.mul_le_mul (by omega) hw
    have hlt : w * i + j < 8 * n := by
      subst hn
      have : w * i ≤ w * 31 := Nat.mul_le_mul_left _ (by omega)
      omega
    have b1 : w * i ≤ 4000000000000 := by rw [Nat.mul_comm]; omega
    have b2 : w * i + j ≤ 4000000000000 := by rw [Nat.mul_comm] at hm; omega
    have b3 : j ≤ 4000000000 := by omega
    have hb := bit_at n P (w * i + j) hlt p4
    have hf := field_bits P (w * i) j
    have hih := ih (j + 1) k (by omega) (by omega) (by omega)
    have hlt2 : P / 2 ^ (w * i) % 2 ^ j < 2 ^ j := Nat.mod_lt _ (Nat.two_pow_pos j)
    conv => lhs; unfold spec_packedAt.l0
    rw [if_pos p1, wr_mul i w b1, wr_add (w * i) j b2, hb, wr_one j b3]
    show (if decide (P / 2 ^ (w * i + j) % 2 = 1) = true then _ else _) = _
    by_cases c : P / 2 ^ (w * i + j) % 2 = 1
    · rw [if_pos (decide_eq_true c), if_pos p2]
      have h64 : P / 2 ^ (w * i) % 2 ^ j + 1 * 2 ^ j < 18446744073709551616 := by
        have : (2 : Nat) ^ j ≤ 2 ^ 63 := Nat.pow_le_pow_right (by omega) (Nat.le_of_lt_succ p3)
        exact lt_sum _ _ hlt2 this
      have ho := or_shl (P / 2 ^ (w * i) % 2 ^ j) 1 j hlt2 p3 h64
      rw [show ((1 : Nat) : Int) = 1 from rfl] at ho
      rw [ho, Nat.one_mul, ← hih, hf, c, Nat.mul_one]
    · rw [if_neg (by simp [c]), ← hih, hf]
      have c0 : P / 2 ^ (w * i + j) % 2 = 0 := (Nat.mod_two_eq_zero_or_one _).resolve_right c
      rw [c0, Nat.mul_zero]
      rfl
theorem packed_at (n P i w k : Nat) (hi : i < 32) (hw : w ≤ 64) (hn : n = 4 * w) (hk : 66 ≤ k) : spec_packedAt.f k (toB n P) (i : Int) (w : Int) = some ((P / 2 ^ (w * i) % 2 ^ w : Nat) : Int) := by
  have := packed_loop n P i w hi hw hn w 0 k (by omega) (by omega) (by omega)
  unfold spec_packedAt.f
  rw [Nat.pow_zero, Nat.mod_one] at this
  exact this
end Go.Proofs.Ytdekingogcmboaa.Q
