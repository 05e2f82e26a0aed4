/- The plain law of laws.FnCompareUint64. -/
import Derived.Test.YtgccaabpckfhlaaGreatDoorQCUe
import Derived.DataShut
namespace Go.Proofs.YtgccaabpckfhlaaGreatDoor.Q
open Go.RowKit Go.Proofs.YtgccaabpckfhlaaGreatDoorW.PrintWords Go.Proofs.YtgccaabpckfhlaaGreatDoorW.PrintLast Go.Proofs.YtgccaabpckfhlaaGreatDoorW.PrintMore
set_option linter.unusedVariables false
set_option linter.unusedSimpArgs false
theorem w64s (i : Nat) (h : i ≤ 2147483647) : wrap64 ((i : Int) + 1) = ((i + 1 : Nat) : Int) := by unfold wrap64; omega
def mkV (x : Int) : S52 := ⟨false, x, ⟨#[]⟩, []⟩
theorem sh0 (x : Int) (h : 0 ≤ x ∧ x < 18446744073709551616) : shl .u64 x (wrap64 (64 - 64)) = x ∧ shr .u64 x (wrap64 (64 - 64)) = x := by
  have e : wrap64 (64 - 64) = 0 := by unfold wrap64; omega
  rw [e]
  constructor
  · simp [shl, IntKind.wrap_u64]; omega
  · simp [shr]
theorem fits_u64 (k : Nat) (x : Int) (h : 0 ≤ x ∧ x < 18446744073709551616) : spec_OneFits.f (k + 1) 2 64 false 0 0 0 (⟨#[]⟩ : ByteArray) false ([] : List Int) ([] : List Int) false x (⟨#[]⟩ : ByteArray) ([] : List S52) = some true := by
  obtain ⟨e1, e2⟩ := sh0 x h
  unfold spec_OneFits.f
  rw [if_neg (by simp), if_neg (by simp)]
  rw [spec_OneFits.j0]
  rw [if_neg (by simp), if_neg (by simp)]
  unfold spec_OneBits.f
  rw [if_pos rfl]
  simp only [Option.bind_some]
  rw [if_neg (by decide), if_pos (by decide +kernel), if_neg (by decide), if_pos (by unfold wrap64; omega), e1, e2]
  simp
theorem vals_loop (l : List Int) (hl : l.length ≤ 2147483647) (hr : ∀ x ∈ l, 0 ≤ x ∧ x < 18446744073709551616) : ∀ k i : Nat, i ≤ l.length → l.length - i + 1 < k →
    laws_asValues.l0 k ((l.take i).map mkV) l (l.length : Int) (i : Int) 2 64 false 0 0 0 (⟨#[]⟩ : ByteArray) false ([] : List Int) ([] : List Int) = some (l.map mkV, decide ((l.length : Int) ≤ 300)) := by
  intro k
  induction k with
  | zero => intro i _ h; omega
  | succ k ih =>
    intro i h1 h2
    unfold laws_asValues.l0
    by_cases c : i < l.length
    · have hrd : rd l (i : Int) = l[i] := by
        show l.getD (i : Int).toNat 0 = _
        rw [Int.toNat_natCast, List.getD_eq_getElem?_getD, List.getElem?_eq_getElem c]; rfl
      obtain ⟨k, rfl⟩ : ∃ q, k = q + 1 := ⟨k - 1, by omega⟩
      rw [if_pos (by omega), if_pos (by omega), if_pos (by omega), hrd, fits_u64 k _ (hr _ (List.getElem_mem c))]
      simp only [Option.bind_some, if_true]
      rw [if_pos (by simp; omega), w64s i (by omega)]
      have e : (l.take i).map mkV ++ [(⟨false, l[i], ⟨#[]⟩, []⟩ : S52)] = (l.take (i + 1)).map mkV := by
        rw [List.take_add_one, List.getElem?_eq_getElem c, List.map_append]; rfl
      rw [e]
      exact ih (i + 1) (by omega) (by omega)
    · have hi : i = l.length := by omega
      subst hi
      rw [if_neg (by omega), List.take_length]
      simp
theorem vals_is (l : List Int) (hl : l.length ≤ 2147483647) (hr : ∀ x ∈ l, 0 ≤ x ∧ x < 18446744073709551616) (k : Nat) (hk : l.length + 1 < k) : laws_asValues.f k 2 64 false 0 0 0 (⟨#[]⟩ : ByteArray) false ([] : List Int) ([] : List Int) l = some (l.map mkV, decide ((l.length : Int) ≤ 300)) := by
  have := vals_loop l hl hr k 0 (Nat.zero_le _) (by omega)
  exact this
theorem rd52 (l : List Int) (i : Nat) (h : i < l.length) : rd_T52 (l.map mkV) (i : Int) = mkV (l.getD i 0) := by
  show (l.map mkV).getD (i : Int).toNat z52 = _
  rw [Int.toNat_natCast, List.getD_eq_getElem?_getD, List.getElem?_eq_getElem (by simpa using h), List.getD_eq_getElem?_getD, List.getElem?_eq_getElem h]
  simp
theorem ans_is (op : Nat) (hop : op < 4) (x y : Int) : laws_answer.f (op : Int) (if x < y then -1 else if x > y then 1 else 0) false = some (cmpB op x y) := by
  unfold laws_answer.f cmpB
  rw [if_neg (by simp)]
  have ho : op = 0 ∨ op = 1 ∨ op = 2 ∨ op = 3 := by omega
  rcases ho with rfl | rfl | rfl | rfl
  all_goals
    by_cases c1 : x < y
    · simp [c1]; try omega
    · by_cases c2 : y < x
      · simp [c1, c2]; try omega
      · have : x = y := by omega
        subst this
        simp
/-- The places of a pair. -/
def pl (how i : Nat) : Nat × Nat := if how = 1 then (i, 0) else if how = 2 then (0, i) else (i, i)
theorem due_loop (op how : Nat) (xs ys : List Int) (hop : op < 4) (hl : Fits how xs ys) (hx : xs.length ≤ 300) (hy : ys.length ≤ 300) : ∀ k i : Nat, i ≤ cntN how xs ys → 2 * (cntN how xs ys - i) < k →
    laws_compareDue.l0 k (op : Int) (how : Int) (xs.map mkV) (ys.map mkV) ((cntN how xs ys : Nat) : Int) ((List.range i).map (ansB op how xs ys)) (i : Int) 2 64 false 0 0 0 (⟨#[]⟩ : ByteArray) false ([] : List Int) ([] : List Int) = some ((List.range (cntN how xs ys)).map (ansB op how xs ys)) := by
  intro k
  induction k using Nat.strongRecOn with
  | ind k ih =>
    intro i h1 h2
    obtain ⟨k, rfl⟩ : ∃ q, k = q + 1 := ⟨k - 1, by omega⟩
    unfold laws_compareDue.l0
    by_cases c : i < cntN how xs ys
    · rw [if_pos (by omega)]
      obtain ⟨p, q, hp, hq, hpl, ex, ey⟩ : ∃ p q : Nat, p < xs.length ∧ q < ys.length ∧ laws_place2.f (how : Int) (i : Int) = some ((p : Int), (q : Int)) ∧ xAt how xs i = xs.getD p 0 ∧ yAt how ys i = ys.getD q 0 := by
        unfold Fits at hl
        unfold cntN at c
        rcases hl with ⟨rfl, h⟩ | ⟨rfl, h⟩ | ⟨rfl, h⟩
        · exact ⟨i, i, by simpa using c, by simp at c; omega, by simp [laws_place2.f], by simp [xAt], by simp [yAt]⟩
        · exact ⟨i, 0, by simpa using c, h, by simp [laws_place2.f], by simp [xAt], by simp [yAt]⟩
        · exact ⟨0, i, h, by simpa using c, by simp [laws_place2.f], by simp [xAt], by simp [yAt]⟩
      rw [hpl]
      simp only [Option.bind_some]
      rw [if_pos (by omega), if_pos (by simp; omega), rd52 xs p hp, rd52 ys q hq]
      have hn : ∀ a0 a1 a2 a3, spec_NotNumber.f 2 64 false 0 0 0 (⟨#[]⟩ : ByteArray) false ([] : List Int) ([] : List Int) a0 a1 a2 a3 = some false := fun _ _ _ _ => by unfold spec_NotNumber.f; rw [if_neg (by decide)]
      rw [hn]
      simp only [Option.bind_some, Bool.false_eq_true, if_false]
      rw [if_pos (by omega), if_pos (by simp; omega), hn]
      simp only [Option.bind_some]
      obtain ⟨k, rfl⟩ : ∃ q, k = q + 1 := ⟨k - 1, by omega⟩
      rw [laws_compareDue.j1]
      rw [if_neg (by simp), if_pos (by omega), if_pos (by simp; omega), if_pos (by omega), if_pos (by simp; omega), rd52 xs p hp, rd52 ys q hq]
      unfold spec_Order.f
      rw [if_pos ⟨rfl, rfl⟩]
      simp only [Option.bind_some]
      have ha : laws_answer.f (op : Int) (if (mkV (xs.getD p 0)).f1 < (mkV (ys.getD q 0)).f1 then -1 else if (mkV (xs.getD p 0)).f1 > (mkV (ys.getD q 0)).f1 then 1 else 0) false = some (cmpB op (xs.getD p 0) (ys.getD q 0)) := ans_is op hop (xs.getD p 0) (ys.getD q 0)
      rw [ha]
      simp only [Option.bind_some]
      have hc300 : cntN how xs ys ≤ 300 := by unfold cntN; split <;> omega
      rw [if_pos (by simp; omega), w64s i (by omega)]
      have e : (List.range i).map (ansB op how xs ys) ++ [cmpB op (xs.getD p 0) (ys.getD q 0)] = (List.range (i + 1)).map (ansB op how xs ys) := by
        rw [List.range_succ, List.map_append]
        simp only [List.map_cons, List.map_nil, ansB, ex, ey]
      rw [e]
      exact ih k (by omega) (i + 1) (by omega) (by omega)
    · have hi : i = cntN how xs ys := by omega
      subst hi
      rw [if_neg (by omega)]
theorem due_is (op how : Nat) (xs ys : List Int) (hop : op < 4) (hl : Fits how xs ys) (hx : xs.length ≤ 300) (hy : ys.length ≤ 300) (k : Nat) (hk : 2 * cntN how xs ys < k) :
    laws_compareDue.f k 2 64 false 0 0 0 (⟨#[]⟩ : ByteArray) false ([] : List Int) ([] : List Int) (op : Int) (how : Int) (xs.map mkV) (ys.map mkV) ((cntN how xs ys : Nat) : Int) = some ((List.range (cntN how xs ys)).map (ansB op how xs ys)) := by
  have := due_loop op how xs ys hop hl hx hy k 0 (Nat.zero_le _) (by omega)
  exact this
theorem bit_all : (List.range 256).all (fun x => (List.range 8).all fun r => (Go.bits .and .u8 (shr .u8 (x : Int) (r : Int)) 1 == 1) == (x / 2 ^ r % 2 == 1)) = true := by decide +kernel
theorem bit_is (l : List Int) (ok : BytesOk l) (i : Nat) (h : i < 8 * l.length) (hi : i ≤ 100000) : spec_Bit.f l (i : Int) = some (bitAt l i) := by
  unfold spec_Bit.f
  have e1 : wrap64 (Int.tdiv (i : Int) 8) = ((i / 8 : Nat) : Int) := by rw [Int.tdiv_eq_ediv_of_nonneg (by omega)]; unfold wrap64; omega
  have e2 : Int.tmod (i : Int) 8 = ((i % 8 : Nat) : Int) := by rw [Int.tmod_eq_emod_of_nonneg (by omega)]; omega
  rw [e1, e2, if_pos (by omega), if_pos (by omega), if_pos (by omega)]
  have e3 : rd l ((i / 8 : Nat) : Int) = l.getD (i / 8) 0 := by show l.getD (((i / 8 : Nat) : Int).toNat) 0 = _; rw [Int.toNat_natCast]
  rw [e3]
  unfold bitAt
  have ho := ok_at ok (i / 8)
  generalize l.getD (i / 8) 0 = x at ho ⊢
  obtain ⟨n, rfl⟩ := Int.eq_ofNat_of_zero_le ho.1
  have h := List.all_eq_true.1 (List.all_eq_true.1 bit_all n (List.mem_range.2 (by omega))) (i % 8) (List.mem_range.2 (by omega))
  rw [beq_iff_eq] at h
  rw [h, Int.toNat_natCast]
theorem bits_loop1 (out : List Int) (ok : BytesOk out) (frm n : Nat) (b : Nat → Bool) (hb : ∀ i, i < n → bitAt out (frm + i) = b i) (hr : frm + n ≤ 8 * out.length) (hm : frm + n ≤ 1000) : ∀ k i : Nat, i ≤ n → n - i < k →
    laws_bitsDue.l1 k out (frm : Int) ((List.range n).map b) ((n : Nat) : Int) (i : Int) = some true := by
  intro k
  induction k with
  | zero => intro i _ h; omega
  | succ k ih =>
    intro i h1 h2
    unfold laws_bitsDue.l1
    by_cases c : i < n
    · have e : wrap64 ((frm : Int) + (i : Int)) = ((frm + i : Nat) : Int) := by unfold wrap64; omega
      have e2 : rdOf false ((List.range n).map b) (i : Int) = b i := by
        show ((List.range n).map b).getD (i : Int).toNat false = _
        rw [Int.toNat_natCast, List.getD_eq_getElem?_getD, List.getElem?_map, List.getElem?_range c]; rfl
      rw [if_pos (by omega), if_pos (by omega), if_pos (by simp; omega), e, bit_is out ok _ (by omega) (by omega), e2, hb i c]
      simp only [Option.bind_some]
      rw [if_neg (by simp), w64s i (by omega)]
      exact ih (i + 1) (by omega) (by omega)
    · rw [if_neg (by omega)]
theorem bits_loop0 (bs out : List Int) (okb : BytesOk bs) (ok : BytesOk out) (hlen : out.length = bs.length) (frm n : Nat) (b : Nat → Bool) (ha : ∀ p, p < frm → bitAt out p = bitAt bs p) (hb : ∀ i, i < n → bitAt out (frm + i) = b i) (hr : frm + n ≤ 8 * out.length) (hm : frm + n ≤ 1000) : ∀ k i : Nat, i ≤ frm → frm - i + n + 1 < k →
    laws_bitsDue.l0 k bs out (frm : Int) ((List.range n).map b) (i : Int) = some true := by
  intro k
  induction k with
  | zero => intro i _ h; omega
  | succ k ih =>
    intro i h1 h2
    unfold laws_bitsDue.l0
    by_cases c : i < frm
    · rw [if_pos (by omega), bit_is bs okb i (by omega) (by omega), bit_is out ok i (by omega) (by omega), ha i c]
      simp only [Option.bind_some]
      rw [if_neg (by simp), w64s i (by omega)]
      exact ih (i + 1) (by omega) (by omega)
    · rw [if_neg (by omega)]
      have := bits_loop1 out ok frm n b hb hr hm k 0 (Nat.zero_le _) (by omega)
      simpa using this
theorem one_is : impl_CompareUint64.f 0 0 [1] [1] [0] 0 = some ([1], true) := by decide +kernel
theorem law_pure : laws_FnCompareUint64.Pure := by
  intro a0 a1 l2 l3 l4 a5 w0 w1 m2 _ r2 m3 _ r3 m4 _ r4 w5
  have rg : ∀ l : List Int, (∀ x ∈ l, (Lit.int .u64 x).wf = true) → ∀ x ∈ l, 0 ≤ x ∧ x < 18446744073709551616 := fun l h x hx => by
    obtain ⟨p0, p1⟩ := (Lit.wf_int_iff .u64 x).1 (h x hx)
    have e1 : IntKind.u64.min = 0 := by decide
    have e2 : IntKind.u64.max = 18446744073709551615 := by decide
    omega
  have rb : BytesOk l4 := fun x hx => by
    obtain ⟨p0, p1⟩ := (Lit.wf_int_iff .u8 x).1 (r4 x hx)
    have e1 : IntKind.u8.min = 0 := by decide
    have e2 : IntKind.u8.max = 255 := by decide
    omega
  have g2 := rg l2 r2
  have g3 := rg l3 r3
  refine ⟨2 * l2.length + 2 * l3.length + 1010, ?_⟩
  obtain ⟨K, hK⟩ : ∃ K, 2 * l2.length + 2 * l3.length + 1010 = K + 3 := ⟨2 * l2.length + 2 * l3.length + 1007, rfl⟩
  rw [hK]
  have big : ∀ b, laws_FnCompareUint64.j0 (K + 3) a0 a1 l2 l3 l4 a5 b = if b = true then some true else laws_FnCompareUint64.j0 (K + 3) a0 a1 l2 l3 l4 a5 false := fun b => by
    cases b
    · rw [if_neg (by simp)]
    · rw [if_pos rfl]; rw [laws_FnCompareUint64.j0]; rw [if_pos rfl]
  unfold laws_FnCompareUint64.f
  by_cases c2 : (l2.length : Int) > 2147483647
  · rw [if_pos c2, big, if_pos rfl]
  rw [if_neg c2]
  by_cases c3 : (l3.length : Int) > 2147483647
  · rw [if_pos c3, big, if_pos rfl]
  rw [if_neg c3, big]
  by_cases c4 : (l4.length : Int) > 2147483647
  · rw [if_pos (decide_eq_true c4)]
  rw [if_neg (by simpa using c4)]
  rw [laws_FnCompareUint64.j0]
  rw [if_neg (by simp), one_is]
  simp only [Option.bind_some, if_true, List.length_cons, List.length_nil]
  rw [if_pos (by decide), if_pos (by decide)]
  have haw : (Go.bits .and .u8 (rd [1] 0) 1 == 1) = true := by decide +kernel
  rw [haw]
  have hj2 : ∀ x16 x18 x20, laws_FnCompareUint64.j2 (K + 1) a0 a1 l2 l3 l4 a5 true x16 x18 x20 true = some true := fun _ _ _ => by rw [laws_FnCompareUint64.j2]; rw [if_pos rfl]
  rw [laws_FnCompareUint64.j1]
  rw [vals_is l2 (by omega) g2 (K + 1) (by omega), vals_is l3 (by omega) g3 (K + 1) (by omega)]
  have hp : ∃ n b, laws_pairs2.f a1 (l2.length : Int) (l3.length : Int) = some (n, b) ∧ (b = true → ∃ how : Nat, a1 = (how : Int) ∧ how ≤ 2 ∧ Fits how l2 l3 ∧ n = ((cntN how l2 l3 : Nat) : Int)) := by
    unfold laws_pairs2.f
    by_cases d0 : a1 = 0
    · rw [if_pos d0]
      exact ⟨_, _, rfl, fun h => ⟨0, d0, by omega, .inl ⟨rfl, by have := eq_of_beq h; omega⟩, by simp [cntN]⟩⟩
    · rw [if_neg d0]
      by_cases d1 : a1 = 1
      · rw [if_pos d1]
        exact ⟨_, _, rfl, fun h => ⟨1, d1, by omega, .inr (.inl ⟨rfl, by simp only [decide_eq_true_eq] at h; omega⟩), by simp [cntN]⟩⟩
      · rw [if_neg d1]
        by_cases d2 : a1 = 2
        · rw [if_pos d2]
          exact ⟨_, _, rfl, fun h => ⟨2, d2, by omega, .inr (.inr ⟨rfl, by simp only [decide_eq_true_eq] at h; omega⟩), by simp [cntN]⟩⟩
        · rw [if_neg d2]
          exact ⟨_, _, rfl, fun h => by cases h⟩
  obtain ⟨n, b, hp1, hp2⟩ := hp
  rw [hp1]
  simp only [Option.bind_some]
  cases b with
  | false => rw [if_neg (by simp)]; exact hj2 _ _ _
  | true =>
    obtain ⟨how, rfl, hh, hf, rfl⟩ := hp2 rfl
    rw [if_pos rfl]
    by_cases e2 : (l2.length : Int) ≤ 300
    rotate_left
    · rw [if_neg (by simpa using e2)]; exact hj2 _ _ _
    rw [if_pos (decide_eq_true e2)]
    by_cases e3 : (l3.length : Int) ≤ 300
    rotate_left
    · rw [if_neg (by simpa using e3)]; exact hj2 _ _ _
    rw [if_pos (decide_eq_true e3)]
    by_cases o1 : a0 < 0
    · rw [if_pos o1]; exact hj2 _ _ _
    rw [if_neg o1]
    by_cases o2 : a0 > 3
    · rw [if_pos o2]; exact hj2 _ _ _
    rw [if_neg o2]
    obtain ⟨op, rfl⟩ : ∃ n : Nat, a0 = (n : Int) := ⟨a0.toNat, by omega⟩
    have hop : op < 4 := by omega
    unfold laws_room.f
    by_cases q1 : a5 ≥ 0
    rotate_left
    · rw [if_neg q1]; simp only [Option.bind_some, Bool.not_false]; exact hj2 _ _ _
    rw [if_pos q1]
    by_cases q2 : a5 ≤ 7
    rotate_left
    · rw [if_neg q2]; simp only [Option.bind_some, Bool.not_false]; exact hj2 _ _ _
    rw [if_pos q2]
    by_cases q3 : ((cntN how l2 l3 : Nat) : Int) ≤ 300
    rotate_left
    · rw [if_neg q3]; simp only [Option.bind_some, Bool.not_false]; exact hj2 _ _ _
    rw [if_pos q3]
    by_cases q4 : (l4.length : Int) ≤ 100
    rotate_left
    · rw [if_neg q4]; simp only [Option.bind_some, Bool.not_false]; exact hj2 _ _ _
    rw [if_pos q4]
    obtain ⟨frm, rfl⟩ : ∃ n : Nat, a5 = (n : Int) := ⟨a5.toNat, by omega⟩
    have wr : decide (wrap64 ((frm : Int) + ((cntN how l2 l3 : Nat) : Int)) ≤ wrap64 (8 * (l4.length : Int))) = decide (frm + cntN how l2 l3 ≤ 8 * l4.length) := by
      have e1 : wrap64 ((frm : Int) + ((cntN how l2 l3 : Nat) : Int)) = ((frm + cntN how l2 l3 : Nat) : Int) := by unfold wrap64; omega
      have e2 : wrap64 (8 * (l4.length : Int)) = ((8 * l4.length : Nat) : Int) := by unfold wrap64; omega
      rw [e1, e2]
      exact decide_eq_decide.2 (by omega)
    rw [wr]
    simp only [Option.bind_some]
    by_cases q5 : frm + cntN how l2 l3 ≤ 8 * l4.length
    rotate_left
    · rw [decide_eq_false q5, Bool.not_false]; exact hj2 _ _ _
    rw [decide_eq_true q5]
    rw [laws_FnCompareUint64.j2]
    rw [if_neg (by simp)]
    have hfair : FairC (op : Int) (how : Int) l2 l3 l4 (frm : Int) := ⟨by omega, by omega, by simpa using hf, by omega, by omega, g2, g3, rb, by omega, by omega, by simpa using q5⟩
    unfold impl_CompareUint64.f
    rw [if_pos hfair]
    simp only [Option.bind_some, if_true, Int.toNat_natCast]
    rw [due_is op how l2 l3 hop hf (by omega) (by omega) K (by unfold cntN; split <;> omega)]
    simp only [Option.bind_some]
    have ht := tells_told (ansB op how l2 l3) frm l4 rb (cntN how l2 l3) q5
    have hbd : laws_bitsDue.f K l4 (tells (ansB op how l2 l3) frm (cntN how l2 l3) l4) (frm : Int) ((List.range (cntN how l2 l3)).map (ansB op how l2 l3)) = some true := by
      unfold laws_bitsDue.f
      rw [if_pos (by rw [ht.len])]
      have := bits_loop0 l4 _ rb ht.ok ht.len frm (cntN how l2 l3) (ansB op how l2 l3) ht.ahead ht.told (by rw [ht.len]; exact q5) (by omega) K 0 (Nat.zero_le _) (by omega)
      exact this
    rw [hbd]
    simp
end Go.Proofs.YtgccaabpckfhlaaGreatDoor.Q
