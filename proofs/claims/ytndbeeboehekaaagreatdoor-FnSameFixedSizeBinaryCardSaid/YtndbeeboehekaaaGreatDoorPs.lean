/- The plain law of laws.FnSameFixedSizeBinary. -/
import Derived.Test.YtndbeeboehekaaaGreatDoorQSFf
namespace Go.Proofs.YtndbeeboehekaaaGreatDoor.Q
open Go.RowKit Go.Proofs.YtndbeeboehekaaaGreatDoorW.PrintWords Go.Proofs.YtndbeeboehekaaaGreatDoorW.PrintLast Go.Proofs.YtndbeeboehekaaaGreatDoorW.PrintMore
set_option linter.unusedVariables false
set_option linter.unusedSimpArgs false
theorem w64s (i : Nat) (h : i ≤ 2147483647) : wrap64 ((i : Int) + 1) = ((i + 1 : Nat) : Int) := by unfold wrap64; omega
theorem rd_at (l : List S25) (i : Nat) : rd_T25 l (i : Int) = l.getD i z25 := by unfold rd_T25; rw [Int.toNat_natCast]
/-- Whether a value fits: null and nothing else, or three bytes. -/
def fitB (x : S25) : Bool := x.f3.length == 0 && (if x.f0 then (x.f1 == 0 && (x.f2.toList == ([] : List UInt8))) else (x.f1 == 0 && ((3 : Int) == (x.f2.size : Int))))
theorem fits_15 (k : Nat) (b : Bool) (n : Int) (s : ByteArray) (l : List S25) : spec_OneFits.f (k + 2) 15 3 false 0 0 0 (⟨#[]⟩ : ByteArray) false ([] : List Int) ([] : List Int) b n s l = some (fitB ⟨b, n, s, l⟩) := by
  unfold spec_OneFits.f fitB
  by_cases hl : (l.length : Int) > 0
  · rw [if_pos hl, spec_OneFits.j0, if_pos rfl]
    have : (l.length == 0) = false := by simp; intro h; rw [h] at hl; simp at hl
    simp only [this, Bool.false_and]
  · rw [if_neg hl]
    have : (l.length == 0) = true := by simp only [beq_iff_eq]; omega
    simp only [this, Bool.true_and]
    cases b with
    | true =>
      rw [if_pos rfl, if_pos rfl]
      by_cases hn : n = 0
      · rw [if_pos hn, spec_OneFits.j0]
        subst hn
        cases hs : (s.toList == ([] : List UInt8)) with
        | true => rw [if_neg (by simp only [bne, hs]; decide), if_pos rfl]; rfl
        | false => rw [if_pos (by simp only [bne, hs]; rfl)]; rfl
      · rw [if_neg hn, spec_OneFits.j0, if_pos rfl]
        have : (n == 0) = false := by simpa using hn
        rw [this]; rfl
    | false =>
      rw [if_neg (by decide), if_neg (by decide), spec_OneFits.j0, if_neg (by decide), if_neg (by decide)]
      have e1 : spec_OneBits.f (k + 1) 15 3 false 0 0 0 (⟨#[]⟩ : ByteArray) false ([] : List Int) ([] : List Int) = some (0, false) := by
        unfold spec_OneBits.f
        rw [if_neg (by decide), if_neg (by decide), if_neg (by decide), if_neg (by decide), if_neg (by decide), if_neg (by decide), spec_OneBits.j0, if_neg (by decide), if_neg (by decide)]
      have e2 : spec_OneLength.f 15 3 false 0 0 0 (⟨#[]⟩ : ByteArray) false ([] : List Int) ([] : List Int) = some 3 := by
        unfold spec_OneLength.f
        rw [if_neg (by decide), if_neg (by decide), if_pos rfl]
      rw [e1, e2, Option.bind_some, if_pos rfl, Option.bind_some]
      by_cases hn : n = 0
      · rw [if_pos hn, if_neg (by decide)]
        subst hn
        rfl
      · rw [if_neg hn]
        have : (n == 0) = false := by simpa using hn
        rw [this]; rfl
theorem oneAll_l0 (l : List S25) (hl : l.length ≤ 2147483647) : ∀ (d i : Nat), i + d = l.length → ∀ k, d + 3 ≤ k → spec_OneAll.l0 k l (i : Int) 15 3 false 0 0 0 (⟨#[]⟩ : ByteArray) false ([] : List Int) ([] : List Int) = some ((l.drop i).all fitB && decide (l.length ≤ 100)) := by
  intro d
  induction d with
  | zero =>
    intro i hi k hk
    cases k with
    | zero => omega
    | succ k =>
      rw [spec_OneAll.l0, if_neg (by omega), List.drop_eq_nil_of_le (by omega)]
      simp
      omega
  | succ d ih =>
    intro i hi k hk
    obtain ⟨k, rfl⟩ : ∃ q, k = q + 3 := ⟨k - 3, by omega⟩
    rw [spec_OneAll.l0, if_pos (by omega), if_pos (by omega), rd_at, fits_15 k, Option.bind_some, w64s i (by omega)]
    have hd : l.drop i = l.getD i z25 :: l.drop (i + 1) := by
      rw [List.drop_eq_getElem_cons (by omega), List.getD_eq_getElem?_getD, List.getElem?_eq_getElem (by omega)]; rfl
    rw [hd, List.all_cons]
    generalize l.getD i z25 = x
    cases hx : fitB x with
    | true =>
      have : fitB ⟨x.f0, x.f1, x.f2, x.f3⟩ = true := hx
      rw [if_pos this, ih (i + 1) (by omega) (k + 2) (by omega)]
      rfl
    | false =>
      have : ¬ fitB ⟨x.f0, x.f1, x.f2, x.f3⟩ = true := by
        show ¬ fitB x = true
        rw [hx]; decide
      rw [if_neg this]
      rfl
theorem nums_back (s : ByteArray) : strOfNums (bytesOf s) = s := by
  unfold strOfNums bytesOf
  rw [List.map_map]
  have : (s.data.toList.map ((fun n : Int => UInt8.ofNat n.toNat) ∘ fun b : UInt8 => (b.toNat : Int))) = s.data.toList := by
    conv => rhs; rw [← List.map_id s.data.toList]
    apply List.map_congr_left
    intro b _
    simp
  rw [this]
/-- Both lists, and the slices of them, are asked. -/
def askB (l0 : List S25) (a1 a2 : Int) (l3 : List S25) (a4 a5 : Int) : Bool := (l0.all fitB && decide (l0.length ≤ 100)) && ((l3.all fitB && decide (l3.length ≤ 100)) && ((decide (0 ≤ a1) && (decide (a1 ≤ a2) && decide (a2 ≤ l0.length))) && (decide (0 ≤ a4) && (decide (a4 ≤ a5) && decide (a5 ≤ l3.length)))))
theorem slice_eq (a b n : Int) : spec_Slice.f a b n = some (decide (0 ≤ a) && (decide (a ≤ b) && decide (b ≤ n))) := by
  unfold spec_Slice.f
  by_cases h1 : a ≥ 0
  · rw [if_pos h1, decide_eq_true (show 0 ≤ a from h1), Bool.true_and]
    by_cases h2 : b ≥ a
    · rw [if_pos h2, decide_eq_true (show a ≤ b from h2), Bool.true_and]
    · rw [if_neg h2, decide_eq_false (show ¬ a ≤ b from h2), Bool.false_and]
  · rw [if_neg h1, decide_eq_false (show ¬ 0 ≤ a from h1), Bool.false_and]
theorem slices_eq (l0 : List S25) (a1 a2 : Int) (l3 : List S25) (a4 a5 : Int) (h0 : l0.length ≤ 2147483647) (h3 : l3.length ≤ 2147483647) (k : Nat) (k0 : l0.length + 3 ≤ k) (k3 : l3.length + 3 ≤ k) :
    laws_slices.f k 15 3 false 0 0 0 (⟨#[]⟩ : ByteArray) false ([] : List Int) ([] : List Int) l0 a1 a2 l3 a4 a5 = some (askB l0 a1 a2 l3 a4 a5) := by
  have e0 : spec_OneAll.f k 15 3 false 0 0 0 (⟨#[]⟩ : ByteArray) false ([] : List Int) ([] : List Int) l0 = some (l0.all fitB && decide (l0.length ≤ 100)) := oneAll_l0 l0 h0 l0.length 0 (by omega) k k0
  have e3 : spec_OneAll.f k 15 3 false 0 0 0 (⟨#[]⟩ : ByteArray) false ([] : List Int) ([] : List Int) l3 = some (l3.all fitB && decide (l3.length ≤ 100)) := oneAll_l0 l3 h3 l3.length 0 (by omega) k k3
  unfold laws_slices.f askB
  rw [e0, e3, slice_eq, slice_eq, Option.bind_some]
  generalize (l0.all fitB && decide (l0.length ≤ 100)) = b0
  generalize (l3.all fitB && decide (l3.length ≤ 100)) = b3
  generalize (decide (0 ≤ a1) && (decide (a1 ≤ a2) && decide (a2 ≤ (l0.length : Int)))) = s0
  generalize (decide (0 ≤ a4) && (decide (a4 ≤ a5) && decide (a5 ≤ (l3.length : Int)))) = s3
  cases b0 <;> cases b3 <;> cases s0 <;> cases s3 <;> rfl
/-- How many are null. -/
def cntN (xs : List S25) : Nat := ((xs.map (·.f0)).filter id).length
theorem nulls_l0 (xs : List S25) (hl : xs.length ≤ 100) : ∀ (d i : Nat), i + d = xs.length → ∀ k, d < k → ∀ acc : Nat, acc ≤ i → spec_Nulls.l0 k xs (acc : Int) (i : Int) = some ((acc + cntN (xs.drop i) : Nat) : Int) := by
  intro d
  induction d with
  | zero =>
    intro i hi k hk acc ha
    cases k with
    | zero => omega
    | succ k =>
      rw [spec_Nulls.l0, if_neg (by omega), List.drop_eq_nil_of_le (by omega)]
      simp [cntN]
  | succ d ih =>
    intro i hi k hk acc ha
    cases k with
    | zero => omega
    | succ k =>
      rw [spec_Nulls.l0, if_pos (by omega), if_pos (by omega), rd_at, w64s i (by omega), w64s acc (by omega)]
      have hd : xs.drop i = xs.getD i z25 :: xs.drop (i + 1) := by
        rw [List.drop_eq_getElem_cons (by omega), List.getD_eq_getElem?_getD, List.getElem?_eq_getElem (by omega)]; rfl
      rw [hd]
      generalize xs.getD i z25 = x
      cases hx : x.f0 with
      | true =>
        rw [if_pos rfl, ih (i + 1) (by omega) k (by omega) (acc + 1) (by omega)]
        unfold cntN
        rw [List.map_cons, hx, List.filter_cons_of_pos (by simp), List.length_cons]
        congr 2
        omega
      | false =>
        rw [if_neg (by decide), ih (i + 1) (by omega) k (by omega) acc (by omega)]
        unfold cntN
        rw [List.map_cons, hx, List.filter_cons_of_neg (by simp)]
theorem nulls_eq (xs : List S25) (hl : xs.length ≤ 100) : spec_Nulls.f 200 xs = some (cntN xs : Int) := by
  have := nulls_l0 xs hl xs.length 0 (by omega) 200 (by omega) 0 (Nat.le_refl _)
  unfold spec_Nulls.f
  rw [show (0 : Int) = ((0 : Nat) : Int) from rfl, this]
  simp
theorem nsame_l0 (xs ys : List S25) (hl : xs.length ≤ 100) (he : xs.length = ys.length) : ∀ (d i : Nat), i + d = xs.length → ∀ k, d < k → spec_NullsSame.l0 k xs ys (xs.length : Int) (i : Int) = some ((List.range d).all fun j => nullAt xs ys 0 0 (i + j)) := by
  intro d
  induction d with
  | zero =>
    intro i hi k hk
    cases k with
    | zero => omega
    | succ k =>
      rw [spec_NullsSame.l0, if_neg (by omega)]
      rfl
  | succ d ih =>
    intro i hi k hk
    cases k with
    | zero => omega
    | succ k =>
      rw [spec_NullsSame.l0, if_pos (by omega), if_pos (by omega), if_pos (by omega), if_pos (by omega), rd_at, rd_at, w64s i (by omega), ih (i + 1) (by omega) k (by omega)]
      have hsplit : ((List.range (d + 1)).all fun j => nullAt xs ys 0 0 (i + j)) = (nullAt xs ys 0 0 i && (List.range d).all fun j => nullAt xs ys 0 0 (i + 1 + j)) := by
        rw [List.range_succ_eq_map, List.all_cons, List.all_map]
        congr 2
        funext j
        show nullAt xs ys 0 0 (i + (j + 1)) = _
        rw [show i + (j + 1) = i + 1 + j by omega]
      rw [hsplit]
      have hn : nullAt xs ys 0 0 i = ((xs.getD i z25).f0 == (ys.getD i z25).f0) := by unfold nullAt; rw [Nat.zero_add]
      rw [hn]
      cases h : ((xs.getD i z25).f0 == (ys.getD i z25).f0) with
      | true =>
        have hb : ((xs.getD i z25).f0 != (ys.getD i z25).f0) = false := by rw [bne, h]; rfl
        rw [hb, if_neg (by decide), Bool.true_and]
      | false =>
        have hb : ((xs.getD i z25).f0 != (ys.getD i z25).f0) = true := by rw [bne, h]; rfl
        rw [hb, if_pos rfl, Bool.false_and]
theorem nsame_eq (xs ys : List S25) (hl : xs.length ≤ 100) (he : xs.length = ys.length) : spec_NullsSame.f 200 xs ys = some ((List.range xs.length).all fun j => nullAt xs ys 0 0 j) := by
  have := nsame_l0 xs ys hl he xs.length 0 (by omega) 200 (by omega)
  unfold spec_NullsSame.f
  rw [show (0 : Int) = ((0 : Nat) : Int) from rfl, this]
  congr 2
  funext j
  rw [Nat.zero_add]
theorem cnt_same (xs ys : List S25) (he : xs.length = ys.length) (h : ((List.range xs.length).all fun j => nullAt xs ys 0 0 j) = true) : cntN xs = cntN ys := by
  have : xs.map (·.f0) = ys.map (·.f0) := by
    apply List.ext_getElem (by simpa using he)
    intro i h1 h2
    have hi : i < xs.length := by simpa using h1
    have := List.all_eq_true.1 h i (List.mem_range.2 hi)
    unfold nullAt at this
    simp only [Nat.zero_add, List.getD_eq_getElem?_getD, List.getElem?_eq_getElem hi, List.getElem?_eq_getElem (show i < ys.length by omega), Option.getD_some, beq_iff_eq] at this
    simpa using this
  unfold cntN
  rw [this]
theorem part_getD (l : List S25) (a b i : Nat) (h : a + i < b) (hb : b ≤ l.length) : ((l.take b).drop a).getD i z25 = l.getD (a + i) z25 := by
  simp only [List.getD_eq_getElem?_getD, List.getElem?_drop]
  rw [List.getElem?_take_of_lt h]
theorem ent_getD (l : List S25) (i : Nat) (h : i < l.length) : (l.map entOf).getD i (false, []) = entOf (l.getD i z25) := by
  simp [List.getD_eq_getElem?_getD, List.getElem?_eq_getElem h]
theorem range_all_congr (n : Nat) (f g : Nat → Bool) (h : ∀ i, i < n → f i = g i) : (List.range n).all f = (List.range n).all g := by
  rw [Bool.eq_iff_iff, List.all_eq_true, List.all_eq_true]
  constructor
  · intro k x hx; rw [← h x (List.mem_range.1 hx)]; exact k x hx
  · intro k x hx; rw [h x (List.mem_range.1 hx)]; exact k x hx
theorem fit_num {x : S25} (h : fitB x = true) : x.f1 = 0 := by
  unfold fitB at h
  rw [Bool.and_eq_true] at h
  have h := h.2
  split at h <;> (rw [Bool.and_eq_true] at h; simpa using h.1)
theorem fit_ok {x : S25} (h : fitB x = true) : okV x = true := by
  unfold fitB at h
  unfold okV
  rw [Bool.and_eq_true] at h
  have h := h.2
  cases hx : x.f0 with
  | true => rfl
  | false =>
    rw [hx, if_neg (by decide), Bool.and_eq_true] at h
    have := h.2
    simp only [beq_iff_eq] at this
    simp only [Bool.false_or, beq_iff_eq]
    omega
theorem fit_getD {l : List S25} (h : l.all fitB = true) (i : Nat) (hi : i < l.length) : fitB (l.getD i z25) = true := by
  rw [List.getD_eq_getElem?_getD, List.getElem?_eq_getElem hi]
  exact List.all_eq_true.1 h _ (List.getElem_mem hi)
/-- What the program says of two values is what the reference says of them. -/
theorem same_like (x y : S25) (hx : fitB x = true) (hy : fitB y = true) (hn : x.f0 = y.f0) : (!(entOf x).1 || ((strOfNums (entOf x).2).toList == (strOfNums (entOf y).2).toList)) = likeV x y := by
  have n1 := fit_num hx
  have n2 := fit_num hy
  unfold likeV entOf
  rw [n1, n2, ← hn]
  cases x.f0 with
  | true => rfl
  | false =>
    rw [if_neg (by decide), if_neg (by decide), if_neg (by decide)]
    show (!true || _) = _
    rw [nums_back, nums_back]
    simp
theorem law_like (l0 l3 : List S25) (n1 n2 n4 n5 : Nat) (h1 : n1 ≤ n2 ∧ n2 ≤ l0.length) (h2 : n4 ≤ n5 ∧ n5 ≤ l3.length) (m0 : l0.length ≤ 100) (m3 : l3.length ≤ 100) (f0 : l0.all fitB = true) (f3 : l3.all fitB = true) :
    laws_likewise.f 15 3 false 0 0 0 (⟨#[]⟩ : ByteArray) false ([] : List Int) ([] : List Int) ((l0.take n2).drop n1) ((l3.take n5).drop n4) (alB l0 l3 n1 n2 n4 n5 && sameAll (l0.map entOf) (l3.map entOf) n1 n4 (n2 - n1)) (alB l0 l3 n1 n2 n4 n5) = some true := by
  have L0 : ((l0.take n2).drop n1).length = n2 - n1 := by simp; omega
  have L3 : ((l3.take n5).drop n4).length = n5 - n4 := by simp; omega
  unfold laws_likewise.f
  rw [if_pos ⟨rfl, by omega⟩]
  by_cases hl : ((l0.take n2).drop n1).length = ((l3.take n5).drop n4).length
  · rw [if_pos hl, nulls_eq _ (by omega), nulls_eq _ (by omega), Option.bind_some, Option.bind_some]
    have hal : alB l0 l3 n1 n2 n4 n5 = (List.range ((l0.take n2).drop n1).length).all fun j => nullAt ((l0.take n2).drop n1) ((l3.take n5).drop n4) 0 0 j := by
      unfold alB
      have : (n2 - n1 == n5 - n4) = true := by rw [beq_iff_eq]; omega
      rw [this, Bool.true_and, L0]
      refine range_all_congr _ _ _ (fun i hi => ?_)
      unfold nullAt
      rw [Nat.zero_add, part_getD l0 n1 n2 i (by omega) h1.2, part_getD l3 n4 n5 i (by omega) h2.2]
    by_cases hn : (cntN ((l0.take n2).drop n1) : Int) = (cntN ((l3.take n5).drop n4) : Int)
    · rw [if_pos hn, nsame_eq _ _ (by omega) hl, Option.bind_some, ← hal]
      cases hA : alB l0 l3 n1 n2 n4 n5 with
      | false => rfl
      | true =>
        have hs : sameAll (l0.map entOf) (l3.map entOf) n1 n4 (n2 - n1) = allLike ((l0.take n2).drop n1) ((l3.take n5).drop n4) := by
          unfold sameAll allLike
          rw [L0]
          refine range_all_congr _ _ _ (fun i hi => ?_)
          rw [part_getD l0 n1 n2 i (by omega) h1.2, part_getD l3 n4 n5 i (by omega) h2.2]
          unfold sameAt entB
          rw [ent_getD l0 (n1 + i) (by omega), ent_getD l3 (n4 + i) (by omega)]
          refine same_like _ _ (fit_getD f0 _ (by omega)) (fit_getD f3 _ (by omega)) ?_
          rw [hal] at hA
          have := List.all_eq_true.1 hA i (List.mem_range.2 (by omega))
          unfold nullAt at this
          rw [Nat.zero_add, part_getD l0 n1 n2 i (by omega) h1.2, part_getD l3 n4 n5 i (by omega) h2.2] at this
          simpa using this
        rw [hs]
        simp
    · rw [if_neg hn]
      cases hA : alB l0 l3 n1 n2 n4 n5 with
      | false => rfl
      | true =>
        rw [hal] at hA
        exact absurd (by rw [cnt_same _ _ hl hA]) hn
  · rw [if_neg hl]
    have : alB l0 l3 n1 n2 n4 n5 = false := by
      unfold alB
      have : (n2 - n1 == n5 - n4) = false := by rw [beq_eq_false_iff_ne]; omega
      rw [this, Bool.false_and]
    rw [this]
    rfl
theorem one_is : impl_SameFixedSizeBinary.f [(⟨false, 0, (⟨#[97, 98, 99]⟩ : ByteArray), ([] : List S25)⟩ : S25)] 0 1 [(⟨false, 0, (⟨#[97, 98, 99]⟩ : ByteArray), ([] : List S25)⟩ : S25)] 0 1 = some (true, true) := by decide +kernel
theorem law_SF (l0 : List S25) (a1 a2 : Int) (l3 : List S25) (a4 a5 : Int) : ∃ k, laws_FnSameFixedSizeBinary.f k l0 a1 a2 l3 a4 a5 = some true := by
  unfold laws_FnSameFixedSizeBinary.f
  by_cases c0 : (l0.length : Int) > 2147483647
  · refine ⟨1, ?_⟩
    rw [if_pos c0, laws_FnSameFixedSizeBinary.j0, if_pos rfl]
  · by_cases c3 : (l3.length : Int) > 2147483647
    · refine ⟨1, ?_⟩
      rw [if_neg c0, decide_eq_true c3, laws_FnSameFixedSizeBinary.j0, if_pos rfl]
    · refine ⟨l0.length + l3.length + 4, ?_⟩
      rw [if_neg c0, decide_eq_false c3, laws_FnSameFixedSizeBinary.j0, if_neg (by decide), Option.bind_some, one_is, Option.bind_some, slices_eq l0 a1 a2 l3 a4 a5 (by omega) (by omega) _ (by omega) (by omega), Option.bind_some]
      cases hb : askB l0 a1 a2 l3 a4 a5 with
      | false => rfl
      | true =>
        unfold askB at hb
        simp only [Bool.and_eq_true, decide_eq_true_eq] at hb
        obtain ⟨⟨f0, m0⟩, ⟨f3, m3⟩, ⟨p1, p2, p3⟩, ⟨p4, p5, p6⟩⟩ := hb
        obtain ⟨n1, rfl⟩ : ∃ n : Nat, a1 = (n : Int) := ⟨a1.toNat, by omega⟩
        obtain ⟨n2, rfl⟩ : ∃ n : Nat, a2 = (n : Int) := ⟨a2.toNat, by omega⟩
        obtain ⟨n4, rfl⟩ : ∃ n : Nat, a4 = (n : Int) := ⟨a4.toNat, by omega⟩
        obtain ⟨n5, rfl⟩ : ∃ n : Nat, a5 = (n : Int) := ⟨a5.toNat, by omega⟩
        have hg : GoodS l0 n1 n2 l3 n4 n5 := ⟨⟨p1, p2, p3⟩, ⟨p4, p5, p6⟩, ⟨m0, m3⟩, fun x hx => fit_ok (List.all_eq_true.1 f0 x hx), fun x hx => fit_ok (List.all_eq_true.1 f3 x hx)⟩
        have hi : impl_SameFixedSizeBinary.f l0 n1 n2 l3 n4 n5 = some (alB l0 l3 n1 n2 n4 n5 && sameAll (l0.map entOf) (l3.map entOf) n1 n4 (n2 - n1), alB l0 l3 n1 n2 n4 n5) := by
          unfold impl_SameFixedSizeBinary.f
          rw [if_pos hg]
          simp only [Int.toNat_natCast]
        rw [if_pos rfl, hi, Option.bind_some, if_pos p1, if_pos p2, if_pos p3, if_pos p4, if_pos p5, if_pos p6]
        simp only [Int.toNat_natCast]
        rw [law_like l0 l3 n1 n2 n4 n5 (by omega) (by omega) m0 m3 f0 f3, Option.bind_some]
        rfl
end Go.Proofs.YtndbeeboehekaaaGreatDoor.Q
