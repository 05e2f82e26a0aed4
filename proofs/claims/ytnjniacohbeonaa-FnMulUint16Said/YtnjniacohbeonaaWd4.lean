/- The exact integers of package spec, as they are printed, over numbers. Part 4: powers of two, the words of an integer, the bounds of a width. -/
import Derived.Test.YtnjniacohbeonaaWd3
import Derived.Test.YtnjniacohbeonaaQWde
namespace Go.Proofs.Ytnjniacohbeonaa.Q
open Go.RowKit Go.Proofs.Ytnjniacohbeonaa.Nv Go.Proofs.YtnjniacohbeonaaW.PrintWords Go.Proofs.YtnjniacohbeonaaW.PrintLast Go.Proofs.YtnjniacohbeonaaW.PrintMore
set_option linter.unusedVariables false
set_option linter.unusedSimpArgs false

theorem nv_rep_set (q : Nat) (v : Int) : nv ((List.replicate (q + 1) 0).set q v) = pw q * v := by
  rw [nv_set _ q v (by simp), nv_replicate, List.getD_eq_getElem?_getD]
  simp [List.getElem?_replicate]

theorem two_ev (n : Int) (q : Nat) (v : Int) (hq : wrap64 (Int.tdiv n 32) = (q : Int)) (hq1 : q ≤ 100) (hm : 0 ≤ Int.tmod n 32) (hv : shl .u32 1 (Int.tmod n 32) = v) (h0 : 0 ≤ v) (h1 : v < 4294967296) :
    ∃ r t, (∀ k, 200 < k → spec_Two.f k n = some (r, t)) ∧ Wf r t ∧ val r t = pw q * v ∧ t.length ≤ q + 1 := by
  obtain ⟨r, t, t1, t2, t3, t4⟩ := wide_ev false ((List.replicate (q + 1) 0).set q v) (by simp; omega) (dg_set (dg_replicate _) q h0 h1)
  simp only [List.length_set, List.length_replicate] at t1 t4
  refine ⟨r, t, fun k hk => ?_, t2, ?_, t4⟩
  · unfold spec_Two.f
    rw [hq, w_succ (by omega), if_pos (by omega), if_pos (by rw [Int.toNat_natCast]; omega), Int.toNat_natCast, hv]
    simp only [ob]
    rw [if_pos hm, if_pos (by omega), if_pos (by simp; omega), Int.toNat_natCast, t1 k (by omega)]; rfl
  · rw [t3, val, if_neg (by simp), nv_rep_set]

theorem or_join {x y : Int} (hx0 : 0 ≤ x) (hx : x < 4294967296) (hy0 : 0 ≤ y) (hy : y < 4294967296) : Go.bits .or .u64 x (y * 4294967296) = x + 4294967296 * y := by
  have h := bits_join .u64 64 (by decide) (fun n a b => by rw [IntKind.wrap_u64]; omega) 32 (y * 4294967296) x (by omega) (by omega) (by omega) hx0 (by omega) (by omega)
  have c : Go.bits .or .u64 x (y * 4294967296) = Go.bits .or .u64 (y * 4294967296) x := by
    simp only [Go.bits, BitVec.or_comm]
  rw [c, h]; omega
theorem or_zero {x : Int} (h0 : 0 ≤ x) (h1 : x < 18446744073709551616) : Go.bits .or .u64 0 x = x := by
  have h := bits_join .u64 64 (by decide) (fun n a b => by rw [IntKind.wrap_u64]; omega) 64 0 x (by omega) (by omega) (by omega) h0 (by omega) (by omega)
  rw [h]; omega
theorem shl_0 {x : Int} (h0 : 0 ≤ x) (h1 : x < 4294967296) : shl .u64 x 0 = x := by unfold shl; simp; rw [wu64 h0 (by omega)]
theorem shl_32 {x : Int} (h0 : 0 ≤ x) (h1 : x < 4294967296) : shl .u64 x 32 = x * 4294967296 := by
  unfold shl
  have : (2 : Int) ^ min (32 : Int).toNat IntKind.u64.bits = 4294967296 := by kernel_rfl
  rw [this, wu64 (by omega) (by omega)]

/-- The word that two digits make. -/
def word (m : List Int) : Int := m.getD 0 0 + 4294967296 * m.getD 1 0
theorem word_nv {m : List Int} (h : Dg m) : word m = nv m % 18446744073709551616 := by
  match m with
  | [] => rfl
  | [a] => have := dg_cons h; simp [word, nv]; omega
  | a :: b :: l =>
    have h1 := dg_cons h
    have h2 := dg_cons h1.2.2
    have h3 := nv_nonneg h2.2.2
    simp only [word, nv]
    simp
    omega

theorem wk_e1 : wrap64 (wrap64 (2 * 0) + 0) = 0 := by kernel_rfl
theorem wk_e2 : wrap64 (wrap64 (2 * 0) + 1) = 1 := by kernel_rfl
theorem wk_e3 : wrap64 (0 + 1) = 1 := by kernel_rfl
theorem wk_e4 : wrap64 (32 * 0) = 0 := by kernel_rfl
theorem wk_e5 : wrap64 (32 * 1) = 32 := by kernel_rfl
theorem wk_e6 : wrap64 (1 + 1) = 2 := by kernel_rfl

theorem l0_first (k : Nat) (fits b : Bool) (m : List Int) : spec_ToWords.l0 (k + 1) fits [0] 1 0 b m = spec_ToWords.l1 k fits [0] 0 0 1 0 b m := by
  simp only [spec_ToWords.l0]
  rw [if_pos (by decide)]
theorem l0_last (k : Nat) (fits b : Bool) (x : Int) (m : List Int) : spec_ToWords.l0 (k + 1) fits [x] 1 1 b m = some ([x], fits) := by
  simp only [spec_ToWords.l0]
  rw [if_neg (by decide)]
theorem l1_end (k : Nat) (fits b : Bool) (x : Int) (m : List Int) : spec_ToWords.l1 (k + 1) fits [x] 0 2 1 0 b m = spec_ToWords.l0 k fits [x] 1 1 b m := by
  simp only [spec_ToWords.l1]
  rw [if_neg (by decide), wk_e3]
theorem l1_low (k : Nat) (fits b : Bool) (m : List Int) (hd : Dg m) : spec_ToWords.l1 (k + 1) fits [0] 0 0 1 0 b m = spec_ToWords.l1 k fits [m.getD 0 0] 0 1 1 0 b m := by
  have a0 := dg_get hd 0
  have g1 : IntKind.u64.wrap (m.getD 0 0) = m.getD 0 0 := wu64 a0.1 (by omega)
  have g2 : Go.bits .or .u64 0 (m.getD 0 0) = m.getD 0 0 := or_zero a0.1 (by omega)
  simp only [spec_ToWords.l1]
  rw [if_pos (by decide), wk_e1, wk_e4, wk_e3]
  by_cases c : (0 : Int) < (m.length : Int)
  · rw [if_pos c, if_pos (by decide), if_pos (by decide), if_pos (by decide), if_pos (by decide)]
    show spec_ToWords.l1 k fits [Go.bits .or .u64 0 (shl .u64 (IntKind.u64.wrap (m.getD 0 0)) 0)] 0 1 1 0 b m = _
    rw [g1, shl_0 a0.1 a0.2, g2]
  · have hm : m = [] := List.eq_nil_of_length_eq_zero (by omega)
    subst hm
    rw [if_neg c]; rfl
theorem l1_high (k : Nat) (fits b : Bool) (m : List Int) (hd : Dg m) : spec_ToWords.l1 (k + 1) fits [m.getD 0 0] 0 1 1 0 b m = spec_ToWords.l1 k fits [word m] 0 2 1 0 b m := by
  have a0 := dg_get hd 0
  have a1 := dg_get hd 1
  have g1 : IntKind.u64.wrap (m.getD 1 0) = m.getD 1 0 := wu64 a1.1 (by omega)
  have g2 : Go.bits .or .u64 (m.getD 0 0) (m.getD 1 0 * 4294967296) = word m := or_join a0.1 a0.2 a1.1 a1.2
  by_cases c : (1 : Int) < (m.length : Int)
  · simp only [spec_ToWords.l1]
    rw [if_pos (by decide), wk_e2, wk_e5, wk_e6, if_pos c, if_pos (by decide), if_pos (show (0 : Int) < (([m.getD 0 0] : List Int).length : Int) by simp), if_pos (by decide), if_pos (by decide)]
    show spec_ToWords.l1 k fits [Go.bits .or .u64 (m.getD 0 0) (shl .u64 (IntKind.u64.wrap (m.getD 1 0)) 32)] 0 2 1 0 b m = _
    rw [g1, shl_32 a1.1 a1.2, g2]
  · have w : word m = m.getD 0 0 := by
      have : m.getD 1 0 = 0 := by rw [List.getD_eq_getElem?_getD, List.getElem?_eq_none (by omega)]; rfl
      unfold word; omega
    rw [w]
    simp only [spec_ToWords.l1]
    rw [if_pos (by decide), wk_e2, wk_e6, if_neg c]
theorem l0_word (k : Nat) (fits b : Bool) (m : List Int) (hd : Dg m) (hk : 10 < k) : spec_ToWords.l0 k fits [0] 1 0 b m = some ([word m], fits) := by
  obtain ⟨k, rfl⟩ : ∃ j, k = j + 1 + 1 + 1 + 1 + 1 := ⟨k - 5, by omega⟩
  rw [l0_first, l1_low _ _ _ _ hd, l1_high _ _ _ _ hd, l1_end, l0_last]

theorem l2_first (k : Nat) (fits b : Bool) (m : List Int) : spec_ToWords.l2 (k + 1) fits [0] 1 0 b m = spec_ToWords.l3 k fits [0] 0 0 1 0 b m := by
  simp only [spec_ToWords.l2]
  rw [if_pos (by decide)]
theorem l2_last (k : Nat) (fits b : Bool) (x : Int) (m : List Int) : spec_ToWords.l2 (k + 1) fits [x] 1 1 b m = some ([x], fits) := by
  simp only [spec_ToWords.l2]
  rw [if_neg (by decide)]
theorem l3_end (k : Nat) (fits b : Bool) (x : Int) (m : List Int) : spec_ToWords.l3 (k + 1) fits [x] 0 2 1 0 b m = spec_ToWords.l2 k fits [x] 1 1 b m := by
  simp only [spec_ToWords.l3]
  rw [if_neg (by decide), wk_e3]
theorem l3_low (k : Nat) (fits b : Bool) (m : List Int) (hd : Dg m) : spec_ToWords.l3 (k + 1) fits [0] 0 0 1 0 b m = spec_ToWords.l3 k fits [m.getD 0 0] 0 1 1 0 b m := by
  have a0 := dg_get hd 0
  have g1 : IntKind.u64.wrap (m.getD 0 0) = m.getD 0 0 := wu64 a0.1 (by omega)
  have g2 : Go.bits .or .u64 0 (m.getD 0 0) = m.getD 0 0 := or_zero a0.1 (by omega)
  simp only [spec_ToWords.l3]
  rw [if_pos (by decide), wk_e1, wk_e4, wk_e3]
  by_cases c : (0 : Int) < (m.length : Int)
  · rw [if_pos c, if_pos (by decide), if_pos (by decide), if_pos (by decide), if_pos (by decide)]
    show spec_ToWords.l3 k fits [Go.bits .or .u64 0 (shl .u64 (IntKind.u64.wrap (m.getD 0 0)) 0)] 0 1 1 0 b m = _
    rw [g1, shl_0 a0.1 a0.2, g2]
  · have hm : m = [] := List.eq_nil_of_length_eq_zero (by omega)
    subst hm
    rw [if_neg c]; rfl
theorem l3_high (k : Nat) (fits b : Bool) (m : List Int) (hd : Dg m) : spec_ToWords.l3 (k + 1) fits [m.getD 0 0] 0 1 1 0 b m = spec_ToWords.l3 k fits [word m] 0 2 1 0 b m := by
  have a0 := dg_get hd 0
  have a1 := dg_get hd 1
  have g1 : IntKind.u64.wrap (m.getD 1 0) = m.getD 1 0 := wu64 a1.1 (by omega)
  have g2 : Go.bits .or .u64 (m.getD 0 0) (m.getD 1 0 * 4294967296) = word m := or_join a0.1 a0.2 a1.1 a1.2
  by_cases c : (1 : Int) < (m.length : Int)
  · simp only [spec_ToWords.l3]
    rw [if_pos (by decide), wk_e2, wk_e5, wk_e6, if_pos c, if_pos (by decide), if_pos (show (0 : Int) < (([m.getD 0 0] : List Int).length : Int) by simp), if_pos (by decide), if_pos (by decide)]
    show spec_ToWords.l3 k fits [Go.bits .or .u64 (m.getD 0 0) (shl .u64 (IntKind.u64.wrap (m.getD 1 0)) 32)] 0 2 1 0 b m = _
    rw [g1, shl_32 a1.1 a1.2, g2]
  · have w : word m = m.getD 0 0 := by
      have : m.getD 1 0 = 0 := by rw [List.getD_eq_getElem?_getD, List.getElem?_eq_none (by omega)]; rfl
      unfold word; omega
    rw [w]
    simp only [spec_ToWords.l3]
    rw [if_pos (by decide), wk_e2, wk_e6, if_neg c]
theorem l2_word (k : Nat) (fits b : Bool) (m : List Int) (hd : Dg m) (hk : 10 < k) : spec_ToWords.l2 k fits [0] 1 0 b m = some ([word m], fits) := by
  obtain ⟨k, rfl⟩ : ∃ j, k = j + 1 + 1 + 1 + 1 + 1 := ⟨k - 5, by omega⟩
  rw [l2_first, l3_low _ _ _ _ hd, l3_high _ _ _ _ hd, l3_end, l2_last]

theorem words_l1 (fits : Bool) (b : Bool) (m : List Int) (hd : Dg m) (hb : m.length ≤ 100) (k : Nat) (hk : 10 < k) :
    spec_ToWords.l0 k fits [0] 1 0 b m = some ([word m], fits) ∧ spec_ToWords.l2 k fits [0] 1 0 b m = some ([word m], fits) :=
  ⟨l0_word k fits b m hd hk, l2_word k fits b m hd hk⟩

theorem cmpOf_ge (a b : Int) : decide (cmpOf a b ≥ 0) = decide (b ≤ a) := by
  unfold cmpOf; by_cases h : a < b
  · simp [h] <;> omega
  · by_cases h2 : b < a
    · simp [h, h2] <;> omega
    · simp [h, h2] <;> omega
theorem cmpOf_le (a b : Int) : decide (cmpOf a b ≤ 0) = decide (a ≤ b) := by
  unfold cmpOf; by_cases h : a < b
  · simp [h] <;> omega
  · by_cases h2 : b < a
    · simp [h, h2]
    · simp [h, h2] <;> omega
theorem cmpOf_lt (a b : Int) : (cmpOf a b < 0) ↔ a < b := by
  unfold cmpOf; by_cases h : a < b
  · simp [h]
  · by_cases h2 : b < a
    · simp [h, h2]
    · simp [h, h2]
theorem cmpOf_ge' (a b : Int) : (cmpOf a b ≥ 0) ↔ b ≤ a := by
  have := cmpOf_ge a b; simpa using this

theorem wk_63 : wrap64 (wrap64 (64 * 1) - 1) = 63 := by kernel_rfl
theorem wk_64 : wrap64 (64 * 1) = 64 := by kernel_rfl
/-- The word of an integer, and whether it is all there is. -/
theorem towords_ev (s : Bool) (l : List Int) (w : Wf s l) (hl : l.length ≤ 50) (k : Nat) (hk : 30000 < k) :
    spec_ToWords.f k s l 1 = some ([val s l % 18446744073709551616], decide (-9223372036854775808 ≤ val s l ∧ val s l < 9223372036854775808)) := by
  obtain ⟨hr, ht, h1, h2, h3, h4⟩ := two_ev 63 1 2147483648 (by kernel_rfl) (by decide) (by decide) (by kernel_rfl) (by decide) (by decide)
  obtain ⟨nr, nt, n1, n2, n3, n4⟩ := neg_ev hr ht h2 (by omega)
  obtain ⟨fr, ft, f1, f2, f3, f4⟩ := two_ev 64 2 1 (by kernel_rfl) (by decide) (by decide) (by kernel_rfl) (by decide) (by decide)
  have v1 : val hr ht = 9223372036854775808 := by rw [h3]; rfl
  have v2 : val nr nt = -9223372036854775808 := by rw [n3, v1]
  have v3 : val fr ft = 18446744073709551616 := by rw [f3]; rfl
  have tail : ∀ fits : Bool, ∀ k, 30000 ≤ k → spec_ToWords.j0 k 1 fits s l = some ([val s l % 18446744073709551616], fits) := by
    intro fits k hk
    obtain ⟨k, rfl⟩ : ∃ j, k = j + 1 := ⟨k - 1, by omega⟩
    simp only [spec_ToWords.j0]
    cases s with
    | false =>
      rw [if_neg (by simp), if_pos (by omega), if_pos (by decide)]
      simp only [ob]
      have := (words_l1 fits false l w.1 (by omega) k (by omega)).2
      rw [word_nv w.1] at this
      exact this
    | true =>
      have hfl : 0 < ft.length := by
        cases ft with
        | nil => exfalso; cases fr <;> simp [val, nv] at v3
        | cons => simp
      obtain ⟨q, t, r, u, d1, d2, d3, d4⟩ := wdiv_ev true fr l ft w f2 hfl (by omega) (by omega)
      obtain ⟨sr, st, a1, a2, a3, a4⟩ := wadd_ev r fr u ft d2 f2 10 (by omega) (by omega) (by omega)
      have hfp : fr = false := by
        cases fr with
        | false => rfl
        | true => have := nv_nonneg f2.1; simp only [val, if_true] at v3; omega
      have vf : nv ft = 18446744073709551616 := by rw [hfp] at v3; exact v3
      rw [if_pos rfl, wk_64, f1 k (by omega)]
      simp only [ob]
      rw [d1 k (by omega)]
      simp only [ob]
      rw [a1 k (by omega)]
      simp only [ob]
      rw [if_pos (by omega), if_pos (by decide)]
      have := (words_l1 fits sr st a2.1 (by omega) k (by omega)).1
      rw [word_nv a2.1] at this
      have hval : val sr st = - (nv l % 18446744073709551616) + 18446744073709551616 := by
        rw [a3, d3, v3, vf]; simp
      have hsr : sr = false := by
        cases sr with
        | false => rfl
        | true => have := nv_pos a2.1 a2.2.1 (a2.2.2 rfl); simp only [val, if_true] at hval; omega
      have hst : nv st = - (nv l % 18446744073709551616) + 18446744073709551616 := by rw [hsr] at hval; exact hval
      have hv : val true l = - nv l := rfl
      refine this.trans ?_
      rw [hst, hv]
      congr 3
      omega
  unfold spec_ToWords.f
  rw [wk_63, h1 k (by omega)]
  simp only [ob]
  rw [wcmp_ev s hr l ht w h2 (by omega) (by omega) k (by omega), v1]
  simp only [ob]
  by_cases c : val s l < 9223372036854775808
  · rw [if_pos ((cmpOf_lt _ _).2 c), n1 k (by omega)]
    simp only [ob]
    rw [wcmp_ev s nr l nt w n2 (by omega) (by omega) k (by omega), v2]
    simp only [ob]
    rw [cmpOf_ge, tail _ k (by omega)]
    simp [c]
  · rw [if_neg (fun h => c ((cmpOf_lt _ _).1 h)), tail _ k (by omega)]
    simp [c]

/-- An integer between bounds, as the laws ask for it. -/
theorem fitted_ev (s s1 s2 : Bool) (l l1 l2 : List Int) (w : Wf s l) (w1 : Wf s1 l1) (w2 : Wf s2 l2) (hl : l.length ≤ 50) (hl1 : l1.length ≤ 50) (hl2 : l2.length ≤ 50) (k : Nat) (hk : 30000 < k) :
    laws_fitted.f k s l s1 l1 s2 l2 = some (val s l % 18446744073709551616, decide (val s1 l1 ≤ val s l ∧ val s l ≤ val s2 l2)) := by
  unfold laws_fitted.f
  rw [towords_ev s l w hl k hk]
  simp only [ob]
  rw [if_pos (by simp), wcmp_ev s s1 l l1 w w1 (by omega) (by omega) k (by omega), wcmp_ev s s2 l l2 w w2 (by omega) (by omega) k (by omega)]
  simp only [ob]
  have r0 : rd [val s l % 18446744073709551616] 0 = val s l % 18446744073709551616 := rfl
  by_cases c : val s1 l1 ≤ val s l
  · rw [if_pos ((cmpOf_ge' _ _).2 c), r0, cmpOf_le]; simp [c]
  · rw [if_neg (fun h => c ((cmpOf_ge' _ _).1 h)), r0]; simp [c]

theorem bounds_signed (n m : Int) (q : Nat) (v V : Int) (hm : wrap64 (n - 1) = m) (hq : wrap64 (Int.tdiv m 32) = (q : Int)) (hq1 : q ≤ 10) (hm0 : 0 ≤ Int.tmod m 32) (hv : shl .u32 1 (Int.tmod m 32) = v) (h0 : 0 ≤ v) (h1 : v < 4294967296) (hV : pw q * v = V) :
    ∃ r t s u, (∀ k, 200 < k → laws_bounds.f k n true = some (r, t, s, u)) ∧ Wf r t ∧ Wf s u ∧ val r t = - V ∧ val s u = V - 1 ∧ t.length ≤ 20 ∧ u.length ≤ 20 := by
  obtain ⟨a, b, a1, a2, a3, a4⟩ := two_ev m q v hq (by omega) hm0 hv h0 h1
  obtain ⟨r, t, b1, b2, b3, b4⟩ := neg_ev a b a2 (by omega)
  obtain ⟨o, p, c1, c2, c3, c4⟩ := wint_ev 1 (by decide) (by decide)
  obtain ⟨s, u, d1, d2, d3, d4⟩ := wsub_ev a o b p a2 c2 11 (by omega) (by omega) (by omega)
  refine ⟨r, t, s, u, fun k hk => ?_, b2, d2, by rw [b3, a3, hV], by rw [d3, a3, c3, hV], by omega, by omega⟩
  unfold laws_bounds.f
  rw [if_pos rfl, hm, a1 k hk]
  simp only [ob]
  rw [b1 k (by omega), c1 k (by omega)]
  simp only [ob]
  rw [d1 k (by omega)]; rfl

theorem bounds_unsigned (n : Int) (q : Nat) (v V : Int) (hq : wrap64 (Int.tdiv n 32) = (q : Int)) (hq1 : q ≤ 10) (hm0 : 0 ≤ Int.tmod n 32) (hv : shl .u32 1 (Int.tmod n 32) = v) (h0 : 0 ≤ v) (h1 : v < 4294967296) (hV : pw q * v = V) :
    ∃ s u, (∀ k, 200 < k → laws_bounds.f k n false = some (false, [], s, u)) ∧ Wf s u ∧ val s u = V - 1 ∧ u.length ≤ 20 := by
  obtain ⟨a, b, a1, a2, a3, a4⟩ := two_ev n q v hq (by omega) hm0 hv h0 h1
  obtain ⟨o, p, c1, c2, c3, c4⟩ := wint_ev 1 (by decide) (by decide)
  obtain ⟨s, u, d1, d2, d3, d4⟩ := wsub_ev a o b p a2 c2 11 (by omega) (by omega) (by omega)
  refine ⟨s, u, fun k hk => ?_, d2, by rw [d3, a3, c3, hV], by omega⟩
  unfold laws_bounds.f
  rw [if_neg (by simp), a1 k hk]
  simp only [ob]
  rw [c1 k (by omega)]
  simp only [ob]
  rw [d1 k (by omega)]; rfl
theorem wf_zero : Wf false [] := ⟨dg_nil, nz_nil, fun h => by cases h⟩
end Go.Proofs.Ytnjniacohbeonaa.Q
