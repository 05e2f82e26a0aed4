/- The exact integers of package spec, as they are printed, over numbers: what each function is worth. Part 1: digits without zeros at the end, sums, comparisons. -/
import Derived.Test.YtnjniacohbeonaaQWda
import Derived.Test.YtnjniacohbeonaaNv
namespace Go.Proofs.Ytnjniacohbeonaa.Q
open Go.RowKit Go.Proofs.Ytnjniacohbeonaa.Nv Go.Proofs.YtnjniacohbeonaaW.PrintWords Go.Proofs.YtnjniacohbeonaaW.PrintLast Go.Proofs.YtnjniacohbeonaaW.PrintMore
set_option linter.unusedVariables false
set_option linter.unusedSimpArgs false

theorem rd_nat (l : List Int) (n : Nat) : rd l (n : Int) = l.getD n 0 := rfl
theorem rd_range {l : List Int} (h : Dg l) (i : Int) : 0 ≤ rd l i ∧ rd l i < 4294967296 := dg_get h i.toNat
theorem w64 {x : Int} (h0 : -9223372036854775808 ≤ x) (h1 : x ≤ 9223372036854775807) : wrap64 x = x := by unfold wrap64; omega
theorem wu64 {x : Int} (h0 : 0 ≤ x) (h1 : x ≤ 18446744073709551615) : IntKind.u64.wrap x = x := by rw [IntKind.wrap_u64]; omega

theorem trim_ev (n : Nat) : ∀ (l : List Int), l.length = n → l.length ≤ 1000000 → Dg l → ∃ t, (∀ k, n < k → spec_trim.l0 k l = some t) ∧ nv t = nv l ∧ Dg t ∧ Nz t ∧ t.length ≤ l.length := by
  induction n with
  | zero =>
    intro l hn _ hd
    obtain rfl := List.eq_nil_of_length_eq_zero hn
    refine ⟨[], fun k hk => ?_, rfl, dg_nil, nz_nil, Nat.le_refl _⟩
    obtain ⟨k, rfl⟩ : ∃ m, k = m + 1 := ⟨k - 1, by omega⟩
    simp [spec_trim.l0]
  | succ n ih =>
    intro l hn hb hd
    have e : wrap64 ((l.length : Int) - 1) = (n : Int) := by rw [w64 (by omega) (by omega)]; omega
    have hs := nv_take l n (by omega)
    rw [List.take_of_length_le (by omega)] at hs
    by_cases hz : l.getD n 0 = 0
    · obtain ⟨t, h1, h2, h3, h4, h5⟩ := ih (l.take n) (by rw [List.length_take]; omega) (by rw [List.length_take]; omega) (dg_take hd n)
      refine ⟨t, fun k hk => ?_, by rw [h2, hs, hz]; omega, h3, h4, by rw [List.length_take] at h5; omega⟩
      obtain ⟨k, rfl⟩ : ∃ m, k = m + 1 := ⟨k - 1, by omega⟩
      simp only [spec_trim.l0]
      rw [e, if_pos (by omega), if_pos (by omega), if_pos (by omega), rd_nat, if_pos hz, if_pos (by omega)]
      exact h1 k (by omega)
    · refine ⟨l, fun k hk => ?_, rfl, hd, ?_, Nat.le_refl _⟩
      · obtain ⟨k, rfl⟩ : ∃ m, k = m + 1 := ⟨k - 1, by omega⟩
        simp only [spec_trim.l0]
        rw [e, if_pos (by omega), if_pos (by omega), if_pos (by omega), rd_nat, if_neg hz]
      · rintro x l' rfl
        have hl : l'.length = n := by simpa using hn
        subst hl
        simpa using hz

/-- An integer that is told by a sign and digits: well formed. -/
def Wf (s : Bool) (l : List Int) : Prop := Dg l ∧ Nz l ∧ (s = true → 0 < l.length)
def val (s : Bool) (l : List Int) : Int := if s then - nv l else nv l

theorem wide_ev (s : Bool) (l : List Int) (hb : l.length ≤ 1000000) (hd : Dg l) : ∃ r t, (∀ k, l.length < k → spec_wide.f k s l = some (r, t)) ∧ Wf r t ∧ val r t = val s l ∧ t.length ≤ l.length := by
  obtain ⟨t, h1, h2, h3, h4, h5⟩ := trim_ev l.length l rfl hb hd
  cases s with
  | true =>
    refine ⟨decide ((t.length : Int) > 0), t, fun k hk => ?_, ⟨h3, h4, fun h => by have := of_decide_eq_true h; omega⟩, ?_, h5⟩
    · unfold spec_wide.f spec_trim.f
      rw [h1 k hk]; rfl
    · unfold val
      by_cases hz : (t.length : Int) > 0
      · rw [decide_eq_true hz, h2]
      · have : t = [] := List.eq_nil_of_length_eq_zero (by omega)
        subst this
        simp [← h2, nv]
  | false =>
    refine ⟨false, t, fun k hk => ?_, ⟨h3, h4, fun h => by cases h⟩, ?_, h5⟩
    · unfold spec_wide.f spec_trim.f
      rw [h1 k hk]; rfl
    · unfold val; simp [h2]

theorem magAdd_ev (l0 l1 : List Int) (hd0 : Dg l0) (hd1 : Dg l1) (M : Nat) (hb0 : l0.length ≤ M) (hb1 : l1.length ≤ M) (hM : M ≤ 1000000) (d : Nat) :
    ∀ (out : List Int) (c : Int), out.length + d = M + 1 → 0 ≤ c → c ≤ 1 → (d = 0 → c = 0) → Dg out →
      ∃ r, (∀ k, 2 * d + 2 < k → spec_magAdd.l0 k l0 l1 out c out.length = some r) ∧ nv r = nv out + pw out.length * (c + nv (l0.drop out.length) + nv (l1.drop out.length)) ∧ Dg r ∧ r.length ≤ M + 1 := by
  induction d with
  | zero =>
    intro out c ho h0 h1 hc hd
    obtain rfl := hc rfl
    refine ⟨out, fun k hk => ?_, ?_, hd, by omega⟩
    · obtain ⟨k, rfl⟩ : ∃ m, k = m + 2 := ⟨k - 2, by omega⟩
      simp only [spec_magAdd.l0, spec_magAdd.j1]
      rw [if_neg (by omega), if_neg (by omega)]; simp
    · rw [nv_drop_all l0 _ (by omega), nv_drop_all l1 _ (by omega)]; omega
  | succ d ih =>
    intro out c ho h0 h1 _ hd
    have hi1 : wrap64 ((out.length : Int) + 1) = ((out.length + 1 : Nat) : Int) := by rw [w64 (by omega) (by omega)]; omega
    have step : ∀ (s : Int) (a b : Int), nv (l0.drop out.length) = a + 4294967296 * nv (l0.drop (out.length + 1)) → nv (l1.drop out.length) = b + 4294967296 * nv (l1.drop (out.length + 1)) → s = c + a + b → 0 ≤ s → s < 8589934592 → (d = 0 → s < 4294967296) →
        ∃ r, (∀ k, 2 * d + 2 < k → spec_magAdd.l0 k l0 l1 (out ++ [s % 4294967296]) (s / 4294967296) ((out.length + 1 : Nat) : Int) = some r) ∧ nv r = nv out + pw out.length * (c + nv (l0.drop out.length) + nv (l1.drop out.length)) ∧ Dg r ∧ r.length ≤ M + 1 := by
      intro s a b ea eb es hs0 hs1 hs2
      obtain ⟨r, h1, h2, h3, h4⟩ := ih (out ++ [s % 4294967296]) (s / 4294967296) (by simp; omega) (by omega) (by omega) (fun h => by have := hs2 h; omega) (dg_append hd (dg_one (by omega) (by omega)))
      simp only [List.length_append, List.length_cons, List.length_nil, Nat.zero_add] at h1 h2
      refine ⟨r, h1, ?_, h3, h4⟩
      rw [h2, nv_snoc, ea, eb, pw_succ]
      have : s = 4294967296 * (s / 4294967296) + s % 4294967296 := by omega
      generalize s / 4294967296 = q at *
      generalize s % 4294967296 = m at *
      subst this
      have : c = 4294967296 * q + m - a - b := by omega
      subst this
      grind
    have ra := rd_range hd0 (out.length : Int)
    have rb := rd_range hd1 (out.length : Int)
    by_cases c0 : out.length < l0.length
    · have ea := nv_drop l0 out.length c0
      by_cases c1 : out.length < l1.length
      · have eb := nv_drop l1 out.length c1
        obtain ⟨r, h1', h2', h3'⟩ := step (c + rd l0 (out.length : Int) + rd l1 (out.length : Int)) _ _ ea eb rfl (by omega) (by omega) (by omega)
        refine ⟨r, fun k hk => ?_, h2', h3'⟩
        obtain ⟨k, rfl⟩ : ∃ m, k = m + 2 := ⟨k - 2, by omega⟩
        simp only [spec_magAdd.l0, spec_magAdd.j1]
        rw [if_pos (by omega), if_pos trivial, if_pos (by omega), if_pos (by omega), if_pos (by omega), if_pos (by omega), wu64 ra.1 (by omega), wu64 rb.1 (by omega), wu64 (x := c + _) (by omega) (by omega), wu64 (x := c + _ + _) (by omega) (by omega), hi1]
        exact h1' k (by omega)
      · have eb : nv (l1.drop out.length) = 0 + 4294967296 * nv (l1.drop (out.length + 1)) := by rw [nv_drop_all l1 _ (by omega), nv_drop_all l1 _ (by omega)]; rfl
        obtain ⟨r, h1', h2', h3'⟩ := step (c + rd l0 (out.length : Int)) _ _ ea eb (by rw [rd_nat]; omega) (by omega) (by omega) (by omega)
        refine ⟨r, fun k hk => ?_, h2', h3'⟩
        obtain ⟨k, rfl⟩ : ∃ m, k = m + 2 := ⟨k - 2, by omega⟩
        simp only [spec_magAdd.l0, spec_magAdd.j1]
        rw [if_pos (by omega), if_pos trivial, if_pos (by omega), if_pos (by omega), if_neg (by omega), if_pos (by omega), wu64 ra.1 (by omega), wu64 (x := c + _) (by omega) (by omega), hi1]
        exact h1' k (by omega)
    · have ea : nv (l0.drop out.length) = 0 + 4294967296 * nv (l0.drop (out.length + 1)) := by rw [nv_drop_all l0 _ (by omega), nv_drop_all l0 _ (by omega)]; rfl
      by_cases c1 : out.length < l1.length
      · have eb := nv_drop l1 out.length c1
        obtain ⟨r, h1', h2', h3'⟩ := step (c + rd l1 (out.length : Int)) _ _ ea eb (by rw [rd_nat]; omega) (by omega) (by omega) (by omega)
        refine ⟨r, fun k hk => ?_, h2', h3'⟩
        obtain ⟨k, rfl⟩ : ∃ m, k = m + 2 := ⟨k - 2, by omega⟩
        simp only [spec_magAdd.l0, spec_magAdd.j1]
        rw [if_neg (by omega), if_pos (by omega), if_pos trivial, if_neg (by omega), if_pos (by omega), if_pos (by omega), if_pos (by omega), wu64 rb.1 (by omega), wu64 (x := c + _) (by omega) (by omega), hi1]
        exact h1' k (by omega)
      · have eb : nv (l1.drop out.length) = 0 + 4294967296 * nv (l1.drop (out.length + 1)) := by rw [nv_drop_all l1 _ (by omega), nv_drop_all l1 _ (by omega)]; rfl
        by_cases cc : c > 0
        · obtain ⟨r, h1', h2', h3'⟩ := step c _ _ ea eb (by omega) (by omega) (by omega) (by omega)
          refine ⟨r, fun k hk => ?_, h2', h3'⟩
          obtain ⟨k, rfl⟩ : ∃ m, k = m + 2 := ⟨k - 2, by omega⟩
          simp only [spec_magAdd.l0, spec_magAdd.j1]
          rw [if_neg (by omega), if_neg (by omega), if_pos (decide_eq_true cc), if_neg (by omega), if_neg (by omega), if_pos (by omega), hi1]
          exact h1' k (by omega)
        · refine ⟨out, fun k hk => ?_, ?_, hd, by omega⟩
          · obtain ⟨k, rfl⟩ : ∃ m, k = m + 2 := ⟨k - 2, by omega⟩
            simp only [spec_magAdd.l0, spec_magAdd.j1]
            rw [if_neg (by omega), if_neg (by omega), decide_eq_false cc, if_neg (by simp)]
          · obtain rfl : c = 0 := by omega
            rw [nv_drop_all l0 _ (by omega), nv_drop_all l1 _ (by omega)]; omega

theorem add_ev (l0 l1 : List Int) (hd0 : Dg l0) (hd1 : Dg l1) (M : Nat) (hb0 : l0.length ≤ M) (hb1 : l1.length ≤ M) (hM : M ≤ 1000000) :
    ∃ r, (∀ k, 2 * M + 4 < k → spec_magAdd.f k l0 l1 = some r) ∧ nv r = nv l0 + nv l1 ∧ Dg r ∧ r.length ≤ M + 1 := by
  obtain ⟨r, h1, h2, h3, h4⟩ := magAdd_ev l0 l1 hd0 hd1 M hb0 hb1 hM (M + 1) [] 0 (by simp) (by omega) (by omega) (by omega) dg_nil
  refine ⟨r, fun k hk => ?_, ?_, h3, h4⟩
  · unfold spec_magAdd.f; exact h1 k (by omega)
  · rw [h2]; simp [nv, pw]

/-- The sign of a comparison. -/
def cmpOf (a b : Int) : Int := if a < b then -1 else if b < a then 1 else 0

theorem magCmp_ev (l0 l1 : List Int) (hd0 : Dg l0) (hd1 : Dg l1) (he : l0.length = l1.length) (hb : l0.length ≤ 1000000) (n : Nat) : ∀ (k : Nat), n ≤ l0.length → n + 1 < k → nv (l0.drop n) = nv (l1.drop n) →
    spec_magCmp.l0 k l0 l1 ((n : Int) - 1) = some (cmpOf (nv l0) (nv l1)) := by
  induction n with
  | zero =>
    intro k _ hk hn
    obtain ⟨k, rfl⟩ : ∃ m, k = m + 1 := ⟨k - 1, by omega⟩
    simp only [spec_magCmp.l0]
    rw [if_neg (by omega)]
    simp only [List.drop_zero] at hn
    simp [cmpOf, hn]
  | succ n ih =>
    intro k hl hk hn
    obtain ⟨k, rfl⟩ : ∃ m, k = m + 1 := ⟨k - 1, by omega⟩
    simp only [spec_magCmp.l0]
    have e : ((n + 1 : Nat) : Int) - 1 = (n : Int) := by omega
    have s0 := nv_split l0 n (by omega)
    have s1 := nv_split l1 n (by omega)
    have d0 := nv_drop l0 n (by omega)
    have d1 := nv_drop l1 n (by omega)
    have b0 := nv_lt (dg_take hd0 n)
    have b1 := nv_lt (dg_take hd1 n)
    have p0 := nv_nonneg (dg_take hd0 n)
    have p1 := nv_nonneg (dg_take hd1 n)
    rw [List.length_take, Nat.min_eq_left (by omega)] at b0 b1
    rw [e, if_pos (by omega), if_pos (by omega), if_pos (by omega), if_pos (by omega), rd_nat, rd_nat]
    have less : ∀ (A B x y p u v : Int), A = u + p * x → B = v + p * y → 0 ≤ u → u < p → 0 ≤ v → v < p → x < y → A < B := by
      intro A B x y p u v eA eB _ _ _ _ hxy
      have : p * (x + 1) ≤ p * y := Int.mul_le_mul_of_nonneg_left (by omega) (by omega)
      rw [Int.mul_add] at this
      omega
    by_cases c1 : l0.getD n 0 < l1.getD n 0
    · have := less _ _ _ _ _ _ _ s0 s1 p0 b0 p1 b1 (by omega)
      rw [if_pos c1, cmpOf, if_pos this]
    · rw [if_neg c1]
      by_cases c2 : l0.getD n 0 > l1.getD n 0
      · have := less _ _ _ _ _ _ _ s1 s0 p1 b1 p0 b0 (by omega)
        rw [if_pos c2, cmpOf, if_neg (by omega), if_pos this]
      · rw [if_neg c2, w64 (by omega) (by omega)]
        exact ih k (by omega) (by omega) (by omega)

theorem cmp_ev (l0 l1 : List Int) (hd0 : Dg l0) (hd1 : Dg l1) (hz0 : Nz l0) (hz1 : Nz l1) (hb0 : l0.length ≤ 1000000) (hb1 : l1.length ≤ 1000000) (k : Nat) (hk : l0.length + 1 < k) :
    spec_magCmp.f k l0 l1 = some (cmpOf (nv l0) (nv l1)) := by
  unfold spec_magCmp.f
  by_cases he : l0.length = l1.length
  · rw [if_pos (by omega), w64 (by omega) (by omega)]
    exact magCmp_ev l0 l1 hd0 hd1 he hb0 l0.length k (Nat.le_refl _) hk (by rw [nv_drop_all l0 _ (by omega), nv_drop_all l1 _ (by omega)])
  · rw [if_neg (by omega)]
    by_cases hl : l0.length < l1.length
    · have := nv_long hd0 hd1 hz1 hl
      rw [if_pos (by omega), cmpOf, if_pos this]
    · have := nv_long hd1 hd0 hz0 (by omega)
      rw [if_neg (by omega), cmpOf, if_neg (by omega), if_pos this]
end Go.Proofs.Ytnjniacohbeonaa.Q
