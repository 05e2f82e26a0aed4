/- The exact integers of package spec, as they are printed, over numbers. Part 3: products, and what a division leaves. -/
import Derived.Test.YtnjniacohbeonaaWd2
import Derived.Test.YtnjniacohbeonaaQWdd
import Derived.Test.YtnjniacohbeonaaQWde
namespace Go.Proofs.Ytnjniacohbeonaa.Q
open Go.RowKit Go.Proofs.Ytnjniacohbeonaa.Nv Go.Proofs.YtnjniacohbeonaaW.PrintWords Go.Proofs.YtnjniacohbeonaaW.PrintLast Go.Proofs.YtnjniacohbeonaaW.PrintMore
set_option linter.unusedVariables false
set_option linter.unusedSimpArgs false

theorem getD_set_ne {l : List Int} {i m : Nat} (v : Int) (h : i ≠ m) : (l.set i v).getD m 0 = l.getD m 0 := by
  rw [List.getD_eq_getElem?_getD, List.getD_eq_getElem?_getD, List.getElem?_set_ne h]

/-- As Option.bind_some, but no law by computation: the kernel is not asked to unfold what follows. -/
theorem ob {α β : Type} (a : α) (f : α → Option β) : (some a).bind f = f a := by rw [Option.bind_some]
theorem w_add {i j : Nat} (h : i + j ≤ 1000000) : wrap64 ((i : Int) + (j : Int)) = ((i + j : Nat) : Int) := by rw [w64 (by omega) (by omega)]; omega
theorem w_succ {j : Nat} (h : j ≤ 1000000) : wrap64 ((j : Int) + 1) = ((j + 1 : Nat) : Int) := by rw [w64 (by omega) (by omega)]; omega
theorem w_pred {n : Nat} (h : n ≤ 1000000) : wrap64 ((n : Int) - 1) = (n : Int) - 1 := w64 (by omega) (by omega)
theorem q_at {j s : Nat} (hs : s < 32) (hn : j ≤ 1000) : wrap64 (Int.tdiv ((32 * j + s : Nat) : Int) 32) = (j : Int) := by
  rw [Int.tdiv_eq_ediv_of_nonneg (by omega), w64 (by omega) (by omega)]; omega
theorem r_at {j s : Nat} (hs : s < 32) : Int.tmod ((32 * j + s : Nat) : Int) 32 = (s : Int) := by
  rw [Int.tmod_eq_emod_of_nonneg (by omega)]; omega

theorem mul_small {x y : Int} (hx0 : 0 ≤ x) (hx : x < 4294967296) (hy0 : 0 ≤ y) (hy : y < 4294967296) : 0 ≤ x * y ∧ x * y ≤ 18446744065119617025 := by
  constructor
  · exact Int.mul_nonneg hx0 hy0
  · have h1 : x * y ≤ 4294967295 * y := Int.mul_le_mul_of_nonneg_right (by omega) hy0
    omega

/-- One row of a product. -/
theorem mulRow (a b : List Int) (ha : Dg a) (hb : Dg b) (X : Int) (i : Nat) (hi : i < a.length) (hn : a.length + b.length ≤ 1000000) (d : Nat) : ∀ (j : Nat) (out : List Int) (c : Int), j + d = b.length → out.length = a.length + b.length → Dg out → 0 ≤ c → c < 4294967296 → (∀ m, i + b.length ≤ m → out.getD m 0 = 0) →
    ∃ out', (∀ k, spec_magMul.l1 (k + d + 1) a b out (i : Int) c X (i : Int) (b.length : Int) (j : Int) = spec_magMul.l0 k a b out' X ((i + 1 : Nat) : Int)) ∧ nv out' = nv out + pw (i + j) * (c + a.getD i 0 * nv (b.drop j)) ∧ Dg out' ∧ out'.length = a.length + b.length ∧ (∀ m, i + 1 + b.length ≤ m → out'.getD m 0 = 0) := by
  induction d with
  | zero =>
    intro j out c hj hl hd h0 h1 hz
    obtain rfl : j = b.length := by omega
    have e1 : wrap64 ((i : Int) + (b.length : Int)) = ((i + b.length : Nat) : Int) := by rw [w64 (by omega) (by omega)]; omega
    have e2 : wrap64 ((i : Int) + 1) = ((i + 1 : Nat) : Int) := by rw [w64 (by omega) (by omega)]; omega
    refine ⟨out.set (i + b.length) c, fun k => ?_, ?_, dg_set hd _ h0 h1, by rw [List.length_set]; exact hl, fun m hm => ?_⟩
    · simp only [Nat.add_zero, spec_magMul.l1]
      rw [if_neg (by omega), e1, e2, if_pos (by omega), if_pos (by omega), Int.emod_eq_of_lt h0 h1, Int.toNat_natCast]
    · rw [nv_set _ _ _ (by omega), hz _ (Nat.le_refl _), nv_drop_all b _ (Nat.le_refl _)]; simp
    · rw [getD_set_ne _ (by omega)]; exact hz m (by omega)
  | succ d ih =>
    intro j out c hj hl hd h0 h1 hz
    have be : i + j ≤ 1000000 := by omega
    have bj : j ≤ 1000000 := by omega
    have ra := dg_get ha i
    have rb := dg_get hb j
    have ro := dg_get hd (i + j)
    have hm := mul_small ra.1 ra.2 rb.1 rb.2
    have hT0 : 0 ≤ c + (a.getD i 0 * b.getD j 0 + out.getD (i + j) 0) := by omega
    have hT1 : c + (a.getD i 0 * b.getD j 0 + out.getD (i + j) 0) ≤ 18446744073709551615 := by omega
    obtain ⟨out', o1, o2, o3, o4, o5⟩ := ih (j + 1) (out.set (i + j) ((c + (a.getD i 0 * b.getD j 0 + out.getD (i + j) 0)) % 4294967296)) ((c + (a.getD i 0 * b.getD j 0 + out.getD (i + j) 0)) / 4294967296) (by omega) (by rw [List.length_set]; exact hl) (dg_set hd _ (by omega) (by omega)) (by omega) (by omega) (fun m hm => by rw [getD_set_ne _ (by omega)]; exact hz m hm)
    refine ⟨out', fun k => ?_, ?_, o3, o4, o5⟩
    · have hf := o1 k
      rw [show k + (d + 1) + 1 = (k + d + 1) + 1 from rfl]
      generalize k + d + 1 = K at hf ⊢
      simp only [spec_magMul.l1]
      rw [if_pos (by omega), if_pos (by omega), if_pos (by omega), if_pos (by omega), if_pos (by omega), w_add be, w_succ bj, if_pos (by omega), if_pos (by omega), rd_nat, rd_nat, rd_nat, wu64 ra.1 (by omega), wu64 rb.1 (by omega), wu64 ro.1 (by omega), wu64 hm.1 (by omega), wu64 (x := a.getD i 0 * b.getD j 0 + out.getD (i + j) 0) (by omega) (by omega), wu64 hT0 hT1, Int.toNat_natCast]
      exact hf
    · rw [o2, nv_set _ _ _ (by omega), show i + (j + 1) = (i + j) + 1 from rfl, pw_succ, nv_drop b j (by omega)]
      generalize hT : c + (a.getD i 0 * b.getD j 0 + out.getD (i + j) 0) = T
      have : T = 4294967296 * (T / 4294967296) + T % 4294967296 := by omega
      generalize T / 4294967296 = q at *
      generalize T % 4294967296 = m at *
      subst this
      have : c = 4294967296 * q + m - (a.getD i 0 * b.getD j 0 + out.getD (i + j) 0) := by omega
      subst this
      grind

theorem mulAll (a b : List Int) (ha : Dg a) (hb : Dg b) (hn : a.length + b.length ≤ 1000000) (d : Nat) : ∀ (i : Nat) (out : List Int), i + d = a.length → out.length = a.length + b.length → Dg out → (∀ m, i + b.length ≤ m → out.getD m 0 = 0) → nv out = nv (a.take i) * nv b →
    ∃ t, (∀ k, d * (b.length + 2) + a.length + b.length + 2 < k → spec_magMul.l0 k a b out (a.length : Int) (i : Int) = some t) ∧ nv t = nv a * nv b ∧ Dg t ∧ Nz t ∧ t.length ≤ a.length + b.length := by
  induction d with
  | zero =>
    intro i out hi hl hd hz hv
    obtain ⟨t, t1, t2, t3, t4, t5⟩ := trim_ev out.length out rfl (by omega) hd
    refine ⟨t, fun k hk => ?_, ?_, t3, t4, by omega⟩
    · obtain ⟨k, rfl⟩ : ∃ m, k = m + 1 := ⟨k - 1, by omega⟩
      simp only [spec_magMul.l0]
      rw [if_neg (by omega)]
      unfold spec_trim.f
      rw [t1 k (by omega)]; rfl
    · rw [t2, hv, List.take_of_length_le (by omega)]
  | succ d ih =>
    intro i out hi hl hd hz hv
    obtain ⟨out', o1, o2, o3, o4, o5⟩ := mulRow a b ha hb (a.length : Int) i (by omega) hn b.length 0 out 0 (by omega) hl hd (by omega) (by omega) hz
    have hv' : nv out' = nv (a.take (i + 1)) * nv b := by
      rw [o2, hv, nv_take a i (by omega), List.drop_zero, Nat.add_zero]; grind
    obtain ⟨t, t1, t2⟩ := ih (i + 1) out' (by omega) o4 o3 o5 hv'
    refine ⟨t, fun k hk => ?_, t2⟩
    have hk' : (d + 1) * (b.length + 2) = d * (b.length + 2) + b.length + 2 := by rw [Nat.add_mul]; omega
    obtain ⟨m, rfl⟩ : ∃ m, k = (m + b.length + 1) + 1 := ⟨k - b.length - 2, by omega⟩
    simp only [spec_magMul.l0]
    rw [if_pos (by omega)]
    have := o1 m
    rw [show ((0 : Nat) : Int) = 0 from rfl] at this
    rw [this]
    exact t1 m (by omega)

theorem mul_ev (a b : List Int) (ha : Dg a) (hb : Dg b) (hn : a.length ≤ 3) (hm : b.length ≤ 3) :
    ∃ t, (∀ k, 30 < k → spec_magMul.f k a b = some t) ∧ nv t = nv a * nv b ∧ Dg t ∧ Nz t ∧ t.length ≤ 6 := by
  have e : wrap64 ((a.length : Int) + (b.length : Int)) = ((a.length + b.length : Nat) : Int) := by rw [w64 (by omega) (by omega)]; omega
  obtain ⟨t, t1, t2, t3, t4, t5⟩ := mulAll a b ha hb (by omega) a.length 0 (List.replicate (a.length + b.length) 0) (by omega) (by simp) (dg_replicate _) (fun m _ => by
    rw [List.getD_eq_getElem?_getD, List.getElem?_replicate]; split <;> rfl) (by rw [nv_replicate]; simp [nv])
  have hb2 : a.length * (b.length + 2) ≤ 3 * 5 := Nat.mul_le_mul hn (by omega)
  refine ⟨t, fun k hk => ?_, t2, t3, t4, by omega⟩
  unfold spec_magMul.f
  rw [e, if_pos (by omega), Int.toNat_natCast, if_pos (by omega)]
  exact t1 k (by omega)

theorem wmul_ev (s0 s1 : Bool) (l0 l1 : List Int) (w0 : Wf s0 l0) (w1 : Wf s1 l1) (hn : l0.length ≤ 3) (hm : l1.length ≤ 3) :
    ∃ r t, (∀ k, 30 < k → spec_WideMul.f k s0 l0 s1 l1 = some (r, t)) ∧ Wf r t ∧ val r t = val s0 l0 * val s1 l1 ∧ t.length ≤ 6 := by
  obtain ⟨a, a1, a2, a3, a4, a5⟩ := mul_ev l0 l1 w0.1 w1.1 hn hm
  obtain ⟨r, t, t1, t2, t3, t4⟩ := wide_ev (s0 != s1) a (by omega) a3
  refine ⟨r, t, fun k hk => ?_, t2, ?_, by omega⟩
  · unfold spec_WideMul.f
    rw [a1 k hk]
    simp only [ob]
    rw [t1 k (by omega)]; rfl
  · rw [t3]; cases s0 <;> cases s1 <;> simp [val, a2] <;> grind

/-! ### What a division leaves -/
theorem pow_split (j s : Nat) : (2 : Int) ^ (32 * j + s) = pw j * 2 ^ s := by
  rw [Int.pow_add]
  congr 1
  induction j with
  | zero => rfl
  | succ j ih => rw [Nat.mul_add, Int.pow_add, ih, pw_succ]; omega
theorem two_pos (n : Nat) : (0 : Int) < 2 ^ n := Int.pow_pos (by decide)

/-- A bit of a number is the bit of its digit. -/
theorem nv_bit {l : List Int} (h : Dg l) (j s : Nat) (hj : j < l.length) (hs : s < 32) : nv l / 2 ^ (32 * j + s) % 2 = l.getD j 0 / 2 ^ s % 2 := by
  have e1 : nv l / pw j = l.getD j 0 + 4294967296 * nv (l.drop (j + 1)) := by
    rw [nv_split l j (by omega), nv_drop l j hj]
    have h0 := nv_nonneg (dg_take h j)
    have h1 := nv_lt (dg_take h j)
    rw [List.length_take, Nat.min_eq_left (by omega)] at h1
    have hp := pw_pos j
    rw [Int.add_mul_ediv_left _ _ (by omega), Int.ediv_eq_zero_of_lt h0 h1]; omega
  rw [pow_split, ← Int.ediv_ediv_of_nonneg (Int.le_of_lt (pw_pos j)), e1]
  obtain ⟨u, hu⟩ : ∃ u : Nat, 32 = s + 1 + u := ⟨31 - s, by omega⟩
  have e2 : (4294967296 : Int) = 2 ^ s * (2 * 2 ^ u) := by
    have : (4294967296 : Int) = 2 ^ 32 := by decide
    rw [this, hu, Int.pow_add, Int.pow_succ]; grind
  rw [e2, Int.mul_assoc, Int.add_mul_ediv_left _ _ (by have := two_pos s; omega), Int.mul_assoc, Int.add_mul_emod_self_left]

theorem and_one (x : Int) (h0 : 0 ≤ x) (h1 : x < 4294967296) : Go.bits .and .u32 x 1 = x % 2 := by
  rw [u32_and x 1 h0 h1 (by omega) (by omega)]
  have : x.toNat &&& (1 : Int).toNat = x.toNat % 2 := Nat.and_one_is_mod _
  rw [this]; omega
theorem or_u32_range (x y : Int) : 0 ≤ Go.bits .or .u32 x y ∧ Go.bits .or .u32 x y < 4294967296 := by
  simp only [Go.bits, IntKind.wrap_u32]; omega

/-- One more bit. -/
theorem rem_step (A b bit : Int) (hb : 0 < b) (h0 : 0 ≤ bit) (h1 : bit ≤ 1) :
    (2 * A + bit) % b = if b ≤ 2 * (A % b) + bit then 2 * (A % b) + bit - b else 2 * (A % b) + bit := by
  have hA := Int.emod_nonneg A (by omega : b ≠ 0)
  have hB := Int.emod_lt_of_pos A hb
  have e : 2 * A + bit = (2 * (A % b) + bit) + b * (2 * (A / b)) := by
    have := Int.emod_add_mul_ediv A b
    generalize A / b = q at *
    generalize A % b = r at *
    subst this
    grind
  rw [e, Int.add_mul_emod_self_left]
  split
  · rename_i hc
    have e2 : 2 * (A % b) + bit = (2 * (A % b) + bit - b) + b * 1 := by omega
    rw [e2, Int.add_mul_emod_self_left, Int.emod_eq_of_lt (by omega) (by omega)]
    omega
  · exact Int.emod_eq_of_lt (by omega) (by omega)

theorem div_j1 (a b : List Int) (hb : Dg b) (hzb : Nz b) (hbl : 0 < b.length) (hbn : b.length ≤ 1000) (j s : Nat) (hs : s < 32) (hn : j ≤ 1000) (q r : List Int) (hjq : j < q.length) (hdq : Dg q) (hdr : Dg r) (hrl : r.length ≤ 1010) :
    ∃ q' r', (∀ k, 3000 < k → spec_magDiv.j1 (k + 1) a b q r ((32 * j + s : Nat) : Int) = spec_magDiv.l0 k a b q' r' (((32 * j + s : Nat) : Int) - 1)) ∧ Dg q' ∧ q'.length = q.length ∧ Dg r' ∧ Nz r' ∧ r'.length ≤ r.length ∧ nv r' = if nv b ≤ nv r then nv r - nv b else nv r := by
  have hw1 : 32 * j + s ≤ 1000000 := by omega
  obtain ⟨t, t1, t2, t3, t4, t5⟩ := trim_ev r.length r rfl (by omega) hdr
  by_cases c : nv b ≤ nv t
  · obtain ⟨u, u1, u2, u3, u4, u5⟩ := sub_ev t b t3 hb hzb (by omega) c
    refine ⟨q.set j (Go.bits .or .u32 (q.getD j 0) (shl .u32 1 (s : Int))), u, fun k hk => ?_, dg_set hdq _ (or_u32_range _ _).1 (or_u32_range _ _).2, by rw [List.length_set], u3, u4, by omega, by rw [if_pos (by omega), u2]; omega⟩
    simp only [spec_magDiv.j1]
    unfold spec_trim.f
    rw [t1 k (by omega)]
    simp only [ob]
    rw [cmp_ev t b t3 hb t4 hzb (by omega) (by omega) k (by omega)]
    simp only [ob]
    rw [if_pos (by unfold cmpOf; split <;> (try split) <;> omega), u1 k (by omega)]
    simp only [ob]
    rw [q_at hs hn, r_at hs, w_pred hw1, if_pos (by omega), if_pos (by omega), if_pos (by omega), Int.toNat_natCast, rd_nat]
  · refine ⟨q, t, fun k hk => ?_, hdq, rfl, t3, t4, t5, by rw [if_neg (by omega), t2]⟩
    simp only [spec_magDiv.j1]
    unfold spec_trim.f
    rw [t1 k (by omega)]
    simp only [ob]
    rw [cmp_ev t b t3 hb t4 hzb (by omega) (by omega) k (by omega)]
    simp only [ob]
    rw [if_neg (by unfold cmpOf; rw [if_pos (by omega)]; omega), w_pred hw1]

theorem div_loop (a b : List Int) (ha : Dg a) (hb : Dg b) (hzb : Nz b) (hbl : 0 < b.length) (hal : a.length ≤ 100) (hbn : b.length ≤ 1000) (n : Nat) : ∀ (q r : List Int), n ≤ 32 * a.length → q.length = a.length → Dg q → Dg r → Nz r → nv r = nv a / 2 ^ n % nv b → r.length ≤ b.length →
    ∃ q' r', (∀ k, 2 * n + 4000 < k → spec_magDiv.l0 k a b q r ((n : Int) - 1) = some (q', r')) ∧ Dg q' ∧ q'.length ≤ a.length ∧ Dg r' ∧ Nz r' ∧ r'.length ≤ b.length ∧ nv r' = nv a % nv b := by
  induction n with
  | zero =>
    intro q r _ hql hdq hdr hzr hv hrl
    obtain ⟨t, t1, t2, t3, t4, t5⟩ := trim_ev q.length q rfl (by omega) hdq
    refine ⟨t, r, fun k hk => ?_, t3, by omega, hdr, hzr, hrl, by rw [hv]; simp⟩
    obtain ⟨k, rfl⟩ : ∃ m, k = m + 1 := ⟨k - 1, by omega⟩
    simp only [spec_magDiv.l0]
    rw [if_neg (by omega)]
    unfold spec_trim.f
    rw [t1 k (by omega)]; rfl
  | succ n ih =>
    intro q r hn hql hdq hdr hzr hv hrl
    obtain ⟨j, s, hs, rfl⟩ : ∃ j s, s < 32 ∧ n = 32 * j + s := ⟨n / 32, n % 32, by omega, by omega⟩
    have hja : j < a.length := by omega
    have hbp := nv_pos hb hzb hbl
    have hj1 : j ≤ 1000 := by omega
    have hbit := nv_bit ha j s hja hs
    have hra := dg_get ha j
    have hshr : shr .u32 (rd a (j : Int)) (s : Int) = a.getD j 0 / 2 ^ s := by
      unfold shr; rw [rd_nat, Int.toNat_natCast, Nat.min_eq_left (by show s ≤ 32; omega)]
    have hd0 : 0 ≤ a.getD j 0 / 2 ^ s := Int.ediv_nonneg hra.1 (Int.le_of_lt (two_pos s))
    have hd1 : a.getD j 0 / 2 ^ s < 4294967296 := Int.lt_of_le_of_lt (Int.ediv_le_self _ hra.1) hra.2
    -- the number's upper bits: one more
    have hA : nv a / 2 ^ (32 * j + s) = 2 * (nv a / 2 ^ (32 * j + s + 1)) + a.getD j 0 / 2 ^ s % 2 := by
      rw [← hbit, Int.pow_succ, ← Int.ediv_ediv_of_nonneg (Int.le_of_lt (two_pos _))]; omega
    have hstep := rem_step (nv a / 2 ^ (32 * j + s + 1)) (nv b) (a.getD j 0 / 2 ^ s % 2) hbp (by omega) (by omega)
    rw [← hA, ← hv] at hstep
    obtain ⟨t, t1, t2, t3, t4⟩ := add_ev r r hdr hdr b.length hrl hrl (by omega)
    -- the doubled rest, with the bit
    obtain ⟨u, u1, u2, u3, u4⟩ : ∃ u, (∀ k, 3000 < k → spec_magDiv.l0 (k + 2) a b q r ((32 * j + s : Nat) : Int) = spec_magDiv.j1 (k + 1) a b q u ((32 * j + s : Nat) : Int)) ∧ nv u = 2 * nv r + a.getD j 0 / 2 ^ s % 2 ∧ Dg u ∧ u.length ≤ 1010 := by
      by_cases c : a.getD j 0 / 2 ^ s % 2 = 1
      · obtain ⟨u, u1, u2, u3, u4⟩ := add_ev t [1] t3 (dg_one (by omega) (by omega)) (b.length + 1) t4 (by simp) (by omega)
        refine ⟨u, fun k hk => ?_, by rw [u2, t2, c, nv_one]; omega, u3, by omega⟩
        simp only [spec_magDiv.l0]
        rw [if_pos (by omega), t1 (k + 1) (by omega)]
        simp only [ob]
        rw [q_at hs hj1, r_at hs, if_pos (by omega), if_pos (by omega), if_pos (by omega), hshr, and_one _ hd0 hd1, if_pos c, u1 (k + 1) (by omega)]
        rfl
      · refine ⟨t, fun k hk => ?_, by rw [t2]; omega, t3, by omega⟩
        simp only [spec_magDiv.l0]
        rw [if_pos (by omega), t1 (k + 1) (by omega)]
        simp only [ob]
        rw [q_at hs hj1, r_at hs, if_pos (by omega), if_pos (by omega), if_pos (by omega), hshr, and_one _ hd0 hd1, if_neg c]
    obtain ⟨q2, r2, v1, v2, v3, v4, v5, v6, v7⟩ := div_j1 a b hb hzb hbl hbn j s hs (by omega) q u (by omega) hdq u3 u4
    rw [u2] at v7
    have hr2 : nv r2 = nv a / 2 ^ (32 * j + s) % nv b := by rw [v7, hstep]
    have hr2l : r2.length ≤ b.length := by
      refine nz_len v4 v5 _ ?_
      have := Int.emod_lt_of_pos (nv a / 2 ^ (32 * j + s)) hbp
      have := nv_lt hb
      omega
    obtain ⟨q3, r3, x1, x2⟩ := ih q2 r2 (by omega) (by omega) v2 v4 v5 hr2 hr2l
    refine ⟨q3, r3, fun k hk => ?_, x2⟩
    obtain ⟨m, rfl⟩ : ∃ m, k = m + 2 := ⟨k - 2, by omega⟩
    have e : ((32 * j + s + 1 : Nat) : Int) - 1 = ((32 * j + s : Nat) : Int) := by omega
    rw [e, u1 m (by omega), v1 m (by omega)]
    exact x1 m (by omega)

theorem div_ev (a b : List Int) (ha : Dg a) (hb : Dg b) (hzb : Nz b) (hbl : 0 < b.length) (hal : a.length ≤ 100) (hbn : b.length ≤ 1000) :
    ∃ q r, (∀ k, 20000 < k → spec_magDiv.f k a b = some (q, r)) ∧ Dg q ∧ q.length ≤ a.length ∧ Dg r ∧ Nz r ∧ r.length ≤ b.length ∧ nv r = nv a % nv b := by
  have hlt := nv_lt ha
  have h0 := nv_nonneg ha
  have hp : (2 : Int) ^ (32 * a.length) = pw a.length := by
    have := pow_split a.length 0
    simpa using this
  obtain ⟨q, r, x1, x2⟩ := div_loop a b ha hb hzb hbl hal hbn (32 * a.length) (List.replicate a.length 0) [] (Nat.le_refl _) (by simp) (dg_replicate _) dg_nil nz_nil (by rw [hp, Int.ediv_eq_zero_of_lt h0 hlt]; simp [nv]) (by simp)
  refine ⟨q, r, fun k hk => ?_, x2⟩
  unfold spec_magDiv.f
  have e : wrap64 ((wrap64 (32 * (a.length : Int))) - 1) = ((32 * a.length : Nat) : Int) - 1 := by
    rw [w64 (x := 32 * (a.length : Int)) (by omega) (by omega), w64 (by omega) (by omega)]; omega
  rw [if_pos (by omega), Int.toNat_natCast, if_pos (by omega), e]
  exact x1 k (by omega)

/-- The rest of a division, with the sign of what was divided. -/
theorem wdiv_ev (s0 s1 : Bool) (l0 l1 : List Int) (w0 : Wf s0 l0) (w1 : Wf s1 l1) (hl : 0 < l1.length) (hal : l0.length ≤ 100) (hbn : l1.length ≤ 1000) :
    ∃ q t r u, (∀ k, 20000 < k → spec_WideDiv.f k s0 l0 s1 l1 = some (q, t, r, u)) ∧ Wf r u ∧ val r u = (if s0 then - (nv l0 % nv l1) else nv l0 % nv l1) ∧ u.length ≤ l1.length := by
  obtain ⟨q, r, a1, a2, a3, a4, a5, a6, a7⟩ := div_ev l0 l1 w0.1 w1.1 w1.2.1 hl hal hbn
  obtain ⟨qs, qt, b1, _, _, _⟩ := wide_ev (s0 != s1) q (by omega) a2
  obtain ⟨rs, rt, c1, c2, c3, c4⟩ := wide_ev s0 r (by omega) a4
  refine ⟨qs, qt, rs, rt, fun k hk => ?_, c2, by rw [c3]; unfold val; rw [a7], by omega⟩
  unfold spec_WideDiv.f
  rw [a1 k hk]
  simp only [ob]
  rw [b1 k (by omega)]
  simp only [ob]
  rw [c1 k (by omega)]; rfl
end Go.Proofs.Ytnjniacohbeonaa.Q
