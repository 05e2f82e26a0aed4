/- The exact integers of package spec, as they are printed, over numbers. Part 2: differences, sums and differences of signed integers, comparisons, opposites. -/
import Derived.Test.YtnjniacohbeonaaWd1
import Derived.Test.YtnjniacohbeonaaQWdb
import Derived.Test.YtnjniacohbeonaaQWdc
import Derived.Test.YtnjniacohbeonaaQWdf
namespace Go.Proofs.Ytnjniacohbeonaa.Q
open Go.RowKit Go.Proofs.Ytnjniacohbeonaa.Nv Go.Proofs.YtnjniacohbeonaaW.PrintWords Go.Proofs.YtnjniacohbeonaaW.PrintLast Go.Proofs.YtnjniacohbeonaaW.PrintMore
set_option linter.unusedVariables false
set_option linter.unusedSimpArgs false

/-- The loop of a difference: out is what is left of the digits so far, br what was borrowed. -/
theorem magSub_ev (l1 : List Int) (hd1 : Dg l1) (d : Nat) : ∀ (k i : Nat) (out : List Int) (br : Int), i + d = out.length → out.length ≤ 1000000 → l1.length ≤ out.length → 0 ≤ br → br ≤ 1 → Dg out → nv (l1.drop i) + br ≤ nv (out.drop i) → out.length + d + 2 < k →
    ∃ t, spec_magSub.l0 k l1 out br (out.length : Int) (i : Int) = some t ∧ nv t = nv out - pw i * (nv (l1.drop i) + br) ∧ Dg t ∧ Nz t ∧ t.length ≤ out.length := by
  induction d with
  | zero =>
    intro k i out br hi hb hl h0 h1 hd hle hk
    obtain ⟨k, rfl⟩ : ∃ m, k = m + 1 := ⟨k - 1, by omega⟩
    rw [nv_drop_all l1 i (by omega), nv_drop_all out i (by omega)] at hle
    obtain rfl : br = 0 := by omega
    obtain ⟨t, e1, e2, e3, e4, e5⟩ := trim_ev out.length out rfl hb hd
    refine ⟨t, ?_, ?_, e3, e4, e5⟩
    · simp only [spec_magSub.l0]
      rw [if_neg (by omega)]
      unfold spec_trim.f
      rw [e1 k (by omega)]; rfl
    · rw [e2, nv_drop_all l1 i (by omega)]; simp
  | succ d ih =>
    intro k i out br hi hb hl h0 h1 hd hle hk
    obtain ⟨k, rfl⟩ : ∃ m, k = m + 1 := ⟨k - 1, by omega⟩
    have hlt : i < out.length := by omega
    have hi1 : wrap64 ((i : Int) + 1) = ((i + 1 : Nat) : Int) := by rw [w64 (by omega) (by omega)]; omega
    have ra := rd_range hd (i : Int)
    have eo := nv_drop out i hlt
    have hN : (i : Int).toNat = i := rfl
    -- one step, whatever the digit taken off is
    have step : ∀ (b s q : Int), nv (l1.drop i) = b + 4294967296 * nv (l1.drop (i + 1)) → 0 ≤ s → s < 4294967296 → 0 ≤ q → q ≤ 1 → s - 4294967296 * q = out.getD i 0 - br - b →
        ∃ t, spec_magSub.l0 k l1 (out.set i s) q (out.length : Int) ((i + 1 : Nat) : Int) = some t ∧ nv t = nv out - pw i * (nv (l1.drop i) + br) ∧ Dg t ∧ Nz t ∧ t.length ≤ out.length := by
      intro b s q eb hs0 hs1 hq0 hq1 es
      have hlen : (out.set i s).length = out.length := List.length_set
      have hdr : (out.set i s).drop (i + 1) = out.drop (i + 1) := List.drop_set_of_lt (by omega)
      obtain ⟨t, t1, t2, t3, t4, t5⟩ := ih k (i + 1) (out.set i s) q (by omega) (by omega) (by omega) hq0 hq1 (dg_set hd i hs0 hs1) (by rw [hdr]; omega) (by omega)
      rw [hlen] at t1 t5
      refine ⟨t, t1, ?_, t3, t4, t5⟩
      rw [t2, nv_set out i s hlt, eb, pw_succ]
      have : s = 4294967296 * q + out.getD i 0 - br - b := by omega
      subst this
      grind
    simp only [spec_magSub.l0]
    rw [if_pos (by omega), if_pos (by omega), if_pos (by omega), hi1]
    by_cases c : i < l1.length
    · have rb := rd_range hd1 (i : Int)
      have eb := nv_drop l1 i c
      rw [if_pos (by omega), w64 (x := rd out (i : Int)) (by omega) (by omega), w64 (x := rd l1 (i : Int)) (by omega) (by omega), w64 (x := rd out (i : Int) - br) (by omega) (by omega), w64 (x := rd out (i : Int) - br - rd l1 (i : Int)) (by omega) (by omega)]
      by_cases cn : rd out (i : Int) - br - rd l1 (i : Int) < 0
      · rw [if_pos cn, w64 (x := _ + 4294967296) (by omega) (by omega), Int.emod_eq_of_lt (by omega) (by omega)]
        exact step _ _ 1 eb (by omega) (by omega) (by omega) (by omega) (by rw [rd_nat, rd_nat]; omega)
      · rw [if_neg cn, Int.emod_eq_of_lt (by omega) (by omega)]
        exact step _ _ 0 eb (by omega) (by omega) (by omega) (by omega) (by rw [rd_nat, rd_nat]; omega)
    · have eb : nv (l1.drop i) = 0 + 4294967296 * nv (l1.drop (i + 1)) := by rw [nv_drop_all l1 _ (by omega), nv_drop_all l1 _ (by omega)]; rfl
      rw [if_neg (by omega), w64 (x := rd out (i : Int)) (by omega) (by omega), w64 (x := rd out (i : Int) - br) (by omega) (by omega)]
      by_cases cn : rd out (i : Int) - br < 0
      · rw [if_pos cn, w64 (x := _ + 4294967296) (by omega) (by omega), Int.emod_eq_of_lt (by omega) (by omega)]
        exact step _ _ 1 eb (by omega) (by omega) (by omega) (by omega) (by rw [rd_nat]; omega)
      · rw [if_neg cn, Int.emod_eq_of_lt (by omega) (by omega)]
        exact step _ _ 0 eb (by omega) (by omega) (by omega) (by omega) (by rw [rd_nat]; omega)

theorem sub_ev (l0 l1 : List Int) (hd0 : Dg l0) (hd1 : Dg l1) (hz1 : Nz l1) (hb : l0.length ≤ 1000000) (hle : nv l1 ≤ nv l0) :
    ∃ t, (∀ k, 2 * l0.length + 2 < k → spec_magSub.f k l0 l1 = some t) ∧ nv t = nv l0 - nv l1 ∧ Dg t ∧ Nz t ∧ t.length ≤ l0.length := by
  have hl : l1.length ≤ l0.length := nz_len hd1 hz1 _ (by have := nv_lt hd0; omega)
  have key : ∀ k, 2 * l0.length + 2 < k → ∃ t, spec_magSub.l0 k l1 l0 0 (l0.length : Int) 0 = some t ∧ nv t = nv l0 - nv l1 ∧ Dg t ∧ Nz t ∧ t.length ≤ l0.length := by
    intro k hk
    obtain ⟨t, t1, t2, t3⟩ := magSub_ev l1 hd1 l0.length k 0 l0 0 (by omega) hb hl (by omega) (by omega) hd0 (by simpa using hle) (by omega)
    refine ⟨t, t1, ?_, t3⟩
    rw [t2]; simp [pw]
  obtain ⟨t, t1, t2, t3⟩ := key (2 * l0.length + 3) (by omega)
  refine ⟨t, fun k hk => ?_, t2, t3⟩
  have hm : spec_magSub.l0 k l1 l0 0 (l0.length : Int) 0 = some t := at_rounds (fun k => spec_magSub.mono_l k l1 l0 0 (l0.length : Int) 0) (by omega) t1
  unfold spec_magSub.f
  simp only [Option.bind_some, List.nil_append, List.length_nil, Nat.zero_add]
  rw [if_pos (by omega)]
  exact hm

theorem val_neg {l : List Int} : val true l = - nv l := rfl
theorem val_pos {l : List Int} : val false l = nv l := rfl

theorem wadd_ev (s0 s1 : Bool) (l0 l1 : List Int) (w0 : Wf s0 l0) (w1 : Wf s1 l1) (M : Nat) (hb0 : l0.length ≤ M) (hb1 : l1.length ≤ M) (hM : M ≤ 900000) :
    ∃ r t, (∀ k, 2 * M + 9 < k → spec_WideAdd.f k s0 l0 s1 l1 = some (r, t)) ∧ Wf r t ∧ val r t = val s0 l0 + val s1 l1 ∧ t.length ≤ M + 1 := by
  obtain ⟨d0, z0, _⟩ := w0
  obtain ⟨d1, z1, _⟩ := w1
  by_cases hs : s0 = s1
  · subst hs
    obtain ⟨a, a1, a2, a3, a4⟩ := add_ev l0 l1 d0 d1 M hb0 hb1 (by omega)
    obtain ⟨r, t, t1, t2, t3, t4⟩ := wide_ev s0 a (by omega) a3
    refine ⟨r, t, fun k hk => ?_, t2, ?_, by omega⟩
    · unfold spec_WideAdd.f
      rw [if_pos (by simp), a1 k (by omega)]
      simp only [Option.bind_some]
      rw [t1 k (by omega)]; rfl
    · rw [t3]; cases s0 <;> simp [val, a2]; omega
  · have hne : (s0 == s1) = true → False := fun h => hs (by simpa using h)
    by_cases hc : nv l1 ≤ nv l0
    · obtain ⟨a, a1, a2, a3, a4, a5⟩ := sub_ev l0 l1 d0 d1 z1 (by omega) hc
      obtain ⟨r, t, t1, t2, t3, t4⟩ := wide_ev s0 a (by omega) a3
      refine ⟨r, t, fun k hk => ?_, t2, ?_, by omega⟩
      · unfold spec_WideAdd.f
        rw [if_neg hne, cmp_ev l0 l1 d0 d1 z0 z1 (by omega) (by omega) k (by omega)]
        simp only [Option.bind_some]
        rw [if_pos (by unfold cmpOf; split <;> (try split) <;> omega), a1 k (by omega)]
        simp only [Option.bind_some]
        rw [t1 k (by omega)]; rfl
      · rw [t3]; cases s0 <;> cases s1 <;> simp_all [val] <;> omega
    · obtain ⟨a, a1, a2, a3, a4, a5⟩ := sub_ev l1 l0 d1 d0 z0 (by omega) (by omega)
      obtain ⟨r, t, t1, t2, t3, t4⟩ := wide_ev s1 a (by omega) a3
      refine ⟨r, t, fun k hk => ?_, t2, ?_, by omega⟩
      · unfold spec_WideAdd.f
        rw [if_neg hne, cmp_ev l0 l1 d0 d1 z0 z1 (by omega) (by omega) k (by omega)]
        simp only [Option.bind_some]
        rw [if_neg (by unfold cmpOf; rw [if_pos (by omega)]; omega), a1 k (by omega)]
        simp only [Option.bind_some]
        rw [t1 k (by omega)]; rfl
      · rw [t3]; cases s0 <;> cases s1 <;> simp_all [val] <;> omega

theorem neg_ev (s : Bool) (l : List Int) (w : Wf s l) (hb : l.length ≤ 1000000) : ∃ r t, (∀ k, l.length < k → spec_Wide_Negated.f k s l = some (r, t)) ∧ Wf r t ∧ val r t = - val s l ∧ t.length ≤ l.length := by
  obtain ⟨r, t, t1, t2, t3, t4⟩ := wide_ev (!s) l hb w.1
  refine ⟨r, t, fun k hk => ?_, t2, ?_, t4⟩
  · unfold spec_Wide_Negated.f; rw [t1 k hk]; rfl
  · rw [t3]; cases s <;> simp [val]

theorem wsub_ev (s0 s1 : Bool) (l0 l1 : List Int) (w0 : Wf s0 l0) (w1 : Wf s1 l1) (M : Nat) (hb0 : l0.length ≤ M) (hb1 : l1.length ≤ M) (hM : M ≤ 900000) :
    ∃ r t, (∀ k, 2 * M + 9 < k → spec_WideSub.f k s0 l0 s1 l1 = some (r, t)) ∧ Wf r t ∧ val r t = val s0 l0 - val s1 l1 ∧ t.length ≤ M + 1 := by
  obtain ⟨r1, t1, a1, a2, a3, a4⟩ := neg_ev s1 l1 w1 (by omega)
  obtain ⟨r, t, b1, b2, b3, b4⟩ := wadd_ev s0 r1 l0 t1 w0 a2 M hb0 (by omega) hM
  refine ⟨r, t, fun k hk => ?_, b2, by omega, b4⟩
  unfold spec_WideSub.f
  rw [a1 k (by omega)]
  simp only [Option.bind_some]
  rw [b1 k hk]; rfl

/-- Comparing signed integers. -/
theorem wcmp_ev (s0 s1 : Bool) (l0 l1 : List Int) (w0 : Wf s0 l0) (w1 : Wf s1 l1) (hb0 : l0.length ≤ 1000000) (hb1 : l1.length ≤ 1000000) (k : Nat) (hk : l0.length + 4 < k) :
    spec_WideCmp.f k s0 l0 s1 l1 = some (cmpOf (val s0 l0) (val s1 l1)) := by
  obtain ⟨d0, z0, n0⟩ := w0
  obtain ⟨d1, z1, n1⟩ := w1
  obtain ⟨k, rfl⟩ : ∃ m, k = m + 2 := ⟨k - 2, by omega⟩
  have p0 := nv_nonneg d0
  have p1 := nv_nonneg d1
  have hc := cmp_ev l0 l1 d0 d1 z0 z1 hb0 hb1 k (by omega)
  unfold spec_WideCmp.f
  cases s0 <;> cases s1
  · simp only [spec_WideCmp.j0, spec_WideCmp.j1]
    simp [hc, val]
  · have := nv_pos d1 z1 (n1 rfl)
    simp only [spec_WideCmp.j0, spec_WideCmp.j1]
    simp [val]
    unfold cmpOf; rw [if_neg (by omega), if_pos (by omega)]
  · have := nv_pos d0 z0 (n0 rfl)
    simp only [spec_WideCmp.j0, spec_WideCmp.j1]
    simp [val]
    unfold cmpOf; rw [if_pos (by omega)]
  · simp only [spec_WideCmp.j0, spec_WideCmp.j1]
    simp only [Bool.not_true, Bool.false_eq_true, if_false, if_true]
    rw [hc]
    simp only [Option.bind_some]
    congr 1
    unfold cmpOf val wrap64
    simp only [if_true]
    split <;> split <;> (try split) <;> (try split) <;> omega

theorem wuint_ev (u : Int) (h0 : 0 ≤ u) (h1 : u < 18446744073709551616) : ∃ r t, (∀ k, 2 < k → spec_WideUint.f k u = some (r, t)) ∧ Wf r t ∧ val r t = u ∧ t.length ≤ 2 := by
  obtain ⟨r, t, t1, t2, t3, t4⟩ := wide_ev false [u % 4294967296, (u / 4294967296) % 4294967296] (by simp) (fun x hx => by simp at hx; omega)
  refine ⟨r, t, fun k hk => ?_, t2, ?_, t4⟩
  · unfold spec_WideUint.f; rw [t1 k hk]; rfl
  · rw [t3]; simp only [val, nv]; simp; omega

theorem wint_ev (n : Int) (h0 : -9223372036854775808 ≤ n) (h1 : n ≤ 9223372036854775807) : ∃ r t, (∀ k, 2 < k → spec_WideInt.f k n = some (r, t)) ∧ Wf r t ∧ val r t = n ∧ t.length ≤ 2 := by
  by_cases c : n < 0
  · obtain ⟨r, t, t1, t2, t3, t4⟩ := wide_ev true [(IntKind.u64.wrap (-(IntKind.u64.wrap n))) % 4294967296, ((IntKind.u64.wrap (-(IntKind.u64.wrap n))) / 4294967296) % 4294967296] (by simp) (fun x hx => by simp at hx; omega)
    refine ⟨r, t, fun k hk => ?_, t2, ?_, t4⟩
    · unfold spec_WideInt.f; rw [if_pos c, decide_eq_true c, t1 k hk]; rfl
    · rw [t3]; simp only [val, nv, IntKind.wrap_u64]; simp; omega
  · obtain ⟨r, t, t1, t2, t3, t4⟩ := wide_ev false [(IntKind.u64.wrap n) % 4294967296, ((IntKind.u64.wrap n) / 4294967296) % 4294967296] (by simp) (fun x hx => by simp at hx; omega)
    refine ⟨r, t, fun k hk => ?_, t2, ?_, t4⟩
    · unfold spec_WideInt.f; rw [if_neg c, decide_eq_false c, t1 k hk]; rfl
    · rw [t3]; simp only [val, nv, IntKind.wrap_u64]; simp; omega
end Go.Proofs.Ytnjniacohbeonaa.Q
