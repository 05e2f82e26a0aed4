/- The law FnTransposeUint64Uint32 over numbers and lists: the law's own loop gathers what the call answers; a number that is no place of the map is told by both. -/
import Derived.Test.YtnjniacohbeonaaQTrUb
import Derived.OpenShut
namespace Go.Proofs.Ytnjniacohbeonaa.Pure
open Go.RowKit Go.Proofs.Ytnjniacohbeonaa.Q Go.Proofs.YtnjniacohbeonaaW.PrintWords Go.Proofs.YtnjniacohbeonaaW.PrintLast Go.Proofs.YtnjniacohbeonaaW.PrintMore

theorem rd_at {l : List Int} {i : Nat} (h : i < l.length) : rd l (i : Int) = l[i] := by
  show l.getD i 0 = _
  rw [List.getD_eq_getElem?_getD, List.getElem?_eq_getElem h]; rfl

/-- Equal lists are found equal. -/
theorem same_run (b : Bool) (x : List Int) (hx : x.length ≤ 1000) (d : Nat) : ∀ (k i : Nat), i + d = x.length → d < k → laws_FnTransposeUint64Uint32.l1 k b x x (x.length : Int) (i : Int) = some b := by
  induction d with
  | zero =>
    intro k i hi hk
    obtain ⟨k, rfl⟩ : ∃ m, k = m + 1 := ⟨k - 1, by omega⟩
    simp only [laws_FnTransposeUint64Uint32.l1]
    rw [if_neg (by omega)]
  | succ d ih =>
    intro k i hi hk
    obtain ⟨k, rfl⟩ : ∃ m, k = m + 1 := ⟨k - 1, by omega⟩
    have hw : wrap64 ((i : Int) + 1) = ((i + 1 : Nat) : Int) := by unfold wrap64; omega
    simp only [laws_FnTransposeUint64Uint32.l1]
    rw [if_pos (by omega), if_pos (by omega), if_pos (by omega), if_pos (by omega), if_pos trivial, hw]
    exact ih k (i + 1) (by omega) (by omega)

def good (l1 : List Int) (x : Int) : Bool := decide (0 ≤ x) && decide (x < l1.length)

theorem law_run (l0 l1 : List Int) (b : Bool) (h0 : l0.length ≤ 1000) (h1 : l1.length ≤ 1000) (hr : ∀ x ∈ l0, 0 ≤ x ∧ x ≤ 18446744073709551615) (d : Nat) : ∀ (k i : Nat) (there : Bool) (want : List Int), i + d = l0.length → d + 1010 < k →
    there = (l0.take i).all (good l1) → (there = true → want = (l0.take i).map fun s => ((rd l1 s) % 4294967296)) →
    laws_FnTransposeUint64Uint32.l0 k l0 l1 b there want l0 (l0.length : Int) (i : Int) = some b := by
  induction d with
  | zero =>
    intro k i there want hi hk ht hw
    obtain ⟨k, rfl⟩ : ∃ m, k = m + 1 := ⟨k - 1, by omega⟩
    simp only [laws_FnTransposeUint64Uint32.l0]
    rw [if_neg (by omega)]
    unfold impl_TransposeUint64Uint32.f
    rw [if_pos h0]
    rw [List.take_of_length_le (by omega)] at ht hw
    by_cases hall : l0.all (good l1) = true
    · rw [hall] at ht
      subst ht
      have hwant := hw rfl
      subst hwant
      have hall' : (l0.all fun x => decide (0 ≤ x) && decide (x < ↑l1.length)) = true := hall
      rw [if_pos hall']
      obtain ⟨k, rfl⟩ : ∃ m, k = m + 1 := ⟨k - 1, by omega⟩
      simp only [Option.bind_some, if_true, bne_self_eq_false]
      simp only [laws_FnTransposeUint64Uint32.j4]
      rw [if_neg (by simp)]
      exact same_run b _ (by rw [List.length_map]; exact h0) (l0.map fun s => ((rd l1 s) % 4294967296)).length k 0 (by omega) (by rw [List.length_map]; omega)
    · rw [Bool.not_eq_true] at hall
      rw [hall] at ht
      subst ht
      have hall' : ¬ (l0.all fun x => decide (0 ≤ x) && decide (x < ↑l1.length)) = true := by
        intro h; have : l0.all (good l1) = true := h; rw [hall] at this; cases this
      rw [if_neg hall']
      simp
  | succ d ih =>
    intro k i there want hi hk ht hw
    obtain ⟨k, rfl⟩ : ∃ m, k = m + 1 := ⟨k - 1, by omega⟩
    have hlt : i < l0.length := by omega
    have hrd := rd_at hlt
    have hrx := hr _ (List.getElem_mem hlt)
    have hwi : wrap64 ((i : Int) + 1) = ((i + 1 : Nat) : Int) := by unfold wrap64; omega
    have hwl : IntKind.u64.wrap (l1.length : Int) = (l1.length : Int) := by rw [IntKind.wrap_u64]; omega
    have htk : (l0.take (i + 1)).all (good l1) = ((l0.take i).all (good l1) && good l1 l0[i]) := by
      rw [List.take_succ_eq_append_getElem hlt, List.all_append]; simp
    simp only [laws_FnTransposeUint64Uint32.l0]
    rw [if_pos (by omega), if_pos (by omega), if_pos (by omega), hrd, hwi, hwl]
    cases there with
    | false =>
      rw [if_neg (by simp)]
      exact ih k (i + 1) false want (by omega) (by omega) (by rw [htk, ← ht]; rfl) (fun h => by cases h)
    | true =>
      rw [if_pos rfl]
      by_cases c1 : l0[i] ≥ 0
      · rw [if_pos c1]
        by_cases c2 : l0[i] < (l1.length : Int)
        · have hg : good l1 l0[i] = true := by unfold good; rw [decide_eq_true c1, decide_eq_true c2]; rfl
          have hwant := hw rfl
          have hlen : want.length ≤ 1000 := by rw [hwant, List.length_map, List.length_take]; omega
          rw [if_pos c2, if_pos c1, if_pos c2, if_pos (by omega), decide_eq_true c2]
          refine ih k (i + 1) true _ (by omega) (by omega) (by rw [htk, ← ht, hg]; rfl) (fun _ => ?_)
          rw [hwant, List.take_succ_eq_append_getElem hlt, List.map_append]; rfl
        · have hg : good l1 l0[i] = false := by unfold good; rw [decide_eq_false c2]; simp
          rw [if_neg c2, decide_eq_false c2]
          exact ih k (i + 1) false want (by omega) (by omega) (by rw [htk, hg]; simp) (fun h => by cases h)
      · have hg : good l1 l0[i] = false := by unfold good; rw [decide_eq_false (by omega)]; rfl
        rw [if_neg c1]
        exact ih k (i + 1) false want (by omega) (by omega) (by rw [htk, hg]; simp) (fun h => by cases h)

theorem awake : impl_TransposeUint64Uint32.f [1] [5, 7] = some ([7], true) := by decide

theorem FnTransposeUint64Uint32 : laws_FnTransposeUint64Uint32.Pure := by
  intro l0 l1 _ hb0 hw0 _ hb1 _
  refine ⟨l0.length + 2000, ?_⟩
  unfold laws_FnTransposeUint64Uint32.f
  have j1 : ∀ k, l0.length + 1500 < k → laws_FnTransposeUint64Uint32.j0 k l0 l1 false = some true := by
    intro k hk
    obtain ⟨k, rfl⟩ : ∃ m, k = m + 3 := ⟨k - 3, by omega⟩
    simp only [laws_FnTransposeUint64Uint32.j0]
    rw [if_neg (by simp), awake]
    simp only [Option.bind_some, if_true, List.length_cons, List.length_nil]
    rw [if_pos (by decide), if_pos (by decide)]
    have h7 : (rd [7] 0 == 7) = true := by decide
    rw [h7]
    simp only [laws_FnTransposeUint64Uint32.j1]
    by_cases c0 : (l0.length : Int) > 1000
    · rw [if_pos c0]; simp [laws_FnTransposeUint64Uint32.j2]
    · rw [if_neg c0]
      by_cases c1 : (l1.length : Int) > 1000
      · rw [decide_eq_true c1]; simp [laws_FnTransposeUint64Uint32.j2]
      · rw [decide_eq_false c1]
        simp only [laws_FnTransposeUint64Uint32.j2]
        rw [if_neg (by simp)]
        exact law_run l0 l1 true (by omega) (by omega) (fun x hx => bounds_u64 (hw0 x hx)) l0.length k 0 true [] (by omega) (by omega) (by simp) (fun _ => by simp)
  have j0 : ∀ k, 3 < k → laws_FnTransposeUint64Uint32.j0 k l0 l1 true = some true := by
    intro k hk
    obtain ⟨k, rfl⟩ : ∃ m, k = m + 1 := ⟨k - 1, by omega⟩
    simp [laws_FnTransposeUint64Uint32.j0]
  by_cases c0 : (l0.length : Int) > 2147483647
  · rw [if_pos c0]; exact j0 _ (by omega)
  · rw [if_neg c0]
    by_cases c1 : (l1.length : Int) > 2147483647
    · rw [decide_eq_true c1]; exact j0 _ (by omega)
    · rw [decide_eq_false c1]; exact j1 _ (by omega)

end Go.Proofs.Ytnjniacohbeonaa.Pure
