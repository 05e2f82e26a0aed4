/- The plain law of texts. -/
import Derived.Test.YtcfnniminikmfaaPg
import Derived.Test.YtcfnniminikmfaaQPTb
namespace Go.Proofs.Ytcfnniminikmfaa.Q
open Go.RowKit Go.Proofs.YtcfnniminikmfaaW.PrintWords Go.Proofs.YtcfnniminikmfaaW.PrintLast Go.Proofs.YtcfnniminikmfaaW.PrintMore
set_option linter.unusedVariables false
set_option linter.unusedSimpArgs false

theorem pbytes_T (x : S29) (h : x.f2.size ≤ 200) : spec_PlainBytes.f 4 0 false 0 0 0 (⟨#[]⟩ : ByteArray) false ([] : List Int) ([] : List Int) x.f0 x.f1 x.f2 x.f3 = some (bvT x) := by
  have h2 : x.f2.size ≤ 1048576 := by omega
  simp [spec_PlainBytes.f, spec_OneBits.f, spec_OneBits.j0, spec_OneLength.f, h2, bvT, byT]
theorem fits_T (k : Nat) (hk : 2 ≤ k) (x : S29) (hx : x.f0 = false) : ∃ b, spec_OneFits.f k 4 0 false 0 0 0 (⟨#[]⟩ : ByteArray) false ([] : List Int) ([] : List Int) x.f0 x.f1 x.f2 x.f3 = some b ∧ (b = true → x.f2.size ≤ 200) := by
  obtain ⟨k, rfl⟩ : ∃ j, k = j + 2 := ⟨k - 2, by omega⟩
  unfold spec_OneFits.f
  by_cases c : (x.f3.length : Int) > 0
  · rw [if_pos c]
    exact ⟨false, by simp [spec_OneFits.j0], fun h => by cases h⟩
  · rw [if_neg c, if_neg (by simp [hx])]
    by_cases c1 : x.f1 = 0
    · by_cases c2 : x.f2.size ≤ 200
      · exact ⟨true, by simp [spec_OneFits.j0, spec_OneBits.f, spec_OneBits.j0, spec_OneLength.f, hx, c1]; omega, fun _ => c2⟩
      · refine ⟨false, ?_, fun h => by cases h⟩
        have c3 : ¬ (x.f2.size : Int) ≤ 200 := by omega
        simp [spec_OneFits.j0, spec_OneBits.f, spec_OneBits.j0, spec_OneLength.f, hx, c1, c3]
        try omega
    · exact ⟨false, by simp [spec_OneFits.j0, spec_OneBits.f, spec_OneBits.j0, spec_OneLength.f, hx, c1], fun h => by cases h⟩

theorem law_T (ps : List (List S29)) (h1 : ps.length ≤ 1048576) (h2 : ps.flatten.length ≤ 1048576) (hr : ∀ p ∈ ps, ∀ x ∈ p, Ranged x) : ∃ k, laws_FnPlainTextWritten.f k ps = some true := by
  refine ⟨ps.length + ps.flatten.length + 1000, ?_⟩
  obtain ⟨K, hK⟩ : ∃ K, ps.length + ps.flatten.length + 1000 = K + 1 := ⟨ps.length + ps.flatten.length + 999, by omega⟩
  rw [hK]
  have hlen : ∀ x : S29, x.f2.size ≤ 200 → (bvT x).length ≤ 1024 := fun x h => by have : (bvT x).length = x.f2.size + 4 := byT_len x.f2; omega
  have hpl : ∀ (k : Nat) (l : List S29), (∀ x ∈ l, x.f2.size ≤ 200) → l.length ≤ 500 → l.length < k → spec_Plainly.f k 4 0 false 0 0 0 (⟨#[]⟩ : ByteArray) false ([] : List Int) ([] : List Int) l = some (l.flatMap bvT) := by
    intro k l hx hl hk
    exact plainly_is 4 0 false 0 0 0 ⟨#[]⟩ false [] [] bvT l (fun x hm => ⟨pbytes_T x (hx x hm), hlen x (hx x hm)⟩) (by omega) k 0 (Nat.zero_le _) (by omega)
  have him : ∀ qs : List (List S29), (∀ x ∈ qs.flatten, x.f2.size ≤ 200) → qs.length ≤ 20 → qs.flatten.length ≤ 500 → impl_PlainTextWritten.f qs = some (qs.flatten.flatMap bvT, true) := fun qs g a b => plainF_is bvT qs (fair_of bvT qs a b (fun x hx => hlen x (g x hx)))
  have hj : ∀ b : Bool, laws_FnPlainTextWritten.j0 (K + 1) ps b = some b := by
    intro b
    simp only [laws_FnPlainTextWritten.j0]
    obtain ⟨b', g1, g2⟩ := allOf_is 4 0 false 0 0 0 ⟨#[]⟩ false [] [] (fun x => x.f2.size ≤ 200) 2 (fun k hk x hx _ => fits_T k hk x hx) ps h1 h2 hr K 0 (Nat.zero_le _) (by omega)
    have g1' : laws_allOf.f K 4 0 false 0 0 0 (⟨#[]⟩ : ByteArray) false ([] : List Int) ([] : List Int) ps = some (ps.flatten, b') := g1
    rw [g1']
    show (if b' = true then _ else some b) = some b
    by_cases cb : b' = true
    · rw [if_pos cb]
      obtain ⟨c1, c2, hrf⟩ := g2 cb
      rw [him ps hrf c1 c2]
      show (spec_Plainly.f K 4 0 false 0 0 0 (⟨#[]⟩ : ByteArray) false ([] : List Int) ([] : List Int) ps.flatten).bind _ = _
      rw [hpl K ps.flatten hrf c2 (by omega)]
      simp only [Option.bind_some, same_self, if_true]
    · rw [if_neg cb]
  unfold laws_FnPlainTextWritten.f
  rw [if_neg (by omega)]
  have hv : ∀ x ∈ [(⟨false, 0, (⟨#[97]⟩ : ByteArray), ([] : List (S29))⟩ : S29)], x.f2.size ≤ 200 := by
    intro x hx
    rw [List.mem_singleton.1 hx]
    decide
  have hv' : ∀ x ∈ [[(⟨false, 0, (⟨#[97]⟩ : ByteArray), ([] : List (S29))⟩ : S29)]].flatten, x.f2.size ≤ 200 := hv
  have him1 : impl_PlainTextWritten.f [[(⟨false, 0, (⟨#[97]⟩ : ByteArray), ([] : List (S29))⟩ : S29)]] = some ([(⟨false, 0, (⟨#[97]⟩ : ByteArray), ([] : List (S29))⟩ : S29)].flatMap bvT, true) := him _ hv' (by decide) (by decide)
  rw [him1]
  show (spec_Plainly.f (K + 1) 4 0 false 0 0 0 (⟨#[]⟩ : ByteArray) false ([] : List Int) ([] : List Int) [(⟨false, 0, (⟨#[97]⟩ : ByteArray), ([] : List (S29))⟩ : S29)]).bind _ = _
  rw [hpl (K + 1) _ hv (by decide) (by show 1 < K + 1; omega)]
  simp only [Option.bind_some, same_self, if_true]
  exact hj true
end Go.Proofs.Ytcfnniminikmfaa.Q
