/- The plain law of numbers of 96 bits. -/
import Derived.Test.YtcfnniminikmfaaPg
import Derived.Test.YtcfnniminikmfaaQPI96a
namespace Go.Proofs.Ytcfnniminikmfaa.Q
open Go.RowKit Go.Proofs.YtcfnniminikmfaaW.PrintWords Go.Proofs.YtcfnniminikmfaaW.PrintLast Go.Proofs.YtcfnniminikmfaaW.PrintMore
set_option linter.unusedVariables false
set_option linter.unusedSimpArgs false

theorem pbytes_I96 (x : S29) (h : x.f2.size = 12) : spec_PlainBytes.f 15 12 false 0 0 0 (⟨#[]⟩ : ByteArray) false ([] : List Int) ([] : List Int) x.f0 x.f1 x.f2 x.f3 = some (by96 x) := by
  have h2 : x.f2.size ≤ 1048576 := by omega
  simp [spec_PlainBytes.f, spec_OneBits.f, spec_OneBits.j0, spec_OneLength.f, h2, by96]
theorem fits_I96 (k : Nat) (hk : 2 ≤ k) (x : S29) (hx : x.f0 = false) : ∃ b, spec_OneFits.f k 15 12 false 0 0 0 (⟨#[]⟩ : ByteArray) false ([] : List Int) ([] : List Int) x.f0 x.f1 x.f2 x.f3 = some b ∧ (b = true → x.f2.size = 12) := by
  obtain ⟨k, rfl⟩ : ∃ j, k = j + 2 := ⟨k - 2, by omega⟩
  unfold spec_OneFits.f
  by_cases c : (x.f3.length : Int) > 0
  · rw [if_pos c]
    exact ⟨false, by simp [spec_OneFits.j0], fun h => by cases h⟩
  · rw [if_neg c, if_neg (by simp [hx])]
    by_cases c1 : x.f1 = 0
    · refine ⟨(12 : Int) == (x.f2.size : Int), by simp [spec_OneFits.j0, spec_OneBits.f, spec_OneBits.j0, spec_OneLength.f, hx, c1], fun h => ?_⟩
      have := eq_of_beq h
      omega
    · exact ⟨false, by simp [spec_OneFits.j0, spec_OneBits.f, spec_OneBits.j0, spec_OneLength.f, hx, c1], fun h => by cases h⟩

theorem law_I96 (ps : List (List S29)) (h1 : ps.length ≤ 1048576) (h2 : ps.flatten.length ≤ 1048576) (hr : ∀ p ∈ ps, ∀ x ∈ p, Ranged x) : ∃ k, laws_FnPlainInt96Written.f k ps = some true := by
  refine ⟨ps.length + ps.flatten.length + 1000, ?_⟩
  obtain ⟨K, hK⟩ : ∃ K, ps.length + ps.flatten.length + 1000 = K + 1 := ⟨ps.length + ps.flatten.length + 999, by omega⟩
  rw [hK]
  have hlen : ∀ x : S29, x.f2.size = 12 → (by96 x).length ≤ 1024 := fun x h => by have : (by96 x).length = x.f2.size := bytesOf_length x.f2; omega
  have hpl : ∀ (k : Nat) (l : List S29), (∀ x ∈ l, x.f2.size = 12) → l.length ≤ 500 → l.length < k → spec_Plainly.f k 15 12 false 0 0 0 (⟨#[]⟩ : ByteArray) false ([] : List Int) ([] : List Int) l = some (l.flatMap by96) := by
    intro k l hx hl hk
    exact plainly_is 15 12 false 0 0 0 ⟨#[]⟩ false [] [] by96 l (fun x hm => ⟨pbytes_I96 x (hx x hm), hlen x (hx x hm)⟩) (by omega) k 0 (Nat.zero_le _) (by omega)
  have him : ∀ qs : List (List S29), (∀ x ∈ qs.flatten, x.f2.size = 12) → qs.length ≤ 20 → qs.flatten.length ≤ 500 → impl_PlainInt96Written.f qs = some (qs.flatten.flatMap by96, true) := fun qs g a b => by
    unfold impl_PlainInt96Written.f
    rw [if_pos (fun p hp x hx => g x (List.mem_flatten.2 ⟨p, hp, hx⟩))]
    exact plainF_is by96 qs (fair_of by96 qs a b (fun x hx => hlen x (g x hx)))
  have hj : ∀ b : Bool, laws_FnPlainInt96Written.j0 (K + 1) ps b = some b := by
    intro b
    simp only [laws_FnPlainInt96Written.j0]
    obtain ⟨b', g1, g2⟩ := allOf_is 15 12 false 0 0 0 ⟨#[]⟩ false [] [] (fun x => x.f2.size = 12) 2 (fun k hk x hx _ => fits_I96 k hk x hx) ps h1 h2 hr K 0 (Nat.zero_le _) (by omega)
    have g1' : laws_allOf.f K 15 12 false 0 0 0 (⟨#[]⟩ : ByteArray) false ([] : List Int) ([] : List Int) ps = some (ps.flatten, b') := g1
    rw [g1']
    show (if b' = true then _ else some b) = some b
    by_cases cb : b' = true
    · rw [if_pos cb]
      obtain ⟨c1, c2, hrf⟩ := g2 cb
      rw [him ps hrf c1 c2]
      show (spec_Plainly.f K 15 12 false 0 0 0 (⟨#[]⟩ : ByteArray) false ([] : List Int) ([] : List Int) ps.flatten).bind _ = _
      rw [hpl K ps.flatten hrf c2 (by omega)]
      simp only [Option.bind_some, same_self, if_true]
    · rw [if_neg cb]
  unfold laws_FnPlainInt96Written.f
  rw [if_neg (by omega)]
  have hv : ∀ x ∈ [(⟨false, 0, (⟨#[97, 98, 99, 100, 101, 102, 103, 104, 105, 106, 107, 108]⟩ : ByteArray), ([] : List (S29))⟩ : S29)], x.f2.size = 12 := by
    intro x hx
    rw [List.mem_singleton.1 hx]
    decide
  have hv' : ∀ x ∈ [[(⟨false, 0, (⟨#[97, 98, 99, 100, 101, 102, 103, 104, 105, 106, 107, 108]⟩ : ByteArray), ([] : List (S29))⟩ : S29)]].flatten, x.f2.size = 12 := hv
  have him1 : impl_PlainInt96Written.f [[(⟨false, 0, (⟨#[97, 98, 99, 100, 101, 102, 103, 104, 105, 106, 107, 108]⟩ : ByteArray), ([] : List (S29))⟩ : S29)]] = some ([(⟨false, 0, (⟨#[97, 98, 99, 100, 101, 102, 103, 104, 105, 106, 107, 108]⟩ : ByteArray), ([] : List (S29))⟩ : S29)].flatMap by96, true) := him _ hv' (by decide) (by decide)
  rw [him1]
  show (spec_Plainly.f (K + 1) 15 12 false 0 0 0 (⟨#[]⟩ : ByteArray) false ([] : List Int) ([] : List Int) [(⟨false, 0, (⟨#[97, 98, 99, 100, 101, 102, 103, 104, 105, 106, 107, 108]⟩ : ByteArray), ([] : List (S29))⟩ : S29)]).bind _ = _
  rw [hpl (K + 1) _ hv (by decide) (by show 1 < K + 1; omega)]
  simp only [Option.bind_some, same_self, if_true]
  exact hj true
end Go.Proofs.Ytcfnniminikmfaa.Q
