/- The plain law of texts of one length. -/
import Derived.Test.YtcfnniminikmfaaPg
import Derived.Test.YtcfnniminikmfaaQPXb
namespace Go.Proofs.Ytcfnniminikmfaa.Q
open Go.RowKit Go.Proofs.YtcfnniminikmfaaW.PrintWords Go.Proofs.YtcfnniminikmfaaW.PrintLast Go.Proofs.YtcfnniminikmfaaW.PrintMore
set_option linter.unusedVariables false
set_option linter.unusedSimpArgs false

theorem pbytes_X (a : Int) (h0 : 0 ≤ a) (ha : a ≤ 40) (x : S29) (h : (x.f2.size : Int) = a) : spec_PlainBytes.f 15 a false 0 0 0 (⟨#[]⟩ : ByteArray) false ([] : List Int) ([] : List Int) x.f0 x.f1 x.f2 x.f3 = some (bvX x) := by
  have h2 : x.f2.size ≤ 1048576 := by omega
  simp [spec_PlainBytes.f, spec_OneBits.f, spec_OneBits.j0, spec_OneLength.f, h2, h0, bvX]
theorem fits_X (a : Int) (h0 : 0 ≤ a) (k : Nat) (hk : 2 ≤ k) (x : S29) (hx : x.f0 = false) : ∃ b, spec_OneFits.f k 15 a false 0 0 0 (⟨#[]⟩ : ByteArray) false ([] : List Int) ([] : List Int) x.f0 x.f1 x.f2 x.f3 = some b ∧ (b = true → (x.f2.size : Int) = a) := by
  obtain ⟨k, rfl⟩ : ∃ j, k = j + 2 := ⟨k - 2, by omega⟩
  have hn : ¬ a < 0 := by omega
  unfold spec_OneFits.f
  by_cases c : (x.f3.length : Int) > 0
  · rw [if_pos c]
    exact ⟨false, by simp [spec_OneFits.j0], fun h => by cases h⟩
  · rw [if_neg c, if_neg (by simp [hx])]
    by_cases c1 : x.f1 = 0
    · refine ⟨a == (x.f2.size : Int), by simp [spec_OneFits.j0, spec_OneBits.f, spec_OneBits.j0, spec_OneLength.f, hx, c1, hn], fun h => ?_⟩
      exact (eq_of_beq h).symm
    · exact ⟨false, by simp [spec_OneFits.j0, spec_OneBits.f, spec_OneBits.j0, spec_OneLength.f, hx, c1], fun h => by cases h⟩

theorem law_X (a : Int) (ps : List (List S29)) (h1 : ps.length ≤ 1048576) (h2 : ps.flatten.length ≤ 1048576) (hr : ∀ p ∈ ps, ∀ x ∈ p, Ranged x) : ∃ k, laws_FnPlainFixedWritten.f k a ps = some true := by
  refine ⟨ps.length + ps.flatten.length + 1000, ?_⟩
  obtain ⟨K, hK⟩ : ∃ K, ps.length + ps.flatten.length + 1000 = K + 2 := ⟨ps.length + ps.flatten.length + 998, by omega⟩
  rw [hK]
  have hlen : ∀ (a : Int) (x : S29), a ≤ 40 → (x.f2.size : Int) = a → (bvX x).length ≤ 1024 := fun a x ha h => by have : (bvX x).length = x.f2.size := bytesOf_length x.f2; omega
  have hpl : ∀ (a : Int) (k : Nat) (l : List S29), 0 ≤ a → a ≤ 40 → (∀ x ∈ l, (x.f2.size : Int) = a) → l.length ≤ 500 → l.length < k → spec_Plainly.f k 15 a false 0 0 0 (⟨#[]⟩ : ByteArray) false ([] : List Int) ([] : List Int) l = some (l.flatMap bvX) := by
    intro a k l ha0 ha hx hl hk
    exact plainly_is 15 a false 0 0 0 ⟨#[]⟩ false [] [] bvX l (fun x hm => ⟨pbytes_X a ha0 ha x (hx x hm), hlen a x ha (hx x hm)⟩) (by omega) k 0 (Nat.zero_le _) (by omega)
  have him : ∀ (a : Int) (qs : List (List S29)), 0 ≤ a → a ≤ 40 → (∀ x ∈ qs.flatten, (x.f2.size : Int) = a) → qs.length ≤ 20 → qs.flatten.length ≤ 500 → impl_PlainFixedWritten.f a qs = some (qs.flatten.flatMap bvX, true) := fun a qs ha0 ha g c d => by
    unfold impl_PlainFixedWritten.f
    rw [if_pos ⟨ha0, by omega, fun p hp x hx => g x (List.mem_flatten.2 ⟨p, hp, hx⟩)⟩]
    exact plainF_is bvX qs (fair_of bvX qs c d (fun x hx => hlen a x ha (g x hx)))
  have hj1 : ∀ b : Bool, 1 ≤ a → a ≤ 40 → laws_FnPlainFixedWritten.j1 (K + 1) a ps b false = some b := by
    intro b ha0 ha
    simp only [laws_FnPlainFixedWritten.j1, laws_fixedT.f, Option.bind_some, Bool.false_eq_true, if_false]
    obtain ⟨b', g1, g2⟩ := allOf_is 15 a false 0 0 0 ⟨#[]⟩ false [] [] (fun x => (x.f2.size : Int) = a) 2 (fun k hk x hx _ => fits_X a (by omega) k hk x hx) ps h1 h2 hr K 0 (Nat.zero_le _) (by omega)
    have g1' : laws_allOf.f K 15 a false 0 0 0 (⟨#[]⟩ : ByteArray) false ([] : List Int) ([] : List Int) ps = some (ps.flatten, b') := g1
    rw [g1']
    show (if b' = true then _ else some b) = some b
    by_cases cb : b' = true
    · rw [if_pos cb]
      obtain ⟨c1, c2, hrf⟩ := g2 cb
      rw [him a ps (by omega) ha hrf c1 c2]
      show (spec_Plainly.f K 15 a false 0 0 0 (⟨#[]⟩ : ByteArray) false ([] : List Int) ([] : List Int) ps.flatten).bind _ = _
      rw [hpl a K ps.flatten (by omega) ha hrf c2 (by omega)]
      simp only [Option.bind_some, same_self, if_true]
    · rw [if_neg cb]
  have hj : ∀ b : Bool, laws_FnPlainFixedWritten.j0 (K + 2) a ps b = some b := by
    intro b
    have ht : ∀ b : Bool, laws_FnPlainFixedWritten.j1 (K + 1) a ps b true = some b := fun b => by simp only [laws_FnPlainFixedWritten.j1, if_true]
    simp only [laws_FnPlainFixedWritten.j0]
    by_cases c1 : a < 1
    · rw [if_pos c1]; exact ht b
    · rw [if_neg c1]
      by_cases c2 : a > 40
      · rw [show decide (a > 40) = true from decide_eq_true c2]; exact ht b
      · rw [show decide (a > 40) = false from decide_eq_false c2]
        exact hj1 b (by omega) (by omega)
  unfold laws_FnPlainFixedWritten.f
  rw [if_neg (by omega)]
  have hv : ∀ x ∈ [(⟨false, 0, (⟨#[97]⟩ : ByteArray), ([] : List (S29))⟩ : S29)], (x.f2.size : Int) = 1 := by
    intro x hx
    rw [List.mem_singleton.1 hx]
    decide
  have him1 : impl_PlainFixedWritten.f 1 [[(⟨false, 0, (⟨#[97]⟩ : ByteArray), ([] : List (S29))⟩ : S29)]] = some ([(⟨false, 0, (⟨#[97]⟩ : ByteArray), ([] : List (S29))⟩ : S29)].flatMap bvX, true) := him 1 _ (by decide) (by decide) hv (by decide) (by decide)
  rw [him1]
  simp only [laws_fixedT.f, Option.bind_some, if_true]
  rw [hpl 1 (K + 2) _ (by decide) (by decide) hv (by decide) (by show 1 < K + 2; omega)]
  simp only [Option.bind_some, same_self]
  exact hj true
end Go.Proofs.Ytcfnniminikmfaa.Q
