/- The plain law of Float64. -/
import Derived.Test.YtcfnniminikmfaaPg
import Derived.Test.YtcfnniminikmfaaQPF64a
namespace Go.Proofs.Ytcfnniminikmfaa.Q
open Go.RowKit Go.Proofs.YtcfnniminikmfaaW.PrintWords Go.Proofs.YtcfnniminikmfaaW.PrintLast Go.Proofs.YtcfnniminikmfaaW.PrintMore
set_option linter.unusedVariables false
set_option linter.unusedSimpArgs false

theorem bytes_F64 (x : Int) (h0 : 0 ≤ x) : le8 ((x.toNat : Nat) : Int) = leN 8 x := by
  have h : leN 8 x = [x % 256, x / 256 % 256, x / 65536 % 256, x / 16777216 % 256, x / 4294967296 % 256, x / 1099511627776 % 256, x / 281474976710656 % 256, x / 72057594037927936 % 256] := by simp [leN, List.range, List.range.loop]
  have e : ((x.toNat : Nat) : Int) = x := by omega
  rw [h, e]
  rfl
theorem pbytes_F64 (x : S29) (h : Ranged x) : spec_PlainBytes.f 3 64 false 0 0 0 (⟨#[]⟩ : ByteArray) false ([] : List Int) ([] : List Int) x.f0 x.f1 x.f2 x.f3 = some (leN 8 x.f1) := by
  obtain ⟨h0, h1⟩ := h
  simp [spec_PlainBytes.f, spec_OneBits.f, spec_OneLength.f, h0, h1]
theorem fits_F64 (k : Nat) (hk : 1 ≤ k) (x : S29) (hx : x.f0 = false) : ∃ b, spec_OneFits.f k 3 64 false 0 0 0 (⟨#[]⟩ : ByteArray) false ([] : List Int) ([] : List Int) x.f0 x.f1 x.f2 x.f3 = some b ∧ (b = true → True) := by
  obtain ⟨k, rfl⟩ : ∃ j, k = j + 1 := ⟨k - 1, by omega⟩
  have hw : (0 : Int) ≤ wrap64 0 := by unfold wrap64; omega
  unfold spec_OneFits.f
  by_cases c : (x.f3.length : Int) > 0
  · rw [if_pos c]
    exact ⟨false, by simp [spec_OneFits.j0], fun _ => trivial⟩
  · rw [if_neg c, if_neg (by simp [hx])]
    by_cases ct : x.f2.toList = []
    · exact ⟨shr .u64 (shl .u64 x.f1 (wrap64 0)) (wrap64 0) == x.f1, by simp [spec_OneFits.j0, spec_OneBits.f, hx, ct, hw], fun _ => trivial⟩
    · exact ⟨false, by simp [spec_OneFits.j0, spec_OneBits.f, hx, ct], fun _ => trivial⟩

theorem law_F64 (ps : List (List S29)) (h1 : ps.length ≤ 1048576) (h2 : ps.flatten.length ≤ 1048576) (hr : ∀ p ∈ ps, ∀ x ∈ p, Ranged x) : ∃ k, laws_FnPlainFloat64Written.f k ps = some true := by
  refine ⟨ps.length + ps.flatten.length + 1000, ?_⟩
  obtain ⟨K, hK⟩ : ∃ K, ps.length + ps.flatten.length + 1000 = K + 1 := ⟨ps.length + ps.flatten.length + 999, by omega⟩
  rw [hK]
  have hby : ∀ x : S29, Ranged x → bvF64 x = leN 8 x.f1 := fun x hx => bytes_F64 x.f1 hx.1
  have hlen : ∀ x : S29, (bvF64 x).length ≤ 1024 := fun x => by show (le8 _).length ≤ 1024; simp [le8]
  have hpl : ∀ (k : Nat) (l : List S29), (∀ x ∈ l, Ranged x) → l.length ≤ 500 → l.length < k → spec_Plainly.f k 3 64 false 0 0 0 (⟨#[]⟩ : ByteArray) false ([] : List Int) ([] : List Int) l = some (l.flatMap bvF64) := by
    intro k l hx hl hk
    exact plainly_is 3 64 false 0 0 0 ⟨#[]⟩ false [] [] bvF64 l (fun x hm => ⟨by rw [hby x (hx x hm)]; exact pbytes_F64 x (hx x hm), hlen x⟩) (by omega) k 0 (Nat.zero_le _) (by omega)
  have him : ∀ qs : List (List S29), (∀ p ∈ qs, ∀ x ∈ p, x.f1 < 18446744073709551616) → qs.length ≤ 20 → qs.flatten.length ≤ 500 → impl_PlainFloat64Written.f qs = some (qs.flatten.flatMap bvF64, true) := fun qs g a b => by unfold impl_PlainFloat64Written.f; rw [if_pos g]; exact plainF_is bvF64 qs (fair_of bvF64 qs a b (fun x _ => hlen x))
  have hj : ∀ b : Bool, laws_FnPlainFloat64Written.j0 (K + 1) ps b = some b := by
    intro b
    simp only [laws_FnPlainFloat64Written.j0]
    obtain ⟨b', g1, g2⟩ := allOf_is 3 64 false 0 0 0 ⟨#[]⟩ false [] [] (fun _ => True) 1 (fun k hk x hx _ => fits_F64 k hk x hx) ps h1 h2 hr K 0 (Nat.zero_le _) (by omega)
    have g1' : laws_allOf.f K 3 64 false 0 0 0 (⟨#[]⟩ : ByteArray) false ([] : List Int) ([] : List Int) ps = some (ps.flatten, b') := g1
    rw [g1']
    show (if b' = true then _ else some b) = some b
    by_cases cb : b' = true
    · rw [if_pos cb]
      obtain ⟨c1, c2, _⟩ := g2 cb
      have hrf : ∀ x ∈ ps.flatten, Ranged x := by
        intro x hx
        obtain ⟨p, hp, hxp⟩ := List.mem_flatten.1 hx
        exact hr p hp x hxp
      rw [him ps (fun p hp x hx => (hr p hp x hx).2) c1 c2]
      show (spec_Plainly.f K 3 64 false 0 0 0 (⟨#[]⟩ : ByteArray) false ([] : List Int) ([] : List Int) ps.flatten).bind _ = _
      rw [hpl K ps.flatten hrf c2 (by omega)]
      simp only [Option.bind_some, same_self, if_true]
    · rw [if_neg cb]
  unfold laws_FnPlainFloat64Written.f
  rw [if_neg (by omega)]
  have hv : ∀ x ∈ [(⟨false, 5, (⟨#[]⟩ : ByteArray), ([] : List (S29))⟩ : S29)], Ranged x := by
    intro x hx
    rw [List.mem_singleton.1 hx]
    exact ⟨by decide, by decide⟩
  have him1 : impl_PlainFloat64Written.f [[(⟨false, 5, (⟨#[]⟩ : ByteArray), ([] : List (S29))⟩ : S29)]] = some ([(⟨false, 5, (⟨#[]⟩ : ByteArray), ([] : List (S29))⟩ : S29)].flatMap bvF64, true) := him _ (by intro p hp x hx; rw [List.mem_singleton.1 hp] at hx; rw [List.mem_singleton.1 hx]; decide) (by decide) (by decide)
  rw [him1]
  show (spec_Plainly.f (K + 1) 3 64 false 0 0 0 (⟨#[]⟩ : ByteArray) false ([] : List Int) ([] : List Int) [(⟨false, 5, (⟨#[]⟩ : ByteArray), ([] : List (S29))⟩ : S29)]).bind _ = _
  rw [hpl (K + 1) _ hv (by decide) (by show 1 < K + 1; omega)]
  simp only [Option.bind_some, same_self, if_true]
  exact hj true
end Go.Proofs.Ytcfnniminikmfaa.Q
