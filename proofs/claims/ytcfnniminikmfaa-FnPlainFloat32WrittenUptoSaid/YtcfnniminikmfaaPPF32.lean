/- The plain law of Float32. -/
import Derived.Test.YtcfnniminikmfaaPg
import Derived.Test.YtcfnniminikmfaaQPF32a
namespace Go.Proofs.Ytcfnniminikmfaa.Q
open Go.RowKit Go.Proofs.YtcfnniminikmfaaW.PrintWords Go.Proofs.YtcfnniminikmfaaW.PrintLast Go.Proofs.YtcfnniminikmfaaW.PrintMore
set_option linter.unusedVariables false
set_option linter.unusedSimpArgs false

theorem bytes_F32 (x : Int) : le4 (((x % 4294967296).toNat : Nat) : Int) = leN 4 x := by
  have h : leN 4 x = [x % 256, x / 256 % 256, x / 65536 % 256, x / 16777216 % 256] := by simp [leN, List.range, List.range.loop]
  have e : (((x % 4294967296).toNat : Nat) : Int) = x % 4294967296 := by omega
  rw [h, e]
  unfold le4
  simp only [List.cons.injEq, and_true]
  omega
theorem pbytes_F32 (x : S29) (h : Ranged x) : spec_PlainBytes.f 3 32 false 0 0 0 (⟨#[]⟩ : ByteArray) false ([] : List Int) ([] : List Int) x.f0 x.f1 x.f2 x.f3 = some (leN 4 x.f1) := by
  obtain ⟨h0, h1⟩ := h
  simp [spec_PlainBytes.f, spec_OneBits.f, spec_OneLength.f, h0, h1]
theorem fits_F32 (k : Nat) (hk : 1 ≤ k) (x : S29) (hx : x.f0 = false) : ∃ b, spec_OneFits.f k 3 32 false 0 0 0 (⟨#[]⟩ : ByteArray) false ([] : List Int) ([] : List Int) x.f0 x.f1 x.f2 x.f3 = some b ∧ (b = true → True) := by
  obtain ⟨k, rfl⟩ : ∃ j, k = j + 1 := ⟨k - 1, by omega⟩
  have hw : (0 : Int) ≤ wrap64 32 := by unfold wrap64; omega
  unfold spec_OneFits.f
  by_cases c : (x.f3.length : Int) > 0
  · rw [if_pos c]
    exact ⟨false, by simp [spec_OneFits.j0], fun _ => trivial⟩
  · rw [if_neg c, if_neg (by simp [hx])]
    by_cases ct : x.f2.toList = []
    · exact ⟨shr .u64 (shl .u64 x.f1 (wrap64 32)) (wrap64 32) == x.f1, by simp [spec_OneFits.j0, spec_OneBits.f, hx, ct, hw], fun _ => trivial⟩
    · exact ⟨false, by simp [spec_OneFits.j0, spec_OneBits.f, hx, ct], fun _ => trivial⟩

theorem law_F32 (ps : List (List S29)) (h1 : ps.length ≤ 1048576) (h2 : ps.flatten.length ≤ 1048576) (hr : ∀ p ∈ ps, ∀ x ∈ p, Ranged x) : ∃ k, laws_FnPlainFloat32Written.f k ps = some true := by
  refine ⟨ps.length + ps.flatten.length + 1000, ?_⟩
  obtain ⟨K, hK⟩ : ∃ K, ps.length + ps.flatten.length + 1000 = K + 1 := ⟨ps.length + ps.flatten.length + 999, by omega⟩
  rw [hK]
  have hby : ∀ x : S29, bvF32 x = leN 4 x.f1 := fun x => bytes_F32 x.f1
  have hlen : ∀ x : S29, (bvF32 x).length ≤ 1024 := fun x => by rw [hby, leN_len]; omega
  have hpl : ∀ (k : Nat) (l : List S29), (∀ x ∈ l, Ranged x) → l.length ≤ 500 → l.length < k → spec_Plainly.f k 3 32 false 0 0 0 (⟨#[]⟩ : ByteArray) false ([] : List Int) ([] : List Int) l = some (l.flatMap bvF32) := by
    intro k l hx hl hk
    exact plainly_is 3 32 false 0 0 0 ⟨#[]⟩ false [] [] bvF32 l (fun x hm => ⟨by rw [hby]; exact pbytes_F32 x (hx x hm), hlen x⟩) (by omega) k 0 (Nat.zero_le _) (by omega)
  have him : ∀ qs : List (List S29), qs.length ≤ 20 → qs.flatten.length ≤ 500 → impl_PlainFloat32Written.f qs = some (qs.flatten.flatMap bvF32, true) := fun qs a b => plainF_is bvF32 qs (fair_of bvF32 qs a b (fun x _ => hlen x))
  have hj : ∀ b : Bool, laws_FnPlainFloat32Written.j0 (K + 1) ps b = some b := by
    intro b
    simp only [laws_FnPlainFloat32Written.j0]
    obtain ⟨b', g1, g2⟩ := allOf_is 3 32 false 0 0 0 ⟨#[]⟩ false [] [] (fun _ => True) 1 (fun k hk x hx _ => fits_F32 k hk x hx) ps h1 h2 hr K 0 (Nat.zero_le _) (by omega)
    have g1' : laws_allOf.f K 3 32 false 0 0 0 (⟨#[]⟩ : ByteArray) false ([] : List Int) ([] : List Int) ps = some (ps.flatten, b') := g1
    rw [g1']
    show (if b' = true then _ else some b) = some b
    by_cases cb : b' = true
    · rw [if_pos cb]
      obtain ⟨c1, c2, _⟩ := g2 cb
      have hrf : ∀ x ∈ ps.flatten, Ranged x := by
        intro x hx
        obtain ⟨p, hp, hxp⟩ := List.mem_flatten.1 hx
        exact hr p hp x hxp
      rw [him ps c1 c2]
      show (spec_Plainly.f K 3 32 false 0 0 0 (⟨#[]⟩ : ByteArray) false ([] : List Int) ([] : List Int) ps.flatten).bind _ = _
      rw [hpl K ps.flatten hrf c2 (by omega)]
      simp only [Option.bind_some, same_self, if_true]
    · rw [if_neg cb]
  unfold laws_FnPlainFloat32Written.f
  rw [if_neg (by omega)]
  have hv : ∀ x ∈ [(⟨false, 5, (⟨#[]⟩ : ByteArray), ([] : List (S29))⟩ : S29)], Ranged x := by
    intro x hx
    rw [List.mem_singleton.1 hx]
    exact ⟨by decide, by decide⟩
  have him1 : impl_PlainFloat32Written.f [[(⟨false, 5, (⟨#[]⟩ : ByteArray), ([] : List (S29))⟩ : S29)]] = some ([(⟨false, 5, (⟨#[]⟩ : ByteArray), ([] : List (S29))⟩ : S29)].flatMap bvF32, true) := him _ (by decide) (by decide)
  rw [him1]
  show (spec_Plainly.f (K + 1) 3 32 false 0 0 0 (⟨#[]⟩ : ByteArray) false ([] : List Int) ([] : List Int) [(⟨false, 5, (⟨#[]⟩ : ByteArray), ([] : List (S29))⟩ : S29)]).bind _ = _
  rw [hpl (K + 1) _ hv (by decide) (by show 1 < K + 1; omega)]
  simp only [Option.bind_some, same_self, if_true]
  exact hj true
end Go.Proofs.Ytcfnniminikmfaa.Q
