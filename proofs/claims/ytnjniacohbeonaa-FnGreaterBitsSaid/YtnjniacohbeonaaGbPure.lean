/- The law FnGreaterBits over numbers and lists: both loops gather the same bits. -/
import Derived.Test.YtnjniacohbeonaaGbWalk
namespace Go.Proofs.Ytnjniacohbeonaa.Pure
open Go.RowKit Go.Proofs.Ytnjniacohbeonaa.PFnGreaterBits Go.Proofs.YtnjniacohbeonaaW.PrintWords Go.Proofs.YtnjniacohbeonaaW.PrintLast Go.Proofs.YtnjniacohbeonaaW.PrintMore

theorem gb_next {i : Int} {n : Nat} (h0 : 0 ≤ i) (h : i < (n : Int)) (hn : n ≤ 140737488351232) : wrap64 (i + 1) = i + 1 := by unfold wrap64; omega

/-- The bits of the places from i on, d of them. -/
def gw (l : List Int) (a : Int) : Nat → Int → Int → Int
  | 0, x, _ => x
  | d + 1, x, i => if rd l i > a then gw l a d (Go.bits .or .u64 x (shl .u64 1 i)) (i + 1) else gw l a d x (i + 1)

theorem gb_or_range (x y : Int) : 0 ≤ Go.bits .or .u64 x y ∧ Go.bits .or .u64 x y < 18446744073709551616 := by
  simp only [Go.bits, IntKind.wrap_u64]; omega

theorem gb_or_zero (x i : Int) (h0 : 0 ≤ x) (h1 : x < 18446744073709551616) : Go.bits .or .u64 x (shl .u64 0 i) = x := by
  have e : shl .u64 0 i = 0 := by simp [shl, IntKind.wrap_u64]
  rw [e, u64_or x 0 h0 h1 (by omega) (by omega)]
  simp; omega

theorem gb_loop (l : List Int) (a : Int) (hn : l.length ≤ 140737488351232) (d : Nat) : ∀ (k : Nat) (i x : Int), 0 ≤ i → i + d = l.length → 0 ≤ x → x < 18446744073709551616 → d < k →
    bmi_greaterThanBitmapGo.l0 k a x l (l.length : Int) i = some (gw l a d x i) := by
  induction d with
  | zero =>
    intro k i x h0 h1 hx hx1 hk
    obtain ⟨k, rfl⟩ : ∃ m, k = m + 1 := ⟨k - 1, by omega⟩
    simp only [bmi_greaterThanBitmapGo.l0]; rw [if_neg (by omega)]; rfl
  | succ d ih =>
    intro k i x h0 h1 hx hx1 hk
    obtain ⟨k, rfl⟩ : ∃ m, k = m + 1 := ⟨k - 1, by omega⟩
    have hlt : i < (l.length : Int) := by omega
    simp only [bmi_greaterThanBitmapGo.l0, gw]; rw [if_pos hlt, if_pos h0, if_pos hlt, gb_next h0 hlt hn, gb_or_zero x i hx hx1]
    by_cases hc : rd l i > a
    · rw [if_pos hc, if_pos hc]; exact ih k (i + 1) _ (by omega) (by omega) (gb_or_range _ _).1 (gb_or_range _ _).2 (by omega)
    · rw [if_neg hc, if_neg hc]; exact ih k (i + 1) x (by omega) (by omega) hx hx1 (by omega)

theorem gb_impl (l : List Int) (a : Int) (hn : l.length ≤ 140737488351232) (k : Nat) (hk : l.length < k) : impl_GreaterBits.f k l a = some (gw l a l.length 0 0) := by
  unfold impl_GreaterBits.f bmi_GreaterThanBitmap.f bmi_greaterThanBitmapGo.f
  rw [gb_loop l a hn l.length k 0 0 (by omega) (by omega) (by omega) (by omega) hk]; rfl

theorem gb_awake (k : Nat) (hk : 1 < k) : impl_GreaterBits.f k [1] 0 = some 1 := by
  rw [gb_impl [1] 0 (by simp) k (by simpa using hk)]
  rfl

theorem gb_law (l : List Int) (a : Int) (hn : l.length ≤ 140737488351232) (d : Nat) : ∀ (k : Nat) (i x : Int), 0 ≤ i → i + d = l.length → d + l.length + 3 < k → gw l a d x i = gw l a l.length 0 0 →
    laws_FnGreaterBits.l0 k l a x l (l.length : Int) i = some true := by
  induction d with
  | zero =>
    intro k i x h0 h1 hk hg
    obtain ⟨k, rfl⟩ : ∃ m, k = m + 1 := ⟨k - 1, by omega⟩
    simp only [laws_FnGreaterBits.l0]; rw [if_neg (by omega), gb_impl l a hn k (by omega), gb_awake k (by omega), ← hg]
    simp [gw]
  | succ d ih =>
    intro k i x h0 h1 hk hg
    obtain ⟨k, rfl⟩ : ∃ m, k = m + 1 := ⟨k - 1, by omega⟩
    have hlt : i < (l.length : Int) := by omega
    simp only [laws_FnGreaterBits.l0]; rw [if_pos hlt, if_pos h0, if_pos hlt, gb_next h0 hlt hn]
    simp only [gw] at hg
    by_cases hc : rd l i > a
    · rw [if_pos hc] at hg; rw [if_pos hc]; exact ih k (i + 1) _ (by omega) (by omega) (by omega) hg
    · rw [if_neg hc] at hg; rw [if_neg hc]; exact ih k (i + 1) x (by omega) (by omega) (by omega) hg

theorem FnGreaterBits : laws_FnGreaterBits.Pure := by
  intro l a _ hn _ _
  refine ⟨l.length + l.length + 4, ?_⟩
  unfold laws_FnGreaterBits.f
  by_cases c1 : (l.length : Int) > 2147483647
  · rw [if_pos c1]
  rw [if_neg c1]
  by_cases c2 : (l.length : Int) > 64
  · rw [if_pos c2, gb_awake _ (by omega)]; rfl
  rw [if_neg c2]
  exact gb_law l a (by omega) l.length _ 0 0 (by omega) (by omega) (by omega) rfl

end Go.Proofs.Ytnjniacohbeonaa.Pure
