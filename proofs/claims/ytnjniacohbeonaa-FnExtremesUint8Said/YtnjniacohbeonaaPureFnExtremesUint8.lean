/- The law FnExtremesUint8 over numbers and lists: the code's two tests keep the least and the greatest number, as min and max do. -/
import Derived.Test.YtnjniacohbeonaaPFnExtremesUint8x1
namespace Go.Proofs.Ytnjniacohbeonaa.Pure
open Go.RowKit Go.Proofs.Ytnjniacohbeonaa.PFnExtremesUint8 Go.Proofs.YtnjniacohbeonaaW.PrintWords Go.Proofs.YtnjniacohbeonaaW.PrintLast Go.Proofs.YtnjniacohbeonaaW.PrintMore

theorem ex_next {i : Int} {n : Nat} (h0 : 0 ≤ i) (h : i < (n : Int)) (hn : n ≤ 140737488351232) : wrap64 (i + 1) = i + 1 := by unfold wrap64; omega

/-- The least and the greatest of the places from i on, d of them, and of x, y. -/
def eg (l : List Int) : Nat → Int → Int → Int → Int × Int
  | 0, x, y, _ => (x, y)
  | d + 1, x, y, i => eg l d (mn x (rd l i)) (mx y (rd l i)) (i + 1)

theorem ex_loop (l : List Int) (hn : l.length ≤ 140737488351232) (d : Nat) : ∀ (k : Nat) (i x y : Int), 0 ≤ i → i + d = l.length → d < k →
    utils_uint8MinMax.l0 k x y l (l.length : Int) i = some (eg l d x y i) := by
  induction d with
  | zero =>
    intro k i x y h0 h1 hk
    obtain ⟨k, rfl⟩ : ∃ m, k = m + 1 := ⟨k - 1, by omega⟩
    simp only [utils_uint8MinMax.l0]; rw [if_neg (by omega)]; rfl
  | succ d ih =>
    intro k i x y h0 h1 hk
    obtain ⟨k, rfl⟩ : ∃ m, k = m + 1 := ⟨k - 1, by omega⟩
    have hlt : i < (l.length : Int) := by omega
    simp only [utils_uint8MinMax.l0, eg]; rw [if_pos hlt, if_pos h0, if_pos hlt, ex_next h0 hlt hn]
    by_cases c1 : x > rd l i
    · have e1 : mn x (rd l i) = rd l i := by unfold mn; omega
      rw [if_pos c1, e1]
      by_cases c2 : y < rd l i
      · have e2 : mx y (rd l i) = rd l i := by unfold mx; omega
        rw [if_pos c2, e2]; exact ih k (i + 1) _ _ (by omega) (by omega) (by omega)
      · have e2 : mx y (rd l i) = y := by unfold mx; omega
        rw [if_neg c2, e2]; exact ih k (i + 1) _ _ (by omega) (by omega) (by omega)
    · have e1 : mn x (rd l i) = x := by unfold mn; omega
      rw [if_neg c1, e1]
      by_cases c2 : y < rd l i
      · have e2 : mx y (rd l i) = rd l i := by unfold mx; omega
        rw [if_pos c2, e2]; exact ih k (i + 1) _ _ (by omega) (by omega) (by omega)
      · have e2 : mx y (rd l i) = y := by unfold mx; omega
        rw [if_neg c2, e2]; exact ih k (i + 1) _ _ (by omega) (by omega) (by omega)

theorem ex_impl (l : List Int) (hn : l.length ≤ 140737488351232) (k : Nat) (hk : l.length < k) : impl_ExtremesUint8.f k l = some (eg l l.length 255 0 0) := by
  unfold impl_ExtremesUint8.f utils_GetMinMaxUint8.f utils_uint8MinMax.f
  rw [ex_loop l hn l.length k 0 _ _ (by omega) (by omega) hk]; rfl

theorem ex_awake (k : Nat) (hk : 2 < k) : impl_ExtremesUint8.f k [1, 2] = some (1, 2) := by
  rw [ex_impl [1, 2] (by simp) k (by simpa using hk)]
  rfl

theorem ex_law (l : List Int) (hn : l.length ≤ 140737488351232) (d : Nat) : ∀ (k : Nat) (i x y : Int), 0 ≤ i → i + d = l.length → d + l.length + 3 < k → eg l d x y i = eg l l.length 255 0 0 →
    laws_FnExtremesUint8.l0 k l true x y l (l.length : Int) i = some true := by
  induction d with
  | zero =>
    intro k i x y h0 h1 hk hg
    obtain ⟨k, rfl⟩ : ∃ m, k = m + 1 := ⟨k - 1, by omega⟩
    simp only [laws_FnExtremesUint8.l0]; rw [if_neg (by omega), ex_impl l hn k (by omega), ← hg]
    simp [eg]
  | succ d ih =>
    intro k i x y h0 h1 hk hg
    obtain ⟨k, rfl⟩ : ∃ m, k = m + 1 := ⟨k - 1, by omega⟩
    have hlt : i < (l.length : Int) := by omega
    simp only [laws_FnExtremesUint8.l0]; rw [if_pos hlt, if_pos h0, if_pos hlt, ex_next h0 hlt hn]
    simp only [eg] at hg
    exact ih k (i + 1) _ _ (by omega) (by omega) (by omega) hg

theorem FnExtremesUint8 : laws_FnExtremesUint8.Pure := by
  intro l _ hn _
  refine ⟨l.length + l.length + 5, ?_⟩
  unfold laws_FnExtremesUint8.f
  by_cases c1 : (l.length : Int) > 2147483647
  · rw [if_pos c1]
  rw [if_neg c1, ex_awake _ (by omega)]
  show laws_FnExtremesUint8.j0 (l.length + l.length + 4 + 1) l true = some true
  simp only [laws_FnExtremesUint8.j0]
  by_cases c2 : (l.length : Int) > 1000
  · rw [if_pos c2]
  rw [if_neg c2]
  exact ex_law l (by omega) l.length _ 0 _ _ (by omega) (by omega) (by omega) rfl

end Go.Proofs.Ytnjniacohbeonaa.Pure
