/- laws.FnSafeUint32 and FnSafeUint8, walked at each width and sign. -/
import Derived.Test.YtgomeiepiajpeaaGreatGs
import Derived.Test.YtgomeiepiajpeaaGreatSf
import Derived.Deep.RegionHeld3
namespace Go.Proofs.YtgomeiepiajpeaaGreat.Q
open Go.RowKit Go.Proofs.YtgomeiepiajpeaaGreatW.PrintWords Go.Proofs.YtgomeiepiajpeaaGreatW.PrintLast Go.Proofs.YtgomeiepiajpeaaGreatW.PrintMore
set_option linter.unusedVariables false
set_option linter.unusedSimpArgs false
/-- A wide number in a cell of its own. -/
structure Wd (W : World) (g : Nat) (s : Bool) (A : Option Addr) (n c : Nat) (L : List Int) : Prop where
  h : W.heap[g]? = some (.cells #[.bool s, .slice A n c] 27 (0, 0))
  c : n ≤ c
  r : Kd.C (Kd.int .u32) W A n L
theorem Wd.below {W W1 : World} {g : Nat} {s : Bool} {A : Option Addr} {n c : Nat} {L : List Int} (h : Wd W g s A n c L) (hb : Below W.heap.size W W1) : Wd W1 g s A n c L := ⟨blk_below h.h hb, h.c, Kd.C_below h.r hb⟩
theorem Wd.c0 {W : World} {g : Nat} {s : Bool} {A : Option Addr} {n c : Nat} {L : List Int} (h : Wd W g s A n c L) : W.cell? ⟨g, 0, none⟩ = some (.bool s) := (blk_cell h.h 0).trans rfl
theorem Wd.c1 {W : World} {g : Nat} {s : Bool} {A : Option Addr} {n c : Nat} {L : List Int} (h : Wd W g s A n c L) : W.cell? ⟨g, 1, none⟩ = some (.slice A n c) := (blk_cell h.h 1).trans rfl
theorem two_wd {w W : World} {v1 v2 : Value} {s1 s2 : Bool} {L1 L2 : List Int} {ok1 ok2 : Nat → Prop} (n1 n2 : Nat) (e1 : L1.length = n1) (e2 : L2.length = n2) (h1 : Kd.V (Kd.int .u32) 22 W w.heap.size ok1 v1 L1) (h2 : Kd.V (Kd.int .u32) 22 W w.heap.size ok2 v2 L2) : ∃ A1 c1 A2 c2, v1 = .slice A1 n1 c1 ∧ v2 = .slice A2 n2 c2 ∧ Wd ((W.alloc (.cells #[.bool s1, .slice A1 n1 c1] 27)).alloc (.cells #[.bool s2, .slice A2 n2 c2] 27)) W.heap.size s1 A1 n1 c1 L1 ∧ Wd ((W.alloc (.cells #[.bool s1, .slice A1 n1 c1] 27)).alloc (.cells #[.bool s2, .slice A2 n2 c2] 27)) (W.heap.size + 1) s2 A2 n2 c2 L2 ∧ Below W.heap.size W ((W.alloc (.cells #[.bool s1, .slice A1 n1 c1] 27)).alloc (.cells #[.bool s2, .slice A2 n2 c2] 27)) := by
  subst e1 e2
  obtain ⟨A1, c1, rfl⟩ := Kd.V_slice h1
  obtain ⟨A2, c2, rfl⟩ := Kd.V_slice h2
  obtain ⟨_, x1, x2⟩ := Kd.V_reads' h1
  obtain ⟨_, y1, y2⟩ := Kd.V_reads' h2
  have hb : Below W.heap.size W ((W.alloc (.cells #[.bool s1, .slice A1 L1.length c1] 27)).alloc (.cells #[.bool s2, .slice A2 L2.length c2] 27)) := below_alloc (below_alloc (Below.refl _ _) _) _
  refine ⟨A1, c1, A2, c2, rfl, rfl, ⟨blk_alloc (blk_new W _) _, x1, Kd.C_below x2 hb⟩, ⟨?_, y1, Kd.C_below y2 hb⟩, hb⟩
  have h := blk_new (W.alloc (.cells #[.bool s1, .slice A1 L1.length c1] 27)) (.cells #[.bool s2, .slice A2 L2.length c2] 27)
  simpa using h
end Go.Proofs.YtgomeiepiajpeaaGreat.Q
