/- array.NewData, impl.partsOf. -/
import Derived.Test.YtgccaabpckfhlaaJa
namespace Go.Proofs.Ytgccaabpckfhlaa.Q
open Go.RowKit Go.Proofs.YtgccaabpckfhlaaW.PrintWords Go.Proofs.YtgccaabpckfhlaaW.PrintLast Go.Proofs.YtgccaabpckfhlaaW.PrintMore
set_option linter.unusedVariables false
set_option linter.unusedSimpArgs false
set_option maxHeartbeats 1000000 in
set_option maxRecDepth 100000 in
theorem retain_calls (B : Nat) (sl : Value) (n : Int) (w : World) (h : w.heap[B]? = some (bufN sl n)) : Calls Try.prog 18 #[.pointer (some ⟨B, 0, none⟩)] w fun e w' => e = .returned (.tuple #[]) ∧ w' = w := by
  have r4 : w.cell? ⟨B, 4, none⟩ = some .nilIface := (blk_cell h 4).trans rfl
  have r5 : w.cell? ⟨B, 5, none⟩ = some (.pointer none) := (blk_cell h 5).trans rfl
  clear h
  go_enter Try.func18, Try.ntmps18
  go_wp2
  go_end0
  exact ⟨rfl, rfl⟩
/-- An array's data: its type's block, its place and length, the row of its one buffer. -/
def dataO (rc : Int) (q : Nat) (off len : Int) (sb : Nat) : Obj := .cells #[.int .i64 rc, .iface 48 (.pointer (some ⟨q, 0, none⟩)), .int .i64 0, .int .i64 off, .int .i64 len, .slice (some ⟨sb, 0, none⟩) 1 1, .slice none 0 0, .pointer none] 66 (0, 0)
set_option maxHeartbeats 1000000 in
set_option maxRecDepth 100000 in
theorem newdata_calls (q : Nat) (len off : Int) (sb pb : Nat) (sl : Value) (n : Int) (w : World) (h1 : w.heap[sb]? = some (.cells #[.pointer (some ⟨pb, 0, none⟩)] 36 (0, 0))) (h2 : w.heap[pb]? = some (bufN sl n)) :
    Calls Try.prog 15 #[.iface 48 (.pointer (some ⟨q, 0, none⟩)), .int .i64 len, .slice (some ⟨sb, 0, none⟩) 1 1, .slice none 0 0, .int .i64 0, .int .i64 off] w fun e w' => e = .returned (.pointer (some ⟨w.heap.size, 0, none⟩)) ∧ w' = w.alloc (dataO 1 q off len sb) := by
  have r1 : w.cell? ⟨sb, 0, none⟩ = some (.pointer (some ⟨pb, 0, none⟩)) := (blk_cell h1 0).trans rfl
  have HR := Aside0.mk (retain_calls pb sl n w h2)
  have hn := blk_new w (dataO 0 q off len sb)
  have HA := Aside0.mk (add_calls ⟨w.heap.size, 0, none⟩ _ ((blk_cell hn 0).trans rfl) (blk_frozen hn 0))
  unfold dataO at HA
  clear h1 h2 hn
  go_enter Try.func15, Try.ntmps15
  go_wp2
  refine wp_loop_rounds 2 ?_
  rw [rounds_succ]
  go_wp2_with (first | (go_at_call 18; refine HR.out.mono ?_; rintro e w1 ⟨rfl, hw1⟩; subst w1))
  rw [rounds_succ]
  go_wp2
  refine wp_loop_rounds 1 ?_
  rw [rounds_succ]
  go_wp2_with (first | (go_at_call 19; refine HA.out.mono ?_; rintro e w1 ⟨rfl, rfl⟩))
  go_ret
  refine ⟨rfl, ?_⟩
  simp [dataO]
/-- The value of an array's data in a row of arrays. -/
def dV (d : Nat) : Value := .iface 46 (.pointer (some ⟨d, 0, none⟩))
def kIf : Kd Nat := Kd.scalar dV (fun _ => rfl)
theorem info60 : (Try.prog.info? 60).map (fun i => (i.zero, i.size, i.bytes)) = some (some .nilIface, 1, 16) := by kernel_rfl
/-- A part that lies in the memory. -/
def PartAt (w : World) (base d : Nat) (x : S28) : Prop := ∃ q sb pb A c, base ≤ d ∧ base ≤ sb ∧ base ≤ pb ∧ w.heap[d]? = some (dataO 1 q x.f2 x.f3 sb) ∧ w.heap[sb]? = some (.cells #[.pointer (some ⟨pb, 0, none⟩)] 36 (0, 0)) ∧ w.heap[pb]? = some (bufN (.slice A x.f1.length c) (x.f1.length : Int)) ∧ x.f1.length ≤ c ∧ Kd.R (Kd.int .u8) 5 w base (fun _ => True) (.slice A x.f1.length c) x.f1
def PartsAt (w : World) (base : Nat) (ds : List Nat) (xs : List S28) : Prop := ds.length = xs.length ∧ ∀ (i : Nat) d x, ds[i]? = some d → xs[i]? = some x → PartAt w base d x
theorem PartAt.move {w w1 : World} {base d : Nat} {x : S28} {P : Nat → Prop} (h : PartAt w base d x) (hk : Kept w w1 P) (hP : ∀ k, base ≤ k → ¬ P k) : PartAt w1 base d x := by
  obtain ⟨q, sb, pb, A, c, a1, a2, a3, a4, a5, a6, a7, a8⟩ := h
  exact ⟨q, sb, pb, A, c, a1, a2, a3, (hk.2 d (blk_lt a4) (hP d a1)).trans a4, (hk.2 sb (blk_lt a5) (hP sb a2)).trans a5, (hk.2 pb (blk_lt a6) (hP pb a3)).trans a6, a7, Kd.R_mono (Kd.R_kept (Kd.R_bound a8) hk (fun k hk2 => hP k hk2.2.1)) (fun _ _ => trivial)⟩
theorem PartsAt.move {w w1 : World} {base : Nat} {ds : List Nat} {xs : List S28} {P : Nat → Prop} (h : PartsAt w base ds xs) (hk : Kept w w1 P) (hP : ∀ k, base ≤ k → ¬ P k) : PartsAt w1 base ds xs := ⟨h.1, fun i d x h1 h2 => (h.2 i d x h1 h2).move hk hP⟩
theorem PartsAt.snoc {w : World} {base : Nat} {ds : List Nat} {xs : List S28} {d : Nat} {x : S28} (h : PartsAt w base ds xs) (hn : PartAt w base d x) : PartsAt w base (ds ++ [d]) (xs ++ [x]) := by
  obtain ⟨h1, h2⟩ := h
  refine ⟨by simp [h1], fun i d' x' ht hs => ?_⟩
  by_cases c : i < ds.length
  · rw [List.getElem?_append_left c] at ht
    rw [List.getElem?_append_left (by omega)] at hs
    exact h2 i d' x' ht hs
  · rw [List.getElem?_append_right (by omega)] at ht hs
    have e : i - ds.length = 0 := by
      have := (List.getElem?_eq_some_iff.1 ht).1
      simp at this; omega
    rw [e] at ht
    rw [← h1, e] at hs
    obtain rfl : d = d' := by simpa using ht
    obtain rfl : x = x' := by simpa using hs
    exact hn
end Go.Proofs.Ytgccaabpckfhlaa.Q
