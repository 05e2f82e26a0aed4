/- memory.Buffer over impl.plain: reserved, resized. -/
import Derived.Test.YtgccaabpckfhlaaJa
namespace Go.Proofs.Ytgccaabpckfhlaa.Q
open Go.RowKit Go.Proofs.YtgccaabpckfhlaaW.PrintWords Go.Proofs.YtgccaabpckfhlaaW.PrintLast Go.Proofs.YtgccaabpckfhlaaW.PrintMore
set_option linter.unusedVariables false
set_option linter.unusedSimpArgs false
set_option maxHeartbeats 1000000 in
set_option maxRecDepth 100000 in
theorem alloc_calls (n : Nat) (h : n ≤ 1099511627776) (w : World) : Calls Try.prog 43 #[.agg #[], .int .i64 (n : Int)] w fun e w' => e = .returned (.slice (some ⟨w.heap.size + 1, 0, none⟩) n n) ∧ w' = (w.alloc (.cells #[] 41)).alloc (zeros n) := by
  have hmk := make_bytes n h
  go_enter Try.func43, Try.ntmps43
  go_wp2
  go_ret
  exact ⟨by simp, rfl⟩
set_option maxHeartbeats 1000000 in
set_option maxRecDepth 100000 in
theorem reserve_first (B n : Nat) (h : n ≤ 1073741824) (w : World) (hn : 0 < n) (hB : w.heap[B]? = some (bufH (.slice none 0 0) 0)) :
    Calls Try.prog 22 #[.pointer (some ⟨B, 0, none⟩), .int .i64 (n : Int)] w fun e w' => e = .returned (.tuple #[]) ∧ ∃ m, n ≤ m ∧ m < n + 64 ∧ w'.heap[B]? = some (bufH (.slice (some ⟨w.heap.size + 1, 0, none⟩) m m) 0) ∧ Row w' (w.heap.size + 1) (List.replicate m 0) ∧
      Kept w w' (fun k => k = B) ∧ Below B w w' := by
  obtain ⟨m, hm, h1, h2⟩ := round_of n (by omega)
  have HM := Aside0.mk (round_calls (n : Int) (m : Int) w hm)
  have r1 : w.cell? ⟨B, 1, none⟩ = some (.slice none 0 0) := (blk_cell hB 1).trans rfl
  have r4 : w.cell? ⟨B, 4, none⟩ = some (.iface 41 (.agg #[])) := (blk_cell hB 4).trans rfl
  have hc := alloc_calls m (by omega) w
  have hd : decide ((n : Int) > 0) = true := by simp; omega
  obtain ⟨w2, hw2⟩ : ∃ w2, w2 = (w.alloc (.cells #[] 41)).alloc (zeros m) := ⟨_, rfl⟩
  rw [← hw2] at hc
  have hB2 : w2.heap[B]? = some (bufH (.slice none 0 0) 0) := by rw [hw2]; exact blk_alloc (blk_alloc hB _) _
  have hz : Row w2 (w.heap.size + 1) (List.replicate m 0) := by
    have := row_zeros (w.alloc (.cells #[] 41)) m
    rw [hw2]
    simpa using this
  have hk : Kept w w2 (fun k => k = B) := by rw [hw2]; exact ((Kept.refl w _).alloc _).alloc _
  have hb : Below B w w2 := by rw [hw2]; exact (below_alloc (below_alloc (Below.refl _ _) _) _).mono (Nat.le_of_lt (blk_lt hB))
  have HL := Aside0.mk (blk_lt hB)
  have HC := Aside0.mk hc
  have HB2 := Aside0.mk hB2
  have HZ := Aside0.mk hz
  have HK := Aside0.mk hk
  have HBB := Aside0.mk hb
  have s1 : w2.cell? ⟨B, 1, none⟩ = some (.slice none 0 0) := (blk_cell hB2 1).trans rfl
  have z1 : w2.frozen? ⟨B, 1, none⟩ = false := blk_frozen hB2 1
  clear hB hm hc hB2 hz hk hb hw2
  go_enter Try.func22, Try.ntmps22
  go_wp2_with (first | (go_at_call 23; refine HM.out.mono ?_; rintro e w1 ⟨rfl, hw1⟩; subst w1) | (go_at_call 43; refine HC.out.mono ?_; rintro e w1 ⟨rfl, hw1⟩; subst w1))
  go_end0
  refine ⟨rfl, m, h1, h2, ?_, ?_, ?_, ?_⟩
  · exact blk_set HB2.out 1 (.slice (some ⟨w.heap.size + 1, 0, none⟩) m m)
  · exact blk_far HZ.out (p := ⟨B, 1, none⟩) (by show w.heap.size + 1 ≠ B; have := HL.out; omega) _
  · exact HK.out.setCell (.inl rfl) _
  · exact Below.setCell (p := ⟨B, 1, none⟩) HBB.out (Nat.le_refl _) _
/-- What a resize of an empty buffer leaves. -/
def Sized (w w' : World) (B n : Nat) : Prop := (n = 0 ∧ w'.heap[B]? = some (bufH (.slice none 0 0) 0) ∨ 0 < n ∧ ∃ D m, w.heap.size ≤ D ∧ n ≤ m ∧ m < n + 64 ∧ w'.heap[B]? = some (bufH (.slice (some ⟨D, 0, none⟩) m m) n) ∧ Row w' D (List.replicate m 0)) ∧ Kept w w' (fun k => k = B) ∧ Below B w w'
set_option maxHeartbeats 1000000 in
set_option maxRecDepth 100000 in
theorem resize_calls (B n : Nat) (h : n ≤ 1073741824) (w : World) (hB : w.heap[B]? = some (bufH (.slice none 0 0) 0)) :
    Calls Try.prog 20 #[.pointer (some ⟨B, 0, none⟩), .int .i64 (n : Int), .bool true] w fun e w' => e = .returned (.tuple #[]) ∧ Sized w w' B n := by
  have r1 : w.cell? ⟨B, 1, none⟩ = some (.slice none 0 0) := (blk_cell hB 1).trans rfl
  have r2 : w.cell? ⟨B, 2, none⟩ = some (.int .i64 0) := (blk_cell hB 2).trans rfl
  have z2 : w.frozen? ⟨B, 2, none⟩ = false := blk_frozen hB 2
  by_cases c0 : n = 0
  · subst c0
    have hrd : memory_roundUpToMultipleOf64.f ((0 : Nat) : Int) = some 0 := by kernel_rfl
    have HM := Aside0.mk (round_calls 0 0 w hrd)
    have HB := Aside0.mk hB
    clear hB hrd
    go_enter Try.func20, Try.ntmps20
    go_wp2_with (first | (go_at_call 23; refine HM.out.mono ?_; rintro e w1 ⟨rfl, hw1⟩; subst w1))
    go_end0
    refine ⟨rfl, .inl ⟨rfl, ?_⟩, (Kept.refl w (fun k => k = B)).setCell (.inl rfl) _, Below.setCell (p := ⟨B, 2, none⟩) (Below.refl _ _) (Nat.le_refl _) _⟩
    exact blk_set HB.out 2 (.int .i64 0)
  · have HR := Aside0.mk (reserve_first B n h w (by omega) hB)
    have hd : decide ((n : Int) > 0) = true := by simp; omega
    have HL := Aside0.mk (blk_lt hB)
    clear hB
    go_enter Try.func20, Try.ntmps20
    go_wp2_with (first | (go_at_call 22; go_loud (refine HR.out.mono ?_; rintro e w1 ⟨rfl, m, m1, m2, m3, m4, m5, m6⟩; have r2 : w1.cell? ⟨B, 2, none⟩ = some (.int .i64 0) := (blk_cell m3 2).trans rfl; have z2 : w1.frozen? ⟨B, 2, none⟩ = false := blk_frozen m3 2; have M3 := Aside0.mk m3; have M4 := Aside0.mk m4; have M5 := Aside0.mk m5; have M6 := Aside0.mk m6; clear m3 m4 m5 m6)))
    go_end0
    refine ⟨rfl, .inr ⟨by omega, w.heap.size + 1, m, by omega, m1, m2, ?_, ?_⟩, M5.out.setCell (.inl rfl) _, Below.setCell (p := ⟨B, 2, none⟩) M6.out (Nat.le_refl _) _⟩
    · exact blk_set M3.out 2 (.int .i64 (n : Int))
    · exact blk_far M4.out (p := ⟨B, 2, none⟩) (by show w.heap.size + 1 ≠ B; have := HL.out; omega) _
set_option maxHeartbeats 1000000 in
set_option maxRecDepth 100000 in
theorem Resize_calls (B n : Nat) (h : n ≤ 1073741824) (w : World) (hB : w.heap[B]? = some (bufH (.slice none 0 0) 0)) :
    Calls Try.prog 17 #[.pointer (some ⟨B, 0, none⟩), .int .i64 (n : Int)] w fun e w' => e = .returned (.tuple #[]) ∧ Sized w w' B n := by
  have HR := Aside0.mk (resize_calls B n h w hB)
  clear hB
  go_enter Try.func17, Try.ntmps17
  go_wp2_with (first | (go_at_call 20; refine HR.out.mono ?_; rintro e w1 ⟨rfl, hs⟩; have S := Aside0.mk hs; clear hs))
  go_end0
  exact ⟨rfl, S.out⟩
end Go.Proofs.Ytgccaabpckfhlaa.Q
