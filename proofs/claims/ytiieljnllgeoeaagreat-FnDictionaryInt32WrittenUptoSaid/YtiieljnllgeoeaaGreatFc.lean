/- The writer over a buffer: reserved, written to. -/
import Derived.Test.YtiieljnllgeoeaaGreatFb
namespace Go.Proofs.YtiieljnllgeoeaaGreat.Q
open Go.RowKit Go.Proofs.YtiieljnllgeoeaaGreatW.PrintWords Go.Proofs.YtiieljnllgeoeaaGreatW.PrintLast Go.Proofs.YtiieljnllgeoeaaGreatW.PrintMore
set_option linter.unusedVariables false
set_option linter.unusedSimpArgs false
/-- A writer: its buffer, its place. -/
def sinkO (B : Nat) (pos : Nat) : Obj := .cells #[.pointer (some ⟨B, 0, none⟩), .int .i64 (pos : Int), .int .i64 0] 190 (0, 0)
structure Snk (w : World) (S B D : Nat) (l : List Int) (pos : Nat) (q : Int) (G : Nat) : Prop where
 s : w.heap[S]? = some (sinkO B pos)
 b : IsBuf w B D l q G
 le : pos ≤ l.length
 lo : 256 ≤ l.length
 hi : l.length ≤ 16777216

set_option maxHeartbeats 1000000 in
set_option maxRecDepth 100000 in
theorem buf_calls (B D : Nat) (l : List Int) (q : Int) (G : Nat) (w : World) (h : IsBuf w B D l q G) :
  Calls Tryz.prog 40 #[.pointer (some ⟨B, 0, none⟩)] w fun e w' => e = .returned (.slice (some ⟨D, 0, none⟩) l.length l.length) ∧ w' = w := by
 have r1 : w.cell? ⟨B, 1, none⟩ = some (.slice (some ⟨D, 0, none⟩) l.length l.length) := (blk_cell h.1 1).trans rfl
 clear h
 go_enter Tryz.func40, Tryz.ntmps40
 go_wp2
 go_ret
 exact ⟨rfl, rfl⟩
set_option maxHeartbeats 1000000 in
set_option maxRecDepth 100000 in
theorem cap_calls (B : Nat) (s : Option Addr) (n c : Nat) (q : Int) (G : Nat) (w : World) (h : w.heap[B]? = some (bufO (.slice s n c) q G)) :
  Calls Tryz.prog 105 #[.pointer (some ⟨B, 0, none⟩)] w fun e w' => e = .returned (.int .i64 (n : Int)) ∧ w' = w := by
 have r1 : w.cell? ⟨B, 1, none⟩ = some (.slice s n c) := (blk_cell h 1).trans rfl
 clear h
 go_enter Tryz.func105, Tryz.ntmps105
 go_wp2
 go_ret
 exact ⟨rfl, rfl⟩
set_option maxHeartbeats 1000000 in
set_option maxRecDepth 100000 in
theorem max_calls (n : Nat) (w : World) : Calls Tryz.prog 104 #[.int .i64 (n : Int), .int .i64 256] w fun e w' => e = .returned (.int .i64 ((max n 256 : Nat) : Int)) ∧ w' = w := by
 by_cases c : (n : Int) > 256
 ·have hd : decide ((n : Int) > 256) = true := decide_eq_true c
  have e : max n 256 = n := by omega
  rw [e]
  go_enter Tryz.func104, Tryz.ntmps104
  go_wp2
  go_ret
  exact ⟨rfl, rfl⟩
 ·have hd : decide ((n : Int) > 256) = false := decide_eq_false c
  have e : max n 256 = 256 := by omega
  rw [e]
  go_enter Tryz.func104, Tryz.ntmps104
  go_wp2
  go_ret
  exact ⟨rfl, rfl⟩

/-- What a reserve comes to. -/
def Grew (w w' : World) (S B D : Nat) (l : List Int) (pos : Nat) (q : Int) (G n : Nat) : Prop :=
 ∃ D' l', Snk w' S B D' l' pos q G ∧ pos + n ≤ l'.length ∧ (∃ k, l' = l ++ List.replicate k 0) ∧ (D' = D ∨ w.heap.size ≤ D') ∧ Kept w w' (fun k => k = B) ∧ Below B w w'

/-- A writer that has no buffer. -/
def sink0 (pos : Int) : Obj := .cells #[.pointer none, .int .i64 pos, .int .i64 0] 190 (0, 0)
theorem cells_three (w : World) (G : Nat) (S : Nat) (hS : w.heap[S]? = some (sink0 0)) :
  ∀ W, W = ((w.alloc (.cells #[] 175)).alloc (bufO (.slice none 0 0) 0 w.heap.size)) → W.heap[S]? = some (sink0 0) ∧ W.heap[w.heap.size + 1]? = some (bufO (.slice none 0 0) 0 w.heap.size) ∧ Below w.heap.size w W ∧ W.heap.size = w.heap.size + 2 := by
 rintro W rfl
 refine ⟨blk_alloc (blk_alloc hS _) _, ?_, below_alloc (below_alloc (Below.refl _ _) _) _, by simp⟩
 have h := blk_new (w.alloc (.cells #[] 175)) (bufO (.slice none 0 0) 0 w.heap.size)
 simpa using h
set_option maxHeartbeats 2000000 in
set_option maxRecDepth 100000 in
theorem reserve_new (S : Nat) (w : World) (h : w.heap[S]? = some (sink0 0)) :
  Calls Tryz.prog 89 #[.pointer (some ⟨S, 0, none⟩), .int .i64 1024] w fun e w' => e = .returned (.tuple #[]) ∧ ∃ B D l G, w.heap.size ≤ B ∧ w.heap.size ≤ D ∧ Snk w' S B D l 0 0 G ∧ (∃ k, l = List.replicate k 0) ∧ Kept w w' (fun k => k = S) ∧ Below S w w' := by
 have hS := blk_lt h
 have s0 : w.cell? ⟨S, 0, none⟩ = some (.pointer none) := (blk_cell h 0).trans rfl
 have HN := Aside0.mk (newbuf_calls w)
 obtain ⟨c1, c2, c3, c4⟩ := cells_three w 0 S h _ rfl
 generalize (w.alloc (.cells #[] 175)).alloc (bufO (.slice none 0 0) 0 w.heap.size) = w2 at HN c1 c2 c3 c4
 have t0 : w2.cell? ⟨S, 0, none⟩ = some (.pointer none) := (blk_cell c1 0).trans rfl
 have z0 : w2.frozen? ⟨S, 0, none⟩ = false := blk_frozen c1 0
 have d1 : (w2.setCell ⟨S, 0, none⟩ (.pointer (some ⟨w.heap.size + 1, 0, none⟩))).heap[S]? = some (sinkO (w.heap.size + 1) 0) := blk_set c1 0 _
 have d2 := blk_far c2 (p := ⟨S, 0, none⟩) (by show w.heap.size + 1 ≠ S; omega) (.pointer (some ⟨w.heap.size + 1, 0, none⟩))
 have d3 : Kept w (w2.setCell ⟨S, 0, none⟩ (.pointer (some ⟨w.heap.size + 1, 0, none⟩))) (fun k => k = S) := (Kept.of_below c3 (fun k => k = S)).setCell (.inl rfl) _
 have d4 : Below S w (w2.setCell ⟨S, 0, none⟩ (.pointer (some ⟨w.heap.size + 1, 0, none⟩))) := Below.setCell (p := ⟨S, 0, none⟩) (c3.mono (Nat.le_of_lt hS)) (Nat.le_refl _) _
 generalize hw3 : w2.setCell ⟨S, 0, none⟩ (.pointer (some ⟨w.heap.size + 1, 0, none⟩)) = w3 at d1 d2 d3 d4
 have u0 : w3.cell? ⟨S, 0, none⟩ = some (.pointer (some ⟨w.heap.size + 1, 0, none⟩)) := (blk_cell d1 0).trans rfl
 have u1 : w3.cell? ⟨S, 1, none⟩ = some (.int .i64 0) := (blk_cell d1 1).trans rfl
 have HP := Aside0.mk (show Calls Tryz.prog 105 #[.pointer (some ⟨w.heap.size + 1, 0, none⟩)] w3 fun e w' => e = .returned (.int .i64 0) ∧ w' = w3 from cap_calls (w.heap.size + 1) none 0 0 0 w.heap.size w3 d2)
 have HM := Aside0.mk (show Calls Tryz.prog 104 #[.int .i64 0, .int .i64 256] w3 fun e w' => e = .returned (.int .i64 256) ∧ w' = w3 from max_calls 0 w3)
 have HW := Aside0.mk (show Calls Tryz.prog 52 #[.int .i64 1024] w3 (Pow2 1024 w3) from pow2_calls 1024 w3 (by omega) (by omega))
 have HR := Aside0.mk (fun (r : Nat) (hr : 1024 < r ∧ r ≤ 2 * 1024) => reserve_first (w.heap.size + 1) r w.heap.size (by omega) w3 (by omega) d2)
 have D1 := Aside0.mk d1
 have D3 := Aside0.mk d3
 have D4 := Aside0.mk d4
 have HS := Aside0.mk hS
 clear h c1 c2 c3 c4 d1 d2 d3 d4 hS
 go_enter Tryz.func89, Tryz.ntmps89
 go_wp2_with (first | (go_at_call 36; refine HN.out.mono ?_; rintro e w1 ⟨rfl, hw1⟩; subst w1) | (go_at_call 105; refine HP.out.mono ?_; rintro e w1 ⟨rfl, hw1⟩; subst w1) | (go_at_call 104; refine HM.out.mono ?_; rintro e w1 ⟨rfl, hw1⟩; subst w1))
 refine wp_loop_rounds 2 ?_
 rw [rounds_succ]
 go_wp2_with (first | (go_at_call 52; refine HW.out.mono ?_; rintro e w1 ⟨r, rfl, hr1, hr2, hw1⟩; subst w1; have HRR := Aside0.mk (And.intro hr1 hr2); have hd2 : decide ((r : Int) < 1024) = false := by simp; omega))
 rw [rounds_succ]
 go_wp2_with (first | (go_at_call 37; refine (HR.out r HRR.out).mono ?_; rintro e w1 ⟨rfl, hw1⟩; have HE := Aside0.mk hw1; clear hw1))
 go_end0
 obtain ⟨m, m1, m2, m3, m4, m5⟩ := HE.out
 have hs := HS.out
 have h3 := D3.out.1
 have hr := HRR.out
 exact ⟨rfl, w.heap.size + 1, w3.heap.size, _, w.heap.size, by omega, h3, ⟨(m4.2 S (by omega) (by omega)).trans D1.out, m3, Nat.zero_le _, by simp; omega, by simp; omega⟩, ⟨_, rfl⟩, D3.out.then_ m4 (fun k hk => .inr (by omega)), D4.out.trans (m5.mono (by omega))⟩

set_option maxHeartbeats 2000000 in
set_option maxRecDepth 100000 in
theorem new_calls (w : World) : Calls Tryz.prog 71 #[.int .i64 1024] w fun e w' => e = .returned (.pointer (some ⟨w.heap.size, 0, none⟩)) ∧ ∃ B D l G, w.heap.size < B ∧ w.heap.size < D ∧ Snk w' w.heap.size B D l 0 0 G ∧ (∃ k, l = List.replicate k 0) ∧ Below w.heap.size w w' := by
 have hn := blk_new w (sink0 0)
 have hR := reserve_new w.heap.size (w.alloc (sink0 0)) hn
 have HR := Aside0.mk hR
 clear hn hR
 go_enter Tryz.func71, Tryz.ntmps71
 go_wp2_with (first | (go_at_call 89; refine HR.out.mono ?_; rintro e w1 ⟨rfl, hw1⟩; have HE := Aside0.mk hw1; clear hw1))
 go_ret
 obtain ⟨B, D, l, G, h1, h2, h3, hz, h4, h5⟩ := HE.out
 simp at h1 h2
 exact ⟨rfl, B, D, l, G, by omega, by omega, h3, hz, (below_alloc (Below.refl _ _) _).trans h5⟩

/-- Bytes that lie somewhere. -/
def Src (w : World) (a : Addr) (cs : List Int) : Prop := ∀ j, j < cs.length → w.cell? (a.add j) = some (.int .u8 (cs.getD j 0))
set_option maxRecDepth 100000 in
theorem sliceAt_b (D i n : Nat) (hi : i ≤ n) (hn : n ≤ 16777216) (W : World) : (Instr.sliceAt 23 (.slice (some ⟨D, 0, none⟩) n n) (some (.int .i64 (i : Int))) none none).run Tryz.prog W = .ok (.slice (some ⟨D, if n - i = 0 then 0 else i, none⟩) (n - i) (n - i)) W := by
 rw [run_sliceAt_slice W 23 _ _ _ _ Tryz.underlying23, run_slice_l W 23 (some ⟨D, 0, none⟩) n n Tryz.underlying23 .i64 (i : Int) (by omega) (by omega)]
 have hsz : (sizeOf (Tryz.prog.elem 23)).run Tryz.prog W = .ok 1 W := by kernel_rfl
 rw [hsz]
 simp only [Result.andThen, sliced, Int.toNat_natCast]
 by_cases c : n - i = 0
 ·rw [if_pos c, if_pos (by omega)]
 ·rw [if_neg c, if_neg (by omega)]
  simp [Addr.add]
  omega
end Go.Proofs.YtiieljnllgeoeaaGreat.Q
