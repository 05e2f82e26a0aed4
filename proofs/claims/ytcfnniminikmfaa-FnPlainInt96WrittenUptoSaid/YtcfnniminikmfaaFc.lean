/- The writer over a buffer: reserved, written to. -/
import Derived.Test.YtcfnniminikmfaaFb
namespace Go.Proofs.Ytcfnniminikmfaa.Q
open Go.RowKit Go.Proofs.YtcfnniminikmfaaW.PrintWords Go.Proofs.YtcfnniminikmfaaW.PrintLast Go.Proofs.YtcfnniminikmfaaW.PrintMore
set_option linter.unusedVariables false
set_option linter.unusedSimpArgs false
/-- A writer: its buffer, its place. -/
def sinkO (B : Nat) (pos : Nat) : Obj := .cells #[.pointer (some ⟨B, 0, none⟩), .int .i64 (pos : Int), .int .i64 0] 135 (0, 0)
structure Snk (w : World) (S B D : Nat) (l : List Int) (pos : Nat) (q : Int) (G : Nat) : Prop where
  s : w.heap[S]? = some (sinkO B pos)
  b : IsBuf w B D l q G
  le : pos ≤ l.length
  lo : 256 ≤ l.length
  hi : l.length ≤ 16777216

set_option maxHeartbeats 1000000 in
set_option maxRecDepth 100000 in
theorem buf_calls (B D : Nat) (l : List Int) (q : Int) (G : Nat) (w : World) (h : IsBuf w B D l q G) :
    Calls Try.prog 63 #[.pointer (some ⟨B, 0, none⟩)] w fun e w' => e = .returned (.slice (some ⟨D, 0, none⟩) l.length l.length) ∧ w' = w := by
  have r1 : w.cell? ⟨B, 1, none⟩ = some (.slice (some ⟨D, 0, none⟩) l.length l.length) := (blk_cell h.1 1).trans rfl
  clear h
  go_enter Try.func63, Try.ntmps63
  go_wp2
  go_ret
  exact ⟨rfl, rfl⟩
set_option maxHeartbeats 1000000 in
set_option maxRecDepth 100000 in
theorem cap_calls (B : Nat) (s : Option Addr) (n c : Nat) (q : Int) (G : Nat) (w : World) (h : w.heap[B]? = some (bufO (.slice s n c) q G)) :
    Calls Try.prog 78 #[.pointer (some ⟨B, 0, none⟩)] w fun e w' => e = .returned (.int .i64 (n : Int)) ∧ w' = w := by
  have r1 : w.cell? ⟨B, 1, none⟩ = some (.slice s n c) := (blk_cell h 1).trans rfl
  clear h
  go_enter Try.func78, Try.ntmps78
  go_wp2
  go_ret
  exact ⟨rfl, rfl⟩
set_option maxHeartbeats 1000000 in
set_option maxRecDepth 100000 in
theorem len_calls_b (B : Nat) (s : Value) (q : Int) (G : Nat) (w : World) (h : w.heap[B]? = some (bufO s q G)) :
    Calls Try.prog 69 #[.pointer (some ⟨B, 0, none⟩)] w fun e w' => e = .returned (.int .i64 q) ∧ w' = w := by
  have r1 : w.cell? ⟨B, 2, none⟩ = some (.int .i64 q) := (blk_cell h 2).trans rfl
  clear h
  go_enter Try.func69, Try.ntmps69
  go_wp2
  go_ret
  exact ⟨rfl, rfl⟩
set_option maxHeartbeats 1000000 in
set_option maxRecDepth 100000 in
theorem max_calls (n : Nat) (w : World) : Calls Try.prog 77 #[.int .i64 (n : Int), .int .i64 256] w fun e w' => e = .returned (.int .i64 ((max n 256 : Nat) : Int)) ∧ w' = w := by
  by_cases c : (n : Int) > 256
  · have hd : decide ((n : Int) > 256) = true := decide_eq_true c
    have e : max n 256 = n := by omega
    rw [e]
    go_enter Try.func77, Try.ntmps77
    go_wp2
    go_ret
    exact ⟨rfl, rfl⟩
  · have hd : decide ((n : Int) > 256) = false := decide_eq_false c
    have e : max n 256 = 256 := by omega
    rw [e]
    go_enter Try.func77, Try.ntmps77
    go_wp2
    go_ret
    exact ⟨rfl, rfl⟩

/-- What a reserve comes to. -/
def Grew (w w' : World) (S B D : Nat) (l : List Int) (pos : Nat) (q : Int) (G n : Nat) : Prop :=
  ∃ D' l', Snk w' S B D' l' pos q G ∧ pos + n ≤ l'.length ∧ l'.take pos = l.take pos ∧ (D' = D ∨ w.heap.size ≤ D') ∧ Kept w w' (fun k => k = B) ∧ Below B w w'

theorem bufne {w : World} {S B D : Nat} {l : List Int} {pos : Nat} {q : Int} {G : Nat} (h : Snk w S B D l pos q G) : S ≠ B ∧ S ≠ D ∧ B ≠ D :=
  ⟨blk_ne h.s h.b.1 (by decide), blk_ne h.s h.b.2 (by decide), blk_ne h.b.1 h.b.2 (by decide)⟩
set_option maxHeartbeats 1000000 in
set_option maxRecDepth 100000 in
theorem reserve_has (S B D : Nat) (l : List Int) (pos : Nat) (q : Int) (G n : Nat) (w : World) (h : Snk w S B D l pos q G) (hn : pos + n ≤ l.length) :
    Calls Try.prog 62 #[.pointer (some ⟨S, 0, none⟩), .int .i64 (n : Int)] w fun e w' => e = .returned (.tuple #[]) ∧ w' = w := by
  have h1 := h.lo; have h2 := h.hi
  have s0 : w.cell? ⟨S, 0, none⟩ = some (.pointer (some ⟨B, 0, none⟩)) := (blk_cell h.s 0).trans rfl
  have s1 : w.cell? ⟨S, 1, none⟩ = some (.int .i64 (pos : Int)) := (blk_cell h.s 1).trans rfl
  have HP := Aside0.mk (cap_calls B _ _ _ q G w h.b.1)
  have HM := Aside0.mk (show Calls Try.prog 77 #[.int .i64 (l.length : Int), .int .i64 256] w fun e w' => e = .returned (.int .i64 (l.length : Int)) ∧ w' = w by have := max_calls l.length w; rwa [show max l.length 256 = l.length by omega] at this)
  have HR := Aside0.mk (reserve_same B D l.length l q G (by omega) (by omega) w (Nat.le_refl _) h.b)
  have hd : decide ((l.length : Int) < (pos : Int) + (n : Int)) = false := by simp; omega
  clear h
  go_enter Try.func62, Try.ntmps62
  go_wp2_with (first | (go_at_call 78; refine HP.out.mono ?_; rintro e w1 ⟨rfl, hw1⟩; subst w1) | (go_at_call 77; refine HM.out.mono ?_; rintro e w1 ⟨rfl, hw1⟩; subst w1) | (go_at_call 80; refine HR.out.mono ?_; rintro e w1 ⟨rfl, hw1⟩; subst w1))
  refine wp_loop_rounds 1 ?_
  rw [rounds_succ]
  go_wp2_with (first | (go_at_call 80; refine HR.out.mono ?_; rintro e w1 ⟨rfl, hw1⟩; subst w1))
  go_end0
  exact ⟨rfl, rfl⟩

set_option maxHeartbeats 2000000 in
set_option maxRecDepth 100000 in
theorem reserve_more (S B D : Nat) (l : List Int) (pos : Nat) (q : Int) (G n : Nat) (w : World) (h : Snk w S B D l pos q G) (hn : l.length < pos + n) (hb : pos + n ≤ 4194304) :
    Calls Try.prog 62 #[.pointer (some ⟨S, 0, none⟩), .int .i64 (n : Int)] w fun e w' => e = .returned (.tuple #[]) ∧ ∃ m, pos + n < m ∧ m ≤ 8388700 ∧ IsBuf w' B w.heap.size (l ++ List.replicate (m - l.length) 0) q G ∧ Kept w w' (fun k => k = B) ∧ Below B w w' := by
  have h1 := h.lo; have h2 := h.hi
  have s0 : w.cell? ⟨S, 0, none⟩ = some (.pointer (some ⟨B, 0, none⟩)) := (blk_cell h.s 0).trans rfl
  have s1 : w.cell? ⟨S, 1, none⟩ = some (.int .i64 (pos : Int)) := (blk_cell h.s 1).trans rfl
  have HP := Aside0.mk (cap_calls B _ _ _ q G w h.b.1)
  have HM := Aside0.mk (show Calls Try.prog 77 #[.int .i64 (l.length : Int), .int .i64 256] w fun e w' => e = .returned (.int .i64 (l.length : Int)) ∧ w' = w by have := max_calls l.length w; rwa [show max l.length 256 = l.length by omega] at this)
  have HR := Aside0.mk (fun (r : Nat) (hr : pos + n < r ∧ r ≤ 2 * (pos + n)) => reserve_grow B D r l q G (by omega) w (by omega) (by omega) h.b)
  have hw := pow2_calls (pos + n) w (by omega) (by omega)
  rw [show ((pos + n : Nat) : Int) = (pos : Int) + (n : Int) by omega] at hw
  have HW := Aside0.mk hw
  clear hw
  have hd : decide ((l.length : Int) < (pos : Int) + (n : Int)) = true := by simp; omega
  clear h
  go_enter Try.func62, Try.ntmps62
  go_wp2_with (first | (go_at_call 78; refine HP.out.mono ?_; rintro e w1 ⟨rfl, hw1⟩; subst w1) | (go_at_call 77; refine HM.out.mono ?_; rintro e w1 ⟨rfl, hw1⟩; subst w1))
  refine wp_loop_rounds 2 ?_
  rw [rounds_succ]
  go_wp2_with (first | (go_at_call 79; refine HW.out.mono ?_; rintro e w1 ⟨r, rfl, hr1, hr2, hw1⟩; subst w1; have HRR := Aside0.mk (And.intro hr1 hr2); have hd2 : decide ((r : Int) < (pos : Int) + (n : Int)) = false := by simp; omega))
  rw [rounds_succ]
  go_wp2_with (first | (go_at_call 80; refine (HR.out r HRR.out).mono ?_; rintro e w1 ⟨rfl, hw1⟩; have HE := Aside0.mk hw1; clear hw1))
  go_end0
  obtain ⟨m, m1, m2, m3, m4, m5⟩ := HE.out
  have := HRR.out
  exact ⟨rfl, m, by omega, by omega, m3, m4, m5⟩

theorem reserve_any (S B D : Nat) (l : List Int) (pos : Nat) (q : Int) (G n : Nat) (w : World) (h : Snk w S B D l pos q G) (hb : pos + n ≤ 4194304) :
    Calls Try.prog 62 #[.pointer (some ⟨S, 0, none⟩), .int .i64 (n : Int)] w fun e w' => e = .returned (.tuple #[]) ∧ Grew w w' S B D l pos q G n := by
  have hne := bufne h
  have hlo := h.lo
  have hle := h.le
  by_cases c : pos + n ≤ l.length
  · refine (reserve_has S B D l pos q G n w h c).mono ?_
    rintro e w' ⟨rfl, rfl⟩
    exact ⟨rfl, D, l, h, c, rfl, .inl rfl, Kept.refl _ _, Below.refl _ _⟩
  · refine (reserve_more S B D l pos q G n w h (by omega) hb).mono ?_
    rintro e w' ⟨rfl, m, m1, m2, m3, m4, m5⟩
    have hl : (l ++ List.replicate (m - l.length) (0 : Int)).length = m := by simp; omega
    refine ⟨rfl, w.heap.size, _, ⟨(m4.2 S (blk_lt h.s) (by omega)).trans h.s, m3, by omega, by omega, by omega⟩, by omega, ?_, .inr (Nat.le_refl _), m4, m5⟩
    rw [List.take_append_of_le_length (by omega)]

/-- A writer that has no buffer. -/
def sink0 (pos : Int) : Obj := .cells #[.pointer none, .int .i64 pos, .int .i64 0] 135 (0, 0)
theorem cells_three (w : World) (G : Nat) (S : Nat) (hS : w.heap[S]? = some (sink0 0)) :
    ∀ W, W = ((w.alloc (.cells #[] 176)).alloc (bufO (.slice none 0 0) 0 w.heap.size)) → W.heap[S]? = some (sink0 0) ∧ W.heap[w.heap.size + 1]? = some (bufO (.slice none 0 0) 0 w.heap.size) ∧ Below w.heap.size w W ∧ W.heap.size = w.heap.size + 2 := by
  rintro W rfl
  refine ⟨blk_alloc (blk_alloc hS _) _, ?_, below_alloc (below_alloc (Below.refl _ _) _) _, by simp⟩
  have h := blk_new (w.alloc (.cells #[] 176)) (bufO (.slice none 0 0) 0 w.heap.size)
  simpa using h
set_option maxHeartbeats 2000000 in
set_option maxRecDepth 100000 in
theorem reserve_new0 (S : Nat) (w : World) (h : w.heap[S]? = some (sink0 0)) :
    Calls Try.prog 62 #[.pointer (some ⟨S, 0, none⟩), .int .i64 0] w fun e w' => e = .returned (.tuple #[]) ∧ Kept w w' (fun k => k = S) ∧ Below S w w' := by
  have hS := blk_lt h
  have s0 : w.cell? ⟨S, 0, none⟩ = some (.pointer none) := (blk_cell h 0).trans rfl
  have HN := Aside0.mk (newbuf_calls w)
  obtain ⟨c1, c2, c3, c4⟩ := cells_three w 0 S h _ rfl
  generalize (w.alloc (.cells #[] 176)).alloc (bufO (.slice none 0 0) 0 w.heap.size) = w2 at HN c1 c2 c3 c4
  have t0 : w2.cell? ⟨S, 0, none⟩ = some (.pointer none) := (blk_cell c1 0).trans rfl
  have z0 : w2.frozen? ⟨S, 0, none⟩ = false := blk_frozen c1 0
  have d1 : (w2.setCell ⟨S, 0, none⟩ (.pointer (some ⟨w.heap.size + 1, 0, none⟩))).heap[S]? = some (sinkO (w.heap.size + 1) 0) := blk_set c1 0 _
  have d2 := blk_far c2 (p := ⟨S, 0, none⟩) (by show w.heap.size + 1 ≠ S; omega) (.pointer (some ⟨w.heap.size + 1, 0, none⟩))
  have d3 : Kept w (w2.setCell ⟨S, 0, none⟩ (.pointer (some ⟨w.heap.size + 1, 0, none⟩))) (fun k => k = S) := (Kept.of_below c3 (fun k => k = S)).setCell (.inl rfl) _
  have d4 : Below S w (w2.setCell ⟨S, 0, none⟩ (.pointer (some ⟨w.heap.size + 1, 0, none⟩))) := Below.setCell (p := ⟨S, 0, none⟩) (c3.mono (Nat.le_of_lt hS)) (Nat.le_refl _) _
  generalize hw3 : w2.setCell ⟨S, 0, none⟩ (.pointer (some ⟨w.heap.size + 1, 0, none⟩)) = w3 at d1 d2 d3 d4
  have u0 : w3.cell? ⟨S, 0, none⟩ = some (.pointer (some ⟨w.heap.size + 1, 0, none⟩)) := (blk_cell d1 0).trans rfl
  have u1 : w3.cell? ⟨S, 1, none⟩ = some (.int .i64 0) := (blk_cell d1 1).trans rfl
  have HP := Aside0.mk (show Calls Try.prog 78 #[.pointer (some ⟨w.heap.size + 1, 0, none⟩)] w3 fun e w' => e = .returned (.int .i64 0) ∧ w' = w3 from cap_calls (w.heap.size + 1) none 0 0 0 w.heap.size w3 d2)
  have HM := Aside0.mk (show Calls Try.prog 77 #[.int .i64 0, .int .i64 256] w3 fun e w' => e = .returned (.int .i64 256) ∧ w' = w3 from max_calls 0 w3)
  have HR := Aside0.mk (reserve_first (w.heap.size + 1) 256 w.heap.size (by omega) w3 (by omega) d2)
  have D1 := Aside0.mk d1
  have D3 := Aside0.mk d3
  have D4 := Aside0.mk d4
  have HS := Aside0.mk hS
  clear h c1 c2 c3 c4 d1 d2 d3 d4 hS
  go_enter Try.func62, Try.ntmps62
  go_wp2_with (first | (go_at_call 76; refine HN.out.mono ?_; rintro e w1 ⟨rfl, hw1⟩; subst w1) | (go_at_call 78; refine HP.out.mono ?_; rintro e w1 ⟨rfl, hw1⟩; subst w1) | (go_at_call 77; refine HM.out.mono ?_; rintro e w1 ⟨rfl, hw1⟩; subst w1))
  refine wp_loop_rounds 1 ?_
  rw [rounds_succ]
  go_wp2_with (first | (go_at_call 80; refine HR.out.mono ?_; rintro e w1 ⟨rfl, hw1⟩; have HE := Aside0.mk hw1; clear hw1))
  go_end0
  obtain ⟨m, m1, m2, m3, m4, m5⟩ := HE.out
  have hs := HS.out
  have h3 := D3.out.1
  exact ⟨rfl, D3.out.then_ m4 (fun k hk => .inr (by omega)), D4.out.trans (m5.mono (by omega))⟩
set_option maxHeartbeats 2000000 in
set_option maxRecDepth 100000 in
theorem reserve_new (S : Nat) (w : World) (h : w.heap[S]? = some (sink0 0)) :
    Calls Try.prog 62 #[.pointer (some ⟨S, 0, none⟩), .int .i64 1024] w fun e w' => e = .returned (.tuple #[]) ∧ ∃ B D l G, w.heap.size ≤ B ∧ w.heap.size ≤ D ∧ Snk w' S B D l 0 0 G ∧ Kept w w' (fun k => k = S) ∧ Below S w w' := by
  have hS := blk_lt h
  have s0 : w.cell? ⟨S, 0, none⟩ = some (.pointer none) := (blk_cell h 0).trans rfl
  have HN := Aside0.mk (newbuf_calls w)
  obtain ⟨c1, c2, c3, c4⟩ := cells_three w 0 S h _ rfl
  generalize (w.alloc (.cells #[] 176)).alloc (bufO (.slice none 0 0) 0 w.heap.size) = w2 at HN c1 c2 c3 c4
  have t0 : w2.cell? ⟨S, 0, none⟩ = some (.pointer none) := (blk_cell c1 0).trans rfl
  have z0 : w2.frozen? ⟨S, 0, none⟩ = false := blk_frozen c1 0
  have d1 : (w2.setCell ⟨S, 0, none⟩ (.pointer (some ⟨w.heap.size + 1, 0, none⟩))).heap[S]? = some (sinkO (w.heap.size + 1) 0) := blk_set c1 0 _
  have d2 := blk_far c2 (p := ⟨S, 0, none⟩) (by show w.heap.size + 1 ≠ S; omega) (.pointer (some ⟨w.heap.size + 1, 0, none⟩))
  have d3 : Kept w (w2.setCell ⟨S, 0, none⟩ (.pointer (some ⟨w.heap.size + 1, 0, none⟩))) (fun k => k = S) := (Kept.of_below c3 (fun k => k = S)).setCell (.inl rfl) _
  have d4 : Below S w (w2.setCell ⟨S, 0, none⟩ (.pointer (some ⟨w.heap.size + 1, 0, none⟩))) := Below.setCell (p := ⟨S, 0, none⟩) (c3.mono (Nat.le_of_lt hS)) (Nat.le_refl _) _
  generalize hw3 : w2.setCell ⟨S, 0, none⟩ (.pointer (some ⟨w.heap.size + 1, 0, none⟩)) = w3 at d1 d2 d3 d4
  have u0 : w3.cell? ⟨S, 0, none⟩ = some (.pointer (some ⟨w.heap.size + 1, 0, none⟩)) := (blk_cell d1 0).trans rfl
  have u1 : w3.cell? ⟨S, 1, none⟩ = some (.int .i64 0) := (blk_cell d1 1).trans rfl
  have HP := Aside0.mk (show Calls Try.prog 78 #[.pointer (some ⟨w.heap.size + 1, 0, none⟩)] w3 fun e w' => e = .returned (.int .i64 0) ∧ w' = w3 from cap_calls (w.heap.size + 1) none 0 0 0 w.heap.size w3 d2)
  have HM := Aside0.mk (show Calls Try.prog 77 #[.int .i64 0, .int .i64 256] w3 fun e w' => e = .returned (.int .i64 256) ∧ w' = w3 from max_calls 0 w3)
  have HW := Aside0.mk (show Calls Try.prog 79 #[.int .i64 1024] w3 (Pow2 1024 w3) from pow2_calls 1024 w3 (by omega) (by omega))
  have HR := Aside0.mk (fun (r : Nat) (hr : 1024 < r ∧ r ≤ 2 * 1024) => reserve_first (w.heap.size + 1) r w.heap.size (by omega) w3 (by omega) d2)
  have D1 := Aside0.mk d1
  have D3 := Aside0.mk d3
  have D4 := Aside0.mk d4
  have HS := Aside0.mk hS
  clear h c1 c2 c3 c4 d1 d2 d3 d4 hS
  go_enter Try.func62, Try.ntmps62
  go_wp2_with (first | (go_at_call 76; refine HN.out.mono ?_; rintro e w1 ⟨rfl, hw1⟩; subst w1) | (go_at_call 78; refine HP.out.mono ?_; rintro e w1 ⟨rfl, hw1⟩; subst w1) | (go_at_call 77; refine HM.out.mono ?_; rintro e w1 ⟨rfl, hw1⟩; subst w1))
  refine wp_loop_rounds 2 ?_
  rw [rounds_succ]
  go_wp2_with (first | (go_at_call 79; refine HW.out.mono ?_; rintro e w1 ⟨r, rfl, hr1, hr2, hw1⟩; subst w1; have HRR := Aside0.mk (And.intro hr1 hr2); have hd2 : decide ((r : Int) < 1024) = false := by simp; omega))
  rw [rounds_succ]
  go_wp2_with (first | (go_at_call 80; refine (HR.out r HRR.out).mono ?_; rintro e w1 ⟨rfl, hw1⟩; have HE := Aside0.mk hw1; clear hw1))
  go_end0
  obtain ⟨m, m1, m2, m3, m4, m5⟩ := HE.out
  have hs := HS.out
  have h3 := D3.out.1
  have hr := HRR.out
  exact ⟨rfl, w.heap.size + 1, w3.heap.size, _, w.heap.size, by omega, h3, ⟨(m4.2 S (by omega) (by omega)).trans D1.out, m3, Nat.zero_le _, by simp; omega, by simp; omega⟩, D3.out.then_ m4 (fun k hk => .inr (by omega)), D4.out.trans (m5.mono (by omega))⟩

set_option maxHeartbeats 2000000 in
set_option maxRecDepth 100000 in
theorem new_calls (w : World) : Calls Try.prog 66 #[.int .i64 1024] w fun e w' => e = .returned (.pointer (some ⟨w.heap.size, 0, none⟩)) ∧ ∃ B D l G, w.heap.size < B ∧ w.heap.size < D ∧ Snk w' w.heap.size B D l 0 0 G ∧ Below w.heap.size w w' := by
  have hn := blk_new w (sink0 0)
  have hR := reserve_new w.heap.size (w.alloc (sink0 0)) hn
  have HR := Aside0.mk hR
  clear hn hR
  go_enter Try.func66, Try.ntmps66
  go_wp2_with (first | (go_at_call 62; refine HR.out.mono ?_; rintro e w1 ⟨rfl, hw1⟩; have HE := Aside0.mk hw1; clear hw1))
  go_ret
  obtain ⟨B, D, l, G, h1, h2, h3, h4, h5⟩ := HE.out
  simp at h1 h2
  exact ⟨rfl, B, D, l, G, by omega, by omega, h3, (below_alloc (Below.refl _ _) _).trans h5⟩

/-- Bytes that lie somewhere. -/
def Src (w : World) (a : Addr) (cs : List Int) : Prop := ∀ j, j < cs.length → w.cell? (a.add j) = some (.int .u8 (cs.getD j 0))
set_option maxRecDepth 100000 in
theorem sliceAt_b (D i n : Nat) (hi : i ≤ n) (hn : n ≤ 16777216) (W : World) : (Instr.sliceAt 23 (.slice (some ⟨D, 0, none⟩) n n) (some (.int .i64 (i : Int))) none none).run Try.prog W = .ok (.slice (some ⟨D, if n - i = 0 then 0 else i, none⟩) (n - i) (n - i)) W := by
  rw [run_sliceAt_slice W 23 _ _ _ _ Try.underlying23, run_slice_l W 23 (some ⟨D, 0, none⟩) n n Try.underlying23 .i64 (i : Int) (by omega) (by omega)]
  have hsz : (sizeOf (Try.prog.elem 23)).run Try.prog W = .ok 1 W := by kernel_rfl
  rw [hsz]
  simp only [Result.andThen, sliced, Int.toNat_natCast]
  by_cases c : n - i = 0
  · rw [if_pos c, if_pos (by omega)]
  · rw [if_neg c, if_neg (by omega)]
    simp [Addr.add]
    omega
set_option maxHeartbeats 2000000 in
set_option maxRecDepth 100000 in
theorem unsafe_calls (S B D : Nat) (l : List Int) (pos : Nat) (q : Int) (G : Nat) (a : Addr) (c : Nat) (cs : List Int) (w : World) (h : Snk w S B D l pos q G) (hn : pos + cs.length ≤ l.length) (h0 : 0 < cs.length) (hs : Src w a cs) :
    Calls Try.prog 65 #[.pointer (some ⟨S, 0, none⟩), .slice (some a) cs.length c] w fun e w' => e = .returned (.tuple #[.int .i64 (cs.length : Int), .nilIface]) ∧ ∃ l', Snk w' S B D l' (pos + cs.length) q G ∧ l'.take (pos + cs.length) = l.take pos ++ cs ∧ Kept w w' (fun k => k = S ∨ k = B ∨ k = D) ∧ Below (min S D) w w' := by
  have hlo := h.lo; have hhi := h.hi
  have s0 : w.cell? ⟨S, 0, none⟩ = some (.pointer (some ⟨B, 0, none⟩)) := (blk_cell h.s 0).trans rfl
  have s1 : w.cell? ⟨S, 1, none⟩ = some (.int .i64 (pos : Int)) := (blk_cell h.s 1).trans rfl
  have HQ := Aside0.mk (buf_calls B D l q G w.drew h.b)
  have hsl := sliceAt_b D pos l.length (by omega) hhi
  rw [if_neg (by omega)] at hsl
  obtain ⟨w3, hcp, e1, e2, e3, e4⟩ := copy_bytes w.drew D pos (l.length - pos) (l.length - pos) a cs.length c l cs h.b.2 (by show _ = min _ _; omega) hs hn
  obtain ⟨n1, n2, n3⟩ := bufne h
  have f1 := (e3 S n2).trans h.s
  have f2 := (e3 B n3).trans h.b.1
  have f3 : w3.cell? ⟨S, 1, none⟩ = some (.int .i64 (pos : Int)) := (blk_cell f1 1).trans rfl
  have f4 : w3.frozen? ⟨S, 1, none⟩ = false := blk_frozen f1 1
  have F1 := Aside0.mk f1
  have F2 := Aside0.mk f2
  have E1 := Aside0.mk e1
  have E2 := Aside0.mk e2
  have E3 := Aside0.mk e3
  have E4 := Aside0.mk e4
  have H := Aside0.mk h
  have NE := Aside0.mk (And.intro n1 (And.intro n2 n3))
  clear h hs f1 f2 e1 e2 e3 e4 n1 n2 n3
  go_enter Try.func65, Try.ntmps65
  go_wp2
  go_still_tail 11, (by kernel_rfl)
  still_call HQ.out
  repeat still_step
  try refine wpStill_nil ?_
  change wpList _ _ _ _ _ w.drew
  go_wp2
  go_ret2
  obtain ⟨n1, n2, n3⟩ := NE.out
  have hh := H.out
  have hle := hh.le
  have hlen : (l.take pos ++ cs ++ l.drop (pos + cs.length)).length = l.length := by simp; omega
  refine ⟨rfl, l.take pos ++ cs ++ l.drop (pos + cs.length), ⟨?_, ⟨?_, ?_⟩, by omega, by omega, by omega⟩, ?_, ?_, ?_⟩
  · have := blk_set F1.out 1 (.int .i64 ((pos : Int) + (cs.length : Int)))
    exact this
  · rw [hlen]
    exact blk_far F2.out (p := ⟨S, 1, none⟩) (by show B ≠ S; omega) _
  · exact blk_far E1.out (p := ⟨S, 1, none⟩) (by show D ≠ S; omega) _
  · rw [List.take_append_of_le_length (by simp; omega), List.take_of_length_le (by simp; omega)]
  · have k1 : Kept w w3 (fun k => k = S ∨ k = B ∨ k = D) := ⟨by rw [E2.out]; exact Nat.le_refl _, fun k hk hn => E3.out k (by omega)⟩
    exact k1.setCell (.inl (.inl rfl)) _
  · exact Below.setCell (p := ⟨S, 1, none⟩) (((below_drew (Below.refl D w)).trans E4.out).mono (Nat.min_le_right _ _)) (Nat.min_le_left _ _) _

end Go.Proofs.Ytcfnniminikmfaa.Q
