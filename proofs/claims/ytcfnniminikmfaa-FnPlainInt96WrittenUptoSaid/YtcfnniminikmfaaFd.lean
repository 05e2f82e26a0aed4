/- The encoder: made, appended to, flushed. -/
import Derived.Test.YtcfnniminikmfaaFc
import Derived.Outline
namespace Go.Proofs.Ytcfnniminikmfaa.Q
open Go.RowKit Go.Proofs.YtcfnniminikmfaaW.PrintWords Go.Proofs.YtcfnniminikmfaaW.PrintLast Go.Proofs.YtcfnniminikmfaaW.PrintMore
set_option linter.unusedVariables false
set_option linter.unusedSimpArgs false
/-- What is written. -/
def Wrote (w w' : World) (S B D : Nat) (l : List Int) (pos : Nat) (q : Int) (G : Nat) (cs : List Int) : Prop :=
  ∃ D' l', Snk w' S B D' l' (pos + cs.length) q G ∧ l'.take (pos + cs.length) = l.take pos ++ cs ∧ (D' = D ∨ w.heap.size ≤ D') ∧ Kept w w' (fun k => k = S ∨ k = B ∨ k = D) ∧ Below (min S (min B D)) w w'
/-- Bytes that stay what they are, whatever becomes of the writer. -/
def Lies (w : World) (S B D : Nat) (A : Option Addr) (cs : List Int) : Prop := 0 < cs.length → ∃ a, A = some a ∧ ∀ W, Kept w W (fun k => k = S ∨ k = B ∨ k = D) → Src W a cs
set_option maxHeartbeats 2000000 in
set_option maxRecDepth 100000 in
theorem write_calls (S B D : Nat) (l : List Int) (pos : Nat) (q : Int) (G : Nat) (A : Option Addr) (c : Nat) (cs : List Int) (w : World) (h : Snk w S B D l pos q G) (hb : pos + cs.length ≤ 4194304) (hs : Lies w S B D A cs) :
    Calls Try.prog 81 #[.pointer (some ⟨S, 0, none⟩), .slice A cs.length c] w fun e w' => (∃ n, e = .returned (.tuple #[.int .i64 n, .nilIface])) ∧ Wrote w w' S B D l pos q G cs := by
  by_cases c0 : cs.length = 0
  · have hz : cs = [] := List.eq_nil_of_length_eq_zero c0
    subst hz
    have H := Aside0.mk h
    clear h hs
    go_enter Try.func81, Try.ntmps81
    go_wp2
    go_ret2
    have hh := H.out
    exact ⟨⟨_, rfl⟩, D, l, hh, by simp, .inl rfl, Kept.refl _ _, Below.refl _ _⟩
  · obtain ⟨a, rfl, hsrc⟩ := hs (by omega)
    have hd : decide ((cs.length : Int) = 0) = false := by simpa using c0
    have HR := Aside0.mk (reserve_any S B D l pos q G cs.length w h hb)
    have HU := Aside0.mk (fun D' l' W (hW : Snk W S B D' l' pos q G) hn hs => unsafe_calls S B D' l' pos q G a c cs W hW hn (by omega) hs)
    have HS := Aside0.mk hsrc
    have HL := Aside0.mk (And.intro (blk_lt h.s) (And.intro (blk_lt h.b.1) (blk_lt h.b.2)))
    clear h hs hsrc
    go_enter Try.func81, Try.ntmps81
    go_wp2_with (first | (go_at_call 62; refine HR.out.mono ?_; rintro e w1 ⟨rfl, D1, l1, g1, g2, g3, g4, g5, g6⟩; have G3 := Aside0.mk g3; have G4 := Aside0.mk g4; have G5 := Aside0.mk g5; have G6 := Aside0.mk g6; have HU1 := Aside0.mk (HU.out D1 l1 w1 g1 g2 (HS.out w1 (g5.mono (fun k hk => .inr (.inl hk))))); clear g1 g2 g3 g4 g5 g6) | (go_at_call 65; refine HU1.out.mono ?_; rintro e w2 ⟨rfl, hw2⟩; have HE := Aside0.mk hw2; clear hw2))
    go_ret2
    refine ⟨⟨_, rfl⟩, ?_⟩
    obtain ⟨l2, f1, f2, f3, f4⟩ := HE.out
    obtain ⟨b1, b2, b3⟩ := HL.out
    have g5 := G5.out
    refine ⟨D1, l2, f1, by rw [f2, G3.out], G4.out, ?_, ?_⟩
    · refine (g5.mono (fun k hk => .inr (.inl hk))).then_ f3 (fun k hk => ?_)
      rcases hk with hk | hk | hk
      · exact .inl (.inl hk)
      · exact .inl (.inr (.inl hk))
      · rcases G4.out with e | e
        · exact .inl (.inr (.inr (hk.trans e)))
        · exact .inr (hk ▸ e)
    · refine (G6.out.mono (by omega)).trans (f4.mono ?_)
      rcases G4.out with e | e <;> omega

set_option maxHeartbeats 2000000 in
set_option maxRecDepth 100000 in
/-- An encoder: its allocator, its writer. -/
theorem base_calls (w : World) : Calls Try.prog 47 #[.iface 48 (.agg #[])] w fun e w' => e = .returned (.agg #[.iface 48 (.agg #[]), .pointer (some ⟨w.heap.size + 1, 0, none⟩), .int .i64 0]) ∧
    ∃ B D l G, w.heap.size + 1 < B ∧ w.heap.size + 1 < D ∧ Snk w' (w.heap.size + 1) B D l 0 0 G ∧ Below w.heap.size w w' := by
  have hn := new_calls (w.alloc (.cells #[.nilIface, .pointer none, .int .i64 0] 63))
  have h0 := blk_new w (.cells #[.nilIface, .pointer none, .int .i64 0] 63)
  have hb0 : Below w.heap.size w (w.alloc (.cells #[.nilIface, .pointer none, .int .i64 0] 63)) := below_alloc (Below.refl _ _) _
  have hsz : (w.alloc (.cells #[.nilIface, .pointer none, .int .i64 0] 63)).heap.size = w.heap.size + 1 := by simp
  have H0 := Aside0.mk h0
  have HB0 := Aside0.mk hb0
  have HSZ := Aside0.mk hsz
  rw [hsz] at hn
  have HN := Aside0.mk hn
  clear hn h0 hb0 hsz
  go_enter Try.func47, Try.ntmps47
  go_wp2_with (first | (go_at_call 66; go_loud (refine HN.out.mono ?_; rintro e w1 ⟨rfl, B, D, l, G, g1, g2, g3, g4⟩; have hh := (g4.block w.heap.size (Nat.lt_succ_self _)).trans H0.out; have c0 : w1.cell? ⟨w.heap.size, 0, none⟩ = some .nilIface := (blk_cell hh 0).trans rfl; have c1 : w1.cell? ⟨w.heap.size, 1, none⟩ = some (.pointer none) := (blk_cell hh 1).trans rfl; have c2 : w1.cell? ⟨w.heap.size, 2, none⟩ = some (.int .i64 0) := (blk_cell hh 2).trans rfl; have z0 := blk_frozen hh 0; have z1 := blk_frozen hh 1; have z2 := blk_frozen hh 2; have HH := Aside0.mk hh; have G1 := Aside0.mk (And.intro g1 g2); have G3 := Aside0.mk g3; have G4 := Aside0.mk g4; clear g1 g2 g3 g4 hh)))
  have f := blk_set (blk_set (blk_set HH.out 0 (.iface 48 (.agg #[]))) 1 (.pointer (some ⟨w.heap.size + 1, 0, none⟩))) 2 (.int .i64 0)
  have gb : Below w.heap.size w (((w1.setCell ⟨w.heap.size, 0, none⟩ (.iface 48 (.agg #[]))).setCell ⟨w.heap.size, 1, none⟩ (.pointer (some ⟨w.heap.size + 1, 0, none⟩))).setCell ⟨w.heap.size, 2, none⟩ (.int .i64 0)) :=
    below_set (below_set (below_set (HB0.out.trans (G4.out.mono (Nat.le_succ _))) (Nat.le_refl _)) (Nat.le_refl _)) (Nat.le_refl _)
  have g3 := G3.out
  have gs : Snk (((w1.setCell ⟨w.heap.size, 0, none⟩ (.iface 48 (.agg #[]))).setCell ⟨w.heap.size, 1, none⟩ (.pointer (some ⟨w.heap.size + 1, 0, none⟩))).setCell ⟨w.heap.size, 2, none⟩ (.int .i64 0)) (w.heap.size + 1) B D l 0 0 G := by
    obtain ⟨b1, b2⟩ := G1.out
    refine ⟨?_, ⟨?_, ?_⟩, g3.le, g3.lo, g3.hi⟩
    · exact blk_far (blk_far (blk_far g3.s (p := ⟨w.heap.size, 0, none⟩) (Nat.ne_of_gt (Nat.lt_succ_self _)) _) (p := ⟨w.heap.size, 1, none⟩) (Nat.ne_of_gt (Nat.lt_succ_self _)) _) (p := ⟨w.heap.size, 2, none⟩) (Nat.ne_of_gt (Nat.lt_succ_self _)) _
    · exact blk_far (blk_far (blk_far g3.b.1 (p := ⟨w.heap.size, 0, none⟩) (show B ≠ w.heap.size by omega) _) (p := ⟨w.heap.size, 1, none⟩) (show B ≠ w.heap.size by omega) _) (p := ⟨w.heap.size, 2, none⟩) (show B ≠ w.heap.size by omega) _
    · exact blk_far (blk_far (blk_far g3.b.2 (p := ⟨w.heap.size, 0, none⟩) (show D ≠ w.heap.size by omega) _) (p := ⟨w.heap.size, 1, none⟩) (show D ≠ w.heap.size by omega) _) (p := ⟨w.heap.size, 2, none⟩) (show D ≠ w.heap.size by omega) _
  generalize ((w1.setCell ⟨w.heap.size, 0, none⟩ (.iface 48 (.agg #[]))).setCell ⟨w.heap.size, 1, none⟩ (.pointer (some ⟨w.heap.size + 1, 0, none⟩))).setCell ⟨w.heap.size, 2, none⟩ (.int .i64 0) = W at f gb gs ⊢
  have y0 : W.cell? ⟨w.heap.size, 0, none⟩ = some (.iface 48 (.agg #[])) := (blk_cell f 0).trans rfl
  have y1 : W.cell? ⟨w.heap.size, 1, none⟩ = some (.pointer (some ⟨w.heap.size + 1, 0, none⟩)) := (blk_cell f 1).trans rfl
  have y2 : W.cell? ⟨w.heap.size, 2, none⟩ = some (.int .i64 0) := (blk_cell f 2).trans rfl
  refine bodyPost_ret_by (v := .agg #[.iface 48 (.agg #[]), .pointer (some ⟨w.heap.size + 1, 0, none⟩), .int .i64 0]) ?_ rfl ⟨rfl, B, D, l, G, G1.out.1, G1.out.2, gs, gb⟩
  simp [results, Try.results47, go_sem, y0, y1, y2]

/-- The writer of an encoder that is a struct around its base. -/
def EncAt (w : World) (E S : Nat) : Prop := w.cell? ⟨E, 1, none⟩ = some (.pointer (some ⟨S, 0, none⟩))
set_option maxHeartbeats 2000000 in
set_option maxRecDepth 100000 in
theorem append_calls (E S B D : Nat) (l : List Int) (pos : Nat) (q : Int) (G : Nat) (A : Option Addr) (c : Nat) (cs : List Int) (w : World) (hE : EncAt w E S) (h : Snk w S B D l pos q G) (hb : pos + cs.length ≤ 4194304) (hs : Lies w S B D A cs) :
    Calls Try.prog 67 #[.pointer (some ⟨E, 0, none⟩), .slice A cs.length c] w fun e w' => e = .returned (.tuple #[]) ∧ Wrote w w' S B D l pos q G cs := by
  have HW := Aside0.mk (write_calls S B D l pos q G A c cs w h hb hs)
  clear h hs
  unfold EncAt at hE
  go_enter Try.func67, Try.ntmps67
  go_wp2_with (first | (go_at_call 81; refine HW.out.mono ?_; rintro e w1 ⟨⟨n, rfl⟩, hw⟩; have HE := Aside0.mk hw; clear hw))
  go_end0
  exact ⟨rfl, HE.out⟩

end Go.Proofs.Ytcfnniminikmfaa.Q
