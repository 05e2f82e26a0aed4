import Derived.Test.YtcfnniminikmfaaHPX
import Derived.Lib.BufferWrite
namespace Go.Proofs.Ytcfnniminikmfaa.Q
open Go.RowKit Go.Proofs.YtcfnniminikmfaaW.PrintWords Go.Proofs.YtcfnniminikmfaaW.PrintLast Go.Proofs.YtcfnniminikmfaaW.PrintMore
set_option linter.unusedVariables false
set_option linter.unusedSimpArgs false
/-- Twelve bytes, as a value. -/
def aV (bs : List Int) : Value := .agg (bs.map (Value.int .u8)).toArray
set_option maxRecDepth 100000 in
theorem as93_21 (v : Value) : ∃ z, ∀ W : World, (Instr.typeAssert (.iface 93 v) 20 21 true).run Try.prog W = .ok (.tuple #[z, .bool false]) W := ⟨_, fun W => by rfl⟩
set_option maxRecDepth 100000 in
theorem as93_78 (v : Value) : ∃ z, ∀ W : World, (Instr.typeAssert (.iface 93 v) 20 78 true).run Try.prog W = .ok (.tuple #[z, .bool false]) W := ⟨_, fun W => by rfl⟩
set_option maxRecDepth 100000 in
theorem as93_2 (v : Value) : ∃ z, ∀ W : World, (Instr.typeAssert (.iface 93 v) 20 2 true).run Try.prog W = .ok (.tuple #[z, .bool false]) W := ⟨_, fun W => by rfl⟩
set_option maxRecDepth 100000 in
theorem as93_85 (v : Value) : ∃ z, ∀ W : World, (Instr.typeAssert (.iface 93 v) 20 85 true).run Try.prog W = .ok (.tuple #[z, .bool false]) W := ⟨_, fun W => by rfl⟩
set_option maxRecDepth 100000 in
theorem as93_93 (v : Value) : ∀ W : World, (Instr.typeAssert (.iface 93 v) 20 93 true).run Try.prog W = .ok (.tuple #[v, .bool true]) W := fun W => by kernel_rfl
def ag12 (b0 b1 b2 b3 b4 b5 b6 b7 b8 b9 b10 b11 : Int) : Value := .agg #[.int .u8 b0, .int .u8 b1, .int .u8 b2, .int .u8 b3, .int .u8 b4, .int .u8 b5, .int .u8 b6, .int .u8 b7, .int .u8 b8, .int .u8 b9, .int .u8 b10, .int .u8 b11]
set_option maxHeartbeats 2000000 in
set_option maxRecDepth 100000 in
theorem widthI96_calls (w : World) : Calls Try.prog 106 #[] w fun e w' => e = .returned (.int .i64 12) ∧ Below w.heap.size w w' := by
  obtain ⟨z1, h1⟩ := as93_21 (ag12 0 0 0 0 0 0 0 0 0 0 0 0)
  obtain ⟨z2, h2⟩ := as93_78 (ag12 0 0 0 0 0 0 0 0 0 0 0 0)
  obtain ⟨z3, h3⟩ := as93_2 (ag12 0 0 0 0 0 0 0 0 0 0 0 0)
  obtain ⟨z4, h4⟩ := as93_85 (ag12 0 0 0 0 0 0 0 0 0 0 0 0)
  unfold ag12 at h1 h2 h3 h4
  go_enter Try.func106, Try.ntmps106
  go_wp2
  go_ret
  exact ⟨rfl, below_alloc (Below.refl _ _) _⟩
set_option maxHeartbeats 2000000 in
set_option maxRecDepth 100000 in
theorem reqI96_calls (n : Nat) (w : World) (hn : n ≤ 1048576) : Calls Try.prog 92 #[.int .i64 (n : Int)] w fun e w' => e = .returned (.int .i64 (12 * (n : Int))) ∧ Below w.heap.size w w' := by
  have HW := Aside0.mk (widthI96_calls w)
  have h0 : (0 : Int) ≤ (n : Int) * 12 := by omega
  have h1 : (n : Int) * 12 ≤ 12582912 := by omega
  go_enter Try.func92, Try.ntmps92
  go_wp2_with (first | (go_at_call 106; refine HW.out.mono ?_; rintro e w1 ⟨rfl, hw1⟩; have HB := Aside0.mk hw1; clear hw1))
  go_ret
  refine ⟨congrArg Ending.returned (congrArg (Value.int .i64) ?_), HB.out⟩
  omega

/-- Twelve bytes in a block of their own. -/
def o12 (b0 b1 b2 b3 b4 b5 b6 b7 b8 b9 b10 b11 : Int) : Obj := .cells #[.int .u8 b0, .int .u8 b1, .int .u8 b2, .int .u8 b3, .int .u8 b4, .int .u8 b5, .int .u8 b6, .int .u8 b7, .int .u8 b8, .int .u8 b9, .int .u8 b10, .int .u8 b11] 93 (0, 0)
theorem copy12 (s : ByteArray) (b0 b1 b2 b3 b4 b5 b6 b7 b8 b9 b10 b11 : Int) (hb : bytesOf s = [b0, b1, b2, b3, b4, b5, b6, b7, b8, b9, b10, b11]) (w : World) (g : Nat) (hn : w.heap[g]? = some (o12 0 0 0 0 0 0 0 0 0 0 0 0)) : ∃ w3, (Builtin.copy_ #[23, 9] 3 #[.slice (some ⟨g, 0, none⟩) 12 12, .string s]).run Try.prog w = .ok (.int .i64 12) w3 ∧ w3.heap[g]? = some (o12 b0 b1 b2 b3 b4 b5 b6 b7 b8 b9 b10 b11) ∧ Below g w w3 := by
  have hs : s.size = 12 := by rw [← bytesOf_length, hb]; rfl
  have hc := Go.Lib.run_copy_row_string (P := Try.prog) w 23 9 3 5 g 0 12 12 s _ 93 Try.underlying23 (by kernel_rfl) hn (by omega) (by rw [hs]; decide)
  have hbc : Lib.byteCells s.data.toList = (bytesOf s).map (Value.int .u8) := by simp [Lib.byteCells, bytesOf]
  rw [hbc, hb, hs] at hc
  refine ⟨_, hc, ?_, below_setRow (Below.refl _ _) (Nat.le_refl _) _⟩
  exact setRow_heap w g _ _ _ _ hn
theorem chain12 (B g : Nat) (w0 w : World) (u0 u1 u2 u3 u4 u5 u6 u7 u8 u9 u10 u11 : Value) (t : TypeId) (hb : Below B w0 w) (hg : B ≤ g) (hh : w.heap[g]? = some (.cells #[u0, u1, u2, u3, u4, u5, u6, u7, u8, u9, u10, u11] t (0, 0))) (v0 v1 v2 v3 v4 v5 v6 v7 v8 v9 v10 v11 : Value) : ∃ W, W = ((((((((((((w.setCell ⟨g, 0, none⟩ v0).setCell ⟨g, 1, none⟩ v1).setCell ⟨g, 2, none⟩ v2).setCell ⟨g, 3, none⟩ v3).setCell ⟨g, 4, none⟩ v4).setCell ⟨g, 5, none⟩ v5).setCell ⟨g, 6, none⟩ v6).setCell ⟨g, 7, none⟩ v7).setCell ⟨g, 8, none⟩ v8).setCell ⟨g, 9, none⟩ v9).setCell ⟨g, 10, none⟩ v10).setCell ⟨g, 11, none⟩ v11) ∧ Below B w0 W ∧ W.heap[g]? = some (.cells #[v0, v1, v2, v3, v4, v5, v6, v7, v8, v9, v10, v11] t (0, 0)) := by
  have h0 := Below.setCell (p := ⟨g, 0, none⟩) hb hg v0
  have f0 : (w.setCell ⟨g, 0, none⟩ v0).heap[g]? = some (.cells #[v0, u1, u2, u3, u4, u5, u6, u7, u8, u9, u10, u11] t (0, 0)) := by have := blk_set hh 0 v0; simpa using this
  have h1 := Below.setCell (p := ⟨g, 1, none⟩) h0 hg v1
  have f1 : ((w.setCell ⟨g, 0, none⟩ v0).setCell ⟨g, 1, none⟩ v1).heap[g]? = some (.cells #[v0, v1, u2, u3, u4, u5, u6, u7, u8, u9, u10, u11] t (0, 0)) := by have := blk_set f0 1 v1; simpa using this
  have h2 := Below.setCell (p := ⟨g, 2, none⟩) h1 hg v2
  have f2 : (((w.setCell ⟨g, 0, none⟩ v0).setCell ⟨g, 1, none⟩ v1).setCell ⟨g, 2, none⟩ v2).heap[g]? = some (.cells #[v0, v1, v2, u3, u4, u5, u6, u7, u8, u9, u10, u11] t (0, 0)) := by have := blk_set f1 2 v2; simpa using this
  have h3 := Below.setCell (p := ⟨g, 3, none⟩) h2 hg v3
  have f3 : ((((w.setCell ⟨g, 0, none⟩ v0).setCell ⟨g, 1, none⟩ v1).setCell ⟨g, 2, none⟩ v2).setCell ⟨g, 3, none⟩ v3).heap[g]? = some (.cells #[v0, v1, v2, v3, u4, u5, u6, u7, u8, u9, u10, u11] t (0, 0)) := by have := blk_set f2 3 v3; simpa using this
  have h4 := Below.setCell (p := ⟨g, 4, none⟩) h3 hg v4
  have f4 : (((((w.setCell ⟨g, 0, none⟩ v0).setCell ⟨g, 1, none⟩ v1).setCell ⟨g, 2, none⟩ v2).setCell ⟨g, 3, none⟩ v3).setCell ⟨g, 4, none⟩ v4).heap[g]? = some (.cells #[v0, v1, v2, v3, v4, u5, u6, u7, u8, u9, u10, u11] t (0, 0)) := by have := blk_set f3 4 v4; simpa using this
  have h5 := Below.setCell (p := ⟨g, 5, none⟩) h4 hg v5
  have f5 : ((((((w.setCell ⟨g, 0, none⟩ v0).setCell ⟨g, 1, none⟩ v1).setCell ⟨g, 2, none⟩ v2).setCell ⟨g, 3, none⟩ v3).setCell ⟨g, 4, none⟩ v4).setCell ⟨g, 5, none⟩ v5).heap[g]? = some (.cells #[v0, v1, v2, v3, v4, v5, u6, u7, u8, u9, u10, u11] t (0, 0)) := by have := blk_set f4 5 v5; simpa using this
  have h6 := Below.setCell (p := ⟨g, 6, none⟩) h5 hg v6
  have f6 : (((((((w.setCell ⟨g, 0, none⟩ v0).setCell ⟨g, 1, none⟩ v1).setCell ⟨g, 2, none⟩ v2).setCell ⟨g, 3, none⟩ v3).setCell ⟨g, 4, none⟩ v4).setCell ⟨g, 5, none⟩ v5).setCell ⟨g, 6, none⟩ v6).heap[g]? = some (.cells #[v0, v1, v2, v3, v4, v5, v6, u7, u8, u9, u10, u11] t (0, 0)) := by have := blk_set f5 6 v6; simpa using this
  have h7 := Below.setCell (p := ⟨g, 7, none⟩) h6 hg v7
  have f7 : ((((((((w.setCell ⟨g, 0, none⟩ v0).setCell ⟨g, 1, none⟩ v1).setCell ⟨g, 2, none⟩ v2).setCell ⟨g, 3, none⟩ v3).setCell ⟨g, 4, none⟩ v4).setCell ⟨g, 5, none⟩ v5).setCell ⟨g, 6, none⟩ v6).setCell ⟨g, 7, none⟩ v7).heap[g]? = some (.cells #[v0, v1, v2, v3, v4, v5, v6, v7, u8, u9, u10, u11] t (0, 0)) := by have := blk_set f6 7 v7; simpa using this
  have h8 := Below.setCell (p := ⟨g, 8, none⟩) h7 hg v8
  have f8 : (((((((((w.setCell ⟨g, 0, none⟩ v0).setCell ⟨g, 1, none⟩ v1).setCell ⟨g, 2, none⟩ v2).setCell ⟨g, 3, none⟩ v3).setCell ⟨g, 4, none⟩ v4).setCell ⟨g, 5, none⟩ v5).setCell ⟨g, 6, none⟩ v6).setCell ⟨g, 7, none⟩ v7).setCell ⟨g, 8, none⟩ v8).heap[g]? = some (.cells #[v0, v1, v2, v3, v4, v5, v6, v7, v8, u9, u10, u11] t (0, 0)) := by have := blk_set f7 8 v8; simpa using this
  have h9 := Below.setCell (p := ⟨g, 9, none⟩) h8 hg v9
  have f9 : ((((((((((w.setCell ⟨g, 0, none⟩ v0).setCell ⟨g, 1, none⟩ v1).setCell ⟨g, 2, none⟩ v2).setCell ⟨g, 3, none⟩ v3).setCell ⟨g, 4, none⟩ v4).setCell ⟨g, 5, none⟩ v5).setCell ⟨g, 6, none⟩ v6).setCell ⟨g, 7, none⟩ v7).setCell ⟨g, 8, none⟩ v8).setCell ⟨g, 9, none⟩ v9).heap[g]? = some (.cells #[v0, v1, v2, v3, v4, v5, v6, v7, v8, v9, u10, u11] t (0, 0)) := by have := blk_set f8 9 v9; simpa using this
  have h10 := Below.setCell (p := ⟨g, 10, none⟩) h9 hg v10
  have f10 : (((((((((((w.setCell ⟨g, 0, none⟩ v0).setCell ⟨g, 1, none⟩ v1).setCell ⟨g, 2, none⟩ v2).setCell ⟨g, 3, none⟩ v3).setCell ⟨g, 4, none⟩ v4).setCell ⟨g, 5, none⟩ v5).setCell ⟨g, 6, none⟩ v6).setCell ⟨g, 7, none⟩ v7).setCell ⟨g, 8, none⟩ v8).setCell ⟨g, 9, none⟩ v9).setCell ⟨g, 10, none⟩ v10).heap[g]? = some (.cells #[v0, v1, v2, v3, v4, v5, v6, v7, v8, v9, v10, u11] t (0, 0)) := by have := blk_set f9 10 v10; simpa using this
  have h11 := Below.setCell (p := ⟨g, 11, none⟩) h10 hg v11
  have f11 : ((((((((((((w.setCell ⟨g, 0, none⟩ v0).setCell ⟨g, 1, none⟩ v1).setCell ⟨g, 2, none⟩ v2).setCell ⟨g, 3, none⟩ v3).setCell ⟨g, 4, none⟩ v4).setCell ⟨g, 5, none⟩ v5).setCell ⟨g, 6, none⟩ v6).setCell ⟨g, 7, none⟩ v7).setCell ⟨g, 8, none⟩ v8).setCell ⟨g, 9, none⟩ v9).setCell ⟨g, 10, none⟩ v10).setCell ⟨g, 11, none⟩ v11).heap[g]? = some (.cells #[v0, v1, v2, v3, v4, v5, v6, v7, v8, v9, v10, v11] t (0, 0)) := by have := blk_set f10 11 v11; simpa using this
  exact ⟨_, rfl, h11, f11⟩
set_option maxHeartbeats 400000 in
set_option maxRecDepth 100000 in
theorem int96_calls (s : ByteArray) (b0 b1 b2 b3 b4 b5 b6 b7 b8 b9 b10 b11 : Int) (hb : bytesOf s = [b0, b1, b2, b3, b4, b5, b6, b7, b8, b9, b10, b11]) (w : World) : Calls Try.prog 60 #[.string s] w fun e w' => e = .returned (ag12 b0 b1 b2 b3 b4 b5 b6 b7 b8 b9 b10 b11) ∧ Below w.heap.size w w' := by
  have hs : s.size = 12 := by rw [← bytesOf_length, hb]; rfl
  have hsn : ((s.size : Int) != 12) = false := by rw [hs]; rfl
  have hn := blk_new w (o12 0 0 0 0 0 0 0 0 0 0 0 0)
  obtain ⟨w3, hcp, f1, f2⟩ := copy12 s b0 b1 b2 b3 b4 b5 b6 b7 b8 b9 b10 b11 hb _ w.heap.size hn
  unfold o12 at hcp
  have c0 : w3.cell? ⟨w.heap.size, 0, none⟩ = some (.int .u8 b0) := (blk_cell f1 0).trans rfl
  have z0 : w3.frozen? ⟨w.heap.size, 0, none⟩ = false := blk_frozen f1 0
  have c1 : w3.cell? ⟨w.heap.size, 1, none⟩ = some (.int .u8 b1) := (blk_cell f1 1).trans rfl
  have z1 : w3.frozen? ⟨w.heap.size, 1, none⟩ = false := blk_frozen f1 1
  have c2 : w3.cell? ⟨w.heap.size, 2, none⟩ = some (.int .u8 b2) := (blk_cell f1 2).trans rfl
  have z2 : w3.frozen? ⟨w.heap.size, 2, none⟩ = false := blk_frozen f1 2
  have c3 : w3.cell? ⟨w.heap.size, 3, none⟩ = some (.int .u8 b3) := (blk_cell f1 3).trans rfl
  have z3 : w3.frozen? ⟨w.heap.size, 3, none⟩ = false := blk_frozen f1 3
  have c4 : w3.cell? ⟨w.heap.size, 4, none⟩ = some (.int .u8 b4) := (blk_cell f1 4).trans rfl
  have z4 : w3.frozen? ⟨w.heap.size, 4, none⟩ = false := blk_frozen f1 4
  have c5 : w3.cell? ⟨w.heap.size, 5, none⟩ = some (.int .u8 b5) := (blk_cell f1 5).trans rfl
  have z5 : w3.frozen? ⟨w.heap.size, 5, none⟩ = false := blk_frozen f1 5
  have c6 : w3.cell? ⟨w.heap.size, 6, none⟩ = some (.int .u8 b6) := (blk_cell f1 6).trans rfl
  have z6 : w3.frozen? ⟨w.heap.size, 6, none⟩ = false := blk_frozen f1 6
  have c7 : w3.cell? ⟨w.heap.size, 7, none⟩ = some (.int .u8 b7) := (blk_cell f1 7).trans rfl
  have z7 : w3.frozen? ⟨w.heap.size, 7, none⟩ = false := blk_frozen f1 7
  have c8 : w3.cell? ⟨w.heap.size, 8, none⟩ = some (.int .u8 b8) := (blk_cell f1 8).trans rfl
  have z8 : w3.frozen? ⟨w.heap.size, 8, none⟩ = false := blk_frozen f1 8
  have c9 : w3.cell? ⟨w.heap.size, 9, none⟩ = some (.int .u8 b9) := (blk_cell f1 9).trans rfl
  have z9 : w3.frozen? ⟨w.heap.size, 9, none⟩ = false := blk_frozen f1 9
  have c10 : w3.cell? ⟨w.heap.size, 10, none⟩ = some (.int .u8 b10) := (blk_cell f1 10).trans rfl
  have z10 : w3.frozen? ⟨w.heap.size, 10, none⟩ = false := blk_frozen f1 10
  have c11 : w3.cell? ⟨w.heap.size, 11, none⟩ = some (.int .u8 b11) := (blk_cell f1 11).trans rfl
  have z11 : w3.frozen? ⟨w.heap.size, 11, none⟩ = false := blk_frozen f1 11
  have F1 := Aside0.mk f1
  have F2 := Aside0.mk f2
  clear f1 f2 hn hb
  go_enter Try.func60, Try.ntmps60
  go_wp2
  obtain ⟨W, hW, gb, f⟩ := chain12 w.heap.size w.heap.size w w3 _ _ _ _ _ _ _ _ _ _ _ _ 93 ((below_alloc (Below.refl _ _) _).trans F2.out) (Nat.le_refl _) F1.out (.int .u8 b0) (.int .u8 b1) (.int .u8 b2) (.int .u8 b3) (.int .u8 b4) (.int .u8 b5) (.int .u8 b6) (.int .u8 b7) (.int .u8 b8) (.int .u8 b9) (.int .u8 b10) (.int .u8 b11)
  rw [← hW]
  clear hW
  have y0 : W.cell? ⟨w.heap.size, 0, none⟩ = some (.int .u8 b0) := (blk_cell f 0).trans rfl
  have y1 : W.cell? ⟨w.heap.size, 1, none⟩ = some (.int .u8 b1) := (blk_cell f 1).trans rfl
  have y2 : W.cell? ⟨w.heap.size, 2, none⟩ = some (.int .u8 b2) := (blk_cell f 2).trans rfl
  have y3 : W.cell? ⟨w.heap.size, 3, none⟩ = some (.int .u8 b3) := (blk_cell f 3).trans rfl
  have y4 : W.cell? ⟨w.heap.size, 4, none⟩ = some (.int .u8 b4) := (blk_cell f 4).trans rfl
  have y5 : W.cell? ⟨w.heap.size, 5, none⟩ = some (.int .u8 b5) := (blk_cell f 5).trans rfl
  have y6 : W.cell? ⟨w.heap.size, 6, none⟩ = some (.int .u8 b6) := (blk_cell f 6).trans rfl
  have y7 : W.cell? ⟨w.heap.size, 7, none⟩ = some (.int .u8 b7) := (blk_cell f 7).trans rfl
  have y8 : W.cell? ⟨w.heap.size, 8, none⟩ = some (.int .u8 b8) := (blk_cell f 8).trans rfl
  have y9 : W.cell? ⟨w.heap.size, 9, none⟩ = some (.int .u8 b9) := (blk_cell f 9).trans rfl
  have y10 : W.cell? ⟨w.heap.size, 10, none⟩ = some (.int .u8 b10) := (blk_cell f 10).trans rfl
  have y11 : W.cell? ⟨w.heap.size, 11, none⟩ = some (.int .u8 b11) := (blk_cell f 11).trans rfl
  refine bodyPost_ret_by (v := ag12 b0 b1 b2 b3 b4 b5 b6 b7 b8 b9 b10 b11) ?_ rfl ⟨rfl, gb⟩
  simp [results, Try.results60, go_sem, ag12, y0, y1, y2, y3, y4, y5, y6, y7, y8, y9, y10, y11]
set_option maxRecDepth 100000 in
theorem slicePtr12 (g : Nat) (W : World) : (Instr.sliceAt 93 (.pointer (some ⟨g, 0, none⟩)) none none none).run Try.prog W = .ok (.slice (some ⟨g, 0, none⟩) 12 12) W := by kernel_rfl
set_option maxHeartbeats 1000000 in
set_option maxRecDepth 100000 in
theorem putI96_calls (X n i : Nat) (l : List Int) (b0 b1 b2 b3 b4 b5 b6 b7 b8 b9 b10 b11 : Int) (w : World) (h : Row w X l) (hn : l.length = n) (hi : 12 * i + 12 ≤ n) (hm : n ≤ 16777216) :
    Calls Try.prog 93 #[.slice (some ⟨X, 0, none⟩) n n, .int .i64 (i : Int), ag12 b0 b1 b2 b3 b4 b5 b6 b7 b8 b9 b10 b11] w fun e w' => e = .returned (.tuple #[]) ∧ Row w' X (l.take (12 * i) ++ [b0, b1, b2, b3, b4, b5, b6, b7, b8, b9, b10, b11] ++ l.drop (12 * i + 12)) ∧ Below X w w' := by
  have hX := h.lt
  have hsl := sliceAt_b X (12 * i) n (by omega) hm
  rw [if_neg (by omega), show ((12 * i : Nat) : Int) = 12 * (i : Int) by omega] at hsl
  have hsp := slicePtr12 (w.heap.size + 1)
  obtain ⟨z1, h1⟩ := as93_21 (ag12 b0 b1 b2 b3 b4 b5 b6 b7 b8 b9 b10 b11)
  obtain ⟨z2, h2⟩ := as93_78 (ag12 b0 b1 b2 b3 b4 b5 b6 b7 b8 b9 b10 b11)
  obtain ⟨z3, h3⟩ := as93_2 (ag12 b0 b1 b2 b3 b4 b5 b6 b7 b8 b9 b10 b11)
  obtain ⟨z4, h4⟩ := as93_85 (ag12 b0 b1 b2 b3 b4 b5 b6 b7 b8 b9 b10 b11)
  have h5 := as93_93 (ag12 b0 b1 b2 b3 b4 b5 b6 b7 b8 b9 b10 b11)
  unfold ag12 at h1 h2 h3 h4 h5 ⊢
  have hx : (0 : Int) ≤ 12 * (i : Int) := by omega
  have hx2 : 12 * (i : Int) ≤ 16777216 := by omega
  have hwr : IntKind.i64.wrap (12 * (i : Int)) = 12 * (i : Int) := by rw [IntKind.wrap_i64]; omega
  have n1 := blk_new (w.alloc (o12 b0 b1 b2 b3 b4 b5 b6 b7 b8 b9 b10 b11)) (o12 b0 b1 b2 b3 b4 b5 b6 b7 b8 b9 b10 b11)
  have ns : (w.alloc (o12 b0 b1 b2 b3 b4 b5 b6 b7 b8 b9 b10 b11)).heap.size = w.heap.size + 1 := by simp
  rw [ns] at n1
  have hR : Row ((w.alloc (o12 b0 b1 b2 b3 b4 b5 b6 b7 b8 b9 b10 b11)).alloc (o12 b0 b1 b2 b3 b4 b5 b6 b7 b8 b9 b10 b11)) X l := (h.alloc _).alloc _
  obtain ⟨w3, hcp, e1, e2, e3, e4⟩ := copy_bytes ((w.alloc (o12 b0 b1 b2 b3 b4 b5 b6 b7 b8 b9 b10 b11)).alloc (o12 b0 b1 b2 b3 b4 b5 b6 b7 b8 b9 b10 b11)).drew X (12 * i) (n - 12 * i) (n - 12 * i) ⟨w.heap.size + 1, 0, none⟩ 12 12 l [b0, b1, b2, b3, b4, b5, b6, b7, b8, b9, b10, b11] hR (by show 12 = min _ _; omega) (by
    intro j hj
    have e : (⟨w.heap.size + 1, 0, none⟩ : Addr).add j = ⟨w.heap.size + 1, j, none⟩ := by simp [Addr.add]; omega
    rw [e]
    refine (blk_cell n1 j).trans ?_
    match j, hj with
    | 0, _ => rfl
    | 1, _ => rfl
    | 2, _ => rfl
    | 3, _ => rfl
    | 4, _ => rfl
    | 5, _ => rfl
    | 6, _ => rfl
    | 7, _ => rfl
    | 8, _ => rfl
    | 9, _ => rfl
    | 10, _ => rfl
    | 11, _ => rfl) (by show 12 * i + 12 ≤ _; omega)
  have E1 := Aside0.mk e1
  have E4 := Aside0.mk e4
  have HX := Aside0.mk hX
  unfold o12 at hcp
  clear h hR n1 ns e1 e2 e3 e4
  go_enter Try.func93, Try.ntmps93
  go_wp2
  go_still_tail 5, (by kernel_rfl)
  repeat still_step
  try refine wpStill_nil ?_
  change wpList _ _ _ _ _ ((w.alloc (.cells #[.int .u8 b0, .int .u8 b1, .int .u8 b2, .int .u8 b3, .int .u8 b4, .int .u8 b5, .int .u8 b6, .int .u8 b7, .int .u8 b8, .int .u8 b9, .int .u8 b10, .int .u8 b11] 93)).alloc (.cells #[.int .u8 b0, .int .u8 b1, .int .u8 b2, .int .u8 b3, .int .u8 b4, .int .u8 b5, .int .u8 b6, .int .u8 b7, .int .u8 b8, .int .u8 b9, .int .u8 b10, .int .u8 b11] 93)).drew
  go_wp2
  go_end0
  refine ⟨rfl, E1.out, ?_⟩
  exact (below_drew ((below_alloc (below_alloc (Below.refl w.heap.size w) _) _).mono (Nat.le_of_lt HX.out))).trans E4.out
end Go.Proofs.Ytcfnniminikmfaa.Q
