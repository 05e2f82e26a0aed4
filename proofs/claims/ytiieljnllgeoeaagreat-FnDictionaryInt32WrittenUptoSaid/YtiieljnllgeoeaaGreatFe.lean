/- The writer of bits: its object, a word's bytes, groups of seven bits. -/
import Derived.Test.YtiieljnllgeoeaaGreatFd
import Derived.Test.YtiieljnllgeoeaaGreatPa
namespace Go.Proofs.YtiieljnllgeoeaaGreat.Q
open Go.RowKit Go.Proofs.YtiieljnllgeoeaaGreatW.PrintWords Go.Proofs.YtiieljnllgeoeaaGreatW.PrintLast Go.Proofs.YtiieljnllgeoeaaGreatW.PrintMore
set_option linter.unusedVariables false
set_option linter.unusedSimpArgs false
/-- The cells of a writer of bits: where it writes, the bits that wait, the place, how many bits wait, and two rows of bytes. -/
def bwL (i : Value) (buf : Int) (byo bto : Nat) (rs : List Int) : List Value := i :: .int .u64 buf :: .int .i64 (byo : Int) :: .int .u64 (bto : Int) :: rs.map (Value.int .u8)
def Bw (w : World) (W : Nat) (i : Value) (buf : Int) (byo bto : Nat) (rs : List Int) : Prop := w.heap[W]? = some (.cells (bwL i buf byo bto rs).toArray 197 (0, 0)) ∧ rs.length = 18
section
variable {w : World} {W : Nat} {i : Value} {buf : Int} {byo bto : Nat} {rs : List Int}
theorem Bw.lt (h : Bw w W i buf byo bto rs) : W < w.heap.size := blk_lt h.1
theorem Bw.c0 (h : Bw w W i buf byo bto rs) : w.cell? ⟨W, 0, none⟩ = some i := (blk_cell h.1 0).trans (by simp [bwL])
theorem Bw.c1 (h : Bw w W i buf byo bto rs) : w.cell? ⟨W, 1, none⟩ = some (.int .u64 buf) := (blk_cell h.1 1).trans (by simp [bwL])
theorem Bw.c2 (h : Bw w W i buf byo bto rs) : w.cell? ⟨W, 2, none⟩ = some (.int .i64 (byo : Int)) := (blk_cell h.1 2).trans (by simp [bwL])
theorem Bw.c3 (h : Bw w W i buf byo bto rs) : w.cell? ⟨W, 3, none⟩ = some (.int .u64 (bto : Int)) := (blk_cell h.1 3).trans (by simp [bwL])
theorem Bw.cr (h : Bw w W i buf byo bto rs) (j : Nat) (hj : j < 18) : w.cell? ⟨W, 4 + j, none⟩ = some (.int .u8 (rs.getD j 0)) := (blk_cell h.1 (4 + j)).trans (by
 have := h.2
 rw [show 4 + j = j + 1 + 1 + 1 + 1 by omega]
 simp [bwL, List.getD_eq_getElem?_getD]
 rw [List.getElem?_eq_getElem (by omega)]
 rfl)
theorem Bw.f (h : Bw w W i buf byo bto rs) (j : Nat) : w.frozen? ⟨W, j, none⟩ = false := blk_frozen h.1 j
theorem Bw.s1 (h : Bw w W i buf byo bto rs) (v : Int) : Bw (w.setCell ⟨W, 1, none⟩ (.int .u64 v)) W i v byo bto rs := ⟨(blk_set h.1 1 _).trans (by simp [bwL]), h.2⟩
theorem Bw.s2 (h : Bw w W i buf byo bto rs) (v : Nat) : Bw (w.setCell ⟨W, 2, none⟩ (.int .i64 (v : Int))) W i buf v bto rs := ⟨(blk_set h.1 2 _).trans (by simp [bwL]), h.2⟩
theorem Bw.s3 (h : Bw w W i buf byo bto rs) (v : Nat) : Bw (w.setCell ⟨W, 3, none⟩ (.int .u64 (v : Int))) W i buf byo v rs := ⟨(blk_set h.1 3 _).trans (by simp [bwL]), h.2⟩
theorem Bw.sr (h : Bw w W i buf byo bto rs) (j : Nat) (v : Int) : Bw (w.setCell ⟨W, 4 + j, none⟩ (.int .u8 v)) W i buf byo bto (rs.set j v) := ⟨(blk_set h.1 (4 + j) _).trans (by
 rw [show 4 + j = j + 1 + 1 + 1 + 1 by omega]
 simp [bwL, List.map_set]), by rw [List.length_set]; exact h.2⟩
theorem Bw.alloc (h : Bw w W i buf byo bto rs) (o : Obj) : Bw (w.alloc o) W i buf byo bto rs := ⟨blk_alloc h.1 o, h.2⟩
theorem Bw.drew (h : Bw w W i buf byo bto rs) : Bw w.drew W i buf byo bto rs := h
theorem Bw.kept {w' : World} {S : Nat → Prop} (h : Bw w W i buf byo bto rs) (k : Kept w w' S) (hn : ¬ S W) : Bw w' W i buf byo bto rs := ⟨(k.2 W h.lt hn).trans h.1, h.2⟩
end
/-- Bytes, the lowest first. -/
theorem toB8 (x : Nat) : toB 8 x = [((x % 256 : Nat) : Int), ((x / 256 % 256 : Nat) : Int), ((x / 65536 % 256 : Nat) : Int), ((x / 16777216 % 256 : Nat) : Int), ((x / 4294967296 % 256 : Nat) : Int), ((x / 1099511627776 % 256 : Nat) : Int), ((x / 281474976710656 % 256 : Nat) : Int), ((x / 72057594037927936 % 256 : Nat) : Int)] := by
 simp [toB, Nat.div_div_eq_div_mul]
theorem set8 (rs : List Int) (h : rs.length = 18) (a b c d e f g k : Int) : ((((((((rs.set 0 a).set 1 b).set 2 c).set 3 d).set 4 e).set 5 f).set 6 g).set 7 k) = [a, b, c, d, e, f, g, k] ++ rs.drop 8 := by
 match rs, h with
 | x0 :: x1 :: x2 :: x3 :: x4 :: x5 :: x6 :: x7 :: r, _ => simp
set_option maxHeartbeats 4000000 in
set_option maxRecDepth 100000 in
theorem put64_calls (W : Nat) (i : Value) (buf : Int) (byo bto : Nat) (rs : List Int) (c : Nat) (x : Nat) (w : World) (h : Bw w W i buf byo bto rs) (hx : x < 18446744073709551616) :
  Calls Tryz.prog 97 #[.agg #[], .slice (some ⟨W, 4, none⟩) 8 c, .int .u64 (x : Int)] w fun e w' => e = .returned (.tuple #[]) ∧ Bw w' W i buf byo bto (toB 8 x ++ rs.drop 8) ∧ Kept w w' (fun k => k = W) ∧ Below W w w' := by
 have hX := h.lt
 have H := Aside0.mk h
 have c0 : w.cell? ⟨W, 4, none⟩ = _ := h.cr 0 (by omega)
 have c1 : w.cell? ⟨W, 5, none⟩ = _ := h.cr 1 (by omega)
 have c2 : w.cell? ⟨W, 6, none⟩ = _ := h.cr 2 (by omega)
 have c3 : w.cell? ⟨W, 7, none⟩ = _ := h.cr 3 (by omega)
 have c4 : w.cell? ⟨W, 8, none⟩ = _ := h.cr 4 (by omega)
 have c5 : w.cell? ⟨W, 9, none⟩ = _ := h.cr 5 (by omega)
 have c6 : w.cell? ⟨W, 10, none⟩ = _ := h.cr 6 (by omega)
 have c7 : w.cell? ⟨W, 11, none⟩ = _ := h.cr 7 (by omega)
 have z0 := h.f 4
 have z1 := h.f 5
 have z2 := h.f 6
 have z3 := h.f 7
 have z4 := h.f 8
 have z5 := h.f 9
 have z6 := h.f 10
 have z7 := h.f 11
 have g0 : (0 : Int) ≤ (x : Int) := by omega
 have g1 : (x : Int) < 18446744073709551616 := by omega
 clear h hx
 go_enter Tryz.func97, Tryz.ntmps97
 go_wp2
 go_end0
 refine ⟨rfl, ?_, ?_, ?_⟩
 ·have := ((((((((H.out.sr 0 ((x : Int) % 256)).sr 1 ((x : Int) / 256 % 256)).sr 2 ((x : Int) / 65536 % 256)).sr 3 ((x : Int) / 16777216 % 256)).sr 4 ((x : Int) / 4294967296 % 256)).sr 5 ((x : Int) / 1099511627776 % 256)).sr 6 ((x : Int) / 281474976710656 % 256)).sr 7 ((x : Int) / 72057594037927936)).alloc (.cells #[] 206)
  rw [set8 rs H.out.2] at this
  have e : toB 8 x = [(x : Int) % 256, (x : Int) / 256 % 256, (x : Int) / 65536 % 256, (x : Int) / 16777216 % 256, (x : Int) / 4294967296 % 256, (x : Int) / 1099511627776 % 256, (x : Int) / 281474976710656 % 256, (x : Int) / 72057594037927936] := by
   rw [toB8]
   simp only [Int.natCast_emod, Int.natCast_ediv, Int.cast_ofNat_Int]
   have : (x : Int) / 72057594037927936 % 256 = (x : Int) / 72057594037927936 := by omega
   rw [this]
  rw [e]
  exact this
 ·exact (((((((((Kept.refl w (fun k => k = W)).setCell (.inl rfl) _).setCell (.inl rfl) _).setCell (.inl rfl) _).setCell (.inl rfl) _).setCell (.inl rfl) _).setCell (.inl rfl) _).setCell (.inl rfl) _).setCell (.inl rfl) _).alloc _
 ·refine (Below.setCell (p := ⟨W, 11, none⟩) (Below.setCell (p := ⟨W, 10, none⟩) (Below.setCell (p := ⟨W, 9, none⟩) (Below.setCell (p := ⟨W, 8, none⟩) (Below.setCell (p := ⟨W, 7, none⟩) (Below.setCell (p := ⟨W, 6, none⟩) (Below.setCell (p := ⟨W, 5, none⟩) (Below.setCell (p := ⟨W, 4, none⟩) (Below.refl _ _) (Nat.le_refl _) _) (Nat.le_refl _) _) (Nat.le_refl _) _) (Nat.le_refl _) _) (Nat.le_refl _) _) (Nat.le_refl _) _) (Nat.le_refl _) _) (Nat.le_refl _) _).trans ((below_alloc (Below.refl _ _) _).mono ?_)
  simp; omega
end Go.Proofs.YtiieljnllgeoeaaGreat.Q
