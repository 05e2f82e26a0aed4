/- Rows of cells; bytes of numbers, the lowest first, written into a row. -/
import Derived.Test.YtgccaabpckfhlaaGreatDoorZa
import Derived.Outline
namespace Go.Proofs.YtgccaabpckfhlaaGreatDoor.Q
open Go.RowKit Go.Proofs.YtgccaabpckfhlaaGreatDoorW.PrintWords Go.Proofs.YtgccaabpckfhlaaGreatDoorW.PrintLast Go.Proofs.YtgccaabpckfhlaaGreatDoorW.PrintMore
set_option linter.unusedVariables false
set_option linter.unusedSimpArgs false
/-- Numbers in a block of their own. -/
def RowK (k : IntKind) (t : TypeId) (w : World) (D : Nat) (l : List Int) : Prop := w.heap[D]? = some (.cells (l.map (Value.int k)).toArray t (0, 0))
theorem RowK.cell {k : IntKind} {t : TypeId} {w : World} {D : Nat} {l : List Int} (h : RowK k t w D l) (j : Nat) (hj : j < l.length) : w.cell? ⟨D, j, none⟩ = some (.int k (l.getD j 0)) := by
  rw [blk_cell h j]; simp [hj]
theorem RowK.lt {k : IntKind} {t : TypeId} {w : World} {D : Nat} {l : List Int} (h : RowK k t w D l) : D < w.heap.size := blk_lt h
theorem RowK.put {k : IntKind} {t : TypeId} {w : World} {X : Nat} {l : List Int} (h : RowK k t w X l) (i : Nat) (v : Int) : RowK k t (w.setCell ⟨X, i, none⟩ (.int k v)) X (l.set i v) := by
  have := blk_set h i (.int k v)
  unfold RowK
  rw [this, List.map_set]
  simp
theorem RowK.alloc {k : IntKind} {t : TypeId} {w : World} {X : Nat} {l : List Int} (h : RowK k t w X l) (o : Obj) : RowK k t (w.alloc o) X l := blk_alloc h o
theorem RowK.below {k : IntKind} {t : TypeId} {w w' : World} {X : Nat} {l : List Int} (h : RowK k t w X l) (hb : Below w.heap.size w w') : RowK k t w' X l := blk_below h hb
theorem RowK.kept {k : IntKind} {t : TypeId} {w w' : World} {X : Nat} {l : List Int} {S : Nat → Prop} (h : RowK k t w X l) (hb : Kept w w' S) (hn : ¬ S X) : RowK k t w' X l := blk_kept h hb hn
theorem RowK.frozen {k : IntKind} {t : TypeId} {w : World} {X : Nat} {l : List Int} (h : RowK k t w X l) (j : Nat) : w.frozen? ⟨X, j, none⟩ = false := blk_frozen h _
abbrev Row := RowK .u8 5
theorem made_int (k : IntKind) (n : Nat) : madeCells #[.int k 0] n = ((List.replicate n (0 : Int)).map (Value.int k)).toArray := by
  apply Array.ext'
  simp [madeCells]
  apply List.ext_getElem <;> simp
  intro i h1
  simp [Nat.mod_one]
def zerosK (k : IntKind) (t : TypeId) (n : Nat) : Obj := .cells ((List.replicate n (0 : Int)).map (Value.int k)).toArray t
theorem row_zeros (k : IntKind) (t : TypeId) (w : World) (n : Nat) : RowK k t (w.alloc (zerosK k t n)) w.heap.size (List.replicate n 0) := blk_new w _
theorem info5_some : (Tryz.prog.info? 5).isSome = true := by kernel_rfl
theorem info26_some : (Tryz.prog.info? 26).isSome = true := by kernel_rfl
set_option maxRecDepth 100000 in
theorem make_bytes (n : Nat) (h : n ≤ 1099511627776) (W : World) : (Instr.makeSlice 23 (.int .i64 (n : Int)) (.int .i64 (n : Int))).run Tryz.prog W = .ok (.slice (some ⟨W.heap.size, 0, none⟩) n n) (W.alloc (zerosK .u8 5 n)) := by
  have hb : ((Tryz.prog.info? 5).get info5_some).bytes = 1 := by kernel_rfl
  have hs : ((Tryz.prog.info? 5).get info5_some).size = 1 := by kernel_rfl
  have hr := run_make (P := Tryz.prog) W 23 5 ((Tryz.prog.info? 5).get info5_some) (.int .u8 0) (by kernel_rfl) (Option.some_get _).symm (by kernel_rfl) .i64 .i64 (n : Int) (n : Int) (by omega) (Int.le_refl _) (by rw [hb]; omega) (by omega)
  simp only [Int.toNat_natCast, hs, Nat.mul_one] at hr
  rw [hr]
  have : Value.cells (.int .u8 0) = #[.int .u8 0] := rfl
  rw [this, made_int]
  rfl
set_option maxRecDepth 100000 in
theorem make_u64 (n : Nat) (h : n ≤ 10000000000) (W : World) : (Instr.makeSlice 22 (.int .i64 (n : Int)) (.int .i64 (n : Int))).run Tryz.prog W = .ok (.slice (some ⟨W.heap.size, 0, none⟩) n n) (W.alloc (zerosK .u64 26 n)) := by
  have hb : ((Tryz.prog.info? 26).get info26_some).bytes = 8 := by kernel_rfl
  have hs : ((Tryz.prog.info? 26).get info26_some).size = 1 := by kernel_rfl
  have hr := run_make (P := Tryz.prog) W 22 26 ((Tryz.prog.info? 26).get info26_some) (.int .u64 0) (by kernel_rfl) (Option.some_get _).symm (by kernel_rfl) .i64 .i64 (n : Int) (n : Int) (by omega) (Int.le_refl _) (by rw [hb]; omega) (by omega)
  simp only [Int.toNat_natCast, hs, Nat.mul_one] at hr
  rw [hr]
  have : Value.cells (.int .u64 0) = #[.int .u64 0] := rfl
  rw [this, made_int]
  rfl
set_option maxRecDepth 100000 in
theorem sliceAt_b (D i j n : Nat) (hi : i < j) (hj : j ≤ n) (hn : n ≤ 16777216) (W : World) : (Instr.sliceAt 23 (.slice (some ⟨D, 0, none⟩) n n) (some (.int .i64 (i : Int))) (some (.int .i64 (j : Int))) none).run Tryz.prog W = .ok (.slice (some ⟨D, i, none⟩) (j - i) (n - i)) W := by
  rw [run_sliceAt_slice W 23 _ _ _ _ Tryz.underlying23, run_slice_lh W 23 (some ⟨D, 0, none⟩) n n Tryz.underlying23 .i64 .i64 (i : Int) (j : Int) (by omega) (by omega) (by omega)]
  have hsz : (sizeOf (Tryz.prog.elem 23)).run Tryz.prog W = .ok 1 W := by kernel_rfl
  rw [hsz]
  simp only [Result.andThen, sliced, Int.toNat_natCast]
  rw [if_neg (by omega)]
  simp [Addr.add]
  try omega
/-- Bytes, the lowest first. -/
def le8 (x : Int) : List Int := [x % 256, x / 256 % 256, x / 65536 % 256, x / 16777216 % 256, x / 4294967296 % 256, x / 1099511627776 % 256, x / 281474976710656 % 256, x / 72057594037927936 % 256]
theorem splice8 (l : List Int) (o : Nat) (h : o + 8 ≤ l.length) (a b c d a2 b2 c2 d2 : Int) : (((((((l.set o a).set (o + 1) b).set (o + 2) c).set (o + 3) d).set (o + 4) a2).set (o + 5) b2).set (o + 6) c2).set (o + 7) d2 = l.take o ++ [a, b, c, d, a2, b2, c2, d2] ++ l.drop (o + 8) := by
  obtain ⟨P, hP⟩ : ∃ P, P = l.take o := ⟨_, rfl⟩
  have hPl : P.length = o := by rw [hP]; simp; omega
  obtain ⟨x0, x1, x2, x3, x4, x5, x6, x7, S, e⟩ : ∃ x0 x1 x2 x3 x4 x5 x6 x7 S, l.drop o = x0 :: x1 :: x2 :: x3 :: x4 :: x5 :: x6 :: x7 :: S := by
    have : 8 ≤ (l.drop o).length := by simp; omega
    match l.drop o, this with
    | x0 :: x1 :: x2 :: x3 :: x4 :: x5 :: x6 :: x7 :: S, _ => exact ⟨_, _, _, _, _, _, _, _, _, rfl⟩
  have hl : l = P ++ x0 :: x1 :: x2 :: x3 :: x4 :: x5 :: x6 :: x7 :: S := by rw [← e, hP, List.take_append_drop]
  have hd : l.drop (o + 8) = S := by rw [← List.drop_drop, e]; rfl
  rw [hd, ← hP, hl, ← hPl]
  simp [List.set_append]
set_option maxHeartbeats 4000000 in
set_option maxRecDepth 100000 in
theorem put64_calls (X o n c : Nat) (l : List Int) (x : Int) (w : World) (h : Row w X l) (hn : 8 ≤ n) (ho : o + 8 ≤ l.length) (h0 : 0 ≤ x) (h1 : x < 18446744073709551616) :
    Calls Tryz.prog 37 #[.agg #[], .slice (some ⟨X, o, none⟩) n c, .int .u64 x] w fun e w' => e = .returned (.tuple #[]) ∧ Row w' X (l.take o ++ le8 x ++ l.drop (o + 8)) ∧ Kept w w' (fun k => k = X) ∧ Below X w w' := by
  have hX := h.lt
  have H := Aside0.mk h
  have c0 := h.cell o (by omega)
  have c1 := h.cell (o + 1) (by omega)
  have c2 := h.cell (o + 2) (by omega)
  have c3 := h.cell (o + 3) (by omega)
  have c4 := h.cell (o + 4) (by omega)
  have c5 := h.cell (o + 5) (by omega)
  have c6 := h.cell (o + 6) (by omega)
  have c7 := h.cell (o + 7) (by omega)
  have z0 : w.frozen? ⟨X, o, none⟩ = false := blk_frozen h _
  have z1 : w.frozen? ⟨X, o + 1, none⟩ = false := blk_frozen h _
  have z2 : w.frozen? ⟨X, o + 2, none⟩ = false := blk_frozen h _
  have z3 : w.frozen? ⟨X, o + 3, none⟩ = false := blk_frozen h _
  have z4 : w.frozen? ⟨X, o + 4, none⟩ = false := blk_frozen h _
  have z5 : w.frozen? ⟨X, o + 5, none⟩ = false := blk_frozen h _
  have z6 : w.frozen? ⟨X, o + 6, none⟩ = false := blk_frozen h _
  have z7 : w.frozen? ⟨X, o + 7, none⟩ = false := blk_frozen h _
  have g0 : (0 : Int) < (n : Int) := by omega
  have g1 : (1 : Int) < (n : Int) := by omega
  have g2 : (2 : Int) < (n : Int) := by omega
  have g3 : (3 : Int) < (n : Int) := by omega
  have g4 : (4 : Int) < (n : Int) := by omega
  have g5 : (5 : Int) < (n : Int) := by omega
  have g6 : (6 : Int) < (n : Int) := by omega
  have g7 : (7 : Int) < (n : Int) := by omega
  clear h
  go_enter Tryz.func37, Tryz.ntmps37
  go_wp2
  go_end0
  refine ⟨rfl, ?_, ?_, ?_⟩
  · have := ((((((((H.out.put o (x % 256)).put (o + 1) (x / 256 % 256)).put (o + 2) (x / 65536 % 256)).put (o + 3) (x / 16777216 % 256)).put (o + 4) (x / 4294967296 % 256)).put (o + 5) (x / 1099511627776 % 256)).put (o + 6) (x / 281474976710656 % 256)).put (o + 7) (x / 72057594037927936)).alloc (.cells #[] 101)
    rw [splice8 l o ho] at this
    have e : x / 72057594037927936 % 256 = x / 72057594037927936 := by omega
    unfold le8
    rw [e]
    exact this
  · exact (((((((((Kept.refl w (fun k => k = X)).setCell (.inl rfl) _).setCell (.inl rfl) _).setCell (.inl rfl) _).setCell (.inl rfl) _).setCell (.inl rfl) _).setCell (.inl rfl) _).setCell (.inl rfl) _).setCell (.inl rfl) _).alloc _
  · refine (Below.setCell (p := ⟨X, o + 7, none⟩) (Below.setCell (p := ⟨X, o + 6, none⟩) (Below.setCell (p := ⟨X, o + 5, none⟩) (Below.setCell (p := ⟨X, o + 4, none⟩) (Below.setCell (p := ⟨X, o + 3, none⟩) (Below.setCell (p := ⟨X, o + 2, none⟩) (Below.setCell (p := ⟨X, o + 1, none⟩) (Below.setCell (p := ⟨X, o, none⟩) (Below.refl _ _) (Nat.le_refl _) _) (Nat.le_refl _) _) (Nat.le_refl _) _) (Nat.le_refl _) _) (Nat.le_refl _) _) (Nat.le_refl _) _) (Nat.le_refl _) _) (Nat.le_refl _) _).trans ((below_alloc (Below.refl _ _) _).mono ?_)
    simp; omega

/-- What is filled so far. -/
def fillL (f : Int → List Int) (k : Nat) (xs : List Int) (i : Nat) : List Int := (xs.take i).flatMap f ++ List.replicate (k * (xs.length - i)) 0
theorem flat_len (f : Int → List Int) (k : Nat) (hf : ∀ x, (f x).length = k) (xs : List Int) : (xs.flatMap f).length = k * xs.length := by
  induction xs with
  | nil => simp
  | cons x t ih => rw [List.flatMap_cons, List.length_append, hf, ih, List.length_cons, Nat.mul_add]; omega
theorem fillL_len (f : Int → List Int) (k : Nat) (hf : ∀ x, (f x).length = k) (xs : List Int) (i : Nat) (hi : i ≤ xs.length) : (fillL f k xs i).length = k * xs.length := by
  unfold fillL
  rw [List.length_append, flat_len f k hf, List.length_replicate, List.length_take, Nat.min_eq_left hi, ← Nat.mul_add]
  congr 1; omega
theorem fillL_step (f : Int → List Int) (k : Nat) (hf : ∀ x, (f x).length = k) (xs : List Int) (i : Nat) (hi : i < xs.length) :
    (fillL f k xs i).take (k * i) ++ f (xs.getD i 0) ++ (fillL f k xs i).drop (k * i + k) = fillL f k xs (i + 1) := by
  have hl : ((xs.take i).flatMap f).length = k * i := by rw [flat_len f k hf, List.length_take, Nat.min_eq_left (by omega)]
  unfold fillL
  rw [List.take_append_of_le_length (by omega), List.take_of_length_le (by omega), List.drop_append, hl, List.drop_of_length_le (by omega), List.drop_replicate]
  have e1 : xs.take (i + 1) = xs.take i ++ [xs.getD i 0] := by rw [List.take_add_one, List.getD_eq_getElem?_getD, List.getElem?_eq_getElem hi]; rfl
  have e2 : k * (xs.length - i) - (k * i + k - k * i) = k * (xs.length - (i + 1)) := by
    rw [show xs.length - i = (xs.length - (i + 1)) + 1 by omega, Nat.mul_add, Nat.mul_one]
    omega
  rw [e1, List.flatMap_append, e2]
  simp

end Go.Proofs.YtgccaabpckfhlaaGreatDoor.Q
