/- Bytes of numbers, the lowest first: written into a row. -/
import Derived.Test.YtcfnniminikmfaaFe
import Derived.Outline
namespace Go.Proofs.Ytcfnniminikmfaa.Q
open Go.RowKit Go.Proofs.YtcfnniminikmfaaW.PrintWords Go.Proofs.YtcfnniminikmfaaW.PrintLast Go.Proofs.YtcfnniminikmfaaW.PrintMore
set_option linter.unusedVariables false
set_option linter.unusedSimpArgs false
theorem Row.put {w : World} {X : Nat} {l : List Int} (h : Row w X l) (i : Nat) (v : Int) : Row (w.setCell ⟨X, i, none⟩ (.int .u8 v)) X (l.set i v) := by
  have := blk_set h i (.int .u8 v)
  unfold Row
  rw [this, List.map_set]
  simp
theorem Row.alloc {w : World} {X : Nat} {l : List Int} (h : Row w X l) (o : Obj) : Row (w.alloc o) X l := blk_alloc h o
/-- Bytes, the lowest first. -/
def le4 (x : Int) : List Int := [x % 256, x / 256 % 256, x / 65536 % 256, x / 16777216 % 256]
def le8 (x : Int) : List Int := [x % 256, x / 256 % 256, x / 65536 % 256, x / 16777216 % 256, x / 4294967296 % 256, x / 1099511627776 % 256, x / 281474976710656 % 256, x / 72057594037927936 % 256]
theorem splice4 (l : List Int) (o : Nat) (h : o + 4 ≤ l.length) (a b c d : Int) : (((l.set o a).set (o + 1) b).set (o + 2) c).set (o + 3) d = l.take o ++ [a, b, c, d] ++ l.drop (o + 4) := by
  obtain ⟨P, hP⟩ : ∃ P, P = l.take o := ⟨_, rfl⟩
  have hPl : P.length = o := by rw [hP]; simp; omega
  obtain ⟨x0, x1, x2, x3, S, e⟩ : ∃ x0 x1 x2 x3 S, l.drop o = x0 :: x1 :: x2 :: x3 :: S := by
    have : 4 ≤ (l.drop o).length := by simp; omega
    match l.drop o, this with
    | x0 :: x1 :: x2 :: x3 :: S, _ => exact ⟨_, _, _, _, _, rfl⟩
  have hl : l = P ++ x0 :: x1 :: x2 :: x3 :: S := by rw [← e, hP, List.take_append_drop]
  have hd : l.drop (o + 4) = S := by rw [← List.drop_drop, e]; rfl
  rw [hd, ← hP, hl, ← hPl]
  simp [List.set_append]
theorem splice8 (l : List Int) (o : Nat) (h : o + 8 ≤ l.length) (a b c d a2 b2 c2 d2 : Int) : (((((((l.set o a).set (o + 1) b).set (o + 2) c).set (o + 3) d).set (o + 4) a2).set (o + 5) b2).set (o + 6) c2).set (o + 7) d2 = l.take o ++ [a, b, c, d, a2, b2, c2, d2] ++ l.drop (o + 8) := by
  obtain ⟨P, hP⟩ : ∃ P, P = l.take o := ⟨_, rfl⟩
  have hPl : P.length = o := by rw [hP]; simp; omega
  obtain ⟨x0, x1, x2, x3, x4, x5, x6, x7, S, e⟩ : ∃ x0 x1 x2 x3 x4 x5 x6 x7 S, l.drop o = x0 :: x1 :: x2 :: x3 :: x4 :: x5 :: x6 :: x7 :: S := by
    have : 8 ≤ (l.drop o).length := by simp; omega
    match l.drop o, this with
    | x0 :: x1 :: x2 :: x3 :: x4 :: x5 :: x6 :: x7 :: S, _ => exact ⟨_, _, _, _, _, _, _, _, _, rfl⟩
  have hl : l = P ++ x0 :: x1 :: x2 :: x3 :: x4 :: x5 :: x6 :: x7 :: S := by rw [← e, hP, List.take_append_drop]
  have hd : l.drop (o + 8) = S := by rw [← List.drop_drop, e]; rfl
  rw [hd, ← hP, hl, ← hPl]
  simp [List.set_append]
set_option maxHeartbeats 4000000 in
set_option maxRecDepth 100000 in
theorem put32_calls (X o n c : Nat) (l : List Int) (x : Int) (w : World) (h : Row w X l) (hn : 4 ≤ n) (ho : o + 4 ≤ l.length) (h0 : 0 ≤ x) (h1 : x < 4294967296) :
    Calls Try.prog 64 #[.agg #[], .slice (some ⟨X, o, none⟩) n c, .int .u32 x] w fun e w' => e = .returned (.tuple #[]) ∧ Row w' X (l.take o ++ le4 x ++ l.drop (o + 4)) ∧ Kept w w' (fun k => k = X) ∧ Below X w w' := by
  have hX := h.lt
  have H := Aside0.mk h
  have c0 := h.cell o (by omega)
  have c1 := h.cell (o + 1) (by omega)
  have c2 := h.cell (o + 2) (by omega)
  have c3 := h.cell (o + 3) (by omega)
  have z0 : w.frozen? ⟨X, o, none⟩ = false := blk_frozen h _
  have z1 : w.frozen? ⟨X, o + 1, none⟩ = false := blk_frozen h _
  have z2 : w.frozen? ⟨X, o + 2, none⟩ = false := blk_frozen h _
  have z3 : w.frozen? ⟨X, o + 3, none⟩ = false := blk_frozen h _
  have g0 : (0 : Int) < (n : Int) := by omega
  have g1 : (1 : Int) < (n : Int) := by omega
  have g2 : (2 : Int) < (n : Int) := by omega
  have g3 : (3 : Int) < (n : Int) := by omega
  clear h
  go_enter Try.func64, Try.ntmps64
  go_wp2
  go_end0
  refine ⟨rfl, ?_, ?_, ?_⟩
  · have := ((((H.out.put o (x % 256)).put (o + 1) (x / 256 % 256)).put (o + 2) (x / 65536 % 256)).put (o + 3) (x / 16777216)).alloc (.cells #[] 136)
    rw [splice4 l o ho] at this
    have e : x / 16777216 % 256 = x / 16777216 := by omega
    unfold le4
    rw [e]
    exact this
  · exact (((((Kept.refl w (fun k => k = X)).setCell (.inl rfl) _).setCell (.inl rfl) _).setCell (.inl rfl) _).setCell (.inl rfl) _).alloc _
  · refine (Below.setCell (p := ⟨X, o + 3, none⟩) (Below.setCell (p := ⟨X, o + 2, none⟩) (Below.setCell (p := ⟨X, o + 1, none⟩) (Below.setCell (p := ⟨X, o, none⟩) (Below.refl _ _) (Nat.le_refl _) _) (Nat.le_refl _) _) (Nat.le_refl _) _) (Nat.le_refl _) _).trans ((below_alloc (Below.refl _ _) _).mono ?_)
    simp; omega
set_option maxHeartbeats 4000000 in
set_option maxRecDepth 100000 in
theorem put64_calls (X o n c : Nat) (l : List Int) (x : Int) (w : World) (h : Row w X l) (hn : 8 ≤ n) (ho : o + 8 ≤ l.length) (h0 : 0 ≤ x) (h1 : x < 18446744073709551616) :
    Calls Try.prog 99 #[.agg #[], .slice (some ⟨X, o, none⟩) n c, .int .u64 x] w fun e w' => e = .returned (.tuple #[]) ∧ Row w' X (l.take o ++ le8 x ++ l.drop (o + 8)) ∧ Kept w w' (fun k => k = X) ∧ Below X w w' := by
  have hX := h.lt
  have H := Aside0.mk h
  have c0 := h.cell o (by omega)
  have c1 := h.cell (o + 1) (by omega)
  have c2 := h.cell (o + 2) (by omega)
  have c3 := h.cell (o + 3) (by omega)
  have c4 := h.cell (o + 4) (by omega)
  have c5 := h.cell (o + 5) (by omega)
  have c6 := h.cell (o + 6) (by omega)
  have c7 := h.cell (o + 7) (by omega)
  have z0 : w.frozen? ⟨X, o, none⟩ = false := blk_frozen h _
  have z1 : w.frozen? ⟨X, o + 1, none⟩ = false := blk_frozen h _
  have z2 : w.frozen? ⟨X, o + 2, none⟩ = false := blk_frozen h _
  have z3 : w.frozen? ⟨X, o + 3, none⟩ = false := blk_frozen h _
  have z4 : w.frozen? ⟨X, o + 4, none⟩ = false := blk_frozen h _
  have z5 : w.frozen? ⟨X, o + 5, none⟩ = false := blk_frozen h _
  have z6 : w.frozen? ⟨X, o + 6, none⟩ = false := blk_frozen h _
  have z7 : w.frozen? ⟨X, o + 7, none⟩ = false := blk_frozen h _
  have g0 : (0 : Int) < (n : Int) := by omega
  have g1 : (1 : Int) < (n : Int) := by omega
  have g2 : (2 : Int) < (n : Int) := by omega
  have g3 : (3 : Int) < (n : Int) := by omega
  have g4 : (4 : Int) < (n : Int) := by omega
  have g5 : (5 : Int) < (n : Int) := by omega
  have g6 : (6 : Int) < (n : Int) := by omega
  have g7 : (7 : Int) < (n : Int) := by omega
  clear h
  go_enter Try.func99, Try.ntmps99
  go_wp2
  go_end0
  refine ⟨rfl, ?_, ?_, ?_⟩
  · have := ((((((((H.out.put o (x % 256)).put (o + 1) (x / 256 % 256)).put (o + 2) (x / 65536 % 256)).put (o + 3) (x / 16777216 % 256)).put (o + 4) (x / 4294967296 % 256)).put (o + 5) (x / 1099511627776 % 256)).put (o + 6) (x / 281474976710656 % 256)).put (o + 7) (x / 72057594037927936)).alloc (.cells #[] 136)
    rw [splice8 l o ho] at this
    have e : x / 72057594037927936 % 256 = x / 72057594037927936 := by omega
    unfold le8
    rw [e]
    exact this
  · exact (((((((((Kept.refl w (fun k => k = X)).setCell (.inl rfl) _).setCell (.inl rfl) _).setCell (.inl rfl) _).setCell (.inl rfl) _).setCell (.inl rfl) _).setCell (.inl rfl) _).setCell (.inl rfl) _).setCell (.inl rfl) _).alloc _
  · refine (Below.setCell (p := ⟨X, o + 7, none⟩) (Below.setCell (p := ⟨X, o + 6, none⟩) (Below.setCell (p := ⟨X, o + 5, none⟩) (Below.setCell (p := ⟨X, o + 4, none⟩) (Below.setCell (p := ⟨X, o + 3, none⟩) (Below.setCell (p := ⟨X, o + 2, none⟩) (Below.setCell (p := ⟨X, o + 1, none⟩) (Below.setCell (p := ⟨X, o, none⟩) (Below.refl _ _) (Nat.le_refl _) _) (Nat.le_refl _) _) (Nat.le_refl _) _) (Nat.le_refl _) _) (Nat.le_refl _) _) (Nat.le_refl _) _) (Nat.le_refl _) _) (Nat.le_refl _) _).trans ((below_alloc (Below.refl _ _) _).mono ?_)
    simp; omega

set_option maxHeartbeats 4000000 in
set_option maxRecDepth 100000 in
theorem putI32_calls (X n i : Nat) (l : List Int) (v : Int) (w : World) (h : Row w X l) (hn : l.length = n) (hi : 4 * i + 4 ≤ n) (hm : n ≤ 16777216) (h0 : -2147483648 ≤ v) (h1 : v ≤ 2147483647) :
    Calls Try.prog 83 #[.slice (some ⟨X, 0, none⟩) n n, .int .i64 (i : Int), .int .i32 v] w fun e w' => e = .returned (.tuple #[]) ∧ Row w' X (l.take (4 * i) ++ le4 (v % 4294967296) ++ l.drop (4 * i + 4)) ∧ Kept w w' (fun k => k = X) ∧ Below X w w' := by
  have hsl := sliceAt_b X (4 * i) n (by omega) hm
  rw [if_neg (by omega), show ((4 * i : Nat) : Int) = 4 * (i : Int) by omega] at hsl
  have HP := Aside0.mk (fun W (hW : Row W X l) => put32_calls X (4 * i) (n - 4 * i) (n - 4 * i) l (v % 4294967296) W hW (by omega) (by omega) (by omega) (by omega))
  have H := Aside0.mk h
  clear h
  have hx : (0 : Int) ≤ 4 * (i : Int) := by omega
  have hx2 : 4 * (i : Int) ≤ 16777216 := by omega
  have ha : ∀ W : World, (Instr.typeAssert (.iface 21 (.int .i32 v)) 20 21 true).run Try.prog W = .ok (.tuple #[.int .i32 v, .bool true]) W := fun W => by kernel_rfl
  have hwr : IntKind.i64.wrap (4 * (i : Int)) = 4 * (i : Int) := by rw [IntKind.wrap_i64]; omega
  go_enter Try.func83, Try.ntmps83
  go_wp2
  go_still_tail 7, (by kernel_rfl)
  change wpList _ _ _ _ _ w.drew
  go_wp2_with (first | (go_at_call 64; refine (HP.out w.drew H.out).mono ?_; rintro e w1 ⟨rfl, e1, e2, e3⟩; have E := Aside0.mk (And.intro e1 (And.intro e2 e3)); clear e1 e2 e3))
  go_end0
  obtain ⟨e1, e2, e3⟩ := E.out
  exact ⟨rfl, e1, ⟨e2.1, e2.2⟩, (below_drew (Below.refl _ _)).trans e3⟩

set_option maxHeartbeats 1000000 in
set_option maxRecDepth 100000 in
theorem widthI32_calls (w : World) : Calls Try.prog 98 #[] w fun e w' => e = .returned (.int .i64 4) ∧ w' = w := by
  have h1 : ∀ W : World, (Instr.typeAssert (.iface 21 (.int .i32 0)) 20 21 true).run Try.prog W = .ok (.tuple #[.int .i32 0, .bool true]) W := fun W => by kernel_rfl
  have h2 : ∃ z, ∀ W : World, (Instr.typeAssert (.iface 21 (.int .i32 0)) 20 78 true).run Try.prog W = .ok (.tuple #[z, .bool false]) W := ⟨_, fun W => by rfl⟩
  obtain ⟨z, h2⟩ := h2
  go_enter Try.func98, Try.ntmps98
  go_wp2
  go_ret
  exact ⟨rfl, rfl⟩
set_option maxHeartbeats 1000000 in
set_option maxRecDepth 100000 in
theorem reqI32_calls (n : Nat) (w : World) (hn : n ≤ 1048576) : Calls Try.prog 82 #[.int .i64 (n : Int)] w fun e w' => e = .returned (.int .i64 (4 * (n : Int))) ∧ w' = w := by
  have HW := Aside0.mk (widthI32_calls w)
  have h0 : (0 : Int) ≤ (n : Int) * 4 := by omega
  have h1 : (n : Int) * 4 ≤ 4194304 := by omega
  go_enter Try.func82, Try.ntmps82
  go_wp2_with (first | (go_at_call 98; refine HW.out.mono ?_; rintro e w1 ⟨rfl, hw1⟩; subst w1))
  go_ret
  refine ⟨congrArg Ending.returned (congrArg (Value.int .i64) ?_), rfl⟩
  omega

/-- What is filled so far. -/
def fillL (f : Int → List Int) (k : Nat) (xs : List Int) (i : Nat) : List Int := (xs.take i).flatMap f ++ List.replicate (k * (xs.length - i)) 0
theorem flat_len (f : Int → List Int) (k : Nat) (hf : ∀ x, (f x).length = k) (xs : List Int) : (xs.flatMap f).length = k * xs.length := by
  induction xs with
  | nil => simp
  | cons x t ih => rw [List.flatMap_cons, List.length_append, hf, ih, List.length_cons, Nat.mul_add]; omega
theorem fillL_len (f : Int → List Int) (k : Nat) (hf : ∀ x, (f x).length = k) (xs : List Int) (i : Nat) (hi : i ≤ xs.length) : (fillL f k xs i).length = k * xs.length := by
  unfold fillL
  rw [List.length_append, flat_len f k hf, List.length_replicate, List.length_take, Nat.min_eq_left hi, ← Nat.mul_add]
  congr 1; omega
theorem fillL_step (f : Int → List Int) (k : Nat) (hf : ∀ x, (f x).length = k) (xs : List Int) (i : Nat) (hi : i < xs.length) :
    (fillL f k xs i).take (k * i) ++ f (xs.getD i 0) ++ (fillL f k xs i).drop (k * i + k) = fillL f k xs (i + 1) := by
  have hl : ((xs.take i).flatMap f).length = k * i := by rw [flat_len f k hf, List.length_take, Nat.min_eq_left (by omega)]
  unfold fillL
  rw [List.take_append_of_le_length (by omega), List.take_of_length_le (by omega), List.drop_append, hl, List.drop_of_length_le (by omega), List.drop_replicate]
  have e1 : xs.take (i + 1) = xs.take i ++ [xs.getD i 0] := by rw [List.take_add_one, List.getD_eq_getElem?_getD, List.getElem?_eq_getElem hi]; rfl
  have e2 : k * (xs.length - i) - (k * i + k - k * i) = k * (xs.length - (i + 1)) := by
    rw [show xs.length - i = (xs.length - (i + 1)) + 1 by omega, Nat.mul_add, Nat.mul_one]
    omega
  rw [e1, List.flatMap_append, e2]
  simp

set_option maxHeartbeats 4000000 in
set_option maxRecDepth 100000 in
theorem getI32_calls (A : Option Addr) (c : Nat) (xs : List Int) (w : World) (hr : Kd.C (Kd.int .i32) w A xs.length xs) (hn : xs.length ≤ 1048576) (hx : ∀ x ∈ xs, -2147483648 ≤ x ∧ x ≤ 2147483647) :
    Calls Try.prog 68 #[.slice A xs.length c] w fun e w' => e = .returned (.slice (some ⟨w.heap.size, 0, none⟩) (4 * xs.length) (4 * xs.length)) ∧ Row w' w.heap.size (xs.flatMap fun x => le4 (x % 4294967296)) ∧ Below w.heap.size w w' := by
  have HQ := Aside0.mk (reqI32_calls xs.length w hn)
  have HR := Aside0.mk hr
  have HX := Aside0.mk hx
  have hmk := make_bytes (4 * xs.length) (by omega)
  rw [show ((4 * xs.length : Nat) : Int) = 4 * (xs.length : Int) by omega] at hmk
  have HP := Aside0.mk (fun i l v W h hn hi h0 h1 => putI32_calls w.heap.size (4 * xs.length) i l v W h hn hi (by omega) h0 h1)
  have hb0 : Below w.heap.size w (w.alloc (zeros (4 * xs.length))) := below_alloc (Below.refl _ _) _
  have hz := row_zeros w (4 * xs.length)
  have HB := Aside0.mk hb0
  have HZ := Aside0.mk (show Row (w.alloc (zeros (4 * xs.length))) w.heap.size (fillL (fun x => le4 (x % 4294967296)) 4 xs 0) by simpa [fillL] using hz)
  clear hr hx hb0 hz
  go_enter Try.func68, Try.ntmps68
  go_wp2_with (first | (go_at_call 82; refine HQ.out.mono ?_; rintro e w1 ⟨rfl, hw1⟩; subst w1))
  generalize w.alloc (zeros (4 * xs.length)) = w1 at HB HZ ⊢
  clear hmk HQ
  go_loopg [12] (xs.length + 1) (fun kq v12 w' => ∃ i : Nat, v12 = .int .i64 (i : Int) ∧ Aside0 (i + kq = xs.length + 1) ∧ Aside0 (i ≤ xs.length) ∧ Aside0 (Row w' w.heap.size (fillL (fun x => le4 (x % 4294967296)) 4 xs i)) ∧ Aside0 (Below w.heap.size w w'))
  case atStart => exact ⟨0, rfl, ⟨by omega⟩, ⟨by omega⟩, HZ, HB⟩
  case round =>
    obtain ⟨i, rfl, HK, HI, HL, HBB⟩ := hrel
    cases gk with
    | zero => exact absurd HK.out (by have := HI.out; omega)
    | succ k1 =>
      by_cases c2 : (i : Int) < (xs.length : Int)
      · have c2b : decide ((i : Int) < (xs.length : Int)) = true := decide_eq_true c2
        obtain ⟨ad, rfl, hc⟩ := Kd.at_int (Kd.C_below HR.out HBB.out) (i : Int) (by omega) (by omega)
        rw [Int.toNat_natCast] at hc
        have hm : rd xs (i : Int) ∈ xs := by
          show xs.getD (i : Int).toNat 0 ∈ xs
          rw [Int.toNat_natCast, List.getD_eq_getElem?_getD, List.getElem?_eq_getElem (by omega)]
          exact List.getElem_mem _
        have hb := HX.out _ hm
        have hl := fillL_len (fun x => le4 (x % 4294967296)) 4 (fun _ => rfl) xs i (by omega)
        have HPP := Aside0.mk (HP.out i _ (rd xs (i : Int)) wr HL.out hl (by omega) hb.1 hb.2)
        have hs := fillL_step (fun x => le4 (x % 4294967296)) 4 (fun _ => rfl) xs i (by omega)
        have hs2 : xs.getD i 0 = rd xs (i : Int) := rfl
        rw [hs2] at hs
        have HS := Aside0.mk hs
        have g0 : (0 : Int) ≤ (i : Int) := by omega
        clear hs hs2 hl hb hm HP HX HZ HB
        go_wp2_with (first | (go_at_call 83; refine HPP.out.mono ?_; rintro e w2 ⟨rfl, e1, e2, e3⟩; have E1 := Aside0.mk e1; have E3 := Aside0.mk e3; clear e1 e2 e3))
        go_roundg k1
        case measure => have := HK.out; omega
        case rel => exact ⟨i + 1, (by simp), ⟨by have := HK.out; omega⟩, ⟨by omega⟩, ⟨by have := E1.out; rwa [HS.out] at this⟩, ⟨HBB.out.trans E3.out⟩⟩
      · have c2b : decide ((i : Int) < (xs.length : Int)) = false := decide_eq_false c2
        go_wp2
        go_ret
        have hi : i = xs.length := by have := HI.out; omega
        refine ⟨rfl, ?_, HBB.out⟩
        have := HL.out
        rw [hi] at this
        simpa [fillL] using this

theorem Snk.below {w w1 : World} {S B D : Nat} {l : List Int} {pos : Nat} {q : Int} {G : Nat} (h : Snk w S B D l pos q G) (hb : Below w.heap.size w w1) : Snk w1 S B D l pos q G :=
  ⟨blk_below h.s hb, ⟨blk_below h.b.1 hb, blk_below h.b.2 hb⟩, h.le, h.lo, h.hi⟩
theorem wrote_after {w w1 w' : World} {S B D : Nat} {l : List Int} {pos : Nat} {q : Int} {G : Nat} {cs : List Int} (h : Snk w S B D l pos q G) (hb : Below w.heap.size w w1) (hw : Wrote w1 w' S B D l pos q G cs) : Wrote w w' S B D l pos q G cs := by
  obtain ⟨D', l', a1, a2, a3, a4, a5⟩ := hw
  have h1 := blk_lt h.s
  refine ⟨D', l', a1, a2, a3.imp id (fun h => Nat.le_trans hb.size h), (Kept.of_below hb _).then_ a4 (fun k hk => .inl hk), (hb.mono (by omega)).trans a5⟩
theorem lies_row {w : World} {S B D X : Nat} {cs : List Int} (h : Row w X cs) (h1 : X ≠ S) (h2 : X ≠ B) (h3 : X ≠ D) : Lies w S B D (some ⟨X, 0, none⟩) cs := fun _ => ⟨_, rfl, fun W hk j hj => by
  have hr : Row W X cs := (hk.2 X h.lt (by omega)).trans h
  have e : (⟨X, 0, none⟩ : Addr).add j = ⟨X, j, none⟩ := by simp [Addr.add]; omega
  rw [e]; exact hr.cell j hj⟩
theorem EncAt.below {w w1 : World} {E S : Nat} (h : EncAt w E S) (hb : Below w.heap.size w w1) : EncAt w1 E S := (hb.cell (World.block_lt_of_cell? w _ h)).trans h

/-- The bytes of a number of 32 bits. -/
def byI32 (x : Int) : List Int := le4 (x % 4294967296)
set_option maxHeartbeats 2000000 in
set_option maxRecDepth 100000 in
theorem wleI32_calls (E S B D : Nat) (l : List Int) (pos : Nat) (q : Int) (G : Nat) (A : Option Addr) (c : Nat) (xs : List Int) (w : World) (hE : EncAt w E S) (h : Snk w S B D l pos q G) (hr : Kd.C (Kd.int .i32) w A xs.length xs) (hx : ∀ x ∈ xs, -2147483648 ≤ x ∧ x ≤ 2147483647) (hb : pos + 4 * xs.length ≤ 4194304) :
    Calls Try.prog 48 #[.pointer (some ⟨E, 0, none⟩), .slice A xs.length c] w fun e w' => e = .returned (.tuple #[]) ∧ Wrote w w' S B D l pos q G (xs.flatMap byI32) := by
  have HG := Aside0.mk (getI32_calls A c xs w hr (by omega) hx)
  have hlen : (xs.flatMap byI32).length = 4 * xs.length := flat_len byI32 4 (fun _ => rfl) xs
  have HA := Aside0.mk (fun w1 (hb1 : Below w.heap.size w w1) (hX : Row w1 w.heap.size (xs.flatMap byI32)) => append_calls E S B D l pos q G (some ⟨w.heap.size, 0, none⟩) (4 * xs.length) (xs.flatMap byI32) w1 (hE.below hb1) (h.below hb1) (by rw [hlen]; exact hb) (lies_row hX (Nat.ne_of_gt (blk_lt h.s)) (Nat.ne_of_gt (blk_lt h.b.1)) (Nat.ne_of_gt (blk_lt h.b.2))))
  rw [hlen] at HA
  have H := Aside0.mk h
  clear h hE hr hx
  go_enter Try.func48, Try.ntmps48
  go_wp2_with (first | (go_at_call 68; refine HG.out.mono ?_; rintro e w1 ⟨rfl, e1, e2⟩; have HA1 := Aside0.mk (HA.out w1 e2 e1); have E2 := Aside0.mk e2; clear e1 e2) | (go_at_call 67; refine HA1.out.mono ?_; rintro e w2 ⟨rfl, e1⟩; have E1 := Aside0.mk e1; clear e1))
  go_end0
  exact ⟨rfl, wrote_after H.out E2.out E1.out⟩
set_option maxHeartbeats 2000000 in
set_option maxRecDepth 100000 in
theorem putEI32_calls (E S B D : Nat) (l : List Int) (pos : Nat) (q : Int) (G : Nat) (A : Option Addr) (c : Nat) (xs : List Int) (w : World) (hE : EncAt w E S) (h : Snk w S B D l pos q G) (hr : Kd.C (Kd.int .i32) w A xs.length xs) (hx : ∀ x ∈ xs, -2147483648 ≤ x ∧ x ≤ 2147483647) (hb : pos + 4 * xs.length ≤ 4194304) :
    Calls Try.prog 23 #[.pointer (some ⟨E, 0, none⟩), .slice A xs.length c] w fun e w' => e = .returned (.tuple #[]) ∧ Wrote w w' S B D l pos q G (xs.flatMap byI32) := by
  have HW := Aside0.mk (wleI32_calls E S B D l pos q G A c xs w hE h hr hx hb)
  clear hE h hr hx
  go_enter Try.func23, Try.ntmps23
  go_wp2_with (first | (go_at_call 48; refine HW.out.mono ?_; rintro e w1 ⟨rfl, e1⟩; have E1 := Aside0.mk e1; clear e1))
  go_end0
  exact ⟨rfl, E1.out⟩
/-- An encoder that was made: nothing is written. -/
def Made (w w' : World) (E S B D : Nat) (l : List Int) (G : Nat) : Prop := w.heap.size ≤ E ∧ w.heap.size ≤ S ∧ w.heap.size ≤ B ∧ w.heap.size ≤ D ∧ E ≠ S ∧ E ≠ B ∧ E ≠ D ∧ EncAt w' E S ∧ Snk w' S B D l 0 0 G ∧ Below w.heap.size w w'
theorem made_of {w w1 : World} {B D : Nat} {l : List Int} {G : Nat} {cs : Array Value} {t : TypeId} (g1 : w.heap.size + 1 < B) (g2 : w.heap.size + 1 < D) (g3 : Snk w1 (w.heap.size + 1) B D l 0 0 G) (g4 : Below w.heap.size w w1) (hc : cs[1]? = some (.pointer (some ⟨w.heap.size + 1, 0, none⟩))) :
    Made w (w1.alloc (.cells cs t)) w1.heap.size (w.heap.size + 1) B D l G := by
  have hB := blk_lt g3.b.1
  have hD := blk_lt g3.b.2
  have hS := blk_lt g3.s
  exact ⟨g4.size, by omega, by omega, by omega, by omega, by omega, by omega, (blk_cell (blk_new w1 _) 1).trans hc, g3.below (below_alloc (Below.refl _ _) _), g4.trans ((below_alloc (Below.refl _ _) _).mono g4.size)⟩
set_option maxHeartbeats 2000000 in
set_option maxRecDepth 100000 in
theorem newI32_calls (w : World) : Calls Try.prog 22 #[.iface 48 (.agg #[])] w fun e w' => ∃ E S B D l G, e = .returned (.pointer (some ⟨E, 0, none⟩)) ∧ Made w w' E S B D l G := by
  have HB := Aside0.mk (base_calls w)
  go_enter Try.func22, Try.ntmps22
  go_wp2_with (first | (go_at_call 47; refine HB.out.mono ?_; rintro e w1 ⟨rfl, B, D, l, G, g1, g2, g3, g4⟩; have G1 := Aside0.mk g1; have G2 := Aside0.mk g2; have G3 := Aside0.mk g3; have G4 := Aside0.mk g4; clear g1 g2 g3 g4))
  go_ret
  exact ⟨_, _, B, D, l, G, rfl, made_of G1.out G2.out G3.out G4.out rfl⟩

/-- The state of an encoder at work since a world. -/
def Inv (W w : World) (E S B D : Nat) (l : List Int) (pos G : Nat) (bs : List Int) : Prop := W.heap.size ≤ E ∧ W.heap.size ≤ S ∧ W.heap.size ≤ B ∧ W.heap.size ≤ D ∧ E ≠ S ∧ E ≠ B ∧ E ≠ D ∧ EncAt w E S ∧ Snk w S B D l pos 0 G ∧ bs.length = pos ∧ l.take pos = bs ∧ Below W.heap.size W w
theorem Made.inv {w w' : World} {E S B D : Nat} {l : List Int} {G : Nat} (h : Made w w' E S B D l G) : Inv w w' E S B D l 0 G [] := by
  obtain ⟨h1, h2, h3, h4, h5, h6, h7, h8, h9, h10⟩ := h
  exact ⟨h1, h2, h3, h4, h5, h6, h7, h8, h9, rfl, by simp, h10⟩
theorem Inv.below {W w w1 : World} {E S B D : Nat} {l : List Int} {pos G : Nat} {bs : List Int} (h : Inv W w E S B D l pos G bs) (hb : Below w.heap.size w w1) : Inv W w1 E S B D l pos G bs := by
  obtain ⟨h1, h2, h3, h4, h5, h6, h7, h8, h9, h10, h11, h12⟩ := h
  exact ⟨h1, h2, h3, h4, h5, h6, h7, h8.below hb, h9.below hb, h10, h11, h12.trans (hb.mono h12.size)⟩
theorem Inv.wrote {W w w1 : World} {E S B D : Nat} {l : List Int} {pos G : Nat} {bs cs : List Int} (h : Inv W w E S B D l pos G bs) (hw : Wrote w w1 S B D l pos 0 G cs) : ∃ D' l', Inv W w1 E S B D' l' (pos + cs.length) G (bs ++ cs) := by
  obtain ⟨h1, h2, h3, h4, h5, h6, h7, h8, h9, h10, h11, h12⟩ := h
  obtain ⟨D', l', a1, a2, a3, a4, a5⟩ := hw
  have hE := World.block_lt_of_cell? w _ h8
  have hE' : E < w.heap.size := hE
  have hs := h12.size
  refine ⟨D', l', h1, h2, h3, ?_, h5, h6, ?_, ?_, a1, by simp [h10], by rw [a2, h11], h12.trans (a5.mono (by omega))⟩
  · rcases a3 with e | e <;> omega
  · rcases a3 with e | e <;> omega
  · have : w1.heap[E]? = w.heap[E]? := a4.2 E hE (by omega)
    have h8' := h8
    unfold EncAt World.cell? at h8' ⊢
    rw [show ({ block := E, off := 1, spot := none } : Addr).block = E from rfl] at h8' ⊢
    rw [this]; exact h8'
end Go.Proofs.Ytcfnniminikmfaa.Q
