/- memory.Buffer: made, reserved. -/
import Derived.Test.YtiieljnllgeoeaaGreatFa
import Derived.Laws.LoneSync
import Derived.Laws.MakeOwn
import Derived.Recover
import Derived.Handy
import Derived.StillTailTactics
import Derived.Laws.CopyOwn
import Derived.Deep.RegionLaw
namespace Go.Proofs.YtiieljnllgeoeaaGreat.Q
open Go.RowKit Go.Proofs.YtiieljnllgeoeaaGreatW.PrintWords Go.Proofs.YtiieljnllgeoeaaGreatW.PrintLast Go.Proofs.YtiieljnllgeoeaaGreatW.PrintMore
set_option linter.unusedVariables false
set_option linter.unusedSimpArgs false

theorem made_bytes (n : Nat) : madeCells #[.int .u8 0] n = ((List.replicate n (0 : Int)).map (Value.int .u8)).toArray := by
 apply Array.ext'
 simp [madeCells]
 apply List.ext_getElem <;> simp
 intro i h1
 simp [Nat.mod_one]

/-- n bytes that were made. -/
def zeros (n : Nat) : Obj := .cells ((List.replicate n (0 : Int)).map (Value.int .u8)).toArray 5
theorem info5_some : (Tryz.prog.info? 5).isSome = true := by kernel_rfl
theorem make_bytes (n : Nat) (h : n ≤ 1099511627776) (W : World) : (Instr.makeSlice 23 (.int .i64 (n : Int)) (.int .i64 (n : Int))).run Tryz.prog W = .ok (.slice (some ⟨W.heap.size, 0, none⟩) n n) (W.alloc (zeros n)) := by
 have hb : ((Tryz.prog.info? 5).get info5_some).bytes = 1 := by kernel_rfl
 have hs : ((Tryz.prog.info? 5).get info5_some).size = 1 := by kernel_rfl
 have hr := run_make (P := Tryz.prog) W 23 5 ((Tryz.prog.info? 5).get info5_some) (.int .u8 0) (by kernel_rfl) (Option.some_get _).symm (by kernel_rfl) .i64 .i64 (n : Int) (n : Int) (by omega) (Int.le_refl _) (by rw [hb]; omega) (by omega)
 simp only [Int.toNat_natCast, hs, Nat.mul_one] at hr
 rw [hr]
 have : Value.cells (.int .u8 0) = #[.int .u8 0] := rfl
 rw [this, made_bytes]
 rfl

set_option maxHeartbeats 1000000 in
set_option maxRecDepth 100000 in
theorem add_calls (a : Addr) (w : World) (hc : w.cell? a = some (.int .i64 0)) (hf : w.frozen? a = false) :
  Calls Tryz.prog 73 #[.pointer (some a), .int .i64 1] w fun e w' => e = .returned (.int .i64 1) ∧ w' = w.setCell a (.int .i64 1) := by
 have r := run_call_add (P := Tryz.prog) (y := 1) (s := 1) Tryz.func91 (by kernel_rfl) (by kernel_rfl) (by kernel_rfl) .i64 (by kernel_rfl) hc hf (by rfl)
 go_enter Tryz.func73, Tryz.ntmps73
 go_wp2
 go_ret
 exact ⟨rfl, rfl⟩

/-- A buffer: one owner, its bytes, its length, of an allocator. -/
def bufO (sl : Value) (n : Int) (G : Nat) : Obj := .cells #[.int .i64 1, sl, .int .i64 n, .bool true, .iface 124 (.pointer (some ⟨G, 0, none⟩)), .pointer none] 131 (0, 0)
set_option maxHeartbeats 1000000 in
set_option maxRecDepth 100000 in
theorem goalloc_calls (w : World) : Calls Tryz.prog 55 #[] w fun e w' => e = .returned (.pointer (some ⟨w.heap.size, 0, none⟩)) ∧ w' = w.alloc (.cells #[] 175) := by
 go_enter Tryz.func55, Tryz.ntmps55
 go_wp2
 go_ret
 exact ⟨rfl, rfl⟩
set_option maxHeartbeats 1000000 in
set_option maxRecDepth 100000 in
theorem newres_calls (G : Nat) (w : World) : Calls Tryz.prog 54 #[.iface 124 (.pointer (some ⟨G, 0, none⟩))] w fun e w' => e = .returned (.pointer (some ⟨w.heap.size, 0, none⟩)) ∧ w' = w.alloc (bufO (.slice none 0 0) 0 G) := by
 have hn := blk_new w (.cells #[.int .i64 0, .slice none 0 0, .int .i64 0, .bool true, .iface 124 (.pointer (some ⟨G, 0, none⟩)), .pointer none] 131)
 have HC := Aside0.mk (add_calls ⟨w.heap.size, 0, none⟩ _ ((blk_cell hn 0).trans rfl) (blk_frozen hn 0))
 clear hn
 go_enter Tryz.func54, Tryz.ntmps54
 go_wp2_with (go_at_call 73; refine HC.out.mono ?_; rintro e w1 ⟨rfl, rfl⟩)
 go_ret
 refine ⟨rfl, ?_⟩
 simp [bufO]
set_option maxHeartbeats 1000000 in
set_option maxRecDepth 100000 in
theorem newbuf_calls (w : World) : Calls Tryz.prog 36 #[] w fun e w' => e = .returned (.pointer (some ⟨w.heap.size + 1, 0, none⟩)) ∧ w' = (w.alloc (.cells #[] 175)).alloc (bufO (.slice none 0 0) 0 w.heap.size) := by
 have HC := Aside0.mk (goalloc_calls w)
 have HD := Aside0.mk (newres_calls w.heap.size (w.alloc (.cells #[] 175)))
 go_enter Tryz.func36, Tryz.ntmps36
 go_wp2_with (first | (go_at_call 55; refine HC.out.mono ?_; rintro e w1 ⟨rfl, rfl⟩) | (go_at_call 54; refine HD.out.mono ?_; rintro e w1 ⟨rfl, rfl⟩))
 go_ret
 exact ⟨rfl, rfl⟩

set_option maxHeartbeats 1000000 in
set_option maxRecDepth 100000 in
theorem alloc_calls (p : Value) (n : Nat) (h : n ≤ 1099511627776) (w : World) : Calls Tryz.prog 176 #[p, .int .i64 (n : Int)] w fun e w' => e = .returned (.slice (some ⟨w.heap.size, 0, none⟩) n n) ∧ w' = w.alloc (zeros n) := by
 have hmk := make_bytes n h
 go_enter Tryz.func176, Tryz.ntmps176
 go_wp2
 go_ret
 exact ⟨rfl, rfl⟩

/-- Bytes in a block of their own. -/
def Row (w : World) (D : Nat) (l : List Int) : Prop := w.heap[D]? = some (.cells (l.map (Value.int .u8)).toArray 5 (0, 0))
theorem row_zeros (w : World) (n : Nat) : Row (w.alloc (zeros n)) w.heap.size (List.replicate n 0) := blk_new w _
theorem Row.cell {w : World} {D : Nat} {l : List Int} (h : Row w D l) (j : Nat) (hj : j < l.length) : w.cell? ⟨D, j, none⟩ = some (.int .u8 (l.getD j 0)) := by
 rw [blk_cell h j]; simp [hj]
theorem Row.lt {w : World} {D : Nat} {l : List Int} (h : Row w D l) : D < w.heap.size := blk_lt h

/-- 'copy' into a row that is known. -/
theorem copy_bytes (w : World) (g o dLen dCap : Nat) (a : Addr) (sLen sCap : Nat) (cur cs : List Int) (hg : Row w g cur) (hn : cs.length = Nat.min sLen dLen)
  (hsrc : ∀ j, j < cs.length → w.cell? (a.add j) = some (.int .u8 (cs.getD j 0))) (hfit : o + cs.length ≤ cur.length) :
  ∃ w3, (Builtin.copy_ #[23, 23] 3 #[.slice (some ⟨g, o, none⟩) dLen dCap, .slice (some a) sLen sCap]).run Tryz.prog w = .ok (.int .i64 (cs.length : Int)) w3 ∧
   Row w3 g (cur.take o ++ cs ++ cur.drop (o + cs.length)) ∧ w3.heap.size = w.heap.size ∧ (∀ k, k ≠ g → w3.heap[k]? = w.heap[k]?) ∧ Below g w w3 := by
 have hr := run_copy_row (P := Tryz.prog) w 23 23 3 5 g o dLen dCap a sLen sCap (cur.map (Value.int .u8)).toArray 5 (cs.map (Value.int .u8)) Tryz.underlying23 (by kernel_rfl) hg (by simpa using hn)
  (fun j v hv => by
   have hj : j < cs.length := by
    have := (List.getElem?_eq_some_iff.1 hv).1
    simpa using this
   rw [hsrc j hj]
   simp [hj] at hv
   simp [hj, hv]) (by simpa using hfit) (by simp [Value.oneCell'])
 refine ⟨_, by simpa [goInt] using hr, ?_, by simp, fun k hk => setRow_other w g k _ hk, below_setRow (Below.refl _ _) (Nat.le_refl _) _⟩
 have := setRow_heap w g _ ((cur.map (Value.int .u8)).take o ++ cs.map (Value.int .u8) ++ (cur.map (Value.int .u8)).drop (o + (cs.map (Value.int .u8)).length)).toArray 5 _ hg
 unfold Row
 simpa using this

theorem and_m64 (m : Nat) (h : m < 2 ^ 64) : m &&& (2 ^ 64 - 64) = m / 64 * 64 := by
 have e1 : (2 ^ 64 - 64 : Nat) = (2 ^ 58 - 1) <<< 6 := by decide
 have e2 : m / 64 * 64 = (m >>> 6) <<< 6 := by rw [Nat.shiftLeft_eq, Nat.shiftRight_eq_div_pow]
 rw [e1, e2]
 apply Nat.eq_of_testBit_eq
 intro i
 rw [Nat.testBit_and, Nat.testBit_shiftLeft, Nat.testBit_shiftLeft, Nat.testBit_two_pow_sub_one, Nat.testBit_shiftRight]
 by_cases c : 6 ≤ i
 ·have e : 6 + (i - 6) = i := by omega
  rw [e]
  by_cases c2 : i - 6 < 58
  ·simp [c, c2]
  ·have : m.testBit i = false := Nat.testBit_lt_two_pow (Nat.lt_of_lt_of_le h (Nat.pow_le_pow_right (by decide) (by omega)))
   simp [this]
 ·simp [c]
/-- A buffer, with bytes of its own. -/
def IsBuf (w : World) (B D : Nat) (l : List Int) (n : Int) (G : Nat) : Prop := w.heap[B]? = some (bufO (.slice (some ⟨D, 0, none⟩) l.length l.length) n G) ∧ Row w D l
/-- The next multiple of 64. -/
def up64 (n : Nat) : Nat := (n + 63) / 64 * 64
theorem round_of (n : Nat) (h : n ≤ 1099511627776) : ∃ m : Nat, m = up64 n ∧ n ≤ m ∧ m < n + 64 := ⟨_, rfl, by unfold up64; omega, by unfold up64; omega⟩
set_option maxHeartbeats 1000000 in
set_option maxRecDepth 100000 in
theorem roundp_calls (n : Nat) (h : n ≤ 1099511627776) (w : World) :
  Calls Tryz.prog 74 #[.int .i64 (n : Int), .int .i64 64] w fun e w' => e = .returned (.int .i64 (up64 n : Nat)) ∧ w' = w := by
 have hb : bits .xor .i64 (-1) 63 = -64 := by kernel_rfl
 have hw : IntKind.i64.wrap ((n : Int) + 63) = ((n + 63 : Nat) : Int) := by rw [IntKind.wrap_i64]; omega
 have ha : bits .and .i64 ((n + 63 : Nat) : Int) (-64) = ((up64 n : Nat) : Int) := by
  have e : (BitVec.ofInt 64 ((n + 63 : Nat) : Int) &&& BitVec.ofInt 64 (-64)).toNat = (n + 63) / 64 * 64 := by
   rw [BitVec.toNat_and, BitVec.ofInt_natCast, BitVec.toNat_ofNat, Nat.mod_eq_of_lt (by omega)]
   exact and_m64 _ (by omega)
  show IntKind.i64.wrap ((BitVec.ofInt 64 ((n + 63 : Nat) : Int) &&& BitVec.ofInt 64 (-64)).toNat : Int) = _
  unfold up64
  rw [e, IntKind.wrap_i64]; omega
 generalize up64 n = m at *
 generalize n + 63 = t at *
 go_enter Tryz.func74, Tryz.ntmps74
 go_wp2
 go_ret
 exact ⟨rfl, rfl⟩
set_option maxHeartbeats 1000000 in
theorem round_calls (n m : Nat) (hn : n ≤ 1099511627776) (w : World) (h : m = up64 n) :
  Calls Tryz.prog 56 #[.int .i64 (n : Int)] w fun e w' => e = .returned (.int .i64 (m : Int)) ∧ w' = w := by
 have HC := Aside0.mk (roundp_calls n hn w)
 rw [← h] at HC
 clear h
 go_enter Tryz.func56, Tryz.ntmps56
 go_wp2_with (go_at_call 74; refine HC.out.mono ?_; rintro e w1 ⟨rfl, rfl⟩)
 go_ret
 exact ⟨rfl, rfl⟩
theorem kept_alloc (w : World) (o : Obj) (S : Nat → Prop) : Kept w (w.alloc o) S := (Kept.refl w S).alloc o
set_option maxHeartbeats 1000000 in
set_option maxRecDepth 100000 in
theorem reserve_first (B n G : Nat) (h : n ≤ 1073741824) (w : World) (hn : 0 < n) (hB : w.heap[B]? = some (bufO (.slice none 0 0) 0 G)) :
  Calls Tryz.prog 37 #[.pointer (some ⟨B, 0, none⟩), .int .i64 (n : Int)] w fun e w' => e = .returned (.tuple #[]) ∧ ∃ m, n ≤ m ∧ m < n + 64 ∧ IsBuf w' B w.heap.size (List.replicate m 0) 0 G ∧
   Kept w w' (fun k => k = B) ∧ Below B w w' := by
 obtain ⟨m, hm, h1, h2⟩ := round_of n (by omega)
 have HM := Aside0.mk (round_calls n m (by omega) w hm)
 have r1 : w.cell? ⟨B, 1, none⟩ = some (.slice none 0 0) := (blk_cell hB 1).trans rfl
 have r4 : w.cell? ⟨B, 4, none⟩ = some (.iface 124 (.pointer (some ⟨G, 0, none⟩))) := (blk_cell hB 4).trans rfl
 have hc := fun (p : Value) => alloc_calls p m (by omega) w
 have hd : decide ((n : Int) > 0) = true := by simp; omega
 have hB2 := blk_alloc hB (zeros m)
 have hz := row_zeros w m
 have hk := kept_alloc w (zeros m) (fun k => k = B)
 have hb : Below B w (w.alloc (zeros m)) := (below_alloc (Below.refl _ _) _).mono (Nat.le_of_lt (blk_lt hB))
 have HL := Aside0.mk (blk_lt hB)
 generalize w.alloc (zeros m) = w2 at hc hB2 hz hk hb
 have HC := Aside0.mk hc
 have HB2 := Aside0.mk hB2
 have HZ := Aside0.mk hz
 have HK := Aside0.mk hk
 have HBB := Aside0.mk hb
 have s1 : w2.cell? ⟨B, 1, none⟩ = some (.slice none 0 0) := (blk_cell hB2 1).trans rfl
 have z1 : w2.frozen? ⟨B, 1, none⟩ = false := blk_frozen hB2 1
 clear hB hm hc hB2 hz hk hb
 go_enter Tryz.func37, Tryz.ntmps37
 go_wp2_with (first | (go_at_call 56; refine HM.out.mono ?_; rintro e w1 ⟨rfl, hw1⟩; subst w1) | (go_at_call 176; refine (HC.out _).mono ?_; rintro e w1 ⟨rfl, hw1⟩; subst w1))
 go_end0
 refine ⟨rfl, m, h1, h2, ⟨?_, ?_⟩, ?_, ?_⟩
 ·have := blk_set HB2.out 1 (.slice (some ⟨w.heap.size, 0, none⟩) m m)
  rw [List.length_replicate]
  exact this
 ·exact blk_far HZ.out (p := ⟨B, 1, none⟩) (by show w.heap.size ≠ B; have := HL.out; omega) _
 ·exact HK.out.setCell (.inl rfl) _
 ·exact Below.setCell (p := ⟨B, 1, none⟩) HBB.out (Nat.le_refl _) _

set_option maxHeartbeats 1000000 in
set_option maxRecDepth 100000 in
theorem reserve_same (B D n : Nat) (l : List Int) (q : Int) (G : Nat) (h : n ≤ 1073741824) (hll : l.length ≤ 1073741824) (w : World) (hn : n ≤ l.length) (hB : IsBuf w B D l q G) :
  Calls Tryz.prog 37 #[.pointer (some ⟨B, 0, none⟩), .int .i64 (n : Int)] w fun e w' => e = .returned (.tuple #[]) ∧ w' = w := by
 have r1 : w.cell? ⟨B, 1, none⟩ = some (.slice (some ⟨D, 0, none⟩) l.length l.length) := (blk_cell hB.1 1).trans rfl
 have hd : decide ((n : Int) > (l.length : Int)) = false := by simp; omega
 go_enter Tryz.func37, Tryz.ntmps37
 go_wp2
 go_end0
 exact ⟨rfl, rfl⟩
end Go.Proofs.YtiieljnllgeoeaaGreat.Q
