/- Several texts of ours in one: Sa, Sb, Sc, Sd, Se, Sf, Sg, Sh, Si, Sj. -/
import Derived.Test.YtndbeeboehekaaaGreatDoorQSFa
import Derived.Laws.LoneSync
import Derived.Laws.MakeOwn
import Derived.Recover
import Derived.Handy
import Derived.StillTailTactics
import Derived.Laws.CopyOwn
import Derived.Deep.RegionLaw
import Derived.Deep.RegionHeld3
import Derived.Lib.Strings
import Derived.Lib.Slices
import Derived.Lib.Small
import Derived.Lib.Walk
import Derived.Lib.BitFns
import Derived.Laws.BitsLemmas
/- memory.Buffer over impl.plain: its words, its small functions. -/
namespace Go.Proofs.YtndbeeboehekaaaGreatDoor.Q
open Go.RowKit Go.Proofs.YtndbeeboehekaaaGreatDoorW.PrintWords Go.Proofs.YtndbeeboehekaaaGreatDoorW.PrintLast Go.Proofs.YtndbeeboehekaaaGreatDoorW.PrintMore
set_option linter.unusedVariables false
set_option linter.unusedSimpArgs false
theorem made_bytes (n : Nat) : madeCells #[.int .u8 0] n = ((List.replicate n (0 : Int)).map (Value.int .u8)).toArray := by
  apply Array.ext'
  simp [madeCells]
  apply List.ext_getElem <;> simp
  intro i h1
  simp [Nat.mod_one]
/-- n bytes that were made. -/
def zeros (n : Nat) : Obj := .cells ((List.replicate n (0 : Int)).map (Value.int .u8)).toArray 5
theorem info5_some : (Tryz.prog.info? 5).isSome = true := by kernel_rfl
theorem make_bytes (n : Nat) (h : n ≤ 1099511627776) (W : World) : (Instr.makeSlice 58 (.int .i64 (n : Int)) (.int .i64 (n : Int))).run Tryz.prog W = .ok (.slice (some ⟨W.heap.size, 0, none⟩) n n) (W.alloc (zeros n)) := by
  have hb : ((Tryz.prog.info? 5).get info5_some).bytes = 1 := by kernel_rfl
  have hs : ((Tryz.prog.info? 5).get info5_some).size = 1 := by kernel_rfl
  have hr := run_make (P := Tryz.prog) W 58 5 ((Tryz.prog.info? 5).get info5_some) (.int .u8 0) (by kernel_rfl) (Option.some_get _).symm (by kernel_rfl) .i64 .i64 (n : Int) (n : Int) (by omega) (Int.le_refl _) (by rw [hb]; omega) (by omega)
  simp only [Int.toNat_natCast, hs, Nat.mul_one] at hr
  rw [hr]
  have : Value.cells (.int .u8 0) = #[.int .u8 0] := rfl
  rw [this, made_bytes]
  rfl
/-- Bytes in a block of their own. -/
def Row (w : World) (D : Nat) (l : List Int) : Prop := w.heap[D]? = some (.cells (l.map (Value.int .u8)).toArray 5 (0, 0))
theorem row_zeros (w : World) (n : Nat) : Row (w.alloc (zeros n)) w.heap.size (List.replicate n 0) := blk_new w _
theorem Row.cell {w : World} {D : Nat} {l : List Int} (h : Row w D l) (j : Nat) (hj : j < l.length) : w.cell? ⟨D, j, none⟩ = some (.int .u8 (l.getD j 0)) := by
  rw [blk_cell h j]; simp [hj]
theorem Row.lt {w : World} {D : Nat} {l : List Int} (h : Row w D l) : D < w.heap.size := blk_lt h
/-- 'copy' into a row that is known. -/
theorem copy_bytes (w : World) (g o dLen dCap : Nat) (a : Addr) (sLen sCap : Nat) (cur cs : List Int) (hg : Row w g cur) (hn : cs.length = Nat.min sLen dLen)
    (hsrc : ∀ j, j < cs.length → w.cell? (a.add j) = some (.int .u8 (cs.getD j 0))) (hfit : o + cs.length ≤ cur.length) :
    ∃ w3, (Builtin.copy_ #[58, 58] 3 #[.slice (some ⟨g, o, none⟩) dLen dCap, .slice (some a) sLen sCap]).run Tryz.prog w = .ok (.int .i64 (cs.length : Int)) w3 ∧
      Row w3 g (cur.take o ++ cs ++ cur.drop (o + cs.length)) ∧ w3.heap.size = w.heap.size ∧ (∀ k, k ≠ g → w3.heap[k]? = w.heap[k]?) ∧ Below g w w3 := by
  have hr := run_copy_row (P := Tryz.prog) w 58 58 3 5 g o dLen dCap a sLen sCap (cur.map (Value.int .u8)).toArray 5 (cs.map (Value.int .u8)) Tryz.underlying58 (by kernel_rfl) hg (by simpa using hn)
    (fun j v hv => by
      have hj : j < cs.length := by
        have := (List.getElem?_eq_some_iff.1 hv).1
        simpa using this
      rw [hsrc j hj]
      simp [hj] at hv
      simp [hj, hv]) (by simpa using hfit) (by simp [Value.oneCell'])
  refine ⟨_, by simpa [goInt] using hr, ?_, by simp, fun k hk => setRow_other w g k _ hk, below_setRow (Below.refl _ _) (Nat.le_refl _) _⟩
  have := setRow_heap w g _ ((cur.map (Value.int .u8)).take o ++ cs.map (Value.int .u8) ++ (cur.map (Value.int .u8)).drop (o + (cs.map (Value.int .u8)).length)).toArray 5 _ hg
  unfold Row
  simpa using this
/-- 'copy' of nothing. -/
theorem copy_none (w : World) (d a : Option Addr) (dLen dCap sLen sCap : Nat) (hn : Nat.min sLen dLen = 0) :
    (Builtin.copy_ #[58, 58] 3 #[.slice d dLen dCap, .slice a sLen sCap]).run Tryz.prog w = .ok (.int .i64 0) w := by
  have := run_copy_none (P := Tryz.prog) w 58 58 3 5 d a dLen dCap sLen sCap Tryz.underlying58 (by kernel_rfl) hn
  simpa [goInt] using this
theorem and_m64 (m : Nat) (h : m < 2 ^ 64) : m &&& (2 ^ 64 - 64) = m / 64 * 64 := by
  have e1 : (2 ^ 64 - 64 : Nat) = (2 ^ 58 - 1) <<< 6 := by decide
  have e2 : m / 64 * 64 = (m >>> 6) <<< 6 := by rw [Nat.shiftLeft_eq, Nat.shiftRight_eq_div_pow]
  rw [e1, e2]
  apply Nat.eq_of_testBit_eq
  intro i
  rw [Nat.testBit_and, Nat.testBit_shiftLeft, Nat.testBit_shiftLeft, Nat.testBit_two_pow_sub_one, Nat.testBit_shiftRight]
  by_cases c : 6 ≤ i
  · have e : 6 + (i - 6) = i := by omega
    rw [e]
    by_cases c2 : i - 6 < 58
    · simp [c, c2]
    · have : m.testBit i = false := Nat.testBit_lt_two_pow (Nat.lt_of_lt_of_le h (Nat.pow_le_pow_right (by decide) (by omega)))
      simp [this]
  · simp [c]
theorem round_of (n : Nat) (h : n ≤ 1099511627776) : ∃ m : Nat, memory_roundUpToMultipleOf64.f (n : Int) = some (m : Int) ∧ n ≤ m ∧ m < n + 64 := by
  have hb : bits .xor .i64 (-1) (wrap64 (64 - 1)) = -64 := by kernel_rfl
  have hw : wrap64 ((n : Int) + wrap64 (64 - 1)) = ((n + 63 : Nat) : Int) := by unfold wrap64; omega
  have ha : bits .and .i64 ((n + 63 : Nat) : Int) (-64) = (((n + 63) / 64 * 64 : Nat) : Int) := by
    have e : (BitVec.ofInt 64 ((n + 63 : Nat) : Int) &&& BitVec.ofInt 64 (-64)).toNat = (n + 63) / 64 * 64 := by
      rw [BitVec.toNat_and, BitVec.ofInt_natCast, BitVec.toNat_ofNat, Nat.mod_eq_of_lt (by omega)]
      exact and_m64 _ (by omega)
    show IntKind.i64.wrap ((BitVec.ofInt 64 ((n + 63 : Nat) : Int) &&& BitVec.ofInt 64 (-64)).toNat : Int) = _
    rw [e, IntKind.wrap_i64]; omega
  refine ⟨(n + 63) / 64 * 64, ?_, by omega, by omega⟩
  show (memory_roundToPowerOf2.f (n : Int) 64).bind _ = _
  unfold memory_roundToPowerOf2.f
  rw [hb, hw, ha]
  rfl
set_option maxHeartbeats 1000000 in
theorem roundp_calls (a0 a1 r : Int) (w : World) (h : memory_roundToPowerOf2.f a0 a1 = some r) :
    Calls Tryz.prog 106 #[.int .i64 a0, .int .i64 a1] w fun e w' => e = .returned (.int .i64 r) ∧ w' = w := by
  have H : (some (Go.bits .and .i64 (wrap64 (a0 + (wrap64 (a1 - 1)))) (Go.bits .xor .i64 (-1) (wrap64 (a1 - 1))))) = some r := h
  clear h
  obtain rfl := Option.some.inj H
  go_enter Tryz.func106, Tryz.ntmps106
  go_wp2
  go_ret
  exact ⟨rfl, rfl⟩
set_option maxHeartbeats 1000000 in
theorem round_calls (n m : Int) (w : World) (h : memory_roundUpToMultipleOf64.f n = some m) :
    Calls Tryz.prog 100 #[.int .i64 n] w fun e w' => e = .returned (.int .i64 m) ∧ w' = w := by
  have HC := Aside0.mk (roundp_calls n 64 m w (by unfold memory_roundUpToMultipleOf64.f at h; cases hh : memory_roundToPowerOf2.f n 64 with | none => rw [hh] at h; exact absurd h (by simp) | some v => rw [hh] at h; exact h))
  clear h
  go_enter Tryz.func100, Tryz.ntmps100
  go_wp2_with (go_at_call 106; refine HC.out.mono ?_; rintro e w1 ⟨rfl, rfl⟩)
  go_ret
  exact ⟨rfl, rfl⟩
set_option maxHeartbeats 1000000 in
set_option maxRecDepth 100000 in
theorem add_calls (a : Addr) (q d s : Int) (hs : IntKind.i64.wrap (q + d) = s) (w : World) (hc : w.cell? a = some (.int .i64 q)) (hf : w.frozen? a = false) :
    Calls Tryz.prog 33 #[.pointer (some a), .int .i64 d] w fun e w' => e = .returned (.int .i64 s) ∧ w' = w.setCell a (.int .i64 s) := by
  have r := run_call_add (P := Tryz.prog) (y := d) (s := s) Tryz.func51 (by kernel_rfl) (by kernel_rfl) (by kernel_rfl) .i64 (by kernel_rfl) hc hf (by rw [← hs]; rfl)
  clear hs
  go_enter Tryz.func33, Tryz.ntmps33
  go_wp2
  go_ret
  exact ⟨rfl, rfl⟩
set_option maxHeartbeats 1000000 in
set_option maxRecDepth 100000 in
theorem load_calls (a : Addr) (q : Int) (w : World) (hc : w.cell? a = some (.int .i64 q)) :
    Calls Tryz.prog 66 #[.pointer (some a)] w fun e w' => e = .returned (.int .i64 q) ∧ w' = w := by
  have r := run_call_load (P := Tryz.prog) Tryz.func82 (by kernel_rfl) (by kernel_rfl) (by kernel_rfl) .i64 (by kernel_rfl) hc
  go_enter Tryz.func66, Tryz.ntmps66
  go_wp2
  go_ret
  exact ⟨rfl, rfl⟩
set_option maxHeartbeats 1000000 in
set_option maxRecDepth 100000 in
theorem assert_calls (m : Value) (w : World) : Calls Tryz.prog 65 #[.bool true, m] w fun e w' => e = .returned (.tuple #[]) ∧ w' = w := by
  go_enter Tryz.func65, Tryz.ntmps65
  go_wp2
  go_end0
  exact ⟨rfl, rfl⟩
abbrev plainV : Value := .iface 53 (.agg #[])
/-- A buffer that was made to grow: who holds it, its bytes, its length. -/
def bufH (r : Int) (sl : Value) (n : Int) : Obj := .cells #[.int .i64 r, sl, .int .i64 n, .bool true, .iface 53 (.agg #[]), .pointer none] 136 (0, 0)
/-- A buffer around bytes. -/
def bufN (sl : Value) (n : Int) : Obj := .cells #[.int .i64 0, sl, .int .i64 n, .bool false, .nilIface, .pointer none] 136 (0, 0)
theorem blk_ne {w : World} {a b : Nat} {c1 c2 : Array Value} {t1 t2 : TypeId} {f1 f2 : Nat × Nat} (h1 : w.heap[a]? = some (.cells c1 t1 f1)) (h2 : w.heap[b]? = some (.cells c2 t2 f2)) (ht : t1 ≠ t2) : a ≠ b := by
  rintro rfl
  rw [h1] at h2
  injection h2 with h2
  injection h2 with _ h2 _
  exact ht h2
set_option maxHeartbeats 1000000 in
set_option maxRecDepth 100000 in
theorem newres_calls (w : World) : Calls Tryz.prog 72 #[plainV] w fun e w' => e = .returned (.pointer (some ⟨w.heap.size, 0, none⟩)) ∧ w' = w.alloc (bufH 1 (.slice none 0 0) 0) := by
  have hn := blk_new w (.cells #[.int .i64 0, .slice none 0 0, .int .i64 0, .bool true, .iface 53 (.agg #[]), .pointer none] 136)
  have HC := Aside0.mk (add_calls ⟨w.heap.size, 0, none⟩ 0 1 1 (by decide) _ ((blk_cell hn 0).trans rfl) (blk_frozen hn 0))
  clear hn
  go_enter Tryz.func72, Tryz.ntmps72
  go_wp2_with (go_at_call 33; refine HC.out.mono ?_; rintro e w1 ⟨rfl, rfl⟩)
  go_ret
  refine ⟨rfl, ?_⟩
  simp [bufH]
set_option maxHeartbeats 1000000 in
set_option maxRecDepth 100000 in
theorem newbytes_calls (A : Option Addr) (n c : Nat) (w : World) : Calls Tryz.prog 81 #[.slice A n c] w fun e w' => e = .returned (.pointer (some ⟨w.heap.size, 0, none⟩)) ∧ w' = w.alloc (bufN (.slice A n c) n) := by
  go_enter Tryz.func81, Tryz.ntmps81
  go_wp2
  go_ret
  exact ⟨rfl, rfl⟩
set_option maxRecDepth 100000 in
theorem sliceTo_any (A : Option Addr) (L n c : Nat) (hc : n ≤ c) (W : World) : (Instr.sliceAt 58 (.slice A L c) none (some (.int .i64 (n : Int))) none).run Tryz.prog W = .ok (.slice A n c) W := by
  rw [run_sliceAt_slice W 58 _ _ _ _ Tryz.underlying58, run_slice_h W 58 A L c Tryz.underlying58 .i64 (n : Int) (by omega) (by omega)]
  have hsz : (sizeOf (Tryz.prog.elem 58)).run Tryz.prog W = .ok 1 W := by kernel_rfl
  rw [hsz]
  simp only [Result.andThen, sliced, Int.toNat_natCast]
  by_cases c0 : c = 0
  · rw [if_pos c0]; simp
  · rw [if_neg c0]
    cases A <;> simp [Addr.add]
set_option maxHeartbeats 1000000 in
set_option maxRecDepth 100000 in
theorem bytes_calls (B : Nat) (A : Option Addr) (L n c : Nat) (w : World) (r1 : w.cell? ⟨B, 1, none⟩ = some (.slice A L c)) (r2 : w.cell? ⟨B, 2, none⟩ = some (.int .i64 (n : Int))) (hc : n ≤ c) :
    Calls Tryz.prog 58 #[.pointer (some ⟨B, 0, none⟩)] w fun e w' => e = .returned (.slice A n c) ∧ Drawn0 w w' := by
  have hsl := sliceTo_any A L n c hc
  go_enter Tryz.func58, Tryz.ntmps58
  go_wp2
  go_quiet (fail)
  go_wp2
  go_ret
  exact ⟨rfl, ⟨_, rfl⟩⟩
set_option maxHeartbeats 1000000 in
set_option maxRecDepth 100000 in
theorem buf_calls (B : Nat) (v : Value) (hv : v.oneCell' = true) (w : World) (r1 : w.cell? ⟨B, 1, none⟩ = some v) : Calls Tryz.prog 78 #[.pointer (some ⟨B, 0, none⟩)] w fun e w' => e = .returned v ∧ w' = w := by
  go_enter Tryz.func78, Tryz.ntmps78
  go_wp2
  go_ret
  exact ⟨rfl, rfl⟩
set_option maxHeartbeats 1000000 in
set_option maxRecDepth 100000 in
theorem cap_calls (B : Nat) (A : Option Addr) (n c : Nat) (w : World) (r1 : w.cell? ⟨B, 1, none⟩ = some (.slice A n c)) : Calls Tryz.prog 77 #[.pointer (some ⟨B, 0, none⟩)] w fun e w' => e = .returned (.int .i64 n) ∧ w' = w := by
  go_enter Tryz.func77, Tryz.ntmps77
  go_wp2
  go_ret
  exact ⟨rfl, rfl⟩
set_option maxHeartbeats 1000000 in
set_option maxRecDepth 100000 in
theorem len_calls (B : Nat) (n : Int) (w : World) (r2 : w.cell? ⟨B, 2, none⟩ = some (.int .i64 n)) : Calls Tryz.prog 87 #[.pointer (some ⟨B, 0, none⟩)] w fun e w' => e = .returned (.int .i64 n) ∧ w' = w := by
  go_enter Tryz.func87, Tryz.ntmps87
  go_wp2
  go_ret
  exact ⟨rfl, rfl⟩
end Go.Proofs.YtndbeeboehekaaaGreatDoor.Q

/- memory.Set, memory.Buffer: reserved, resized, held, let go. -/
namespace Go.Proofs.YtndbeeboehekaaaGreatDoor.Q
open Go.RowKit Go.Proofs.YtndbeeboehekaaaGreatDoorW.PrintWords Go.Proofs.YtndbeeboehekaaaGreatDoorW.PrintLast Go.Proofs.YtndbeeboehekaaaGreatDoorW.PrintMore
set_option linter.unusedVariables false
set_option linter.unusedSimpArgs false
/-- What a call turns: the blocks of S and what is new. -/
structure Tn (S : Nat → Prop) (w w' : World) : Prop where
  os : w'.os = w.os
  tape : w'.tape = w.tape
  output : w'.output = w.output
  kept : Kept w w' S
theorem Tn.refl (S : Nat → Prop) (w : World) : Tn S w w := ⟨rfl, rfl, rfl, Kept.refl _ _⟩
theorem Tn.then_ {S S2 : Nat → Prop} {w w1 w2 : World} (h : Tn S w w1) (k : Tn S2 w1 w2) (hs : ∀ k, S2 k → S k ∨ w.heap.size ≤ k) : Tn S w w2 := ⟨k.os.trans h.os, k.tape.trans h.tape, k.output.trans h.output, h.kept.then_ k.kept hs⟩
theorem Tn.mono {S S2 : Nat → Prop} {w w1 : World} (h : Tn S w w1) (hs : ∀ k, S k → S2 k) : Tn S2 w w1 := ⟨h.os, h.tape, h.output, h.kept.mono hs⟩
theorem Tn.drew {S : Nat → Prop} {w w1 : World} (h : Tn S w w1) : Tn S w w1.drew := ⟨h.os, h.tape, h.output, h.kept⟩
theorem Tn.drewN {S : Nat → Prop} {w w1 : World} (h : Tn S w w1) (n : Nat) : Tn S w (w1.drewN n) := ⟨h.os, h.tape, h.output, h.kept.drewN n⟩
theorem Tn.of_below {w w1 : World} (h : Below w.heap.size w w1) (S : Nat → Prop) : Tn S w w1 := ⟨h.os, h.tape, h.output, Kept.of_below h S⟩
theorem Tn.alloc {S : Nat → Prop} {w w1 : World} (h : Tn S w w1) (o : Obj) : Tn S w (w1.alloc o) := h.then_ (Tn.of_below (below_alloc (Below.refl _ _) o) (fun _ => False)) (fun _ h => h.elim)
theorem Tn.setCell {S : Nat → Prop} {w w1 : World} (h : Tn S w w1) {p : Addr} (hp : S p.block ∨ w.heap.size ≤ p.block) (u : Value) : Tn S w (w1.setCell p u) := ⟨h.os, h.tape, h.output, h.kept.setCell hp u⟩
theorem Tn.below {S : Nat → Prop} {w w1 : World} {B : Nat} (h : Tn S w w1) (hB : B ≤ w.heap.size) (hS : ∀ k, S k → B ≤ k) : Below B w w1 := ⟨h.os, h.tape, h.output, h.kept.1, fun i hi => h.kept.2 i (by omega) (fun hs => by have := hS i hs; omega)⟩
theorem Row.put {w : World} {X : Nat} {l : List Int} (h : Row w X l) (i : Nat) (v : Int) : Row (w.setCell ⟨X, i, none⟩ (.int .u8 v)) X (l.set i v) := by
  have := blk_set h i (.int .u8 v)
  unfold Row
  rw [this, List.map_set]
  simp
theorem Row.kept {w w' : World} {X : Nat} {l : List Int} {S : Nat → Prop} (h : Row w X l) (hb : Kept w w' S) (hn : ¬ S X) : Row w' X l := blk_kept h hb hn
theorem Row.below {w w' : World} {X : Nat} {l : List Int} (h : Row w X l) (hb : Below w.heap.size w w') : Row w' X l := blk_below h hb
/-- A part of a row, filled with one byte. -/
def fillS (l : List Int) (o i : Nat) (v : Int) : List Int := l.take o ++ List.replicate i v ++ l.drop (o + i)
theorem fillS_len (l : List Int) (o i : Nat) (v : Int) (h : o + i ≤ l.length) : (fillS l o i v).length = l.length := by simp [fillS]; omega
theorem fillS_step (l : List Int) (o i : Nat) (v : Int) (h : o + i < l.length) : (fillS l o i v).set (o + i) v = fillS l o (i + 1) v := by
  unfold fillS
  rw [List.set_append_right _ _ (by simp; omega)]
  have e1 : o + i - (l.take o ++ List.replicate i v).length = 0 := by simp; omega
  rw [e1, List.drop_eq_getElem_cons h, List.set_cons_zero, List.replicate_succ']
  simp [Nat.add_assoc]
set_option maxHeartbeats 1000000 in
set_option maxRecDepth 100000 in
theorem memset_calls (D o n c : Nat) (l : List Int) (v : Int) (w : World) (h : Row w D l) (hn : o + n ≤ l.length) (hm : l.length ≤ 100000) :
    Calls Tryz.prog 79 #[.slice (some ⟨D, o, none⟩) n c, .int .u8 v] w fun e w' => e = .returned (.tuple #[]) ∧ Row w' D (fillS l o n v) ∧ Tn (fun k => k = D) w w' := by
  have H0 := Aside0.mk (show Row w D (fillS l o 0 v) by simpa [fillS] using h)
  have HTN := Aside0.mk (Tn.refl (fun k => k = D) w)
  have HN := Aside0.mk hn
  have HM := Aside0.mk hm
  clear h hn hm
  go_enter Tryz.func79, Tryz.ntmps79
  go_wp2
  go_loopg [4] (n + 1) (fun kq v4 w' => ∃ (i : Nat), v4 = .int .i64 (i : Int) ∧ Aside0 (i + kq = n + 1) ∧ Aside0 (i ≤ n) ∧ Aside0 (Row w' D (fillS l o i v)) ∧ Aside0 (Tn (fun k => k = D) w w'))
  case atStart => exact ⟨0, rfl, ⟨by omega⟩, ⟨by omega⟩, H0, HTN⟩
  case round =>
    clear H0 HTN
    obtain ⟨i, rfl, HK, HI, HR, HTN⟩ := hrel
    cases gk with
    | zero => exact absurd HK.out (by have := HI.out; omega)
    | succ k1 =>
      by_cases c2 : i < n
      · have c2b : decide ((i : Int) < (n : Int)) = true := decide_eq_true (by omega)
        have g0 : (0 : Int) ≤ (i : Int) := by omega
        have g1 : (i : Int) < (n : Int) := by omega
        have hl := fillS_len l o i v (by have := HN.out; omega)
        have hc := HR.out.cell (o + i) (by rw [hl]; have := HN.out; omega)
        have hf : wr.frozen? ⟨D, o + i, none⟩ = false := blk_frozen HR.out _
        have C2 := Aside0.mk c2
        have HWI := Aside0.mk (show wrap64 ((i : Int) + 1) = ((i + 1 : Nat) : Int) by have := HM.out; have := HN.out; unfold wrap64; omega)
        clear hl
        generalize (fillS l o i v).getD (o + i) 0 = y at hc
        go_wp2
        go_roundg k1
        case measure => have := HK.out; omega
        case rel => exact ⟨i + 1, (by first | rw [HWI.out] | rfl), ⟨by have := HK.out; omega⟩, ⟨by have := C2.out; omega⟩, ⟨by have := HR.out.put (o + i) v; rw [fillS_step l o i v (by have := HN.out; have := C2.out; omega)] at this; exact this⟩, ⟨HTN.out.setCell (p := ⟨D, o + i, none⟩) (.inl rfl) _⟩⟩
      · have c2b : decide ((i : Int) < (n : Int)) = false := decide_eq_false (by omega)
        have hi : i = n := by have := HI.out; omega
        subst hi
        clear c2
        go_wp2
        go_end0
        exact ⟨rfl, HR.out, HTN.out⟩
set_option maxHeartbeats 1000000 in
set_option maxRecDepth 100000 in
theorem set_calls (D o n c : Nat) (l : List Int) (v : Int) (w : World) (h : Row w D l) (hn : o + n ≤ l.length) (hm : l.length ≤ 100000) :
    Calls Tryz.prog 56 #[.slice (some ⟨D, o, none⟩) n c, .int .u8 v] w fun e w' => e = .returned (.tuple #[]) ∧ Row w' D (fillS l o n v) ∧ Tn (fun k => k = D) w w' := by
  have HC := Aside0.mk (memset_calls D o n c l v w h hn hm)
  clear h hn hm
  go_enter Tryz.func56, Tryz.ntmps56
  go_wp2_with (first | (go_at_call 79; refine HC.out.mono ?_; rintro e w1 ⟨rfl, e1, e2⟩; have E := Aside0.mk (And.intro e1 e2); clear e1 e2))
  go_end0
  exact ⟨rfl, E.out⟩
set_option maxHeartbeats 1000000 in
set_option maxRecDepth 100000 in
theorem alloc_calls (n : Nat) (h : n ≤ 1099511627776) (w : World) : Calls Tryz.prog 139 #[.agg #[], .int .i64 (n : Int)] w fun e w' => e = .returned (.slice (some ⟨w.heap.size + 1, 0, none⟩) n n) ∧ w' = (w.alloc (.cells #[] 53)).alloc (zeros n) := by
  have hmk := make_bytes n h
  go_enter Tryz.func139, Tryz.ntmps139
  go_wp2
  go_ret
  exact ⟨by simp, rfl⟩
/-- A new row behind a world. -/
structure NewRow (w w' : World) (D : Nat) (l : List Int) : Prop where
  lt : w.heap.size ≤ D
  r : Row w' D l
  b : Below w.heap.size w w'
theorem newrow_alloc (w : World) (n : Nat) : NewRow w ((w.alloc (.cells #[] 53)).alloc (zeros n)) (w.heap.size + 1) (List.replicate n 0) := by
  refine ⟨by omega, ?_, below_alloc (below_alloc (Below.refl _ _) _) _⟩
  have := row_zeros (w.alloc (.cells #[] 53)) n
  simpa using this
set_option maxHeartbeats 1000000 in
set_option maxRecDepth 100000 in
theorem realloc_calls (n D : Nat) (l : List Int) (h : n ≤ 1099511627776) (w : World) (hr : Row w D l) (hn : l.length < n) :
    Calls Tryz.prog 141 #[.agg #[], .int .i64 (n : Int), .slice (some ⟨D, 0, none⟩) l.length l.length] w fun e w' => ∃ E, e = .returned (.slice (some ⟨E, 0, none⟩) n n) ∧ NewRow w w' E (l ++ List.replicate (n - l.length) 0) := by
  have hmk := make_bytes n h
  have hd : decide ((l.length : Int) ≥ (n : Int)) = false := by simp; omega
  obtain ⟨w1, hw1⟩ : ∃ w1, w1 = (w.alloc (.cells #[] 53)).alloc (zeros n) := ⟨_, rfl⟩
  have hz : Row w1 (w.heap.size + 1) (List.replicate n 0) := by rw [hw1]; exact (newrow_alloc w n).r
  have hr2 : Row w1 D l := by rw [hw1]; exact blk_alloc (blk_alloc hr _) _
  have hb2 : Below w.heap.size w w1 := by rw [hw1]; exact (newrow_alloc w n).b
  obtain ⟨w3, hcp, e1, e2, e3, e4⟩ := copy_bytes w1 (w.heap.size + 1) 0 n n ⟨D, 0, none⟩ l.length l.length (List.replicate n 0) l hz (by show _ = min _ _; omega) (fun j hj => by
    have : (⟨D, 0, none⟩ : Addr).add j = ⟨D, j, none⟩ := by simp [Addr.add]; omega
    rw [this]; exact hr2.cell j hj) (by simp; omega)
  have HE := Aside0.mk (show Row w3 (w.heap.size + 1) (l ++ List.replicate (n - l.length) 0) by simpa using e1)
  have HB := Aside0.mk (hb2.trans (e4.mono (Nat.le_succ _)))
  have HS := Aside0.mk (Nat.le_succ w.heap.size)
  subst hw1
  clear hz hr2 hb2 e1 e2 e3 e4 hr
  go_enter Tryz.func141, Tryz.ntmps141
  go_wp2
  go_ret
  exact ⟨_, rfl, HS.out, HE.out, HB.out⟩
end Go.Proofs.YtndbeeboehekaaaGreatDoor.Q

/- memory.Buffer: reserved, resized, held, let go. -/
namespace Go.Proofs.YtndbeeboehekaaaGreatDoor.Q
open Go.RowKit Go.Proofs.YtndbeeboehekaaaGreatDoorW.PrintWords Go.Proofs.YtndbeeboehekaaaGreatDoorW.PrintLast Go.Proofs.YtndbeeboehekaaaGreatDoorW.PrintMore
set_option linter.unusedVariables false
set_option linter.unusedSimpArgs false
def R64 (n : Nat) : Nat := (n + 63) / 64 * 64
theorem round_eq (n : Nat) (h : n ≤ 1099511627776) : memory_roundUpToMultipleOf64.f (n : Int) = some ((R64 n : Nat) : Int) := by
  have hb : bits .xor .i64 (-1) (wrap64 (64 - 1)) = -64 := by kernel_rfl
  have hw : wrap64 ((n : Int) + wrap64 (64 - 1)) = ((n + 63 : Nat) : Int) := by unfold wrap64; omega
  have ha : bits .and .i64 ((n + 63 : Nat) : Int) (-64) = (((n + 63) / 64 * 64 : Nat) : Int) := by
    have e : (BitVec.ofInt 64 ((n + 63 : Nat) : Int) &&& BitVec.ofInt 64 (-64)).toNat = (n + 63) / 64 * 64 := by
      rw [BitVec.toNat_and, BitVec.ofInt_natCast, BitVec.toNat_ofNat, Nat.mod_eq_of_lt (by omega)]
      exact and_m64 _ (by omega)
    show IntKind.i64.wrap ((BitVec.ofInt 64 ((n + 63 : Nat) : Int) &&& BitVec.ofInt 64 (-64)).toNat : Int) = _
    rw [e, IntKind.wrap_i64]; omega
  show (memory_roundToPowerOf2.f (n : Int) 64).bind _ = _
  unfold memory_roundToPowerOf2.f
  rw [hb, hw, ha]
  rfl
theorem R64_le (n : Nat) : n ≤ R64 n ∧ R64 n < n + 64 := by unfold R64; omega
/-- A buffer and its row. -/
structure BufAt (w : World) (B : Nat) (r : Int) (D : Nat) (l : List Int) (n : Int) : Prop where
  h : w.heap[B]? = some (bufH r (.slice (some ⟨D, 0, none⟩) l.length l.length) n)
  r : Row w D l
theorem BufAt.ne {w : World} {B D : Nat} {r n : Int} {l : List Int} (h : BufAt w B r D l n) : B ≠ D := blk_ne h.h h.r (by decide)
theorem BufAt.kept {w w' : World} {B D : Nat} {r n : Int} {l : List Int} {S : Nat → Prop} (h : BufAt w B r D l n) (hk : Kept w w' S) (hB : ¬ S B) (hD : ¬ S D) : BufAt w' B r D l n := ⟨blk_kept h.h hk hB, h.r.kept hk hD⟩
theorem BufAt.below {w w' : World} {B D : Nat} {r n : Int} {l : List Int} (h : BufAt w B r D l n) (hb : Below w.heap.size w w') : BufAt w' B r D l n := ⟨blk_below h.h hb, h.r.below hb⟩
theorem BufAt.row {w w' : World} {B D : Nat} {r n : Int} {l l2 : List Int} (h : BufAt w B r D l n) (hr : Row w' D l2) (hl : l2.length = l.length) (ht : Tn (fun k => k = D) w w') : BufAt w' B r D l2 n := ⟨by rw [hl]; exact blk_kept h.h ht.kept h.ne, hr⟩
set_option maxHeartbeats 1000000 in
set_option maxRecDepth 100000 in
theorem reserve_same (B D n : Nat) (l : List Int) (r q : Int) (h : n ≤ l.length) (hm : l.length ≤ 1073741824) (w : World) (hB : BufAt w B r D l q) :
    Calls Tryz.prog 99 #[.pointer (some ⟨B, 0, none⟩), .int .i64 (n : Int)] w fun e w' => e = .returned (.tuple #[]) ∧ w' = w := by
  have r1 : w.cell? ⟨B, 1, none⟩ = some (.slice (some ⟨D, 0, none⟩) l.length l.length) := (blk_cell hB.h 1).trans rfl
  have hd : decide ((n : Int) > (l.length : Int)) = false := by simp; omega
  clear hB
  go_enter Tryz.func99, Tryz.ntmps99
  go_wp2
  go_end0
  exact ⟨rfl, rfl⟩
set_option maxHeartbeats 1000000 in
set_option maxRecDepth 100000 in
theorem reserve_first (B n : Nat) (r q : Int) (h : n ≤ 1073741824) (w : World) (hn : 0 < n) (hB : w.heap[B]? = some (bufH r (.slice none 0 0) q)) :
    Calls Tryz.prog 99 #[.pointer (some ⟨B, 0, none⟩), .int .i64 (n : Int)] w fun e w' => e = .returned (.tuple #[]) ∧ ∃ D, w.heap.size ≤ D ∧ BufAt w' B r D (List.replicate (R64 n) 0) q ∧ Tn (fun k => k = B) w w' := by
  have HM := Aside0.mk (round_calls (n : Int) ((R64 n : Nat) : Int) w (round_eq n (by omega)))
  have r1 : w.cell? ⟨B, 1, none⟩ = some (.slice none 0 0) := (blk_cell hB 1).trans rfl
  have r4 : w.cell? ⟨B, 4, none⟩ = some (.iface 53 (.agg #[])) := (blk_cell hB 4).trans rfl
  have hR := R64_le n
  have hd : decide ((n : Int) > 0) = true := by simp; omega
  obtain ⟨w2, hw2⟩ : ∃ w2, w2 = (w.alloc (.cells #[] 53)).alloc (zeros (R64 n)) := ⟨_, rfl⟩
  have hc := alloc_calls (R64 n) (by omega) w
  rw [← hw2] at hc
  have hz : NewRow w w2 (w.heap.size + 1) (List.replicate (R64 n) 0) := by rw [hw2]; exact newrow_alloc w (R64 n)
  have hB2 := blk_below hB hz.b
  have HL := Aside0.mk (blk_lt hB)
  have HC := Aside0.mk hc
  have HB2 := Aside0.mk hB2
  have HZ := Aside0.mk hz
  have s1 : w2.cell? ⟨B, 1, none⟩ = some (.slice none 0 0) := (blk_cell hB2 1).trans rfl
  have z1 : w2.frozen? ⟨B, 1, none⟩ = false := blk_frozen hB2 1
  clear hB hc hB2 hz hw2 hR
  generalize R64 n = m at HM HC HZ ⊢
  go_enter Tryz.func99, Tryz.ntmps99
  go_wp2_with (first | (go_at_call 100; refine HM.out.mono ?_; rintro e w1 ⟨rfl, hw1⟩; subst w1) | (go_at_call 139; refine HC.out.mono ?_; rintro e w1 ⟨rfl, hw1⟩; subst w1))
  go_end0
  refine ⟨rfl, w.heap.size + 1, Nat.le_succ _, ⟨?_, ?_⟩, ?_⟩
  · have := blk_set HB2.out 1 (.slice (some ⟨w.heap.size + 1, 0, none⟩) m m)
    rw [List.length_replicate]
    exact this
  · exact blk_far HZ.out.r (p := ⟨B, 1, none⟩) (by show w.heap.size + 1 ≠ B; have := HL.out; omega) _
  · exact (Tn.of_below HZ.out.b (fun k => k = B)).setCell (p := ⟨B, 1, none⟩) (.inl rfl) _
set_option maxHeartbeats 4000000 in
set_option maxRecDepth 100000 in
theorem reserve_grow (B D n : Nat) (l : List Int) (r q : Int) (h : n ≤ 1073741824) (w : World) (hl : 0 < l.length) (hn : l.length < n) (hB : BufAt w B r D l q) :
    Calls Tryz.prog 99 #[.pointer (some ⟨B, 0, none⟩), .int .i64 (n : Int)] w fun e w' => e = .returned (.tuple #[]) ∧ ∃ D, w.heap.size ≤ D ∧ BufAt w' B r D (l ++ List.replicate (R64 n - l.length) 0) q ∧ Tn (fun k => k = B) w w' := by
  have HM := Aside0.mk (round_calls (n : Int) ((R64 n : Nat) : Int) w (round_eq n (by omega)))
  have r1 : w.cell? ⟨B, 1, none⟩ = some (.slice (some ⟨D, 0, none⟩) l.length l.length) := (blk_cell hB.h 1).trans rfl
  have r4 : w.cell? ⟨B, 4, none⟩ = some (.iface 53 (.agg #[])) := (blk_cell hB.h 4).trans rfl
  have hR := R64_le n
  have hd : decide ((n : Int) > (l.length : Int)) = true := by simp; omega
  have hd2 : decide ((l.length : Int) = 0) = false := by simp; intro e; rw [e] at hl; simp at hl
  have HL := Aside0.mk (blk_lt hB.h)
  have HC := Aside0.mk (fun W (hr : Row W D l) => realloc_calls (R64 n) D l (by omega) W hr (by omega))
  have HB := Aside0.mk hB
  have HR := Aside0.mk (show l.length ≤ R64 n by omega)
  clear hB hR
  generalize R64 n = m at HM HC HR ⊢
  go_enter Tryz.func99, Tryz.ntmps99
  go_wp2_with (go_at_call 100; refine HM.out.mono ?_; rintro e w1 ⟨rfl, hw1⟩; subst w1)
  go_region_with (go_at_call 141; refine (HC.out w.drew HB.out.r).mono ?_; rintro e w2 ⟨E, rfl, e1⟩; have hb2 := blk_below (show w.drew.heap[B]? = _ from HB.out.h) e1.b; have s1 : w2.cell? ⟨B, 1, none⟩ = some (.slice (some ⟨D, 0, none⟩) l.length l.length) := (blk_cell hb2 1).trans rfl; have z1 : w2.frozen? ⟨B, 1, none⟩ = false := blk_frozen hb2 1; have E1 := Aside0.mk e1; have HB2 := Aside0.mk hb2; clear e1 hb2)
  all_goals
    go_end0
    refine ⟨rfl, E, E1.out.lt, ⟨?_, ?_⟩, ?_⟩
    · have := blk_set HB2.out 1 (.slice (some ⟨E, 0, none⟩) m m)
      rw [show (l ++ List.replicate (m - l.length) (0 : Int)).length = m by have := HR.out; simp; omega]
      exact this
    · exact blk_far E1.out.r (p := ⟨B, 1, none⟩) (by show E ≠ B; have := HL.out; have := E1.out.lt; simp only [World.drew] at this; omega) _
    · exact (Tn.of_below (show Below w.heap.size w w2 from (below_drew (Below.refl _ w)).trans E1.out.b) (fun k => k = B)).setCell (p := ⟨B, 1, none⟩) (.inl rfl) _
/-- A row that has room for n. -/
def growB (n : Nat) (l : List Int) : List Int := if n ≤ l.length then l else l ++ List.replicate (R64 n - l.length) 0
theorem growB_len (n : Nat) (l : List Int) : (growB n l).length = if n ≤ l.length then l.length else R64 n := by
  unfold growB
  have := R64_le n
  split
  · rfl
  · simp; omega
set_option maxHeartbeats 1000000 in
set_option maxRecDepth 100000 in
theorem reserve_any (B D n : Nat) (l : List Int) (r q : Int) (h : n ≤ 1073741824) (hm : l.length ≤ 1073741824) (w : World) (hl : 0 < l.length) (hB : BufAt w B r D l q) :
    Calls Tryz.prog 99 #[.pointer (some ⟨B, 0, none⟩), .int .i64 (n : Int)] w fun e w' => e = .returned (.tuple #[]) ∧ ∃ D', (D' = D ∨ w.heap.size ≤ D') ∧ BufAt w' B r D' (growB n l) q ∧ Tn (fun k => k = B) w w' := by
  unfold growB
  by_cases c : n ≤ l.length
  · rw [if_pos c]
    refine (reserve_same B D n l r q c hm w hB).mono ?_
    rintro e w' ⟨rfl, rfl⟩
    exact ⟨rfl, D, .inl rfl, hB, Tn.refl _ _⟩
  · rw [if_neg c]
    refine (reserve_grow B D n l r q h w hl (by omega) hB).mono ?_
    rintro e w' ⟨rfl, D', h1, h2, h3⟩
    exact ⟨rfl, D', .inr h1, h2, h3⟩
theorem BufAt.len {w : World} {B D : Nat} {r q : Int} {l : List Int} (h : BufAt w B r D l q) (n : Int) : BufAt (w.setCell ⟨B, 2, none⟩ (.int .i64 n)) B r D l n :=
  ⟨blk_set h.h 2 (.int .i64 n), blk_far h.r (p := ⟨B, 2, none⟩) (fun e => h.ne e.symm) _⟩
set_option maxHeartbeats 1000000 in
set_option maxRecDepth 100000 in
theorem resize_ns (B D n : Nat) (l : List Int) (r q : Int) (h : n ≤ 1073741824) (hm : l.length ≤ 1073741824) (w : World) (hl : 0 < l.length) (hB : BufAt w B r D l q) :
    Calls Tryz.prog 93 #[.pointer (some ⟨B, 0, none⟩), .int .i64 (n : Int), .bool false] w fun e w' => e = .returned (.tuple #[]) ∧ ∃ D', (D' = D ∨ w.heap.size ≤ D') ∧ BufAt w' B r D' (growB n l) n ∧ Tn (fun k => k = B) w w' := by
  have HC := Aside0.mk (reserve_any B D n l r q h hm w hl hB)
  have r2 : w.cell? ⟨B, 2, none⟩ = some (.int .i64 q) := (blk_cell hB.h 2).trans rfl
  clear hB
  go_enter Tryz.func93, Tryz.ntmps93
  go_wp2_with (first | (go_at_call 99; go_loud (refine HC.out.mono ?_; rintro e w1 ⟨rfl, D', d1, d2, d3⟩; have r3 : w1.cell? ⟨B, 2, none⟩ = some (.int .i64 q) := (blk_cell d2.h 2).trans rfl; have z3 : w1.frozen? ⟨B, 2, none⟩ = false := blk_frozen d2.h 2; have D1 := Aside0.mk (And.intro d1 (And.intro d2 d3)); clear d1 d2 d3)))
  go_end0
  exact ⟨rfl, D', D1.out.1, D1.out.2.1.len n, D1.out.2.2.setCell (p := ⟨B, 2, none⟩) (.inl rfl) _⟩
set_option maxHeartbeats 1000000 in
set_option maxRecDepth 100000 in
theorem resize_ns_first (B n : Nat) (r q : Int) (h : n ≤ 1073741824) (w : World) (hn : 0 < n) (hB : w.heap[B]? = some (bufH r (.slice none 0 0) q)) :
    Calls Tryz.prog 93 #[.pointer (some ⟨B, 0, none⟩), .int .i64 (n : Int), .bool false] w fun e w' => e = .returned (.tuple #[]) ∧ ∃ D, w.heap.size ≤ D ∧ BufAt w' B r D (List.replicate (R64 n) 0) n ∧ Tn (fun k => k = B) w w' := by
  have HC := Aside0.mk (reserve_first B n r q h w hn hB)
  have r2 : w.cell? ⟨B, 2, none⟩ = some (.int .i64 q) := (blk_cell hB 2).trans rfl
  clear hB
  go_enter Tryz.func93, Tryz.ntmps93
  go_wp2_with (first | (go_at_call 99; go_loud (refine HC.out.mono ?_; rintro e w1 ⟨rfl, D', d1, d2, d3⟩; have r3 : w1.cell? ⟨B, 2, none⟩ = some (.int .i64 q) := (blk_cell d2.h 2).trans rfl; have z3 : w1.frozen? ⟨B, 2, none⟩ = false := blk_frozen d2.h 2; have D1 := Aside0.mk (And.intro d1 (And.intro d2 d3)); clear d1 d2 d3)))
  go_end0
  exact ⟨rfl, D', D1.out.1, D1.out.2.1.len n, D1.out.2.2.setCell (p := ⟨B, 2, none⟩) (.inl rfl) _⟩
set_option maxHeartbeats 1000000 in
set_option maxRecDepth 100000 in
theorem Resize_ns (B D n : Nat) (l : List Int) (r q : Int) (h : n ≤ 1073741824) (hm : l.length ≤ 1073741824) (w : World) (hl : 0 < l.length) (hB : BufAt w B r D l q) :
    Calls Tryz.prog 76 #[.pointer (some ⟨B, 0, none⟩), .int .i64 (n : Int)] w fun e w' => e = .returned (.tuple #[]) ∧ ∃ D', (D' = D ∨ w.heap.size ≤ D') ∧ BufAt w' B r D' (growB n l) n ∧ Tn (fun k => k = B) w w' := by
  have HC := Aside0.mk (resize_ns B D n l r q h hm w hl hB )
  clear hB
  go_enter Tryz.func76, Tryz.ntmps76
  go_wp2_with (first | (go_at_call 93; refine HC.out.mono ?_; rintro e w1 ⟨rfl, hx⟩; have X := Aside0.mk hx; clear hx))
  go_end0
  exact ⟨rfl, X.out⟩
set_option maxHeartbeats 1000000 in
set_option maxRecDepth 100000 in
theorem Resize_ns_first (B n : Nat) (r q : Int) (h : n ≤ 1073741824) (w : World) (hn : 0 < n) (hB : w.heap[B]? = some (bufH r (.slice none 0 0) q)) :
    Calls Tryz.prog 76 #[.pointer (some ⟨B, 0, none⟩), .int .i64 (n : Int)] w fun e w' => e = .returned (.tuple #[]) ∧ ∃ D, w.heap.size ≤ D ∧ BufAt w' B r D (List.replicate (R64 n) 0) n ∧ Tn (fun k => k = B) w w' := by
  have HC := Aside0.mk (resize_ns_first B n r q h w hn hB )
  clear hB
  go_enter Tryz.func76, Tryz.ntmps76
  go_wp2_with (first | (go_at_call 93; refine HC.out.mono ?_; rintro e w1 ⟨rfl, hx⟩; have X := Aside0.mk hx; clear hx))
  go_end0
  exact ⟨rfl, X.out⟩
set_option maxHeartbeats 1000000 in
set_option maxRecDepth 100000 in
theorem resize_gr (B D n : Nat) (l : List Int) (r q : Int) (h : n ≤ 1073741824) (hm : l.length ≤ 1073741824) (w : World) (hl : 0 < l.length) (hB : BufAt w B r D l q) (hq : q < (n : Int)) :
    Calls Tryz.prog 93 #[.pointer (some ⟨B, 0, none⟩), .int .i64 (n : Int), .bool true] w fun e w' => e = .returned (.tuple #[]) ∧ ∃ D', (D' = D ∨ w.heap.size ≤ D') ∧ BufAt w' B r D' (growB n l) n ∧ Tn (fun k => k = B) w w' := by
  have HC := Aside0.mk (reserve_any B D n l r q h hm w hl hB)
  have r2 : w.cell? ⟨B, 2, none⟩ = some (.int .i64 q) := (blk_cell hB.h 2).trans rfl
  have hd : decide ((n : Int) > q) = true := by simp; omega
  clear hB
  go_enter Tryz.func93, Tryz.ntmps93
  go_wp2_with (first | (go_at_call 99; go_loud (refine HC.out.mono ?_; rintro e w1 ⟨rfl, D', d1, d2, d3⟩; have r3 : w1.cell? ⟨B, 2, none⟩ = some (.int .i64 q) := (blk_cell d2.h 2).trans rfl; have z3 : w1.frozen? ⟨B, 2, none⟩ = false := blk_frozen d2.h 2; have D1 := Aside0.mk (And.intro d1 (And.intro d2 d3)); clear d1 d2 d3)))
  go_end0
  exact ⟨rfl, D', D1.out.1, D1.out.2.1.len n, D1.out.2.2.setCell (p := ⟨B, 2, none⟩) (.inl rfl) _⟩
set_option maxHeartbeats 1000000 in
set_option maxRecDepth 100000 in
theorem resize_gr_first (B n : Nat) (r q : Int) (h : n ≤ 1073741824) (w : World) (hn : 0 < n) (hB : w.heap[B]? = some (bufH r (.slice none 0 0) q)) (hq : q < (n : Int)) :
    Calls Tryz.prog 93 #[.pointer (some ⟨B, 0, none⟩), .int .i64 (n : Int), .bool true] w fun e w' => e = .returned (.tuple #[]) ∧ ∃ D, w.heap.size ≤ D ∧ BufAt w' B r D (List.replicate (R64 n) 0) n ∧ Tn (fun k => k = B) w w' := by
  have HC := Aside0.mk (reserve_first B n r q h w hn hB)
  have r2 : w.cell? ⟨B, 2, none⟩ = some (.int .i64 q) := (blk_cell hB 2).trans rfl
  have hd : decide ((n : Int) > q) = true := by simp; omega
  clear hB
  go_enter Tryz.func93, Tryz.ntmps93
  go_wp2_with (first | (go_at_call 99; go_loud (refine HC.out.mono ?_; rintro e w1 ⟨rfl, D', d1, d2, d3⟩; have r3 : w1.cell? ⟨B, 2, none⟩ = some (.int .i64 q) := (blk_cell d2.h 2).trans rfl; have z3 : w1.frozen? ⟨B, 2, none⟩ = false := blk_frozen d2.h 2; have D1 := Aside0.mk (And.intro d1 (And.intro d2 d3)); clear d1 d2 d3)))
  go_end0
  exact ⟨rfl, D', D1.out.1, D1.out.2.1.len n, D1.out.2.2.setCell (p := ⟨B, 2, none⟩) (.inl rfl) _⟩
set_option maxHeartbeats 1000000 in
set_option maxRecDepth 100000 in
theorem Resize_gr (B D n : Nat) (l : List Int) (r q : Int) (h : n ≤ 1073741824) (hm : l.length ≤ 1073741824) (w : World) (hl : 0 < l.length) (hB : BufAt w B r D l q) (hq : q < (n : Int)) :
    Calls Tryz.prog 88 #[.pointer (some ⟨B, 0, none⟩), .int .i64 (n : Int)] w fun e w' => e = .returned (.tuple #[]) ∧ ∃ D', (D' = D ∨ w.heap.size ≤ D') ∧ BufAt w' B r D' (growB n l) n ∧ Tn (fun k => k = B) w w' := by
  have HC := Aside0.mk (resize_gr B D n l r q h hm w hl hB hq)
  clear hB
  go_enter Tryz.func88, Tryz.ntmps88
  go_wp2_with (first | (go_at_call 93; refine HC.out.mono ?_; rintro e w1 ⟨rfl, hx⟩; have X := Aside0.mk hx; clear hx))
  go_end0
  exact ⟨rfl, X.out⟩
set_option maxHeartbeats 1000000 in
set_option maxRecDepth 100000 in
theorem Resize_gr_first (B n : Nat) (r q : Int) (h : n ≤ 1073741824) (w : World) (hn : 0 < n) (hB : w.heap[B]? = some (bufH r (.slice none 0 0) q)) (hq : q < (n : Int)) :
    Calls Tryz.prog 88 #[.pointer (some ⟨B, 0, none⟩), .int .i64 (n : Int)] w fun e w' => e = .returned (.tuple #[]) ∧ ∃ D, w.heap.size ≤ D ∧ BufAt w' B r D (List.replicate (R64 n) 0) n ∧ Tn (fun k => k = B) w w' := by
  have HC := Aside0.mk (resize_gr_first B n r q h w hn hB hq)
  clear hB
  go_enter Tryz.func88, Tryz.ntmps88
  go_wp2_with (first | (go_at_call 93; refine HC.out.mono ?_; rintro e w1 ⟨rfl, hx⟩; have X := Aside0.mk hx; clear hx))
  go_end0
  exact ⟨rfl, X.out⟩
set_option maxHeartbeats 1000000 in
set_option maxRecDepth 100000 in
theorem retain_calls (B : Nat) (sl : Value) (r s q : Int) (hs : IntKind.i64.wrap (r + 1) = s) (w : World) (hB : w.heap[B]? = some (bufH r sl q)) :
    Calls Tryz.prog 39 #[.pointer (some ⟨B, 0, none⟩)] w fun e w' => e = .returned (.tuple #[]) ∧ w'.heap[B]? = some (bufH s sl q) ∧ Tn (fun k => k = B) w w' := by
  have r4 : w.cell? ⟨B, 4, none⟩ = some (.iface 53 (.agg #[])) := (blk_cell hB 4).trans rfl
  have HC := Aside0.mk (fun W (hW : W.heap[B]? = some (bufH r sl q)) => add_calls ⟨B, 0, none⟩ r 1 s hs W ((blk_cell hW 0).trans rfl) (blk_frozen hW 0))
  have HB := Aside0.mk hB
  clear hB hs
  go_enter Tryz.func39, Tryz.ntmps39
  go_wp2_with (first | (go_at_call 33; refine (HC.out _ HB.out).mono ?_; rintro e w1 ⟨rfl, rfl⟩))
  go_end0
  exact ⟨rfl, blk_set HB.out 0 (.int .i64 s), (Tn.refl (fun k => k = B) w).setCell (p := ⟨B, 0, none⟩) (.inl rfl) _⟩
set_option maxHeartbeats 1000000 in
set_option maxRecDepth 100000 in
theorem retain_none (B : Nat) (sl : Value) (q : Int) (w : World) (hB : w.heap[B]? = some (bufN sl q)) :
    Calls Tryz.prog 39 #[.pointer (some ⟨B, 0, none⟩)] w fun e w' => e = .returned (.tuple #[]) ∧ w' = w := by
  have r4 : w.cell? ⟨B, 4, none⟩ = some .nilIface := (blk_cell hB 4).trans rfl
  have r5 : w.cell? ⟨B, 5, none⟩ = some (.pointer none) := (blk_cell hB 5).trans rfl
  clear hB
  go_enter Tryz.func39, Tryz.ntmps39
  go_wp2
  go_end0
  exact ⟨rfl, rfl⟩
set_option maxHeartbeats 1000000 in
set_option maxRecDepth 100000 in
theorem release_calls (B : Nat) (sl : Value) (r s q : Int) (hs : IntKind.i64.wrap (r + -1) = s) (h1 : 0 < r) (h2 : s ≠ 0) (w : World) (hB : w.heap[B]? = some (bufH r sl q)) :
    Calls Tryz.prog 63 #[.pointer (some ⟨B, 0, none⟩)] w fun e w' => e = .returned (.tuple #[]) ∧ w'.heap[B]? = some (bufH s sl q) ∧ Tn (fun k => k = B) w w' := by
  have r4 : w.cell? ⟨B, 4, none⟩ = some (.iface 53 (.agg #[])) := (blk_cell hB 4).trans rfl
  have HC := Aside0.mk (fun W (hW : W.heap[B]? = some (bufH r sl q)) => add_calls ⟨B, 0, none⟩ r (-1) s hs W ((blk_cell hW 0).trans rfl) (blk_frozen hW 0))
  have HD := Aside0.mk (fun W (hW : W.heap[B]? = some (bufH r sl q)) => load_calls ⟨B, 0, none⟩ r W ((blk_cell hW 0).trans rfl))
  have HB := Aside0.mk hB
  have hd : decide (r > 0) = true := decide_eq_true h1
  have hd2 : decide (0 < r) = true := decide_eq_true h1
  have he : (s == 0) = false := by simpa using h2
  clear hB hs
  go_enter Tryz.func63, Tryz.ntmps63
  go_wp2_with (first | (go_at_call 66; refine (HD.out _ HB.out).mono ?_; rintro e w1 ⟨rfl, rfl⟩) | (go_at_call 65; refine (assert_calls _ _).mono ?_; rintro e w1 ⟨rfl, rfl⟩) | (go_at_call 33; refine (HC.out _ HB.out).mono ?_; rintro e w1 ⟨rfl, rfl⟩))
  go_end0
  exact ⟨rfl, blk_set HB.out 0 (.int .i64 s), (Tn.refl (fun k => k = B) _).setCell (p := ⟨B, 0, none⟩) (.inl rfl) _⟩
set_option maxHeartbeats 1000000 in
set_option maxRecDepth 100000 in
theorem release_none (B : Nat) (sl : Value) (q : Int) (w : World) (hB : w.heap[B]? = some (bufN sl q)) :
    Calls Tryz.prog 63 #[.pointer (some ⟨B, 0, none⟩)] w fun e w' => e = .returned (.tuple #[]) ∧ w' = w := by
  have r4 : w.cell? ⟨B, 4, none⟩ = some .nilIface := (blk_cell hB 4).trans rfl
  have r5 : w.cell? ⟨B, 5, none⟩ = some (.pointer none) := (blk_cell hB 5).trans rfl
  clear hB
  go_enter Tryz.func63, Tryz.ntmps63
  go_wp2
  go_end0
  exact ⟨rfl, rfl⟩
end Go.Proofs.YtndbeeboehekaaaGreatDoor.Q

/- bits.Len, NextPowerOf2 and CeilByte at the few numbers that are asked; a builder's parts. -/
namespace Go.Proofs.YtndbeeboehekaaaGreatDoor.Q
open Go.RowKit Go.Proofs.YtndbeeboehekaaaGreatDoorW.PrintWords Go.Proofs.YtndbeeboehekaaaGreatDoorW.PrintLast Go.Proofs.YtndbeeboehekaaaGreatDoorW.PrintMore
attribute [local go_sem] max2_int min2_int max_two min_two
set_option linter.unusedVariables false
set_option linter.unusedSimpArgs false
set_option maxRecDepth 100000 in
theorem fold_tab : ({ data := (([0, 1, 2, 2, 3, 3, 3, 3, 4, 4, 4, 4, 4, 4, 4, 4, 5, 5, 5, 5, 5, 5, 5, 5, 5, 5, 5, 5, 5, 5, 5, 5, 6, 6, 6, 6, 6, 6, 6, 6, 6, 6, 6, 6, 6, 6, 6, 6, 6, 6, 6, 6, 6, 6, 6, 6, 6, 6, 6, 6, 6, 6, 6, 6].append [7, 7, 7, 7, 7, 7, 7, 7, 7, 7, 7, 7, 7, 7, 7, 7, 7, 7, 7, 7, 7, 7, 7, 7, 7, 7, 7, 7, 7, 7, 7, 7, 7, 7, 7, 7, 7, 7, 7, 7, 7, 7, 7, 7, 7, 7, 7, 7, 7, 7, 7, 7, 7, 7, 7, 7, 7, 7, 7, 7, 7, 7, 7, 7]).append ([8, 8, 8, 8, 8, 8, 8, 8, 8, 8, 8, 8, 8, 8, 8, 8, 8, 8, 8, 8, 8, 8, 8, 8, 8, 8, 8, 8, 8, 8, 8, 8, 8, 8, 8, 8, 8, 8, 8, 8, 8, 8, 8, 8, 8, 8, 8, 8, 8, 8, 8, 8, 8, 8, 8, 8, 8, 8, 8, 8, 8, 8, 8, 8].append [8, 8, 8, 8, 8, 8, 8, 8, 8, 8, 8, 8, 8, 8, 8, 8, 8, 8, 8, 8, 8, 8, 8, 8, 8, 8, 8, 8, 8, 8, 8, 8, 8, 8, 8, 8, 8, 8, 8, 8, 8, 8, 8, 8, 8, 8, 8, 8, 8, 8, 8, 8, 8, 8, 8, 8, 8, 8, 8, 8, 8, 8, 8, 8])).toArray } : ByteArray) = Lib.len8tab := by decide +kernel
attribute [local go_sem high] fold_tab
set_option maxHeartbeats 1000000 in
set_option maxRecDepth 100000 in
theorem len64_1 (w : World) : Calls Tryz.prog 92 #[.int .u64 1] w fun e w' => e = .returned (.int .i64 1) ∧ w' = w := by
  have q : ∀ W : World, (Instr.index 9 (.string Lib.len8tab) (.int .u8 1)).run Tryz.prog W = .ok (.int .u8 1) W := fun W => Lib.run_index_len8tab (P := Tryz.prog) W 9 .u8 1 Tryz.underlying9 (by omega) (by omega)
  have q2 : ∀ W : World, (Instr.index 9 (.string Lib.len8tab) (.int .u64 1)).run Tryz.prog W = .ok (.int .u8 1) W := fun W => Lib.run_index_len8tab (P := Tryz.prog) W 9 .u64 1 Tryz.underlying9 (by omega) (by omega)
  go_enter Tryz.func92, Tryz.ntmps92
  go_wp2
  go_ret
  exact ⟨rfl, rfl⟩
set_option maxHeartbeats 1000000 in
set_option maxRecDepth 100000 in
theorem lenb_1 (w : World) : Calls Tryz.prog 75 #[.int .u64 1] w fun e w' => e = .returned (.int .i64 1) ∧ w' = w := by
  go_enter Tryz.func75, Tryz.ntmps75
  go_wp2_with (go_at_call 92; refine (len64_1 _).mono ?_; rintro e w1 ⟨rfl, rfl⟩)
  go_ret
  exact ⟨rfl, rfl⟩
set_option maxHeartbeats 1000000 in
set_option maxRecDepth 100000 in
theorem pow2_1 (w : World) : Calls Tryz.prog 54 #[.int .i64 1] w fun e w' => e = .returned (.int .i64 2) ∧ w' = w := by
  go_enter Tryz.func54, Tryz.ntmps54
  go_wp2_with (go_at_call 75; refine (lenb_1 _).mono ?_; rintro e w1 ⟨rfl, rfl⟩)
  go_ret
  exact ⟨rfl, rfl⟩
set_option maxHeartbeats 1000000 in
set_option maxRecDepth 100000 in
theorem len64_3 (w : World) : Calls Tryz.prog 92 #[.int .u64 3] w fun e w' => e = .returned (.int .i64 2) ∧ w' = w := by
  have q : ∀ W : World, (Instr.index 9 (.string Lib.len8tab) (.int .u8 3)).run Tryz.prog W = .ok (.int .u8 2) W := fun W => Lib.run_index_len8tab (P := Tryz.prog) W 9 .u8 3 Tryz.underlying9 (by omega) (by omega)
  have q2 : ∀ W : World, (Instr.index 9 (.string Lib.len8tab) (.int .u64 3)).run Tryz.prog W = .ok (.int .u8 2) W := fun W => Lib.run_index_len8tab (P := Tryz.prog) W 9 .u64 3 Tryz.underlying9 (by omega) (by omega)
  go_enter Tryz.func92, Tryz.ntmps92
  go_wp2
  go_ret
  exact ⟨rfl, rfl⟩
set_option maxHeartbeats 1000000 in
set_option maxRecDepth 100000 in
theorem lenb_3 (w : World) : Calls Tryz.prog 75 #[.int .u64 3] w fun e w' => e = .returned (.int .i64 2) ∧ w' = w := by
  go_enter Tryz.func75, Tryz.ntmps75
  go_wp2_with (go_at_call 92; refine (len64_3 _).mono ?_; rintro e w1 ⟨rfl, rfl⟩)
  go_ret
  exact ⟨rfl, rfl⟩
set_option maxHeartbeats 1000000 in
set_option maxRecDepth 100000 in
theorem pow2_3 (w : World) : Calls Tryz.prog 54 #[.int .i64 3] w fun e w' => e = .returned (.int .i64 4) ∧ w' = w := by
  go_enter Tryz.func54, Tryz.ntmps54
  go_wp2_with (go_at_call 75; refine (lenb_3 _).mono ?_; rintro e w1 ⟨rfl, rfl⟩)
  go_ret
  exact ⟨rfl, rfl⟩
set_option maxHeartbeats 1000000 in
set_option maxRecDepth 100000 in
theorem len64_33 (w : World) : Calls Tryz.prog 92 #[.int .u64 33] w fun e w' => e = .returned (.int .i64 6) ∧ w' = w := by
  have q : ∀ W : World, (Instr.index 9 (.string Lib.len8tab) (.int .u8 33)).run Tryz.prog W = .ok (.int .u8 6) W := fun W => Lib.run_index_len8tab (P := Tryz.prog) W 9 .u8 33 Tryz.underlying9 (by omega) (by omega)
  have q2 : ∀ W : World, (Instr.index 9 (.string Lib.len8tab) (.int .u64 33)).run Tryz.prog W = .ok (.int .u8 6) W := fun W => Lib.run_index_len8tab (P := Tryz.prog) W 9 .u64 33 Tryz.underlying9 (by omega) (by omega)
  go_enter Tryz.func92, Tryz.ntmps92
  go_wp2
  go_ret
  exact ⟨rfl, rfl⟩
set_option maxHeartbeats 1000000 in
set_option maxRecDepth 100000 in
theorem lenb_33 (w : World) : Calls Tryz.prog 75 #[.int .u64 33] w fun e w' => e = .returned (.int .i64 6) ∧ w' = w := by
  go_enter Tryz.func75, Tryz.ntmps75
  go_wp2_with (go_at_call 92; refine (len64_33 _).mono ?_; rintro e w1 ⟨rfl, rfl⟩)
  go_ret
  exact ⟨rfl, rfl⟩
set_option maxHeartbeats 1000000 in
set_option maxRecDepth 100000 in
theorem pow2_33 (w : World) : Calls Tryz.prog 54 #[.int .i64 33] w fun e w' => e = .returned (.int .i64 64) ∧ w' = w := by
  go_enter Tryz.func54, Tryz.ntmps54
  go_wp2_with (go_at_call 75; refine (lenb_33 _).mono ?_; rintro e w1 ⟨rfl, rfl⟩)
  go_ret
  exact ⟨rfl, rfl⟩
set_option maxHeartbeats 1000000 in
set_option maxRecDepth 100000 in
theorem len64_65 (w : World) : Calls Tryz.prog 92 #[.int .u64 65] w fun e w' => e = .returned (.int .i64 7) ∧ w' = w := by
  have q : ∀ W : World, (Instr.index 9 (.string Lib.len8tab) (.int .u8 65)).run Tryz.prog W = .ok (.int .u8 7) W := fun W => Lib.run_index_len8tab (P := Tryz.prog) W 9 .u8 65 Tryz.underlying9 (by omega) (by omega)
  have q2 : ∀ W : World, (Instr.index 9 (.string Lib.len8tab) (.int .u64 65)).run Tryz.prog W = .ok (.int .u8 7) W := fun W => Lib.run_index_len8tab (P := Tryz.prog) W 9 .u64 65 Tryz.underlying9 (by omega) (by omega)
  go_enter Tryz.func92, Tryz.ntmps92
  go_wp2
  go_ret
  exact ⟨rfl, rfl⟩
set_option maxHeartbeats 1000000 in
set_option maxRecDepth 100000 in
theorem lenb_65 (w : World) : Calls Tryz.prog 75 #[.int .u64 65] w fun e w' => e = .returned (.int .i64 7) ∧ w' = w := by
  go_enter Tryz.func75, Tryz.ntmps75
  go_wp2_with (go_at_call 92; refine (len64_65 _).mono ?_; rintro e w1 ⟨rfl, rfl⟩)
  go_ret
  exact ⟨rfl, rfl⟩
set_option maxHeartbeats 1000000 in
set_option maxRecDepth 100000 in
theorem pow2_65 (w : World) : Calls Tryz.prog 54 #[.int .i64 65] w fun e w' => e = .returned (.int .i64 128) ∧ w' = w := by
  go_enter Tryz.func54, Tryz.ntmps54
  go_wp2_with (go_at_call 75; refine (lenb_65 _).mono ?_; rintro e w1 ⟨rfl, rfl⟩)
  go_ret
  exact ⟨rfl, rfl⟩
/-- How a builder grows: out of room for k, next number, capacity, bytes of bits. -/
inductive Up : Nat → Nat → Nat → Prop
  | a : Up 2 32 4
  | b : Up 32 64 8
  | c : Up 64 128 16
theorem pow2_up {k C m : Nat} (h : Up k C m) (w : World) : ∃ n : Nat, Calls Tryz.prog 54 #[.int .i64 ((k : Int) + 1)] w (fun e w' => e = .returned (.int .i64 (n : Int)) ∧ w' = w) ∧ max n 32 = C ∧ k < n ∧ n ≤ 128 := by
  cases h
  · exact ⟨4, pow2_3 w, rfl, by omega, by omega⟩
  · exact ⟨64, pow2_33 w, rfl, by omega, by omega⟩
  · exact ⟨128, pow2_65 w, rfl, by omega, by omega⟩
set_option maxHeartbeats 1000000 in
set_option maxRecDepth 100000 in
theorem ceil_calls (a r : Int) (hr : bits .andNot .i64 (wrap64 (a + 7)) 7 = r) (w : World) : Calls Tryz.prog 86 #[.int .i64 a] w fun e w' => e = .returned (.int .i64 r) ∧ w' = w := by
  subst hr
  go_enter Tryz.func86, Tryz.ntmps86
  go_wp2
  go_ret
  exact ⟨rfl, rfl⟩
theorem ceil_up {k C m : Nat} (h : Up k C m) (w : World) : Calls Tryz.prog 86 #[.int .i64 (C : Int)] w fun e w' => e = .returned (.int .i64 ((8 * m : Nat) : Int)) ∧ w' = w := by
  cases h
  · exact ceil_calls 32 32 (by decide +kernel) w
  · exact ceil_calls 64 64 (by decide +kernel) w
  · exact ceil_calls 128 128 (by decide +kernel) w
/-- A builder of bytes. -/
def bbO (bp : Value) (n c : Nat) (sl : Value) : Obj := .cells #[.int .i64 1, .iface 53 (.agg #[]), bp, .int .i64 (n : Int), .int .i64 (c : Int), sl] 95 (0, 0)
/-- A builder of an array. -/
def bO (np : Value) (nulls k c : Nat) (T vb : Nat) : Obj := .cells #[.int .i64 1, .iface 53 (.agg #[]), np, .int .i64 (nulls : Int), .int .i64 (k : Int), .int .i64 (c : Int), .pointer (some ⟨T, 0, none⟩), .pointer (some ⟨vb, 0, none⟩)] 89 (0, 0)
abbrev ptr (B : Nat) : Value := .pointer (some ⟨B, 0, none⟩)
set_option maxHeartbeats 1000000 in
set_option maxRecDepth 100000 in
theorem newbb_calls (w : World) : Calls Tryz.prog 32 #[plainV] w fun e w' => e = .returned (ptr w.heap.size) ∧ w' = w.alloc (bbO (.pointer none) 0 0 (.slice none 0 0)) := by
  have hn := blk_new w (.cells #[.int .i64 0, .iface 53 (.agg #[]), .pointer none, .int .i64 0, .int .i64 0, .slice none 0 0] 95)
  have HC := Aside0.mk (add_calls ⟨w.heap.size, 0, none⟩ 0 1 1 (by decide) _ ((blk_cell hn 0).trans rfl) (blk_frozen hn 0))
  clear hn
  go_enter Tryz.func32, Tryz.ntmps32
  go_wp2_with (go_at_call 33; refine HC.out.mono ?_; rintro e w1 ⟨rfl, rfl⟩)
  go_ret
  refine ⟨rfl, ?_⟩
  simp [bbO]
set_option maxHeartbeats 1000000 in
set_option maxRecDepth 100000 in
theorem newb_calls (T : Nat) (w : World) : Calls Tryz.prog 18 #[plainV, ptr T] w fun e w' => e = .returned (ptr (w.heap.size + 1)) ∧ w' = (w.alloc (bbO (.pointer none) 0 0 (.slice none 0 0))).alloc (bO (.pointer none) 0 0 0 T w.heap.size) := by
  have hn := blk_new (w.alloc (bbO (.pointer none) 0 0 (.slice none 0 0))) (.cells #[.int .i64 0, .iface 53 (.agg #[]), .pointer none, .int .i64 0, .int .i64 0, .int .i64 0, .pointer (some ⟨T, 0, none⟩), .pointer (some ⟨w.heap.size, 0, none⟩)] 89)
  rw [show (w.alloc (bbO (.pointer none) 0 0 (.slice none 0 0))).heap.size = w.heap.size + 1 by simp] at hn
  have HC := Aside0.mk (add_calls ⟨w.heap.size + 1, 0, none⟩ 0 1 1 (by decide) _ ((blk_cell hn 0).trans rfl) (blk_frozen hn 0))
  have HD := Aside0.mk (newbb_calls w)
  clear hn
  go_enter Tryz.func18, Tryz.ntmps18
  go_wp2_with (first | (go_at_call 32; refine HD.out.mono ?_; rintro e w1 ⟨rfl, rfl⟩) | (go_at_call 33; refine HC.out.mono ?_; rintro e w1 ⟨rfl, rfl⟩))
  go_ret
  refine ⟨by simp, ?_⟩
  simp [bO]
end Go.Proofs.YtndbeeboehekaaaGreatDoor.Q

/- bufferBuilder.resize. -/
namespace Go.Proofs.YtndbeeboehekaaaGreatDoor.Q
open Go.RowKit Go.Proofs.YtndbeeboehekaaaGreatDoorW.PrintWords Go.Proofs.YtndbeeboehekaaaGreatDoorW.PrintLast Go.Proofs.YtndbeeboehekaaaGreatDoorW.PrintMore
attribute [local go_sem] max2_int min2_int max_two min_two
set_option linter.unusedVariables false
set_option linter.unusedSimpArgs false
set_option maxRecDepth 100000 in
theorem restB (D n o : Nat) (z : Int) (hz : z = (o : Int)) (h : o < n) (W : World) : (Instr.sliceAt 58 (.slice (some ⟨D, 0, none⟩) n n) (some (.int .i64 z)) none none).run Tryz.prog W = .ok (.slice (some ⟨D, o, none⟩) (n - o) (n - o)) W := by
  subst hz
  rw [run_sliceAt_slice W 58 _ _ _ _ Tryz.underlying58, run_slice_l W 58 (some ⟨D, 0, none⟩) n n Tryz.underlying58 .i64 (o : Int) (by omega) (by omega)]
  have hsz : (sizeOf (Tryz.prog.elem 58)).run Tryz.prog W = .ok 1 W := by kernel_rfl
  rw [hsz]
  simp only [Result.andThen, sliced, Int.toNat_natCast]
  rw [if_neg (by omega)]
  simp [Addr.add]
  intro h0
  omega
theorem fillS_zero (L : List Int) (o : Nat) (h : o ≤ L.length) (hz : ∀ i, o ≤ i → L.getD i 0 = 0) : fillS L o (L.length - o) 0 = L := by
  have hd : L.drop o = List.replicate (L.length - o) 0 := by
    refine List.eq_replicate_iff.2 ⟨by simp, fun b hb => ?_⟩
    obtain ⟨i, hi, rfl⟩ := List.getElem_of_mem hb
    have hi2 : o + i < L.length := by simp at hi; omega
    have := hz (o + i) (by omega)
    rw [List.getD_eq_getElem?_getD, List.getElem?_eq_getElem hi2] at this
    simpa using this
  unfold fillS
  rw [← hd, List.take_append_drop, List.drop_of_length_le (by omega), List.append_nil]
/-- A builder of bytes behind a resize. -/
def Rsz (w w' : World) (vb k n : Nat) (L : List Int) (X : Nat → Nat → Prop) (S : Nat → Prop) : Prop := ∃ VB VR, w'.heap[vb]? = some (bbO (ptr VB) k L.length (.slice (some ⟨VR, 0, none⟩) L.length L.length)) ∧ BufAt w' VB 1 VR L n ∧ Tn S w w' ∧ X VB VR
set_option maxHeartbeats 1000000 in
set_option maxRecDepth 100000 in
theorem bbresize_first' (vb k n : Nat) (L : List Int) (hL : L = List.replicate (R64 n) (0 : Int)) (hn : 0 < n) (hm : n ≤ 1000) (w : World) (h : w.heap[vb]? = some (bbO (.pointer none) k 0 (.slice none 0 0))) :
    Calls Tryz.prog 55 #[ptr vb, .int .i64 (n : Int)] w fun e w' => e = .returned (.tuple #[]) ∧ Rsz w w' vb k n L (fun VB VR => w.heap.size ≤ VB ∧ w.heap.size ≤ VR) (fun k => k = vb ∨ w.heap.size ≤ k) := by
  have hlt := blk_lt h
  have r2 : w.cell? ⟨vb, 2, none⟩ = some (.pointer none) := (blk_cell h 2).trans rfl
  have r1 : w.cell? ⟨vb, 1, none⟩ = some (.iface 53 (.agg #[])) := (blk_cell h 1).trans rfl
  have h1 := blk_alloc h (bufH 1 (.slice none 0 0) 0)
  have y2 : (w.alloc (bufH 1 (.slice none 0 0) 0)).cell? ⟨vb, 2, none⟩ = some (.pointer none) := (blk_cell h1 2).trans rfl
  have yz : (w.alloc (bufH 1 (.slice none 0 0) 0)).frozen? ⟨vb, 2, none⟩ = false := blk_frozen h1 2
  have hN := blk_new w (bufH 1 (.slice none 0 0) 0)
  have hS : (w.alloc (bufH 1 (.slice none 0 0) 0)).heap.size = w.heap.size + 1 := by simp
  have hB := below_alloc (Below.refl w.heap.size w) (bufH 1 (.slice none 0 0) 0)
  have HN := Aside0.mk (newres_calls w)
  have HL := Aside0.mk hlt
  have HX := Aside0.mk (And.intro h1 (And.intro hN (And.intro hS hB)))
  have HR := R64_le n
  have HNN := Aside0.mk (And.intro hn (And.intro hm HR))
  have HLL := Aside0.mk hL
  clear h h1 hN hS hB HR hlt hn hm hL
  go_enter Tryz.func55, Tryz.ntmps55
  go_upto_region 2 with (first | (go_at_call 72; refine HN.out.mono ?_; rintro e w1 ⟨rfl, hw1⟩; subst w1))
  obtain ⟨h1, hN, hS, hB⟩ := HX.out
  have a1 := blk_set h1 2 (ptr w.heap.size)
  have a2 := blk_far hN (p := ⟨vb, 2, none⟩) (by have := HL.out; show w.heap.size ≠ vb; omega) (ptr w.heap.size)
  have a3 : Tn (fun k => k = vb ∨ w.heap.size ≤ k) w ((w.alloc (bufH 1 (.slice none 0 0) 0)).setCell ⟨vb, 2, none⟩ (ptr w.heap.size)) := (Tn.of_below hB (fun k => k = vb ∨ w.heap.size ≤ k)).setCell (p := ⟨vb, 2, none⟩) (.inl (.inl rfl)) _
  have a4 : w.heap.size ≤ ((w.alloc (bufH 1 (.slice none 0 0) 0)).setCell ⟨vb, 2, none⟩ (ptr w.heap.size)).heap.size := a3.kept.1
  have AX := Aside0.mk (And.intro a1 (And.intro a2 (And.intro a3 a4)))
  clear h1 hN hS hB a1 a2 a3 a4 y2 yz r1 r2 HX HN
  generalize (w.alloc (bufH 1 (.slice none 0 0) 0)).setCell ⟨vb, 2, none⟩ (ptr w.heap.size) = w2 at AX ⊢
  have b2 : w2.cell? ⟨vb, 2, none⟩ = some (ptr w.heap.size) := (blk_cell AX.out.1 2).trans rfl
  have HRS := Aside0.mk (Resize_ns_first w.heap.size n 1 0 (by have := HNN.out.2.1; omega) w2 HNN.out.1 AX.out.2.1)
  go_upto_region 3 with (first | (go_at_call 76; refine HRS.out.mono ?_; rintro e w3 ⟨rfl, VR, v1, v2, v3⟩; have V := Aside0.mk (And.intro v1 (And.intro v2 v3)); clear v1 v2 v3))
  obtain ⟨VB, hVB⟩ : ∃ VB, VB = w.heap.size := ⟨_, rfl⟩
  have hL := HLL.out
  obtain ⟨c0, hc0⟩ : ∃ c0 : Nat, c0 = 0 := ⟨_, rfl⟩
  obtain ⟨sl0, hsl0⟩ : ∃ sl0 : Value, sl0 = .slice none 0 0 := ⟨_, rfl⟩
  obtain ⟨x1, x2, x3, x4⟩ := AX.out
  obtain ⟨v1, v2, v3⟩ := V.out
  rw [← hVB] at x1 x2 v2
  rw [← hL] at v2
  have hbb : w2.heap[vb]? = some (bbO (ptr VB) k c0 sl0) := by rw [hc0, hsl0]; exact x1
  have ST := Aside0.mk (show w3.heap[vb]? = some (bbO (ptr VB) k c0 sl0) ∧ BufAt w3 VB 1 VR L n ∧ Tn (fun k => k = vb ∨ w.heap.size ≤ k) w w3 ∧ (∀ k, k = VR → (k = vb ∨ w.heap.size ≤ k) ∨ w.heap.size ≤ k) from
    ⟨blk_kept hbb v3.kept (by have := HL.out; omega), v2, x3.then_ v3 (fun k hk => .inl (.inr (by omega))), fun k hk => .inr (by omega)⟩)
  have HZ := Aside0.mk (show ∀ i, c0 ≤ i → L.getD i 0 = 0 from fun i _ => by rw [hL]; simp [List.getElem?_replicate]; split <;> rfl)
  have HLM := Aside0.mk (show L.length ≤ 100000 by rw [hL]; have := HNN.out; simp; omega)
  have SB := Aside0.mk (show w.heap.size ≤ VB ∧ w.heap.size ≤ VR by omega)
  clear x1 x2 x3 x4 v1 v2 v3 hVB hL HLL hc0 hsl0 hbb AX V b2 HRS
  obtain ⟨s1, s2, s3, s4⟩ := ST.out
  have c2 : w3.cell? ⟨vb, 2, none⟩ = some (ptr VB) := (blk_cell s1 2).trans rfl
  have c4 : w3.cell? ⟨vb, 4, none⟩ = some (.int .i64 (c0 : Int)) := (blk_cell s1 4).trans rfl
  have z4 : w3.frozen? ⟨vb, 4, none⟩ = false := blk_frozen s1 4
  have HCAP := Aside0.mk (cap_calls VB (some ⟨VR, 0, none⟩) L.length L.length w3 ((blk_cell s2.h 1).trans rfl))
  have hvv : vb ≠ VB := blk_ne s1 s2.h (by decide)
  have hvr : vb ≠ VR := blk_ne s1 s2.r (by decide)
  clear s1 s2 s3 s4
  go_upto_region 5 with (first | (go_at_call 77; refine HCAP.out.mono ?_; rintro e w4 ⟨rfl, rfl⟩))
  obtain ⟨s1, s2, s3, s4⟩ := ST.out
  have t1 := blk_set s1 4 (.int .i64 (L.length : Int))
  have t2 : BufAt (w4.setCell ⟨vb, 4, none⟩ (.int .i64 (L.length : Int))) VB 1 VR L n := ⟨blk_far s2.h (p := ⟨vb, 4, none⟩) hvv.symm _, blk_far s2.r (p := ⟨vb, 4, none⟩) hvr.symm _⟩
  have t3 := s3.setCell (p := ⟨vb, 4, none⟩) (.inl (.inl rfl)) (.int .i64 (L.length : Int))
  have ST2 := Aside0.mk (And.intro t1 (And.intro t2 (And.intro t3 s4)))
  clear s1 s2 s3 s4 t1 t2 t3 ST c2 c4 z4 HCAP
  generalize w4.setCell ⟨vb, 4, none⟩ (.int .i64 (L.length : Int)) = w5 at ST2 ⊢
  obtain ⟨s1, s2, s3, s4⟩ := ST2.out
  have c2 : w5.cell? ⟨vb, 2, none⟩ = some (ptr VB) := (blk_cell s1 2).trans rfl
  have c5 : w5.cell? ⟨vb, 5, none⟩ = some sl0 := (blk_cell s1 5).trans rfl
  have z5 : w5.frozen? ⟨vb, 5, none⟩ = false := blk_frozen s1 5
  have HBUF := Aside0.mk (buf_calls VB (.slice (some ⟨VR, 0, none⟩) L.length L.length) rfl w5 ((blk_cell s2.h 1).trans rfl))
  clear s1 s2 s3 s4
  go_upto_region 6 with (first | (go_at_call 78; refine HBUF.out.mono ?_; rintro e w6 ⟨rfl, rfl⟩))
  obtain ⟨s1, s2, s3, s4⟩ := ST2.out
  have t1 := blk_set s1 5 (.slice (some ⟨VR, 0, none⟩) L.length L.length)
  have t2 : BufAt (w6.setCell ⟨vb, 5, none⟩ (.slice (some ⟨VR, 0, none⟩) L.length L.length)) VB 1 VR L n := ⟨blk_far s2.h (p := ⟨vb, 5, none⟩) hvv.symm _, blk_far s2.r (p := ⟨vb, 5, none⟩) hvr.symm _⟩
  have t3 := s3.setCell (p := ⟨vb, 5, none⟩) (.inl (.inl rfl)) (.slice (some ⟨VR, 0, none⟩) L.length L.length)
  have ST3 := Aside0.mk (And.intro t1 (And.intro t2 (And.intro t3 s4)))
  clear s1 s2 s3 s4 t1 t2 t3 ST2 c2 c5 z5 HBUF
  generalize w6.setCell ⟨vb, 5, none⟩ (.slice (some ⟨VR, 0, none⟩) L.length L.length) = w7 at ST3 ⊢
  obtain ⟨s1, s2, s3, s4⟩ := ST3.out
  have c4 : w7.cell? ⟨vb, 4, none⟩ = some (.int .i64 (L.length : Int)) := (blk_cell s1 4).trans rfl
  have c5 : w7.cell? ⟨vb, 5, none⟩ = some (.slice (some ⟨VR, 0, none⟩) L.length L.length) := (blk_cell s1 5).trans rfl
  by_cases cc : c0 < L.length
  · have hd : decide ((L.length : Int) > (c0 : Int)) = true := decide_eq_true (by omega)
    have hd2 : decide ((c0 : Int) < (L.length : Int)) = true := decide_eq_true (by omega)
    have hd3 : decide (c0 < L.length) = true := decide_eq_true cc
    have hsl := restB VR L.length c0 (c0 : Int) rfl cc
    have HSET := Aside0.mk (set_calls VR c0 (L.length - c0) (L.length - c0) L 0 w7 s2.r (by omega) (by have := HLM.out; omega))
    clear s1 s2 s3 s4
    go_wp2_with (first | (go_at_call 56; refine HSET.out.mono ?_; rintro e w8 ⟨rfl, e1, e2⟩; have E := Aside0.mk (And.intro e1 e2); clear e1 e2))
    go_end0
    obtain ⟨s1, s2, s3, s4⟩ := ST3.out
    obtain ⟨e1, e2⟩ := E.out
    rw [fillS_zero L c0 (by omega) HZ.out] at e1
    exact ⟨rfl, VB, VR, blk_kept s1 e2.kept hvr, s2.row e1 rfl e2, s3.then_ e2 (fun k hk => s4 k hk), SB.out⟩
  · have hd : decide ((L.length : Int) > (c0 : Int)) = false := decide_eq_false (by omega)
    have hd2 : decide ((c0 : Int) < (L.length : Int)) = false := decide_eq_false (by omega)
    have hd3 : decide (c0 < L.length) = false := decide_eq_false cc
    clear s1 s2 s3 s4
    go_wp2
    go_end0
    obtain ⟨s1, s2, s3, s4⟩ := ST3.out
    exact ⟨rfl, VB, VR, s1, s2, s3, SB.out⟩
set_option maxHeartbeats 1000000 in
set_option maxRecDepth 100000 in
theorem bbresize_any' (vb k n VB VR : Nat) (L0 L : List Int) (hL : L = growB n L0) (q : Int) (hm : n ≤ 1000) (hm2 : L0.length ≤ 1000) (hl : 0 < L0.length) (w : World) (h : w.heap[vb]? = some (bbO (ptr VB) k L0.length (.slice (some ⟨VR, 0, none⟩) L0.length L0.length))) (hb : BufAt w VB 1 VR L0 q) :
    Calls Tryz.prog 55 #[ptr vb, .int .i64 (n : Int)] w fun e w' => e = .returned (.tuple #[]) ∧ Rsz w w' vb k n L (fun VB' VR' => VB' = VB ∧ (VR' = VR ∨ w.heap.size ≤ VR')) (fun k => k = vb ∨ k = VB ∨ k = VR ∨ w.heap.size ≤ k) := by
  have hlt := blk_lt h
  have b2 : w.cell? ⟨vb, 2, none⟩ = some (ptr VB) := (blk_cell h 2).trans rfl
  have HRS := Aside0.mk (Resize_ns VB VR n L0 1 q (by omega) (by omega) w hl hb)
  have hgl := growB_len n L0
  have hR := R64_le n
  have HZ0 := Aside0.mk (show ∀ i, L0.length ≤ i → (growB n L0).getD i 0 = 0 from fun i hi => by
    unfold growB
    split
    · rw [List.getD_eq_getElem?_getD, List.getElem?_eq_none hi]; rfl
    · rw [List.getD_eq_getElem?_getD, List.getElem?_append_right hi, List.getElem?_replicate]; split <;> rfl)
  have HLM0 := Aside0.mk (show (growB n L0).length ≤ 100000 by rw [hgl]; split <;> omega)
  have HX := Aside0.mk (And.intro h (And.intro hb hlt))
  have HLL := Aside0.mk hL
  clear h hb hlt hgl hR hL
  go_enter Tryz.func55, Tryz.ntmps55
  go_upto_region 3 with (first | (go_at_call 76; refine HRS.out.mono ?_; rintro e w3 ⟨rfl, VR', v1, v2, v3⟩; have V := Aside0.mk (And.intro v1 (And.intro v2 v3)); clear v1 v2 v3))
  have hL := HLL.out
  obtain ⟨c0, hc0⟩ : ∃ c0 : Nat, c0 = L0.length := ⟨_, rfl⟩
  obtain ⟨sl0, hsl0⟩ : ∃ sl0 : Value, sl0 = .slice (some ⟨VR, 0, none⟩) L0.length L0.length := ⟨_, rfl⟩
  obtain ⟨x1, x2, x3⟩ := HX.out
  obtain ⟨v1, v2, v3⟩ := V.out
  rw [← hL] at v2
  have hbb : w.heap[vb]? = some (bbO (ptr VB) k c0 sl0) := by rw [hc0, hsl0]; exact x1
  have ST := Aside0.mk (show w3.heap[vb]? = some (bbO (ptr VB) k c0 sl0) ∧ BufAt w3 VB 1 VR' L n ∧ Tn (fun k => k = vb ∨ k = VB ∨ k = VR ∨ w.heap.size ≤ k) w w3 ∧ (∀ k, k = VR' → (k = vb ∨ k = VB ∨ k = VR ∨ w.heap.size ≤ k) ∨ w.heap.size ≤ k) from
    ⟨blk_kept hbb v3.kept (blk_ne x1 x2.h (by decide)), v2, v3.mono (fun k hk => .inr (.inl hk)), fun k hk => by rcases v1 with e | e <;> omega⟩)
  have HZ := Aside0.mk (show ∀ i, c0 ≤ i → L.getD i 0 = 0 by rw [hL, hc0]; exact HZ0.out)
  have HLM := Aside0.mk (show L.length ≤ 100000 by rw [hL]; exact HLM0.out)
  have SB := Aside0.mk v1
  clear x1 x2 x3 v1 v2 v3 hL HLL hc0 hsl0 hbb HX V b2 HRS HZ0 HLM0
  obtain ⟨s1, s2, s3, s4⟩ := ST.out
  have c2 : w3.cell? ⟨vb, 2, none⟩ = some (ptr VB) := (blk_cell s1 2).trans rfl
  have c4 : w3.cell? ⟨vb, 4, none⟩ = some (.int .i64 (c0 : Int)) := (blk_cell s1 4).trans rfl
  have z4 : w3.frozen? ⟨vb, 4, none⟩ = false := blk_frozen s1 4
  have HCAP := Aside0.mk (cap_calls VB (some ⟨VR', 0, none⟩) L.length L.length w3 ((blk_cell s2.h 1).trans rfl))
  have hvv : vb ≠ VB := blk_ne s1 s2.h (by decide)
  have hvr : vb ≠ VR' := blk_ne s1 s2.r (by decide)
  clear s1 s2 s3 s4
  go_upto_region 5 with (first | (go_at_call 77; refine HCAP.out.mono ?_; rintro e w4 ⟨rfl, rfl⟩))
  obtain ⟨s1, s2, s3, s4⟩ := ST.out
  have t1 := blk_set s1 4 (.int .i64 (L.length : Int))
  have t2 : BufAt (w4.setCell ⟨vb, 4, none⟩ (.int .i64 (L.length : Int))) VB 1 VR' L n := ⟨blk_far s2.h (p := ⟨vb, 4, none⟩) hvv.symm _, blk_far s2.r (p := ⟨vb, 4, none⟩) hvr.symm _⟩
  have t3 := s3.setCell (p := ⟨vb, 4, none⟩) (.inl (.inl rfl)) (.int .i64 (L.length : Int))
  have ST2 := Aside0.mk (And.intro t1 (And.intro t2 (And.intro t3 s4)))
  clear s1 s2 s3 s4 t1 t2 t3 ST c2 c4 z4 HCAP
  generalize w4.setCell ⟨vb, 4, none⟩ (.int .i64 (L.length : Int)) = w5 at ST2 ⊢
  obtain ⟨s1, s2, s3, s4⟩ := ST2.out
  have c2 : w5.cell? ⟨vb, 2, none⟩ = some (ptr VB) := (blk_cell s1 2).trans rfl
  have c5 : w5.cell? ⟨vb, 5, none⟩ = some sl0 := (blk_cell s1 5).trans rfl
  have z5 : w5.frozen? ⟨vb, 5, none⟩ = false := blk_frozen s1 5
  have HBUF := Aside0.mk (buf_calls VB (.slice (some ⟨VR', 0, none⟩) L.length L.length) rfl w5 ((blk_cell s2.h 1).trans rfl))
  clear s1 s2 s3 s4
  go_upto_region 6 with (first | (go_at_call 78; refine HBUF.out.mono ?_; rintro e w6 ⟨rfl, rfl⟩))
  obtain ⟨s1, s2, s3, s4⟩ := ST2.out
  have t1 := blk_set s1 5 (.slice (some ⟨VR', 0, none⟩) L.length L.length)
  have t2 : BufAt (w6.setCell ⟨vb, 5, none⟩ (.slice (some ⟨VR', 0, none⟩) L.length L.length)) VB 1 VR' L n := ⟨blk_far s2.h (p := ⟨vb, 5, none⟩) hvv.symm _, blk_far s2.r (p := ⟨vb, 5, none⟩) hvr.symm _⟩
  have t3 := s3.setCell (p := ⟨vb, 5, none⟩) (.inl (.inl rfl)) (.slice (some ⟨VR', 0, none⟩) L.length L.length)
  have ST3 := Aside0.mk (And.intro t1 (And.intro t2 (And.intro t3 s4)))
  clear s1 s2 s3 s4 t1 t2 t3 ST2 c2 c5 z5 HBUF
  generalize w6.setCell ⟨vb, 5, none⟩ (.slice (some ⟨VR', 0, none⟩) L.length L.length) = w7 at ST3 ⊢
  obtain ⟨s1, s2, s3, s4⟩ := ST3.out
  have c4 : w7.cell? ⟨vb, 4, none⟩ = some (.int .i64 (L.length : Int)) := (blk_cell s1 4).trans rfl
  have c5 : w7.cell? ⟨vb, 5, none⟩ = some (.slice (some ⟨VR', 0, none⟩) L.length L.length) := (blk_cell s1 5).trans rfl
  by_cases cc : c0 < L.length
  · have hd : decide ((L.length : Int) > (c0 : Int)) = true := decide_eq_true (by omega)
    have hd2 : decide ((c0 : Int) < (L.length : Int)) = true := decide_eq_true (by omega)
    have hd3 : decide (c0 < L.length) = true := decide_eq_true cc
    have hsl := restB VR' L.length c0 (c0 : Int) rfl cc
    have HSET := Aside0.mk (set_calls VR' c0 (L.length - c0) (L.length - c0) L 0 w7 s2.r (by omega) (by have := HLM.out; omega))
    clear s1 s2 s3 s4
    go_wp2_with (first | (go_at_call 56; refine HSET.out.mono ?_; rintro e w8 ⟨rfl, e1, e2⟩; have E := Aside0.mk (And.intro e1 e2); clear e1 e2))
    go_end0
    obtain ⟨s1, s2, s3, s4⟩ := ST3.out
    obtain ⟨e1, e2⟩ := E.out
    rw [fillS_zero L c0 (by omega) HZ.out] at e1
    exact ⟨rfl, VB, VR', blk_kept s1 e2.kept hvr, s2.row e1 rfl e2, s3.then_ e2 (fun k hk => s4 k hk), rfl, SB.out⟩
  · have hd : decide ((L.length : Int) > (c0 : Int)) = false := decide_eq_false (by omega)
    have hd2 : decide ((c0 : Int) < (L.length : Int)) = false := decide_eq_false (by omega)
    have hd3 : decide (c0 < L.length) = false := decide_eq_false cc
    clear s1 s2 s3 s4
    go_wp2
    go_end0
    obtain ⟨s1, s2, s3, s4⟩ := ST3.out
    exact ⟨rfl, VB, VR', s1, s2, s3, rfl, SB.out⟩
theorem bbresize_0 (vb k n : Nat) (hn : 0 < n) (hm : n ≤ 1000) (w : World) (h : w.heap[vb]? = some (bbO (.pointer none) k 0 (.slice none 0 0))) :
    Calls Tryz.prog 55 #[ptr vb, .int .i64 (n : Int)] w fun e w' => e = .returned (.tuple #[]) ∧ Rsz w w' vb k n (List.replicate (R64 n) 0) (fun VB VR => w.heap.size ≤ VB ∧ w.heap.size ≤ VR) (fun k => k = vb ∨ w.heap.size ≤ k) := bbresize_first' vb k n _ rfl hn hm w h
theorem bbresize_1 (vb k n VB VR : Nat) (L0 : List Int) (q : Int) (hm : n ≤ 1000) (hm2 : L0.length ≤ 1000) (hl : 0 < L0.length) (w : World) (h : w.heap[vb]? = some (bbO (ptr VB) k L0.length (.slice (some ⟨VR, 0, none⟩) L0.length L0.length))) (hb : BufAt w VB 1 VR L0 q) :
    Calls Tryz.prog 55 #[ptr vb, .int .i64 (n : Int)] w fun e w' => e = .returned (.tuple #[]) ∧ Rsz w w' vb k n (growB n L0) (fun VB' VR' => VB' = VB ∧ (VR' = VR ∨ w.heap.size ≤ VR')) (fun k => k = vb ∨ k = VB ∨ k = VR ∨ w.heap.size ≤ k) := bbresize_any' vb k n VB VR L0 _ rfl q hm hm2 hl w h hb
end Go.Proofs.YtndbeeboehekaaaGreatDoor.Q

/- builder.init, builder.resize. -/
namespace Go.Proofs.YtndbeeboehekaaaGreatDoor.Q
open Go.RowKit Go.Proofs.YtndbeeboehekaaaGreatDoorW.PrintWords Go.Proofs.YtndbeeboehekaaaGreatDoorW.PrintLast Go.Proofs.YtndbeeboehekaaaGreatDoorW.PrintMore
attribute [local go_sem] max2_int min2_int max_two min_two
set_option linter.unusedVariables false
set_option linter.unusedSimpArgs false
set_option maxHeartbeats 1000000 in
set_option maxRecDepth 100000 in
theorem binit_calls (b T vb : Nat) (w : World) (h : w.heap[b]? = some (bO (.pointer none) 0 0 0 T vb)) :
    Calls Tryz.prog 90 #[ptr b, .int .i64 2] w fun e w' => e = .returned (.tuple #[]) ∧ ∃ NB NR, w'.heap[b]? = some (bO (ptr NB) 0 0 2 T vb) ∧ BufAt w' NB 1 NR (List.replicate 64 0) 1 ∧ Tn (fun k => k = b ∨ w.heap.size ≤ k) w w' ∧ w.heap.size ≤ NB ∧ w.heap.size ≤ NR := by
  have hlt := blk_lt h
  have r1 : w.cell? ⟨b, 1, none⟩ = some (.iface 53 (.agg #[])) := (blk_cell h 1).trans rfl
  have h1 := blk_alloc h (bufH 1 (.slice none 0 0) 0)
  have y2 : (w.alloc (bufH 1 (.slice none 0 0) 0)).cell? ⟨b, 2, none⟩ = some (.pointer none) := (blk_cell h1 2).trans rfl
  have yz : (w.alloc (bufH 1 (.slice none 0 0) 0)).frozen? ⟨b, 2, none⟩ = false := blk_frozen h1 2
  have hN := blk_new w (bufH 1 (.slice none 0 0) 0)
  have hB := below_alloc (Below.refl w.heap.size w) (bufH 1 (.slice none 0 0) 0)
  have HN := Aside0.mk (newres_calls w)
  have HC := Aside0.mk (ceil_calls 2 8 (by decide +kernel) w)
  have HL := Aside0.mk hlt
  have HX := Aside0.mk (And.intro h1 (And.intro hN hB))
  clear h h1 hN hB hlt
  go_enter Tryz.func90, Tryz.ntmps90
  go_upto_region 2 with (first | (go_at_call 86; refine HC.out.mono ?_; rintro e w1 ⟨rfl, hw1⟩; subst w1) | (go_at_call 72; refine HN.out.mono ?_; rintro e w1 ⟨rfl, hw1⟩; subst w1))
  obtain ⟨h1, hN, hB⟩ := HX.out
  have a1 := blk_set h1 2 (ptr w.heap.size)
  have a2 := blk_far hN (p := ⟨b, 2, none⟩) (by have := HL.out; show w.heap.size ≠ b; omega) (ptr w.heap.size)
  have a3 : Tn (fun k => k = b ∨ w.heap.size ≤ k) w ((w.alloc (bufH 1 (.slice none 0 0) 0)).setCell ⟨b, 2, none⟩ (ptr w.heap.size)) := (Tn.of_below hB (fun k => k = b ∨ w.heap.size ≤ k)).setCell (p := ⟨b, 2, none⟩) (.inl (.inl rfl)) _
  have AX := Aside0.mk (And.intro a1 (And.intro a2 a3))
  clear h1 hN hB a1 a2 a3 y2 yz r1 HX HN HC
  generalize (w.alloc (bufH 1 (.slice none 0 0) 0)).setCell ⟨b, 2, none⟩ (ptr w.heap.size) = w2 at AX ⊢
  have b2 : w2.cell? ⟨b, 2, none⟩ = some (ptr w.heap.size) := (blk_cell AX.out.1 2).trans rfl
  have HRS := Aside0.mk (Resize_gr_first w.heap.size 1 1 0 (by omega) w2 (by omega) AX.out.2.1 (by decide))
  go_upto_region 3 with (first | (go_at_call 88; refine HRS.out.mono ?_; rintro e w3 ⟨rfl, NR, v1, v2, v3⟩; have V := Aside0.mk (And.intro v1 (And.intro v2 v3)); clear v1 v2 v3))
  obtain ⟨x1, x2, x3⟩ := AX.out
  obtain ⟨v1, v2, v3⟩ := V.out
  have hne : b ≠ w.heap.size := by have := HL.out; omega
  have s1 := blk_kept x1 v3.kept hne
  have s3 := x3.then_ v3 (fun k hk => .inl (.inr (by omega)))
  have hbr := blk_ne s1 v2.r (by decide)
  have hsz := x3.kept.1
  have q5 : w3.cell? ⟨b, 5, none⟩ = some (.int .i64 0) := (blk_cell s1 5).trans rfl
  have z5 : w3.frozen? ⟨b, 5, none⟩ = false := blk_frozen s1 5
  have ST := Aside0.mk (And.intro s1 (And.intro v2 (And.intro s3 (And.intro hbr (And.intro v1 hsz)))))
  clear x1 x2 x3 v1 v2 v3 s1 s3 hbr hsz b2 HRS AX V
  go_upto_region 4 with (fail)
  obtain ⟨s1, v2, s3, hbr, v1, hsz⟩ := ST.out
  have t1 := blk_set s1 5 (.int .i64 2)
  have t2 : BufAt (w3.setCell ⟨b, 5, none⟩ (.int .i64 2)) w.heap.size 1 NR (List.replicate (R64 1) 0) 1 := ⟨blk_far v2.h (p := ⟨b, 5, none⟩) hne.symm _, blk_far v2.r (p := ⟨b, 5, none⟩) hbr.symm _⟩
  have t3 := s3.setCell (p := ⟨b, 5, none⟩) (.inl (.inl rfl)) (.int .i64 2)
  have ST2 := Aside0.mk (And.intro t1 (And.intro t2 (And.intro t3 (And.intro v1 hsz))))
  clear s1 v2 s3 v1 hsz t1 t2 t3 ST q5 z5
  generalize w3.setCell ⟨b, 5, none⟩ (.int .i64 2) = w4 at ST2 ⊢
  have c2 : w4.cell? ⟨b, 2, none⟩ = some (ptr w.heap.size) := (blk_cell ST2.out.1 2).trans rfl
  have HBUF := Aside0.mk (buf_calls w.heap.size (.slice (some ⟨NR, 0, none⟩) 64 64) rfl w4 ((blk_cell ST2.out.2.1.h 1).trans rfl))
  have HSET := Aside0.mk (set_calls NR 0 64 64 (List.replicate (R64 1) 0) 0 w4 ST2.out.2.1.r (by decide) (by decide))
  go_wp2_with (first | (go_at_call 78; refine HBUF.out.mono ?_; rintro e w5 ⟨rfl, hw5⟩; subst w5) | (go_at_call 56; refine HSET.out.mono ?_; rintro e w6 ⟨rfl, e1, e2⟩; have E := Aside0.mk (And.intro e1 e2); clear e1 e2))
  go_end0
  obtain ⟨s1, s2, s3, s4, s5⟩ := ST2.out
  obtain ⟨e1, e2⟩ := E.out
  have ee : fillS (List.replicate (R64 1) (0 : Int)) 0 64 0 = List.replicate 64 0 := by decide
  rw [ee] at e1
  exact ⟨rfl, w.heap.size, NR, blk_kept s1 e2.kept hbr, s2.row e1 (by decide) e2, s3.then_ e2 (fun k hk => .inr (by omega)), Nat.le_refl _, by omega⟩
set_option maxHeartbeats 1000000 in
set_option maxRecDepth 100000 in
theorem bgrow_calls (b T vb NB NR nulls k c C m m' n : Nat) (bm : List Int) (fn : Value) (hu : Up c C m') (hmm : m < m') (hmx : max n 32 = C) (hk : k ≤ n) (hn : n ≤ 128) (hl : bm.length = 64) (w : World) (h : w.heap[b]? = some (bO (ptr NB) nulls k c T vb)) (hb : BufAt w NB 1 NR bm m) :
    Calls Tryz.prog 73 #[ptr b, .int .i64 (n : Int), fn] w fun e w' => e = .returned (.tuple #[]) ∧ ∃ NR', (NR' = NR ∨ w.heap.size ≤ NR') ∧ w'.heap[b]? = some (bO (ptr NB) nulls k C T vb) ∧ BufAt w' NB 1 NR' (fillS bm m (64 - m) 0) m' ∧ Tn (fun k => k = b ∨ k = NB ∨ k = NR ∨ w.heap.size ≤ k) w w' := by
  have hm64 : m' ≤ 16 := by cases hu <;> omega
  have r2 : w.cell? ⟨b, 2, none⟩ = some (ptr NB) := (blk_cell h 2).trans rfl
  have hmi : (if (32 : Int) < (n : Int) then (n : Int) else 32) = (C : Int) := by split <;> omega
  have hmi2 : (if (n : Int) < 32 then (32 : Int) else (n : Int)) = (C : Int) := by split <;> omega
  have hq : Int.tdiv ((8 * m' : Nat) : Int) 8 = (m' : Int) := by rw [Int.tdiv_eq_ediv_of_nonneg (by omega)]; omega
  have hq2 : ((8 * m' : Nat) : Int) / 8 = (m' : Int) := by omega
  have HC := Aside0.mk (fun W => ceil_up hu W)
  have HLEN := Aside0.mk (fun W (hW : W.heap[NB]? = some (bufH 1 (.slice (some ⟨NR, 0, none⟩) bm.length bm.length) m)) => len_calls NB (m : Int) W ((blk_cell hW 2).trans rfl))
  have HRS := Aside0.mk (Resize_gr NB NR m' bm 1 (m : Int) (by omega) (by omega) w (by omega) hb (by omega))
  have hng : growB m' bm = bm := by unfold growB; rw [if_pos (by omega)]
  have HG := Aside0.mk hng
  have HX := Aside0.mk (And.intro h hb)
  have HH := Aside0.mk (And.intro hm64 (And.intro hmm (And.intro hl hk)))
  have hd1 : decide ((m : Int) < (m' : Int)) = true := decide_eq_true (by omega)
  have hd2 : decide (m < m') = true := decide_eq_true hmm
  have hd3 : decide ((n : Int) < (k : Int)) = false := decide_eq_false (by omega)
  have hd4 : decide (n < k) = false := decide_eq_false (by omega)
  clear h hb hng hmm hmx hk hn hu hl
  go_enter Tryz.func73, Tryz.ntmps73
  go_upto_region 5 with (first | (go_at_call 86; refine (HC.out _).mono ?_; rintro e w1 ⟨rfl, hw1⟩; subst w1) | (go_at_call 87; refine (HLEN.out _ HX.out.2.h).mono ?_; rintro e w1 ⟨rfl, hw1⟩; subst w1))
  go_upto_region 6 with (first | (go_at_call 88; refine HRS.out.mono ?_; rintro e w3 ⟨rfl, NR', v1, v2, v3⟩; have V := Aside0.mk (And.intro v1 (And.intro v2 v3)); clear v1 v2 v3))
  obtain ⟨x1, x2⟩ := HX.out
  obtain ⟨v1, v2, v3⟩ := V.out
  rw [HG.out] at v2
  have hbN : b ≠ NB := blk_ne x1 x2.h (show (89 : Nat) ≠ 136 by decide)
  have hbR : b ≠ NR' := blk_ne (blk_kept x1 v3.kept hbN) v2.r (show (89 : Nat) ≠ 5 by decide)
  have s1 := blk_kept x1 v3.kept hbN
  have s3 : Tn (fun k => k = b ∨ k = NB ∨ k = NR ∨ w.heap.size ≤ k) w w3 := v3.mono (fun k hk => .inr (.inl hk))
  have q5 : w3.cell? ⟨b, 5, none⟩ = some (.int .i64 (c : Int)) := (blk_cell s1 5).trans rfl
  have z5 : w3.frozen? ⟨b, 5, none⟩ = false := blk_frozen s1 5
  have ST := Aside0.mk (And.intro s1 (And.intro v2 (And.intro s3 v1)))
  clear x1 x2 v1 v2 v3 s1 s3 V HX HRS r2 HC HLEN
  go_upto_region 7 with (fail)
  obtain ⟨s1, v2, s3, v1⟩ := ST.out
  have t1 := blk_set s1 5 (.int .i64 (C : Int))
  have t2 : BufAt (w3.setCell ⟨b, 5, none⟩ (.int .i64 (C : Int))) NB 1 NR' bm m' := ⟨blk_far v2.h (p := ⟨b, 5, none⟩) hbN.symm _, blk_far v2.r (p := ⟨b, 5, none⟩) hbR.symm _⟩
  have t3 := s3.setCell (p := ⟨b, 5, none⟩) (.inl (.inl rfl)) (.int .i64 (C : Int))
  have ST2 := Aside0.mk (And.intro t1 (And.intro t2 (And.intro t3 v1)))
  clear s1 v2 s3 v1 t1 t2 t3 ST q5 z5
  generalize w3.setCell ⟨b, 5, none⟩ (.int .i64 (C : Int)) = w4 at ST2 ⊢
  have c2 : w4.cell? ⟨b, 2, none⟩ = some (ptr NB) := (blk_cell ST2.out.1 2).trans rfl
  have c4 : w4.cell? ⟨b, 4, none⟩ = some (.int .i64 (k : Int)) := (blk_cell ST2.out.1 4).trans rfl
  have HBUF := Aside0.mk (buf_calls NB (.slice (some ⟨NR', 0, none⟩) bm.length bm.length) rfl w4 ((blk_cell ST2.out.2.1.h 1).trans rfl))
  have HSET := Aside0.mk (set_calls NR' m (64 - m) (64 - m) bm 0 w4 ST2.out.2.1.r (by have := HH.out; omega) (by have := HH.out; omega))
  have hsl := restB NR' bm.length m (m : Int) rfl (by have := HH.out; omega)
  rw [HH.out.2.2.1] at hsl HBUF
  have HK4 := Aside0.mk (fun W (hk : Tn (fun k => k = NR') w4 W) => (blk_cell (blk_kept ST2.out.1 hk.kept hbR) 4).trans (show _ = some (Value.int .i64 (k : Int)) from rfl))
  go_wp2_with (first | (go_at_call 78; refine HBUF.out.mono ?_; rintro e w5 ⟨rfl, hw5⟩; subst w5) | (go_at_call 56; refine HSET.out.mono ?_; rintro e w6 ⟨rfl, e1, e2⟩; have c6 := HK4.out w6 e2; have E := Aside0.mk (And.intro e1 e2); clear e1 e2))
  go_end0
  obtain ⟨s1, s2, s3, s4⟩ := ST2.out
  obtain ⟨e1, e2⟩ := E.out
  exact ⟨rfl, NR', s4, blk_kept s1 e2.kept hbR, s2.row e1 (by rw [fillS_len _ _ _ _ (by have := HH.out; omega)]) e2, s3.then_ e2 (fun k hk => s4.elim (fun e => .inl (by rw [hk, e]; exact .inr (.inr (.inl rfl)))) (fun e => .inl (by rw [hk]; exact .inr (.inr (.inr e)))))⟩
end Go.Proofs.YtndbeeboehekaaaGreatDoor.Q

/- FixedSizeBinaryBuilder: made room for. -/
namespace Go.Proofs.YtndbeeboehekaaaGreatDoor.Q
open Go.RowKit Go.Proofs.YtndbeeboehekaaaGreatDoorW.PrintWords Go.Proofs.YtndbeeboehekaaaGreatDoorW.PrintLast Go.Proofs.YtndbeeboehekaaaGreatDoorW.PrintMore
attribute [local go_sem] max2_int min2_int max_two min_two
set_option linter.unusedVariables false
set_option linter.unusedSimpArgs false
abbrev tyO : Obj := .cells #[.int .i64 3] 56 (0, 0)
abbrev fnv (n : Nat) (b : Nat) : Value := .func (.func n) #[.pointer (some ⟨b, 0, none⟩)] #[]
/-- A builder that holds nothing. -/
structure Bd0 (w : World) (b vb T : Nat) : Prop where
  hb : w.heap[b]? = some (bO (.pointer none) 0 0 0 T vb)
  hv : w.heap[vb]? = some (bbO (.pointer none) 0 0 (.slice none 0 0))
  hT : w.heap[T]? = some tyO
/-- A builder that holds something. -/
structure Bd (w : World) (b vb T NB NR VB VR nulls k c m : Nat) (bm vl : List Int) (q : Int) : Prop where
  hb : w.heap[b]? = some (bO (ptr NB) nulls k c T vb)
  hv : w.heap[vb]? = some (bbO (ptr VB) (3 * k) vl.length (.slice (some ⟨VR, 0, none⟩) vl.length vl.length))
  hT : w.heap[T]? = some tyO
  hn : BufAt w NB 1 NR bm m
  hw : BufAt w VB 1 VR vl q
  n1 : NB ≠ VB
  n2 : NR ≠ VR
theorem tn_lt {S : Nat → Prop} {w w' : World} (h : Tn S w w') : w.heap.size ≤ w'.heap.size := h.kept.1
theorem BufAt.ltB {w : World} {B D : Nat} {r n : Int} {l : List Int} (h : BufAt w B r D l n) : B < w.heap.size := blk_lt h.h
theorem BufAt.ltD {w : World} {B D : Nat} {r n : Int} {l : List Int} (h : BufAt w B r D l n) : D < w.heap.size := blk_lt h.r
set_option maxHeartbeats 1000000 in
set_option maxRecDepth 100000 in
theorem init_calls (b T vb : Nat) (w : World) (h : Bd0 w b vb T) :
    Calls Tryz.prog 74 #[ptr b, .int .i64 2] w fun e w' => e = .returned (.tuple #[]) ∧ ∃ NB NR VB VR, Bd w' b vb T NB NR VB VR 0 0 2 1 (List.replicate 64 0) (List.replicate 64 0) 6 ∧ Tn (fun k => k = b ∨ k = vb ∨ w.heap.size ≤ k) w w' ∧ w.heap.size ≤ NB ∧ w.heap.size ≤ NR ∧ w.heap.size ≤ VB ∧ w.heap.size ≤ VR := by
  have HI := Aside0.mk (binit_calls b T vb w h.hb)
  have hbv : b ≠ vb := blk_ne h.hb h.hv (by decide)
  have hbT : b ≠ T := blk_ne h.hb h.hT (by decide)
  have hvT : vb ≠ T := blk_ne h.hv h.hT (by decide)
  have HX := Aside0.mk h
  have HL := Aside0.mk (And.intro (blk_lt h.hb) (And.intro (blk_lt h.hv) (blk_lt h.hT)))
  clear h
  go_enter Tryz.func74, Tryz.ntmps74
  go_upto_region 1 with (first | (go_at_call 90; refine HI.out.mono ?_; rintro e w1 ⟨rfl, NB, NR, i1, i2, i3, i4, i5⟩; have I := Aside0.mk (And.intro i1 (And.intro i2 (And.intro i3 (And.intro i4 i5)))); clear i1 i2 i3 i4 i5))
  obtain ⟨i1, i2, i3, i4, i5⟩ := I.out
  have v1 := blk_kept HX.out.hv i3.kept (by have := HL.out; intro e; rcases e with e | e <;> omega)
  have t1 := blk_kept HX.out.hT i3.kept (by have := HL.out; intro e; rcases e with e | e <;> omega)
  have c7 : w1.cell? ⟨b, 7, none⟩ = some (ptr vb) := (blk_cell i1 7).trans rfl
  have c6 : w1.cell? ⟨b, 6, none⟩ = some (ptr T) := (blk_cell i1 6).trans rfl
  have c0 : w1.cell? ⟨T, 0, none⟩ = some (.int .i64 3) := (blk_cell t1 0).trans rfl
  have HR := Aside0.mk (fun W (hW : W.heap[vb]? = some (bbO (.pointer none) 0 0 (.slice none 0 0))) => bbresize_0 vb 0 6 (by omega) (by omega) W hW)
  have V1 := Aside0.mk v1
  have T1 := Aside0.mk t1
  have hsz := tn_lt i3
  clear i1 i2 i3 i4 i5 v1 t1
  go_region_held3 (fun w' => w'.cell? ⟨b, 7, none⟩ = some (ptr vb) ∧ w'.cell? ⟨b, 6, none⟩ = some (ptr T) ∧ w'.cell? ⟨T, 0, none⟩ = some (.int .i64 3)) (go_keep) (first | (go_at_call 55; go_loud (refine (HR.out w1.drew (show w1.drew.heap[vb]? = _ from V1.out)).mono ?_; rintro e w2 ⟨rfl, ⟨VB, VR, z1, z2, z3, z4, z5⟩⟩; have z3' : Tn (fun k => k = vb ∨ w1.heap.size ≤ k) w1 w2 := (Tn.refl (fun k => k = vb ∨ w1.heap.size ≤ k) w1).drew.then_ z3 (fun k hk => .inl hk); have d7 := cell_kept c7 z3'.kept (by have := HL.out; intro e; rcases e with e | e <;> simp only at e <;> omega); have d6 := cell_kept c6 z3'.kept (by have := HL.out; intro e; rcases e with e | e <;> simp only at e <;> omega); have d0 := cell_kept c0 z3'.kept (by have := HL.out; intro e; rcases e with e | e <;> simp only at e <;> omega); have Z := Aside0.mk (And.intro z1 (And.intro z2 (And.intro z3' (And.intro z4 z5)))); clear z1 z2 z3 z3' z4 z5)))
  go_wp2
  go_end0
  obtain ⟨i1, i2, i3, i4, i5⟩ := I.out
  obtain ⟨z1, z2, z3, z4, z5⟩ := Z.out
  have l1 := i2.ltB
  have l2 := i2.ltD
  have hL := HL.out
  have k4 : w1.heap.size ≤ VB := z4
  have k5 : w1.heap.size ≤ VR := z5
  have hS : ∀ k, k < w1.heap.size → k ≠ vb → ¬ (k = vb ∨ w1.heap.size ≤ k) := fun k h1 h2 e => by rcases e with e | e <;> omega
  refine ⟨rfl, NB, NR, VB, VR, ⟨blk_kept i1 z3.kept (hS _ (by omega) hbv), ?_, blk_kept T1.out z3.kept (hS _ (by omega) (fun e => hvT e.symm)), i2.kept z3.kept (hS _ (by omega) (by omega)) (hS _ (by omega) (by omega)), z2, by omega, by omega⟩, ?_, i4, i5, by omega, by omega⟩
  · exact z1
  · exact (i3.mono (fun k hk => by rcases hk with e | e; exact .inl e; exact .inr (.inr e))).then_ z3 (fun k hk => by rcases hk with e | e; exact .inl (.inr (.inl e)); exact .inr (by omega))
set_option maxHeartbeats 1000000 in
set_option maxRecDepth 100000 in
theorem bfirst_calls (b T vb : Nat) (w : World) (h : Bd0 w b vb T) :
    Calls Tryz.prog 73 #[ptr b, .int .i64 2, fnv 74 b] w fun e w' => e = .returned (.tuple #[]) ∧ ∃ NB NR VB VR, Bd w' b vb T NB NR VB VR 0 0 2 1 (List.replicate 64 0) (List.replicate 64 0) 6 ∧ Tn (fun k => k = b ∨ k = vb ∨ w.heap.size ≤ k) w w' ∧ w.heap.size ≤ NB ∧ w.heap.size ≤ NR ∧ w.heap.size ≤ VB ∧ w.heap.size ≤ VR := by
  have HI := Aside0.mk (init_calls b T vb w h)
  have r2 : w.cell? ⟨b, 2, none⟩ = some (.pointer none) := (blk_cell h.hb 2).trans rfl
  clear h
  go_enter Tryz.func73, Tryz.ntmps73
  go_wp2_with (first | (go_at_call 74; refine HI.out.mono ?_; rintro e w1 ⟨rfl, hx⟩; have X := Aside0.mk hx; clear hx))
  refine bodyPost_ret (results_none rfl _ _ _) rfl ?_
  exact ⟨rfl, X.out⟩
set_option maxHeartbeats 1000000 in
set_option maxRecDepth 100000 in
theorem Rfirst_calls (b T vb : Nat) (w : World) (h : Bd0 w b vb T) :
    Calls Tryz.prog 53 #[ptr b, .int .i64 2] w fun e w' => e = .returned (.tuple #[]) ∧ ∃ NB NR VB VR, Bd w' b vb T NB NR VB VR 0 0 2 1 (List.replicate 64 0) (List.replicate 64 0) 6 ∧ Tn (fun k => k = b ∨ k = vb ∨ w.heap.size ≤ k) w w' ∧ w.heap.size ≤ NB ∧ w.heap.size ≤ NR ∧ w.heap.size ≤ VB ∧ w.heap.size ≤ VR := by
  have HI := Aside0.mk (bfirst_calls b T vb w h)
  clear h
  go_enter Tryz.func53, Tryz.ntmps53
  have hmf : ∀ (fn : Fn) (first cap : Array Value) (w : World), (Instr.makeFunc fn first cap).run Tryz.prog w = .ok (.func fn first cap) w := fun _ _ _ _ => rfl
  go_upto_region 1 with (first | (go_at_call 73; refine HI.out.mono ?_; rintro e w1 ⟨rfl, NB, NR, VB, VR, i1, i2, i3, i4, i5, i6⟩; have I := Aside0.mk (And.intro i1 (And.intro i2 (And.intro i3 (And.intro i4 (And.intro i5 i6))))); clear i1 i2 i3 i4 i5 i6))
  clear hmf
  obtain ⟨i1, i2, i3, i4, i5, i6⟩ := I.out
  have c7 : w1.cell? ⟨b, 7, none⟩ = some (ptr vb) := (blk_cell i1.hb 7).trans rfl
  have c6 : w1.cell? ⟨b, 6, none⟩ = some (ptr T) := (blk_cell i1.hb 6).trans rfl
  have c5 : w1.cell? ⟨b, 5, none⟩ = some (.int .i64 2) := (blk_cell i1.hb 5).trans rfl
  have c0 : w1.cell? ⟨T, 0, none⟩ = some (.int .i64 3) := (blk_cell i1.hT 0).trans rfl
  have HR := Aside0.mk (fun W (hW : W.heap[vb]? = some (bbO (ptr VB) 0 64 (.slice (some ⟨VR, 0, none⟩) 64 64))) (hb : BufAt W VB 1 VR (List.replicate 64 0) 6) => bbresize_1 vb 0 6 VB VR (List.replicate 64 0) 6 (by omega) (by decide) (by decide) W hW hb)
  have V1 := Aside0.mk i1.hv
  have W1 := Aside0.mk i1.hw
  have lb := blk_lt i1.hb
  have lT := blk_lt i1.hT
  have HN1 := Aside0.mk (show ∀ k, k = b → ¬ (k = vb ∨ k = VB ∨ k = VR ∨ w1.heap.size ≤ k) from fun k hk e => by
    have q1 := blk_ne i1.hb i1.hv (by decide); have q2 := blk_ne i1.hb i1.hw.h (by decide); have q3 := blk_ne i1.hb i1.hw.r (by decide)
    subst hk
    rcases e with e | e | e | e <;> omega)
  have HN2 := Aside0.mk (show ∀ k, k = T → ¬ (k = vb ∨ k = VB ∨ k = VR ∨ w1.heap.size ≤ k) from fun k hk e => by
    have q1 := blk_ne i1.hT i1.hv (by decide); have q2 := blk_ne i1.hT i1.hw.h (by decide); have q3 := blk_ne i1.hT i1.hw.r (by decide)
    subst hk
    rcases e with e | e | e | e <;> omega)
  have hsz := tn_lt i2
  clear i1 i2 i3 i4 i5 i6 lb lT
  go_region_held3 (fun w' => w'.cell? ⟨b, 7, none⟩ = some (ptr vb) ∧ w'.cell? ⟨b, 6, none⟩ = some (ptr T) ∧ w'.cell? ⟨T, 0, none⟩ = some (.int .i64 3) ∧ w'.cell? ⟨b, 5, none⟩ = some (.int .i64 2)) (go_keep) (first | (go_at_call 55; go_loud (refine (HR.out w1.drew (show w1.drew.heap[vb]? = _ from V1.out) (show BufAt w1.drew VB 1 VR _ _ from ⟨W1.out.h, W1.out.r⟩)).mono ?_; rintro e w2 ⟨rfl, ⟨VB2, VR2, z1, z2, z3, rfl, z5⟩⟩; have z3' : Tn (fun k => k = vb ∨ k = VB2 ∨ k = VR ∨ w1.heap.size ≤ k) w1 w2 := (Tn.refl (fun k => k = vb ∨ k = VB2 ∨ k = VR ∨ w1.heap.size ≤ k) w1).drew.then_ z3 (fun k hk => .inl hk); have d7 := cell_kept c7 z3'.kept (HN1.out b rfl); have d6 := cell_kept c6 z3'.kept (HN1.out b rfl); have d5 := cell_kept c5 z3'.kept (HN1.out b rfl); have d0 := cell_kept c0 z3'.kept (HN2.out T rfl); have Z := Aside0.mk (And.intro z1 (And.intro z2 (And.intro z3' (show VR2 = VR ∨ w1.heap.size ≤ VR2 from z5)))); clear z1 z2 z3 z3' z5)))
  go_wp2
  go_end0
  obtain ⟨i1, i2, i3, i4, i5, i6⟩ := I.out
  obtain ⟨z1, z2, z3, z5⟩ := Z.out
  have l1 := i1.hn.ltB
  have l2 := i1.hn.ltD
  have q1 := blk_ne i1.hn.h i1.hv (by decide)
  have q2 := i1.n1
  have q3 := blk_ne i1.hn.h i1.hw.r (by decide)
  have q4 := blk_ne i1.hn.r i1.hv (by decide)
  have q5 := blk_ne i1.hn.r i1.hw.h (by decide)
  have q6 := i1.n2
  have eg : growB 6 (List.replicate 64 0) = (List.replicate 64 0) := by decide
  rw [eg] at z1 z2
  refine ⟨rfl, NB, NR, VB2, VR2, ⟨blk_kept i1.hb z3.kept (HN1.out b rfl), z1, blk_kept i1.hT z3.kept (HN2.out T rfl), i1.hn.kept z3.kept (by rintro (e | e | e | e) <;> omega) (by rintro (e | e | e | e) <;> omega), z2, q2, by rcases z5 with e | e <;> omega⟩, ?_, i3, i4, i5, by rcases z5 with e | e <;> omega⟩
  exact i2.then_ z3 (fun k hk => by rcases hk with e | e | e | e; exact .inl (.inr (.inl e)); exact .inl (.inr (.inr (by omega))); exact .inl (.inr (.inr (by omega))); exact .inr (by omega))
set_option maxHeartbeats 1000000 in
set_option maxRecDepth 100000 in
theorem Rgrow_calls (b T vb NB NR VB VR nulls k c C m m' n : Nat) (bm vl : List Int) (q : Int) (hu : Up c C m') (hmm : m < m') (hmx : max n 32 = C) (hk : k ≤ n) (hn : n ≤ 128) (hl : bm.length = 64) (hv0 : 0 < vl.length) (hv1 : vl.length ≤ 1000) (w : World) (h : Bd w b vb T NB NR VB VR nulls k c m bm vl q) :
    Calls Tryz.prog 53 #[ptr b, .int .i64 (n : Int)] w fun e w' => e = .returned (.tuple #[]) ∧ ∃ NR2 VR2, Bd w' b vb T NB NR2 VB VR2 nulls k C m' (fillS bm m (64 - m) 0) (growB (3 * C) vl) (3 * C : Nat) ∧ Tn (fun k => k = b ∨ k = vb ∨ k = NB ∨ k = NR ∨ k = VB ∨ k = VR ∨ w.heap.size ≤ k) w w' ∧ (NR2 = NR ∨ w.heap.size ≤ NR2) ∧ (VR2 = VR ∨ w.heap.size ≤ VR2) := by
  have hC : C ≤ 128 := by omega
  have HI := Aside0.mk (bgrow_calls b T vb NB NR nulls k c C m m' n bm (fnv 74 b) hu hmm hmx hk hn hl w h.hb h.hn)
  have HX := Aside0.mk h
  have hC0 : (0 : Int) ≤ (C : Int) := by omega
  have hC1 : (C : Int) ≤ 128 := by omega
  have hCm : IntKind.i64.wrap ((C : Int) * 3) = ((3 * C : Nat) : Int) := by rw [IntKind.wrap_i64]; omega
  have HV := Aside0.mk (And.intro hv0 (And.intro hv1 hC))
  have HLT := Aside0.mk (And.intro (blk_lt h.hb) (And.intro (blk_lt h.hv) (And.intro (blk_lt h.hT) (And.intro h.hn.ltB (And.intro h.hn.ltD (And.intro h.hw.ltB h.hw.ltD))))))
  clear h hu hmm hmx hk hn hl hv0 hv1
  go_enter Tryz.func53, Tryz.ntmps53
  have hmf : ∀ (fn : Fn) (first cap : Array Value) (w : World), (Instr.makeFunc fn first cap).run Tryz.prog w = .ok (.func fn first cap) w := fun _ _ _ _ => rfl
  go_upto_region 1 with (first | (go_at_call 73; refine HI.out.mono ?_; rintro e w1 ⟨rfl, NR2, i1, i2, i3, i4⟩; have I := Aside0.mk (And.intro i1 (And.intro i2 (And.intro i3 i4))); clear i1 i2 i3 i4))
  clear hmf
  obtain ⟨i1, i2, i3, i4⟩ := I.out
  have h := HX.out
  have lt := HLT.out
  have s1 := blk_ne h.hv h.hb (by decide)
  have s2 := blk_ne h.hv h.hn.h (by decide)
  have s3 := blk_ne h.hv h.hn.r (by decide)
  have u1 := blk_ne h.hT h.hb (by decide)
  have u2 := blk_ne h.hT h.hn.h (by decide)
  have u3 := blk_ne h.hT h.hn.r (by decide)
  have a1 := blk_ne h.hw.h h.hb (by decide)
  have a2 := h.n1
  have a3 := blk_ne h.hw.h h.hn.r (by decide)
  have b1 := blk_ne h.hw.r h.hb (by decide)
  have b2 := blk_ne h.hw.r h.hn.h (by decide)
  have b3 := h.n2
  have j1 := blk_kept h.hv i4.kept (by rintro (e | e | e | e) <;> omega)
  have j2 := blk_kept h.hT i4.kept (by rintro (e | e | e | e) <;> omega)
  have j3 := h.hw.kept i4.kept (by rintro (e | e | e | e) <;> omega) (by rintro (e | e | e | e) <;> omega)
  have c7 : w1.cell? ⟨b, 7, none⟩ = some (ptr vb) := (blk_cell i2 7).trans rfl
  have c6 : w1.cell? ⟨b, 6, none⟩ = some (ptr T) := (blk_cell i2 6).trans rfl
  have c5 : w1.cell? ⟨b, 5, none⟩ = some (.int .i64 (C : Int)) := (blk_cell i2 5).trans rfl
  have c0 : w1.cell? ⟨T, 0, none⟩ = some (.int .i64 3) := (blk_cell j2 0).trans rfl
  have HR := Aside0.mk (fun W (hW : W.heap[vb]? = some (bbO (ptr VB) (3 * k) vl.length (.slice (some ⟨VR, 0, none⟩) vl.length vl.length))) (hb : BufAt W VB 1 VR vl q) => bbresize_1 vb (3 * k) (3 * C) VB VR vl q (by have := HV.out; omega) HV.out.2.1 HV.out.1 W hW hb)
  have V1 := Aside0.mk j1
  have W1 := Aside0.mk j3
  have J2 := Aside0.mk j2
  have hsz := tn_lt i4
  have HN1 := Aside0.mk (show ∀ k, k = b → ¬ (k = vb ∨ k = VB ∨ k = VR ∨ w1.heap.size ≤ k) from fun k hk e => by
    subst hk
    rcases e with e | e | e | e <;> omega)
  have HN2 := Aside0.mk (show ∀ k, k = T → ¬ (k = vb ∨ k = VB ∨ k = VR ∨ w1.heap.size ≤ k) from fun k hk e => by
    have q1 := blk_ne j2 j1 (by decide); have q2 := blk_ne j2 j3.h (by decide); have q3 := blk_ne j2 j3.r (by decide)
    subst hk
    rcases e with e | e | e | e <;> omega)
  clear i1 i2 i3 i4 h lt s1 s2 s3 u1 u2 u3 a1 a2 a3 b1 b2 b3 j1 j2 j3
  go_region_held3 (fun w' => w'.cell? ⟨b, 7, none⟩ = some (ptr vb) ∧ w'.cell? ⟨b, 6, none⟩ = some (ptr T) ∧ w'.cell? ⟨T, 0, none⟩ = some (.int .i64 3) ∧ w'.cell? ⟨b, 5, none⟩ = some (.int .i64 (C : Int))) (go_keep) (first | (go_at_call 55; go_loud (refine (HR.out w1.drew (show w1.drew.heap[vb]? = _ from V1.out) (show BufAt w1.drew VB 1 VR _ _ from ⟨W1.out.h, W1.out.r⟩)).mono ?_; rintro e w2 ⟨rfl, ⟨VB2, VR2, z1, z2, z3, rfl, z5⟩⟩; have z3' : Tn (fun k => k = vb ∨ k = VB2 ∨ k = VR ∨ w1.heap.size ≤ k) w1 w2 := (Tn.refl (fun k => k = vb ∨ k = VB2 ∨ k = VR ∨ w1.heap.size ≤ k) w1).drew.then_ z3 (fun k hk => .inl hk); have d7 := cell_kept c7 z3'.kept (HN1.out b rfl); have d6 := cell_kept c6 z3'.kept (HN1.out b rfl); have d5 := cell_kept c5 z3'.kept (HN1.out b rfl); have d0 := cell_kept c0 z3'.kept (HN2.out T rfl); have Z := Aside0.mk (And.intro z1 (And.intro z2 (And.intro z3' (show VR2 = VR ∨ w1.heap.size ≤ VR2 from z5)))); clear z1 z2 z3 z3' z5)))
  go_wp2
  go_end0
  obtain ⟨i1, i2, i3, i4⟩ := I.out
  obtain ⟨z1, z2, z3, z5⟩ := Z.out
  have h := HX.out
  have lt := HLT.out
  have l1 := i3.ltB
  have l2 := i3.ltD
  have q1 := blk_ne i3.h V1.out (by decide)
  have q2 := h.n1
  have q3 := blk_ne i3.h W1.out.r (by decide)
  have q4 := blk_ne i3.r V1.out (by decide)
  have q5 := blk_ne i3.r W1.out.h (by decide)
  have q6 := h.n2
  have q7 : NR2 ≠ VR := by rcases i1 with e | e <;> omega
  refine ⟨rfl, NR2, VR2, ⟨blk_kept i2 z3.kept (HN1.out b rfl), z1, blk_kept J2.out z3.kept (HN2.out T rfl), i3.kept z3.kept (by rintro (e | e | e | e) <;> omega) (by rintro (e | e | e | e) <;> omega), z2, q2, by rcases z5 with e | e <;> omega⟩, ?_, i1, by rcases z5 with e | e; exact .inl e; exact .inr (by omega)⟩
  refine (i4.mono (fun k hk => ?_)).then_ z3 (fun k hk => ?_)
  · rcases hk with e | e | e | e
    · exact .inl e
    · exact .inr (.inr (.inl e))
    · exact .inr (.inr (.inr (.inl e)))
    · exact .inr (.inr (.inr (.inr (.inr (.inr e)))))
  · rcases hk with e | e | e | e
    · exact .inl (.inr (.inl e))
    · exact .inl (.inr (.inr (.inr (.inr (.inl e)))))
    · exact .inl (.inr (.inr (.inr (.inr (.inr (.inl e))))))
    · exact .inr (by omega)
end Go.Proofs.YtndbeeboehekaaaGreatDoor.Q

/- FixedSizeBinaryBuilder.Reserve. -/
namespace Go.Proofs.YtndbeeboehekaaaGreatDoor.Q
open Go.RowKit Go.Proofs.YtndbeeboehekaaaGreatDoorW.PrintWords Go.Proofs.YtndbeeboehekaaaGreatDoorW.PrintLast Go.Proofs.YtndbeeboehekaaaGreatDoorW.PrintMore
attribute [local go_sem] max2_int min2_int max_two min_two
set_option linter.unusedVariables false
set_option linter.unusedSimpArgs false
theorem Bd.drewN {w : World} {b vb T NB NR VB VR nulls k c m : Nat} {bm vl : List Int} {q : Int} (h : Bd w b vb T NB NR VB VR nulls k c m bm vl q) (n : Nat) : Bd (w.drewN n) b vb T NB NR VB VR nulls k c m bm vl q := ⟨blk_drewN h.hb n, blk_drewN h.hv n, blk_drewN h.hT n, ⟨blk_drewN h.hn.h n, blk_drewN h.hn.r n⟩, ⟨blk_drewN h.hw.h n, blk_drewN h.hw.r n⟩, h.n1, h.n2⟩
theorem Bd0.drewN {w : World} {b vb T : Nat} (h : Bd0 w b vb T) (n : Nat) : Bd0 (w.drewN n) b vb T := ⟨blk_drewN h.hb n, blk_drewN h.hv n, blk_drewN h.hT n⟩
set_option maxHeartbeats 1000000 in
set_option maxRecDepth 100000 in
theorem rsv_same (b vb T NB NR VB VR nulls k c m : Nat) (bm vl : List Int) (q : Int) (hk : k < c) (hc : c ≤ 1000) (fn : Value) (w : World) (h : Bd w b vb T NB NR VB VR nulls k c m bm vl q) :
    Calls Tryz.prog 52 #[ptr b, .int .i64 1, fn] w fun e w' => e = .returned (.tuple #[]) ∧ ∃ n, w' = w.drewN n := by
  have c4 : w.cell? ⟨b, 4, none⟩ = some (.int .i64 (k : Int)) := (blk_cell h.hb 4).trans rfl
  have c5 : w.cell? ⟨b, 5, none⟩ = some (.int .i64 (c : Int)) := (blk_cell h.hb 5).trans rfl
  have c2 : w.cell? ⟨b, 2, none⟩ = some (ptr NB) := (blk_cell h.hb 2).trans rfl
  have hq : IntKind.i64.wrap ((k : Int) + 1) = (k : Int) + 1 := by rw [IntKind.wrap_i64]; omega
  have hd1 : decide ((k : Int) + 1 > (c : Int)) = false := decide_eq_false (by omega)
  have hd2 : decide ((c : Int) < (k : Int) + 1) = false := decide_eq_false (by omega)
  have hkk : (k : Int) + 1 ≤ 1000 := by omega
  have hck : (k : Int) + 1 ≤ (c : Int) := by omega
  clear h hk hc
  go_enter Tryz.func52, Tryz.ntmps52
  go_upto_region 0 with (fail)
  go_quiet (fail)
  have c2' : (w.drewN nq).cell? ⟨b, 2, none⟩ = some (ptr NB) := c2
  go_wp2
  go_end0
  exact ⟨rfl, _, rfl⟩
set_option maxHeartbeats 1000000 in
set_option maxRecDepth 100000 in
theorem rsv_first (b vb T : Nat) (w : World) (h : Bd0 w b vb T) :
    Calls Tryz.prog 52 #[ptr b, .int .i64 1, fnv 53 b] w fun e w' => e = .returned (.tuple #[]) ∧ ∃ NB NR VB VR, Bd w' b vb T NB NR VB VR 0 0 2 1 (List.replicate 64 0) (List.replicate 64 0) 6 ∧ Tn (fun k => k = b ∨ k = vb ∨ w.heap.size ≤ k) w w' ∧ w.heap.size ≤ NB ∧ w.heap.size ≤ NR ∧ w.heap.size ≤ VB ∧ w.heap.size ≤ VR := by
  have c4 : w.cell? ⟨b, 4, none⟩ = some (.int .i64 0) := (blk_cell h.hb 4).trans rfl
  have c5 : w.cell? ⟨b, 5, none⟩ = some (.int .i64 0) := (blk_cell h.hb 5).trans rfl
  have HI := Aside0.mk (fun n => Rfirst_calls b T vb (w.drewN n) (h.drewN n))
  have HP := Aside0.mk (fun W => pow2_1 W)
  clear h
  go_enter Tryz.func52, Tryz.ntmps52
  go_upto_region 0 with (fail)
  go_quiet (fail)
  have c4' : (w.drewN nq).cell? ⟨b, 4, none⟩ = some (.int .i64 0) := c4
  go_upto_region 3 with (first | (go_at_call 54; refine (HP.out _).mono ?_; rintro e w1 ⟨rfl, hw1⟩; subst w1) | (go_at_call 53; refine (HI.out nq).mono ?_; rintro e w2 ⟨rfl, NB, NR, VB, VR, i1, i2, i3⟩; have I := Aside0.mk (And.intro i1 (And.intro i2 i3)); clear i1 i2 i3))
  obtain ⟨i1, i2, i3⟩ := I.out
  have c2 : w2.cell? ⟨b, 2, none⟩ = some (ptr NB) := (blk_cell i1.hb 2).trans rfl
  clear i1 i2 i3
  go_wp2
  go_end0
  obtain ⟨i1, i2, i3⟩ := I.out
  exact ⟨rfl, NB, NR, VB, VR, i1, ⟨i2.os, i2.tape, i2.output, i2.kept⟩, i3⟩
set_option maxHeartbeats 1000000 in
set_option maxRecDepth 100000 in
theorem rsv_grow (b vb T NB NR VB VR nulls k C m m' : Nat) (bm vl : List Int) (q : Int) (hu : Up k C m') (hmm : m < m') (hl : bm.length = 64) (hv0 : 0 < vl.length) (hv1 : vl.length ≤ 1000) (w : World) (h : Bd w b vb T NB NR VB VR nulls k k m bm vl q) :
    Calls Tryz.prog 52 #[ptr b, .int .i64 1, fnv 53 b] w fun e w' => e = .returned (.tuple #[]) ∧ ∃ NR2 VR2, Bd w' b vb T NB NR2 VB VR2 nulls k C m' (fillS bm m (64 - m) 0) (growB (3 * C) vl) (3 * C : Nat) ∧ Tn (fun k => k = b ∨ k = vb ∨ k = NB ∨ k = NR ∨ k = VB ∨ k = VR ∨ w.heap.size ≤ k) w w' ∧ (NR2 = NR ∨ w.heap.size ≤ NR2) ∧ (VR2 = VR ∨ w.heap.size ≤ VR2) := by
  have c4 : w.cell? ⟨b, 4, none⟩ = some (.int .i64 (k : Int)) := (blk_cell h.hb 4).trans rfl
  have c5 : w.cell? ⟨b, 5, none⟩ = some (.int .i64 (k : Int)) := (blk_cell h.hb 5).trans rfl
  have hk128 : k ≤ 64 := by cases hu <;> omega
  have hq : IntKind.i64.wrap ((k : Int) + 1) = (k : Int) + 1 := by rw [IntKind.wrap_i64]; omega
  have hd1 : decide ((k : Int) + 1 > (k : Int)) = true := decide_eq_true (by omega)
  have hd2 : decide ((k : Int) < (k : Int) + 1) = true := decide_eq_true (by omega)
  obtain ⟨n, hn1, hn2, hn3, hn4⟩ : ∃ n : Nat, (∀ W, Calls Tryz.prog 54 #[.int .i64 ((k : Int) + 1)] W (fun e w' => e = .returned (.int .i64 (n : Int)) ∧ w' = W)) ∧ max n 32 = C ∧ k < n ∧ n ≤ 128 := by
    cases hu
    · exact ⟨4, fun W => pow2_3 W, rfl, by omega, by omega⟩
    · exact ⟨64, fun W => pow2_33 W, rfl, by omega, by omega⟩
    · exact ⟨128, fun W => pow2_65 W, rfl, by omega, by omega⟩
  have HI := Aside0.mk (fun d => Rgrow_calls b T vb NB NR VB VR nulls k k C m m' n bm vl q hu hmm hn2 (by omega) hn4 hl hv0 hv1 (w.drewN d) (h.drewN d))
  have HP := Aside0.mk hn1
  have hkk : (k : Int) + 1 ≤ 1000 := by omega
  clear h hu hmm hl hv0 hv1 hn1 hn2 hn3 hn4 hk128
  go_enter Tryz.func52, Tryz.ntmps52
  go_upto_region 0 with (fail)
  go_quiet (fail)
  have c4' : (w.drewN nq).cell? ⟨b, 4, none⟩ = some (.int .i64 (k : Int)) := c4
  go_upto_region 3 with (first | (go_at_call 54; refine (HP.out _).mono ?_; rintro e w1 ⟨rfl, hw1⟩; subst w1) | (go_at_call 53; refine (HI.out nq).mono ?_; rintro e w2 ⟨rfl, NR2, VR2, i1, i2, i3⟩; have I := Aside0.mk (And.intro i1 (And.intro i2 i3)); clear i1 i2 i3))
  obtain ⟨i1, i2, i3⟩ := I.out
  have c2 : w2.cell? ⟨b, 2, none⟩ = some (ptr NB) := (blk_cell i1.hb 2).trans rfl
  clear i1 i2 i3
  go_wp2
  go_end0
  obtain ⟨i1, i2, i3⟩ := I.out
  exact ⟨rfl, NR2, VR2, i1, ⟨i2.os, i2.tape, i2.output, i2.kept⟩, i3⟩
set_option maxHeartbeats 1000000 in
set_option maxRecDepth 100000 in
theorem Rsv_same (b vb T NB NR VB VR nulls k c m : Nat) (bm vl : List Int) (q : Int) (hk : k < c) (hc : c ≤ 1000) (w : World) (h : Bd w b vb T NB NR VB VR nulls k c m bm vl q) :
    Calls Tryz.prog 34 #[ptr b, .int .i64 1] w fun e w' => e = .returned (.tuple #[]) ∧ ∃ n, w' = w.drewN n := by
  have HI := Aside0.mk (rsv_same b vb T NB NR VB VR nulls k c m bm vl q hk hc (fnv 53 b) w h)
  clear h
  go_enter Tryz.func34, Tryz.ntmps34
  have hmf : ∀ (fn : Fn) (first cap : Array Value) (w : World), (Instr.makeFunc fn first cap).run Tryz.prog w = .ok (.func fn first cap) w := fun _ _ _ _ => rfl
  go_wp2_with (first | (go_at_call 52; refine HI.out.mono ?_; rintro e w1 ⟨rfl, hx⟩; have X := Aside0.mk hx; clear hx))
  go_end0
  exact ⟨rfl, X.out⟩
set_option maxHeartbeats 1000000 in
set_option maxRecDepth 100000 in
theorem Rsv_first (b vb T : Nat) (w : World) (h : Bd0 w b vb T) :
    Calls Tryz.prog 34 #[ptr b, .int .i64 1] w fun e w' => e = .returned (.tuple #[]) ∧ ∃ NB NR VB VR, Bd w' b vb T NB NR VB VR 0 0 2 1 (List.replicate 64 0) (List.replicate 64 0) 6 ∧ Tn (fun k => k = b ∨ k = vb ∨ w.heap.size ≤ k) w w' ∧ w.heap.size ≤ NB ∧ w.heap.size ≤ NR ∧ w.heap.size ≤ VB ∧ w.heap.size ≤ VR := by
  have HI := Aside0.mk (rsv_first b vb T w h)
  clear h
  go_enter Tryz.func34, Tryz.ntmps34
  have hmf : ∀ (fn : Fn) (first cap : Array Value) (w : World), (Instr.makeFunc fn first cap).run Tryz.prog w = .ok (.func fn first cap) w := fun _ _ _ _ => rfl
  go_wp2_with (first | (go_at_call 52; refine HI.out.mono ?_; rintro e w1 ⟨rfl, hx⟩; have X := Aside0.mk hx; clear hx))
  go_end0
  exact ⟨rfl, X.out⟩
set_option maxHeartbeats 1000000 in
set_option maxRecDepth 100000 in
theorem Rsv_grow (b vb T NB NR VB VR nulls k C m m' : Nat) (bm vl : List Int) (q : Int) (hu : Up k C m') (hmm : m < m') (hl : bm.length = 64) (hv0 : 0 < vl.length) (hv1 : vl.length ≤ 1000) (w : World) (h : Bd w b vb T NB NR VB VR nulls k k m bm vl q) :
    Calls Tryz.prog 34 #[ptr b, .int .i64 1] w fun e w' => e = .returned (.tuple #[]) ∧ ∃ NR2 VR2, Bd w' b vb T NB NR2 VB VR2 nulls k C m' (fillS bm m (64 - m) 0) (growB (3 * C) vl) (3 * C : Nat) ∧ Tn (fun k => k = b ∨ k = vb ∨ k = NB ∨ k = NR ∨ k = VB ∨ k = VR ∨ w.heap.size ≤ k) w w' ∧ (NR2 = NR ∨ w.heap.size ≤ NR2) ∧ (VR2 = VR ∨ w.heap.size ≤ VR2) := by
  have HI := Aside0.mk (rsv_grow b vb T NB NR VB VR nulls k C m m' bm vl q hu hmm hl hv0 hv1 w h)
  clear h
  go_enter Tryz.func34, Tryz.ntmps34
  have hmf : ∀ (fn : Fn) (first cap : Array Value) (w : World), (Instr.makeFunc fn first cap).run Tryz.prog w = .ok (.func fn first cap) w := fun _ _ _ _ => rfl
  go_wp2_with (first | (go_at_call 52; refine HI.out.mono ?_; rintro e w1 ⟨rfl, hx⟩; have X := Aside0.mk hx; clear hx))
  go_end0
  exact ⟨rfl, X.out⟩
end Go.Proofs.YtndbeeboehekaaaGreatDoor.Q

/- FixedSizeBinaryBuilder: a value, a null. -/
namespace Go.Proofs.YtndbeeboehekaaaGreatDoor.Q
open Go.RowKit Go.Proofs.YtndbeeboehekaaaGreatDoorW.PrintWords Go.Proofs.YtndbeeboehekaaaGreatDoorW.PrintLast Go.Proofs.YtndbeeboehekaaaGreatDoorW.PrintMore
set_option linter.unusedVariables false
set_option linter.unusedSimpArgs false
/-- The table of bits, as it lies. -/
def GlobB (w : World) : Prop := ∀ r : Nat, r < 8 → w.cell? ⟨2, r, none⟩ = some (.int .u8 ((2 ^ r : Nat) : Int))
theorem GlobB.block {w : World} (h : GlobB w) : 2 < w.heap.size := World.block_lt_of_cell? w _ (h 0 (by omega))
theorem GlobB.kept {w w' : World} {S : Nat → Prop} (h : GlobB w) (hk : Kept w w' S) (h2 : ¬ S 2) : GlobB w' := fun r hr => cell_kept (h r hr) hk h2
def bitOr (x : Int) (r : Nat) : Int := bits .or .u8 x ((2 ^ r : Nat) : Int)
set_option maxHeartbeats 1000000 in
set_option maxRecDepth 100000 in
theorem setbit_calls (O m c i : Nat) (bm : List Int) (w : World) (h : Row w O bm) (hm : m ≤ bm.length) (hi : i / 8 < m) (hi2 : i ≤ 10000) (hG : GlobB w) :
    Calls Tryz.prog 57 #[.slice (some ⟨O, 0, none⟩) m c, .int .i64 (i : Int)] w fun e w' => e = .returned (.tuple #[]) ∧ Row w' O (bm.set (i / 8) (bitOr (bm.getD (i / 8) 0) (i % 8))) ∧ Tn (fun k => k = O) w w' := by
  have hr8 : i % 8 < 8 := Nat.mod_lt _ (by omega)
  have e1 : (IntKind.u64.wrap (i : Int)) = (i : Int) := by rw [IntKind.wrap_u64]; omega
  have e2 : IntKind.u64.wrap ((i : Int) / 8) = ((i / 8 : Nat) : Int) := by rw [IntKind.wrap_u64]; omega
  have e3 : Int.tmod (IntKind.u8.wrap (i : Int)) 8 = ((i % 8 : Nat) : Int) := by rw [IntKind.wrap_u8, Int.tmod_eq_emod_of_nonneg (by omega)]; omega
  generalize i / 8 = q at hi e2 ⊢
  generalize i % 8 = r at hr8 e3 ⊢
  have c1 := h.cell q (by omega)
  have z1 : w.frozen? ⟨O, q, none⟩ = false := blk_frozen h q
  have c2 := hG r hr8
  have H := Aside0.mk h
  have g1 : (q : Int) < (m : Int) := by omega
  have g2 : (r : Int) < 8 := by omega
  unfold bitOr
  generalize ((2 ^ r : Nat) : Int) = p at c2 ⊢
  generalize bm.getD q 0 = x at c1 ⊢
  clear h hG hi hm hi2
  go_enter Tryz.func57, Tryz.ntmps57
  go_wp2
  go_still_tail 13, (by kernel_rfl)
  change wpList _ _ _ _ _ w.drew
  go_wp2
  go_end0
  exact ⟨rfl, blk_drew (H.out.put q _), ((Tn.refl (fun k => k = O) w).setCell (p := ⟨O, q, none⟩) (.inl rfl) _).drew⟩
set_option maxHeartbeats 1000000 in
set_option maxRecDepth 100000 in
theorem abool_true (b T vb NB NR nulls k c m : Nat) (bm : List Int) (w : World) (h : w.heap[b]? = some (bO (ptr NB) nulls k c T vb)) (hb : BufAt w NB 1 NR bm m) (hm : m ≤ bm.length) (hk : k / 8 < m) (hk2 : k ≤ 1000) (hG : GlobB w) :
    Calls Tryz.prog 36 #[ptr b, .bool true] w fun e w' => e = .returned (.tuple #[]) ∧ w'.heap[b]? = some (bO (ptr NB) nulls (k + 1) c T vb) ∧ BufAt w' NB 1 NR (bm.set (k / 8) (bitOr (bm.getD (k / 8) 0) (k % 8))) m ∧ Tn (fun k => k = b ∨ k = NR) w w' := by
  have c2 : w.cell? ⟨b, 2, none⟩ = some (ptr NB) := (blk_cell h 2).trans rfl
  have c4 : w.cell? ⟨b, 4, none⟩ = some (.int .i64 (k : Int)) := (blk_cell h 4).trans rfl
  have HBY := Aside0.mk (fun W (hW : BufAt W NB 1 NR bm m) => bytes_calls NB (some ⟨NR, 0, none⟩) bm.length m bm.length W ((blk_cell hW.h 1).trans rfl) ((blk_cell hW.h 2).trans rfl) hm)
  have HSB := Aside0.mk (fun n => setbit_calls NR m bm.length k bm (w.drewN n) (blk_drewN hb.r n) hm hk (by omega) hG)
  have hbr : b ≠ NR := blk_ne h hb.r (show (89 : Nat) ≠ 5 by decide)
  have HX := Aside0.mk (And.intro h (And.intro hb hbr))
  have hkk : (k : Int) ≤ 1000 := by omega
  have hbn : b ≠ NB := blk_ne h hb.h (show (89 : Nat) ≠ 136 by decide)
  clear h hb hm hk hk2 hG
  go_enter Tryz.func36, Tryz.ntmps36
  go_upto_region 1 with (fail)
  go_region_held3 (fun w' => w'.cell? ⟨b, 2, none⟩ = some (ptr NB) ∧ w'.cell? ⟨b, 4, none⟩ = some (.int .i64 (k : Int))) (go_keep) (first | (go_at_call 58; go_loud (refine (HBY.out w.drew (show BufAt w.drew NB 1 NR bm m from ⟨HX.out.2.1.h, HX.out.2.1.r⟩)).mono ?_; rintro e w1 ⟨rfl, ⟨n1, rfl⟩⟩)) | (go_at_call 57; go_loud (refine (HSB.out (1 + n1)).mono ?_; rintro e w2 ⟨rfl, e1, e2⟩; have e2' : Tn (fun k => k = NR) w w2 := ⟨e2.os, e2.tape, e2.output, e2.kept⟩; have d2 := cell_kept c2 e2'.kept (by simpa using hbr); have d4 := cell_kept c4 e2'.kept (by simpa using hbr); have z4 := blk_frozen (blk_kept HX.out.1 e2'.kept hbr) 4; have E := Aside0.mk (And.intro e1 e2'); clear e1 e2 e2')))
  go_wp2
  go_end0
  obtain ⟨h, hb, _⟩ := HX.out
  obtain ⟨e1, e2⟩ := E.out
  have s1 := blk_kept h e2.kept hbr
  have s2 := hb.row e1 (by simp) e2
  refine ⟨rfl, blk_set s1 4 (.int .i64 ((k : Int) + 1)), ⟨blk_far s2.h (p := ⟨b, 4, none⟩) hbn.symm _, blk_far s2.r (p := ⟨b, 4, none⟩) hbr.symm _⟩, ?_⟩
  exact (e2.mono (fun k hk => .inr hk)).setCell (p := ⟨b, 4, none⟩) (.inl (.inl rfl)) _
set_option maxHeartbeats 1000000 in
set_option maxRecDepth 100000 in
theorem abool_false (b T vb NB nulls k c : Nat) (w : World) (h : w.heap[b]? = some (bO (ptr NB) nulls k c T vb)) (hk2 : k ≤ 1000) (hn2 : nulls ≤ 1000) :
    Calls Tryz.prog 36 #[ptr b, .bool false] w fun e w' => e = .returned (.tuple #[]) ∧ w'.heap[b]? = some (bO (ptr NB) (nulls + 1) (k + 1) c T vb) ∧ Tn (fun k => k = b) w w' := by
  have c3 : w.cell? ⟨b, 3, none⟩ = some (.int .i64 (nulls : Int)) := (blk_cell h 3).trans rfl
  have z3 : w.frozen? ⟨b, 3, none⟩ = false := blk_frozen h 3
  have s1 := blk_set h 3 (.int .i64 ((nulls : Int) + 1))
  have c4 : (w.setCell ⟨b, 3, none⟩ (.int .i64 ((nulls : Int) + 1))).cell? ⟨b, 4, none⟩ = some (.int .i64 (k : Int)) := (blk_cell s1 4).trans rfl
  have z4 : (w.setCell ⟨b, 3, none⟩ (.int .i64 ((nulls : Int) + 1))).frozen? ⟨b, 4, none⟩ = false := blk_frozen s1 4
  have HX := Aside0.mk s1
  have hkk : (k : Int) ≤ 1000 := by omega
  have hnn : (nulls : Int) ≤ 1000 := by omega
  have hk0 : (0 : Int) ≤ (k : Int) := by omega
  have hn0 : (0 : Int) ≤ (nulls : Int) := by omega
  clear h hk2 hn2 s1
  go_enter Tryz.func36, Tryz.ntmps36
  go_wp2
  go_end0
  exact ⟨rfl, blk_set HX.out 4 (.int .i64 ((k : Int) + 1)), ((Tn.refl (fun k => k = b) w).setCell (p := ⟨b, 3, none⟩) (.inl rfl) _).setCell (p := ⟨b, 4, none⟩) (.inl rfl) _⟩
end Go.Proofs.YtndbeeboehekaaaGreatDoor.Q

/- FixedSizeBinaryBuilder.Append, AppendNull. -/
namespace Go.Proofs.YtndbeeboehekaaaGreatDoor.Q
open Go.RowKit Go.Proofs.YtndbeeboehekaaaGreatDoorW.PrintWords Go.Proofs.YtndbeeboehekaaaGreatDoorW.PrintLast Go.Proofs.YtndbeeboehekaaaGreatDoorW.PrintMore
set_option linter.unusedVariables false
set_option linter.unusedSimpArgs false
/-- Three bytes that one may read. -/
def Dat (w : World) (D : Nat) (v : List Int) : Prop := v.length = 3 ∧ ∀ j, j < 3 → w.cell? ⟨D, j, none⟩ = some (.int .u8 (v.getD j 0))
theorem Dat.kept {w w' : World} {D : Nat} {v : List Int} {S : Nat → Prop} (h : Dat w D v) (hk : Kept w w' S) (hn : ¬ S D) : Dat w' D v := ⟨h.1, fun j hj => cell_kept (h.2 j hj) hk hn⟩
theorem Dat.lt {w : World} {D : Nat} {v : List Int} (h : Dat w D v) : D < w.heap.size := World.block_lt_of_cell? w _ (h.2 0 (by omega))
/-- The row with three bytes more. -/
def put3 (vl : List Int) (n : Nat) (v : List Int) : List Int := vl.take n ++ v ++ vl.drop (n + 3)
theorem put3_len (vl : List Int) (n : Nat) (v : List Int) (hv : v.length = 3) (h : n + 3 ≤ vl.length) : (put3 vl n v).length = vl.length := by simp [put3]; omega
set_option maxHeartbeats 1000000 in
set_option maxRecDepth 100000 in
theorem uapp_calls (vb VB VR D cd n : Nat) (vl v : List Int) (w : World) (h : w.heap[vb]? = some (bbO (ptr VB) n vl.length (.slice (some ⟨VR, 0, none⟩) vl.length vl.length))) (hr : Row w VR vl) (hn : n + 3 ≤ vl.length) (hm : vl.length ≤ 1000) (hd : Dat w D v) :
    Calls Tryz.prog 59 #[ptr vb, .slice (some ⟨D, 0, none⟩) 3 cd] w fun e w' => e = .returned (.tuple #[]) ∧ w'.heap[vb]? = some (bbO (ptr VB) (n + 3) vl.length (.slice (some ⟨VR, 0, none⟩) vl.length vl.length)) ∧ Row w' VR (put3 vl n v) ∧ Tn (fun k => k = vb ∨ k = VR) w w' := by
  have c5 : w.cell? ⟨vb, 5, none⟩ = some (.slice (some ⟨VR, 0, none⟩) vl.length vl.length) := (blk_cell h 5).trans rfl
  have c3 : w.cell? ⟨vb, 3, none⟩ = some (.int .i64 (n : Int)) := (blk_cell h 3).trans rfl
  have hne : vb ≠ VR := blk_ne h hr (show (95 : Nat) ≠ 5 by decide)
  have hsl := restB VR vl.length n (n : Int) rfl (by omega)
  obtain ⟨w3, hcp, e1, e2, e3, e4⟩ := copy_bytes w.drew VR n (vl.length - n) (vl.length - n) ⟨D, 0, none⟩ 3 cd vl v (show Row w.drew VR vl from hr) (by show _ = min _ _; have := hd.1; omega) (fun j hj => by
    have : (⟨D, 0, none⟩ : Addr).add j = ⟨D, j, none⟩ := by simp [Addr.add]; omega
    rw [this]; exact hd.2 j (by have := hd.1; omega)) (by have := hd.1; omega)
  rw [hd.1] at hcp e1
  have hk3 : Kept w w3 (fun k => k = VR) := ⟨Nat.le_of_eq e2.symm, fun i hi hs => e3 i hs⟩
  have ht3 : Tn (fun k => k = VR) w w3 := ⟨e4.os, e4.tape, e4.output, hk3⟩
  have s1 := blk_kept h hk3 hne
  have d3 : w3.cell? ⟨vb, 3, none⟩ = some (.int .i64 (n : Int)) := (blk_cell s1 3).trans rfl
  have z3 : w3.frozen? ⟨vb, 3, none⟩ = false := blk_frozen s1 3
  have HX := Aside0.mk (And.intro s1 (And.intro e1 (And.intro ht3 hne)))
  have n0 : (0 : Int) ≤ (n : Int) := by omega
  have n1 : (n : Int) ≤ 1000 := by omega
  clear h hr hn hm hd e1 e2 e3 e4 hk3 ht3 s1
  go_enter Tryz.func59, Tryz.ntmps59
  go_upto_region 0 with (fail)
  go_still_tail 10, (by kernel_rfl)
  change wpList _ _ _ _ _ w.drew
  go_wp2
  go_end0
  obtain ⟨s1, e1, ht3, _⟩ := HX.out
  exact ⟨rfl, blk_set s1 3 (.int .i64 ((n : Int) + 3)), blk_far e1 (p := ⟨vb, 3, none⟩) hne.symm _, (ht3.mono (fun k hk => .inr hk)).setCell (p := ⟨vb, 3, none⟩) (.inl (.inl rfl)) _⟩
set_option maxHeartbeats 1000000 in
set_option maxRecDepth 100000 in
theorem bapp_calls (vb VB VR D cd n : Nat) (vl v : List Int) (w : World) (h : w.heap[vb]? = some (bbO (ptr VB) n vl.length (.slice (some ⟨VR, 0, none⟩) vl.length vl.length))) (hr : Row w VR vl) (hn : n + 3 ≤ vl.length) (hm : vl.length ≤ 1000) (hd : Dat w D v) :
    Calls Tryz.prog 37 #[ptr vb, .slice (some ⟨D, 0, none⟩) 3 cd] w fun e w' => e = .returned (.tuple #[]) ∧ w'.heap[vb]? = some (bbO (ptr VB) (n + 3) vl.length (.slice (some ⟨VR, 0, none⟩) vl.length vl.length)) ∧ Row w' VR (put3 vl n v) ∧ Tn (fun k => k = vb ∨ k = VR) w w' := by
  have c4 : w.cell? ⟨vb, 4, none⟩ = some (.int .i64 (vl.length : Int)) := (blk_cell h 4).trans rfl
  have c3 : w.cell? ⟨vb, 3, none⟩ = some (.int .i64 (n : Int)) := (blk_cell h 3).trans rfl
  have HU := Aside0.mk (fun d => uapp_calls vb VB VR D cd n vl v (w.drewN d) (blk_drewN h d) (blk_drewN hr d) hn hm ⟨hd.1, hd.2⟩)
  have hd1 : decide ((vl.length : Int) < (n : Int) + 3) = false := decide_eq_false (by omega)
  have hq : IntKind.i64.wrap ((n : Int) + 3) = (n : Int) + 3 := by rw [IntKind.wrap_i64]; omega
  have hnn : (n : Int) + 3 ≤ (vl.length : Int) := by omega
  clear h hr hn hm hd
  go_enter Tryz.func37, Tryz.ntmps37
  go_upto_region 0 with (fail)
  go_quiet (fail)
  go_wp2_with (first | (go_at_call 59; refine (HU.out nq).mono ?_; rintro e w1 ⟨rfl, e1, e2, e3⟩; have E := Aside0.mk (And.intro e1 (And.intro e2 e3)); clear e1 e2 e3))
  go_end0
  obtain ⟨e1, e2, e3⟩ := E.out
  exact ⟨rfl, e1, e2, ⟨e3.os, e3.tape, e3.output, e3.kept⟩⟩
set_option maxHeartbeats 1000000 in
set_option maxRecDepth 100000 in
theorem adv_calls (vb VB VR n : Nat) (vl : List Int) (w : World) (h : w.heap[vb]? = some (bbO (ptr VB) n vl.length (.slice (some ⟨VR, 0, none⟩) vl.length vl.length))) (hr : Row w VR vl) (hn : n + 3 ≤ vl.length) (hm : vl.length ≤ 1000) :
    Calls Tryz.prog 35 #[ptr vb, .int .i64 3] w fun e w' => e = .returned (.tuple #[]) ∧ w'.heap[vb]? = some (bbO (ptr VB) (n + 3) vl.length (.slice (some ⟨VR, 0, none⟩) vl.length vl.length)) ∧ Row w' VR (fillS vl n 3 0) ∧ Tn (fun k => k = vb ∨ k = VR) w w' := by
  have c4 : w.cell? ⟨vb, 4, none⟩ = some (.int .i64 (vl.length : Int)) := (blk_cell h 4).trans rfl
  have c3 : w.cell? ⟨vb, 3, none⟩ = some (.int .i64 (n : Int)) := (blk_cell h 3).trans rfl
  have c5 : w.cell? ⟨vb, 5, none⟩ = some (.slice (some ⟨VR, 0, none⟩) vl.length vl.length) := (blk_cell h 5).trans rfl
  have hne : vb ≠ VR := blk_ne h hr (show (95 : Nat) ≠ 5 by decide)
  have HS := Aside0.mk (fun d => set_calls VR n 3 (vl.length - n) vl 0 (w.drewN d) (blk_drewN hr d) hn (by omega))
  have hsl : ∀ W : World, (Instr.sliceAt 58 (.slice (some ⟨VR, 0, none⟩) vl.length vl.length) (some (.int .i64 (n : Int))) (some (.int .i64 ((n : Int) + 3))) none).run Tryz.prog W = .ok (.slice (some ⟨VR, n, none⟩) 3 (vl.length - n)) W := fun W => by
    rw [run_sliceAt_slice W 58 _ _ _ _ Tryz.underlying58, run_slice_lh W 58 (some ⟨VR, 0, none⟩) vl.length vl.length Tryz.underlying58 .i64 .i64 (n : Int) ((n : Int) + 3) (by omega) (by omega) (by omega)]
    have hsz : (sizeOf (Tryz.prog.elem 58)).run Tryz.prog W = .ok 1 W := by kernel_rfl
    rw [hsz]
    simp only [Result.andThen, sliced, Int.toNat_natCast]
    rw [if_neg (by omega), show ((n : Int) + 3).toNat - n = 3 by omega]
    simp [Addr.add]
    intro h0
    omega
  have HX := Aside0.mk (And.intro h hne)
  have hd1 : decide ((vl.length : Int) < (n : Int) + 3) = false := decide_eq_false (by omega)
  have hq : IntKind.i64.wrap ((n : Int) + 3) = (n : Int) + 3 := by rw [IntKind.wrap_i64]; omega
  have hnn : (n : Int) + 3 ≤ (vl.length : Int) := by omega
  have n0 : (0 : Int) ≤ (n : Int) := by omega
  have n1 : (n : Int) ≤ 1000 := by omega
  clear h hr hn hm
  go_enter Tryz.func35, Tryz.ntmps35
  go_upto_region 0 with (fail)
  go_quiet (fail)
  go_upto_region 3 with (fail)
  go_region_held3 (fun w' => w'.cell? ⟨vb, 3, none⟩ = some (.int .i64 (n : Int)) ∧ w'.cell? ⟨vb, 5, none⟩ = some (.slice (some ⟨VR, 0, none⟩) vl.length vl.length)) (go_keep) (first | (go_at_call 56; go_loud (refine (HS.out (nq + 1)).mono ?_; rintro e w1 ⟨rfl, e1, e2⟩; have e2' : Tn (fun k => k = VR) w w1 := ⟨e2.os, e2.tape, e2.output, e2.kept⟩; have d3 := cell_kept c3 e2'.kept (by simpa using hne); have d5 := cell_kept c5 e2'.kept (by simpa using hne); have z3 := blk_frozen (blk_kept HX.out.1 e2'.kept hne) 3; have E := Aside0.mk (And.intro e1 e2'); clear e1 e2 e2')))
  go_wp2
  go_end0
  obtain ⟨e1, e2⟩ := E.out
  have s1 := blk_kept HX.out.1 e2.kept hne
  exact ⟨rfl, blk_set s1 3 (.int .i64 ((n : Int) + 3)), blk_far e1 (p := ⟨vb, 3, none⟩) hne.symm _, (e2.mono (fun k hk => .inr hk)).setCell (p := ⟨vb, 3, none⟩) (.inl (.inl rfl)) _⟩
end Go.Proofs.YtndbeeboehekaaaGreatDoor.Q
