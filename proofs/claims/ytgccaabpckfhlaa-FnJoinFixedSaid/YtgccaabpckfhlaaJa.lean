/- memory.Buffer over impl.plain: made, resized, its bytes. -/
import Derived.Test.YtgccaabpckfhlaaQJFa
import Derived.Laws.LoneSync
import Derived.Laws.MakeOwn
import Derived.Recover
import Derived.Handy
import Derived.StillTailTactics
import Derived.Laws.CopyOwn
import Derived.Deep.RegionLaw
namespace Go.Proofs.Ytgccaabpckfhlaa.Q
open Go.RowKit Go.Proofs.YtgccaabpckfhlaaW.PrintWords Go.Proofs.YtgccaabpckfhlaaW.PrintLast Go.Proofs.YtgccaabpckfhlaaW.PrintMore
set_option linter.unusedVariables false
set_option linter.unusedSimpArgs false

theorem made_bytes (n : Nat) : madeCells #[.int .u8 0] n = ((List.replicate n (0 : Int)).map (Value.int .u8)).toArray := by
  apply Array.ext'
  simp [madeCells]
  apply List.ext_getElem <;> simp
  intro i h1
  simp [Nat.mod_one]
/-- n bytes that were made. -/
def zeros (n : Nat) : Obj := .cells ((List.replicate n (0 : Int)).map (Value.int .u8)).toArray 5
theorem info5_some : (Try.prog.info? 5).isSome = true := by kernel_rfl
theorem make_bytes (n : Nat) (h : n ≤ 1099511627776) (W : World) : (Instr.makeSlice 24 (.int .i64 (n : Int)) (.int .i64 (n : Int))).run Try.prog W = .ok (.slice (some ⟨W.heap.size, 0, none⟩) n n) (W.alloc (zeros n)) := by
  have hb : ((Try.prog.info? 5).get info5_some).bytes = 1 := by kernel_rfl
  have hs : ((Try.prog.info? 5).get info5_some).size = 1 := by kernel_rfl
  have hr := run_make (P := Try.prog) W 24 5 ((Try.prog.info? 5).get info5_some) (.int .u8 0) (by kernel_rfl) (Option.some_get _).symm (by kernel_rfl) .i64 .i64 (n : Int) (n : Int) (by omega) (Int.le_refl _) (by rw [hb]; omega) (by omega)
  simp only [Int.toNat_natCast, hs, Nat.mul_one] at hr
  rw [hr]
  have : Value.cells (.int .u8 0) = #[.int .u8 0] := rfl
  rw [this, made_bytes]
  rfl
/-- Bytes in a block of their own. -/
def Row (w : World) (D : Nat) (l : List Int) : Prop := w.heap[D]? = some (.cells (l.map (Value.int .u8)).toArray 5 (0, 0))
theorem row_zeros (w : World) (n : Nat) : Row (w.alloc (zeros n)) w.heap.size (List.replicate n 0) := blk_new w _
theorem Row.cell {w : World} {D : Nat} {l : List Int} (h : Row w D l) (j : Nat) (hj : j < l.length) : w.cell? ⟨D, j, none⟩ = some (.int .u8 (l.getD j 0)) := by
  rw [blk_cell h j]; simp [hj]
theorem Row.lt {w : World} {D : Nat} {l : List Int} (h : Row w D l) : D < w.heap.size := blk_lt h
/-- 'copy' into a row that is known. -/
theorem copy_bytes (w : World) (g o dLen dCap : Nat) (a : Addr) (sLen sCap : Nat) (cur cs : List Int) (hg : Row w g cur) (hn : cs.length = Nat.min sLen dLen)
    (hsrc : ∀ j, j < cs.length → w.cell? (a.add j) = some (.int .u8 (cs.getD j 0))) (hfit : o + cs.length ≤ cur.length) :
    ∃ w3, (Builtin.copy_ #[24, 24] 3 #[.slice (some ⟨g, o, none⟩) dLen dCap, .slice (some a) sLen sCap]).run Try.prog w = .ok (.int .i64 (cs.length : Int)) w3 ∧
      Row w3 g (cur.take o ++ cs ++ cur.drop (o + cs.length)) ∧ w3.heap.size = w.heap.size ∧ (∀ k, k ≠ g → w3.heap[k]? = w.heap[k]?) ∧ Below g w w3 := by
  have hr := run_copy_row (P := Try.prog) w 24 24 3 5 g o dLen dCap a sLen sCap (cur.map (Value.int .u8)).toArray 5 (cs.map (Value.int .u8)) Try.underlying24 (by kernel_rfl) hg (by simpa using hn)
    (fun j v hv => by
      have hj : j < cs.length := by
        have := (List.getElem?_eq_some_iff.1 hv).1
        simpa using this
      rw [hsrc j hj]
      simp [hj] at hv
      simp [hj, hv]) (by simpa using hfit) (by simp [Value.oneCell'])
  refine ⟨_, by simpa [goInt] using hr, ?_, by simp, fun k hk => setRow_other w g k _ hk, below_setRow (Below.refl _ _) (Nat.le_refl _) _⟩
  have := setRow_heap w g _ ((cur.map (Value.int .u8)).take o ++ cs.map (Value.int .u8) ++ (cur.map (Value.int .u8)).drop (o + (cs.map (Value.int .u8)).length)).toArray 5 _ hg
  unfold Row
  simpa using this
/-- 'copy' of nothing. -/
theorem copy_none (w : World) (d a : Option Addr) (dLen dCap sLen sCap : Nat) (hn : Nat.min sLen dLen = 0) :
    (Builtin.copy_ #[24, 24] 3 #[.slice d dLen dCap, .slice a sLen sCap]).run Try.prog w = .ok (.int .i64 0) w := by
  have := run_copy_none (P := Try.prog) w 24 24 3 5 d a dLen dCap sLen sCap Try.underlying24 (by kernel_rfl) hn
  simpa [goInt] using this
theorem and_m64 (m : Nat) (h : m < 2 ^ 64) : m &&& (2 ^ 64 - 64) = m / 64 * 64 := by
  have e1 : (2 ^ 64 - 64 : Nat) = (2 ^ 58 - 1) <<< 6 := by decide
  have e2 : m / 64 * 64 = (m >>> 6) <<< 6 := by rw [Nat.shiftLeft_eq, Nat.shiftRight_eq_div_pow]
  rw [e1, e2]
  apply Nat.eq_of_testBit_eq
  intro i
  rw [Nat.testBit_and, Nat.testBit_shiftLeft, Nat.testBit_shiftLeft, Nat.testBit_two_pow_sub_one, Nat.testBit_shiftRight]
  by_cases c : 6 ≤ i
  · have e : 6 + (i - 6) = i := by omega
    rw [e]
    by_cases c2 : i - 6 < 58
    · simp [c, c2]
    · have : m.testBit i = false := Nat.testBit_lt_two_pow (Nat.lt_of_lt_of_le h (Nat.pow_le_pow_right (by decide) (by omega)))
      simp [this]
  · simp [c]
theorem round_of (n : Nat) (h : n ≤ 1099511627776) : ∃ m : Nat, memory_roundUpToMultipleOf64.f (n : Int) = some (m : Int) ∧ n ≤ m ∧ m < n + 64 := by
  have hb : bits .xor .i64 (-1) (wrap64 (64 - 1)) = -64 := by kernel_rfl
  have hw : wrap64 ((n : Int) + wrap64 (64 - 1)) = ((n + 63 : Nat) : Int) := by unfold wrap64; omega
  have ha : bits .and .i64 ((n + 63 : Nat) : Int) (-64) = (((n + 63) / 64 * 64 : Nat) : Int) := by
    have e : (BitVec.ofInt 64 ((n + 63 : Nat) : Int) &&& BitVec.ofInt 64 (-64)).toNat = (n + 63) / 64 * 64 := by
      rw [BitVec.toNat_and, BitVec.ofInt_natCast, BitVec.toNat_ofNat, Nat.mod_eq_of_lt (by omega)]
      exact and_m64 _ (by omega)
    show IntKind.i64.wrap ((BitVec.ofInt 64 ((n + 63 : Nat) : Int) &&& BitVec.ofInt 64 (-64)).toNat : Int) = _
    rw [e, IntKind.wrap_i64]; omega
  refine ⟨(n + 63) / 64 * 64, ?_, by omega, by omega⟩
  show (memory_roundToPowerOf2.f (n : Int) 64).bind _ = _
  unfold memory_roundToPowerOf2.f
  rw [hb, hw, ha]
  rfl
set_option maxHeartbeats 1000000 in
theorem roundp_calls (a0 a1 r : Int) (w : World) (h : memory_roundToPowerOf2.f a0 a1 = some r) :
    Calls Try.prog 24 #[.int .i64 a0, .int .i64 a1] w fun e w' => e = .returned (.int .i64 r) ∧ w' = w := by
  have H : (some (Go.bits .and .i64 (wrap64 (a0 + (wrap64 (a1 - 1)))) (Go.bits .xor .i64 (-1) (wrap64 (a1 - 1))))) = some r := h
  clear h
  obtain rfl := Option.some.inj H
  go_enter Try.func24, Try.ntmps24
  go_wp2
  go_ret
  exact ⟨rfl, rfl⟩
set_option maxHeartbeats 1000000 in
theorem round_calls (n m : Int) (w : World) (h : memory_roundUpToMultipleOf64.f n = some m) :
    Calls Try.prog 23 #[.int .i64 n] w fun e w' => e = .returned (.int .i64 m) ∧ w' = w := by
  have HC := Aside0.mk (roundp_calls n 64 m w (by unfold memory_roundUpToMultipleOf64.f at h; cases hh : memory_roundToPowerOf2.f n 64 with | none => rw [hh] at h; exact absurd h (by simp) | some v => rw [hh] at h; exact h))
  clear h
  go_enter Try.func23, Try.ntmps23
  go_wp2_with (go_at_call 24; refine HC.out.mono ?_; rintro e w1 ⟨rfl, rfl⟩)
  go_ret
  exact ⟨rfl, rfl⟩
set_option maxHeartbeats 1000000 in
set_option maxRecDepth 100000 in
theorem add_calls (a : Addr) (w : World) (hc : w.cell? a = some (.int .i64 0)) (hf : w.frozen? a = false) :
    Calls Try.prog 19 #[.pointer (some a), .int .i64 1] w fun e w' => e = .returned (.int .i64 1) ∧ w' = w.setCell a (.int .i64 1) := by
  have r := run_call_add (P := Try.prog) (y := 1) (s := 1) Try.func21 (by kernel_rfl) (by kernel_rfl) (by kernel_rfl) .i64 (by kernel_rfl) hc hf (by rfl)
  go_enter Try.func19, Try.ntmps19
  go_wp2
  go_ret
  exact ⟨rfl, rfl⟩
/-- A buffer that was made to grow: its bytes, its length. -/
def bufH (sl : Value) (n : Int) : Obj := .cells #[.int .i64 1, sl, .int .i64 n, .bool true, .iface 41 (.agg #[]), .pointer none] 56 (0, 0)
/-- A buffer around bytes. -/
def bufN (sl : Value) (n : Int) : Obj := .cells #[.int .i64 0, sl, .int .i64 n, .bool false, .nilIface, .pointer none] 56 (0, 0)
set_option maxHeartbeats 1000000 in
set_option maxRecDepth 100000 in
theorem newres_calls (w : World) : Calls Try.prog 16 #[.iface 41 (.agg #[])] w fun e w' => e = .returned (.pointer (some ⟨w.heap.size, 0, none⟩)) ∧ w' = w.alloc (bufH (.slice none 0 0) 0) := by
  have hn := blk_new w (.cells #[.int .i64 0, .slice none 0 0, .int .i64 0, .bool true, .iface 41 (.agg #[]), .pointer none] 56)
  have HC := Aside0.mk (add_calls ⟨w.heap.size, 0, none⟩ _ ((blk_cell hn 0).trans rfl) (blk_frozen hn 0))
  clear hn
  go_enter Try.func16, Try.ntmps16
  go_wp2_with (go_at_call 19; refine HC.out.mono ?_; rintro e w1 ⟨rfl, rfl⟩)
  go_ret
  refine ⟨rfl, ?_⟩
  simp [bufH]
set_option maxHeartbeats 1000000 in
set_option maxRecDepth 100000 in
theorem newbytes_calls (A : Option Addr) (n c : Nat) (w : World) : Calls Try.prog 14 #[.slice A n c] w fun e w' => e = .returned (.pointer (some ⟨w.heap.size, 0, none⟩)) ∧ w' = w.alloc (bufN (.slice A n c) n) := by
  go_enter Try.func14, Try.ntmps14
  go_wp2
  go_ret
  exact ⟨rfl, rfl⟩
set_option maxRecDepth 100000 in
theorem sliceTo_any (A : Option Addr) (L n c : Nat) (hc : n ≤ c) (W : World) : (Instr.sliceAt 24 (.slice A L c) none (some (.int .i64 (n : Int))) none).run Try.prog W = .ok (.slice A n c) W := by
  rw [run_sliceAt_slice W 24 _ _ _ _ Try.underlying24, run_slice_h W 24 A L c Try.underlying24 .i64 (n : Int) (by omega) (by omega)]
  have hsz : (sizeOf (Try.prog.elem 24)).run Try.prog W = .ok 1 W := by kernel_rfl
  rw [hsz]
  simp only [Result.andThen, sliced, Int.toNat_natCast]
  by_cases c0 : c = 0
  · rw [if_pos c0]; simp
  · rw [if_neg c0]
    cases A <;> simp [Addr.add]
set_option maxHeartbeats 1000000 in
set_option maxRecDepth 100000 in
theorem bytes_calls (B : Nat) (A : Option Addr) (L n c : Nat) (w : World) (r1 : w.cell? ⟨B, 1, none⟩ = some (.slice A L c)) (r2 : w.cell? ⟨B, 2, none⟩ = some (.int .i64 (n : Int))) (hc : n ≤ c) :
    Calls Try.prog 12 #[.pointer (some ⟨B, 0, none⟩)] w fun e w' => e = .returned (.slice A n c) ∧ Drawn0 w w' := by
  have hsl := sliceTo_any A L n c hc
  go_enter Try.func12, Try.ntmps12
  go_wp2
  go_quiet (fail)
  go_wp2
  go_ret
  exact ⟨rfl, ⟨_, rfl⟩⟩
end Go.Proofs.Ytgccaabpckfhlaa.Q
