/- memory.Buffer: made, reserved. -/
import Derived.Test.YtcfnniminikmfaaFa
import Derived.Laws.LoneSync
import Derived.Laws.MakeOwn
import Derived.Recover
import Derived.Handy
import Derived.StillTailTactics
import Derived.Laws.CopyOwn
import Derived.Deep.RegionLaw
namespace Go.Proofs.Ytcfnniminikmfaa.Q
open Go.RowKit Go.Proofs.YtcfnniminikmfaaW.PrintWords Go.Proofs.YtcfnniminikmfaaW.PrintLast Go.Proofs.YtcfnniminikmfaaW.PrintMore
set_option linter.unusedVariables false
set_option linter.unusedSimpArgs false

theorem made_bytes (n : Nat) : madeCells #[.int .u8 0] n = ((List.replicate n (0 : Int)).map (Value.int .u8)).toArray := by
  apply Array.ext'
  simp [madeCells]
  apply List.ext_getElem <;> simp
  intro i h1
  simp [Nat.mod_one]

/-- n bytes that were made. -/
def zeros (n : Nat) : Obj := .cells ((List.replicate n (0 : Int)).map (Value.int .u8)).toArray 5
theorem info5_some : (Try.prog.info? 5).isSome = true := by kernel_rfl
theorem make_bytes (n : Nat) (h : n ≤ 1099511627776) (W : World) : (Instr.makeSlice 23 (.int .i64 (n : Int)) (.int .i64 (n : Int))).run Try.prog W = .ok (.slice (some ⟨W.heap.size, 0, none⟩) n n) (W.alloc (zeros n)) := by
  have hb : ((Try.prog.info? 5).get info5_some).bytes = 1 := by kernel_rfl
  have hs : ((Try.prog.info? 5).get info5_some).size = 1 := by kernel_rfl
  have hr := run_make (P := Try.prog) W 23 5 ((Try.prog.info? 5).get info5_some) (.int .u8 0) (by kernel_rfl) (Option.some_get _).symm (by kernel_rfl) .i64 .i64 (n : Int) (n : Int) (by omega) (Int.le_refl _) (by rw [hb]; omega) (by omega)
  simp only [Int.toNat_natCast, hs, Nat.mul_one] at hr
  rw [hr]
  have : Value.cells (.int .u8 0) = #[.int .u8 0] := rfl
  rw [this, made_bytes]
  rfl

set_option maxHeartbeats 1000000 in
set_option maxRecDepth 100000 in
theorem add_calls (a : Addr) (w : World) (hc : w.cell? a = some (.int .i64 0)) (hf : w.frozen? a = false) :
    Calls Try.prog 107 #[.pointer (some a), .int .i64 1] w fun e w' => e = .returned (.int .i64 1) ∧ w' = w.setCell a (.int .i64 1) := by
  have r := run_call_add (P := Try.prog) (y := 1) (s := 1) Try.func111 (by kernel_rfl) (by kernel_rfl) (by kernel_rfl) .i64 (by kernel_rfl) hc hf (by rfl)
  go_enter Try.func107, Try.ntmps107
  go_wp2
  go_ret
  exact ⟨rfl, rfl⟩

/-- A buffer: one owner, its bytes, its length, of an allocator. -/
def bufO (sl : Value) (n : Int) (G : Nat) : Obj := .cells #[.int .i64 1, sl, .int .i64 n, .bool true, .iface 167 (.pointer (some ⟨G, 0, none⟩)), .pointer none] 158 (0, 0)
set_option maxHeartbeats 1000000 in
set_option maxRecDepth 100000 in
theorem goalloc_calls (w : World) : Calls Try.prog 95 #[] w fun e w' => e = .returned (.pointer (some ⟨w.heap.size, 0, none⟩)) ∧ w' = w.alloc (.cells #[] 176) := by
  go_enter Try.func95, Try.ntmps95
  go_wp2
  go_ret
  exact ⟨rfl, rfl⟩
set_option maxHeartbeats 1000000 in
set_option maxRecDepth 100000 in
theorem newres_calls (G : Nat) (w : World) : Calls Try.prog 94 #[.iface 167 (.pointer (some ⟨G, 0, none⟩))] w fun e w' => e = .returned (.pointer (some ⟨w.heap.size, 0, none⟩)) ∧ w' = w.alloc (bufO (.slice none 0 0) 0 G) := by
  have hn := blk_new w (.cells #[.int .i64 0, .slice none 0 0, .int .i64 0, .bool true, .iface 167 (.pointer (some ⟨G, 0, none⟩)), .pointer none] 158)
  have HC := Aside0.mk (add_calls ⟨w.heap.size, 0, none⟩ _ ((blk_cell hn 0).trans rfl) (blk_frozen hn 0))
  clear hn
  go_enter Try.func94, Try.ntmps94
  go_wp2_with (go_at_call 107; refine HC.out.mono ?_; rintro e w1 ⟨rfl, rfl⟩)
  go_ret
  refine ⟨rfl, ?_⟩
  simp [bufO]
set_option maxHeartbeats 1000000 in
set_option maxRecDepth 100000 in
theorem newbuf_calls (w : World) : Calls Try.prog 76 #[] w fun e w' => e = .returned (.pointer (some ⟨w.heap.size + 1, 0, none⟩)) ∧ w' = (w.alloc (.cells #[] 176)).alloc (bufO (.slice none 0 0) 0 w.heap.size) := by
  have HC := Aside0.mk (goalloc_calls w)
  have HD := Aside0.mk (newres_calls w.heap.size (w.alloc (.cells #[] 176)))
  go_enter Try.func76, Try.ntmps76
  go_wp2_with (first | (go_at_call 95; refine HC.out.mono ?_; rintro e w1 ⟨rfl, rfl⟩) | (go_at_call 94; refine HD.out.mono ?_; rintro e w1 ⟨rfl, rfl⟩))
  go_ret
  exact ⟨rfl, rfl⟩

set_option maxHeartbeats 1000000 in
set_option maxRecDepth 100000 in
theorem alloc_calls (p : Value) (n : Nat) (h : n ≤ 1099511627776) (w : World) : Calls Try.prog 148 #[p, .int .i64 (n : Int)] w fun e w' => e = .returned (.slice (some ⟨w.heap.size, 0, none⟩) n n) ∧ w' = w.alloc (zeros n) := by
  have hmk := make_bytes n h
  go_enter Try.func148, Try.ntmps148
  go_wp2
  go_ret
  exact ⟨rfl, rfl⟩

/-- Bytes in a block of their own. -/
def Row (w : World) (D : Nat) (l : List Int) : Prop := w.heap[D]? = some (.cells (l.map (Value.int .u8)).toArray 5 (0, 0))
theorem row_zeros (w : World) (n : Nat) : Row (w.alloc (zeros n)) w.heap.size (List.replicate n 0) := blk_new w _
theorem Row.cell {w : World} {D : Nat} {l : List Int} (h : Row w D l) (j : Nat) (hj : j < l.length) : w.cell? ⟨D, j, none⟩ = some (.int .u8 (l.getD j 0)) := by
  rw [blk_cell h j]; simp [hj]
theorem Row.lt {w : World} {D : Nat} {l : List Int} (h : Row w D l) : D < w.heap.size := blk_lt h

/-- 'copy' into a row that is known. -/
theorem copy_bytes (w : World) (g o dLen dCap : Nat) (a : Addr) (sLen sCap : Nat) (cur cs : List Int) (hg : Row w g cur) (hn : cs.length = Nat.min sLen dLen)
    (hsrc : ∀ j, j < cs.length → w.cell? (a.add j) = some (.int .u8 (cs.getD j 0))) (hfit : o + cs.length ≤ cur.length) :
    ∃ w3, (Builtin.copy_ #[23, 23] 3 #[.slice (some ⟨g, o, none⟩) dLen dCap, .slice (some a) sLen sCap]).run Try.prog w = .ok (.int .i64 (cs.length : Int)) w3 ∧
      Row w3 g (cur.take o ++ cs ++ cur.drop (o + cs.length)) ∧ w3.heap.size = w.heap.size ∧ (∀ k, k ≠ g → w3.heap[k]? = w.heap[k]?) ∧ Below g w w3 := by
  have hr := run_copy_row (P := Try.prog) w 23 23 3 5 g o dLen dCap a sLen sCap (cur.map (Value.int .u8)).toArray 5 (cs.map (Value.int .u8)) Try.underlying23 (by kernel_rfl) hg (by simpa using hn)
    (fun j v hv => by
      have hj : j < cs.length := by
        have := (List.getElem?_eq_some_iff.1 hv).1
        simpa using this
      rw [hsrc j hj]
      simp [hj] at hv
      simp [hj, hv]) (by simpa using hfit) (by simp [Value.oneCell'])
  refine ⟨_, by simpa [goInt] using hr, ?_, by simp, fun k hk => setRow_other w g k _ hk, below_setRow (Below.refl _ _) (Nat.le_refl _) _⟩
  have := setRow_heap w g _ ((cur.map (Value.int .u8)).take o ++ cs.map (Value.int .u8) ++ (cur.map (Value.int .u8)).drop (o + (cs.map (Value.int .u8)).length)).toArray 5 _ hg
  unfold Row
  simpa using this

set_option maxHeartbeats 1000000 in
set_option maxRecDepth 100000 in
theorem realloc_calls (p : Value) (n D : Nat) (l : List Int) (h : n ≤ 1099511627776) (w : World) (hr : Row w D l) (hn : l.length < n) :
    Calls Try.prog 150 #[p, .int .i64 (n : Int), .slice (some ⟨D, 0, none⟩) l.length l.length] w fun e w' => e = .returned (.slice (some ⟨w.heap.size, 0, none⟩) n n) ∧
      Row w' w.heap.size (l ++ List.replicate (n - l.length) 0) ∧ Below w.heap.size w w' ∧ w.heap.size < w'.heap.size := by
  have HC := Aside0.mk (alloc_calls p n h w)
  have hD := hr.lt
  have hr1 : Row (w.alloc (zeros n)) D l := blk_alloc hr (zeros n)
  have hz := row_zeros w n
  have hb : Below w.heap.size w (w.alloc (zeros n)) := below_alloc (Below.refl _ _) _
  have hs : w.heap.size < (w.alloc (zeros n)).heap.size := by simp
  have hd : decide ((l.length : Int) ≥ (n : Int)) = false := by simp; omega
  generalize hw1 : w.alloc (zeros n) = w1 at HC hr1 hz hb hs
  obtain ⟨w3, hcp, e1, e2, e3, e4⟩ := copy_bytes w1 w.heap.size 0 n n ⟨D, 0, none⟩ l.length l.length (List.replicate n 0) l hz (by show _ = min _ _; omega) (fun j hj => by
    have : (⟨D, 0, none⟩ : Addr).add j = ⟨D, j, none⟩ := by simp [Addr.add]; omega
    rw [this]; exact hr1.cell j hj) (by simp; omega)
  have HE := Aside0.mk (show Row w3 w.heap.size (l ++ List.replicate (n - l.length) 0) by simpa using e1)
  have HB := Aside0.mk (hb.trans e4)
  have HS := Aside0.mk (show w.heap.size < w3.heap.size by omega)
  clear hr1 hz hb hs hw1 hr e1 e2 e3 e4
  go_enter Try.func150, Try.ntmps150
  go_wp2_with (go_at_call 148; refine HC.out.mono ?_; rintro e w2 ⟨rfl, rfl⟩)
  go_ret
  exact ⟨rfl, HE.out, HB.out, HS.out⟩
theorem and_m64 (m : Nat) (h : m < 2 ^ 64) : m &&& (2 ^ 64 - 64) = m / 64 * 64 := by
  have e1 : (2 ^ 64 - 64 : Nat) = (2 ^ 58 - 1) <<< 6 := by decide
  have e2 : m / 64 * 64 = (m >>> 6) <<< 6 := by rw [Nat.shiftLeft_eq, Nat.shiftRight_eq_div_pow]
  rw [e1, e2]
  apply Nat.eq_of_testBit_eq
  intro i
  rw [Nat.testBit_and, Nat.testBit_shiftLeft, Nat.testBit_shiftLeft, Nat.testBit_two_pow_sub_one, Nat.testBit_shiftRight]
  by_cases c : 6 ≤ i
  · have e : 6 + (i - 6) = i := by omega
    rw [e]
    by_cases c2 : i - 6 < 58
    · simp [c, c2]
    · have : m.testBit i = false := Nat.testBit_lt_two_pow (Nat.lt_of_lt_of_le h (Nat.pow_le_pow_right (by decide) (by omega)))
      simp [this]
  · simp [c]
theorem round_of (n : Nat) (h : n ≤ 1099511627776) : ∃ m : Nat, memory_roundUpToMultipleOf64.f (n : Int) = some (m : Int) ∧ n ≤ m ∧ m < n + 64 := by
  have hb : bits .xor .i64 (-1) (wrap64 (64 - 1)) = -64 := by kernel_rfl
  have hw : wrap64 ((n : Int) + wrap64 (64 - 1)) = ((n + 63 : Nat) : Int) := by unfold wrap64; omega
  have ha : bits .and .i64 ((n + 63 : Nat) : Int) (-64) = (((n + 63) / 64 * 64 : Nat) : Int) := by
    have e : (BitVec.ofInt 64 ((n + 63 : Nat) : Int) &&& BitVec.ofInt 64 (-64)).toNat = (n + 63) / 64 * 64 := by
      rw [BitVec.toNat_and, BitVec.ofInt_natCast, BitVec.toNat_ofNat, Nat.mod_eq_of_lt (by omega)]
      exact and_m64 _ (by omega)
    show IntKind.i64.wrap ((BitVec.ofInt 64 ((n + 63 : Nat) : Int) &&& BitVec.ofInt 64 (-64)).toNat : Int) = _
    rw [e, IntKind.wrap_i64]; omega
  refine ⟨(n + 63) / 64 * 64, ?_, by omega, by omega⟩
  show (memory_roundToPowerOf2.f (n : Int) 64).bind _ = _
  unfold memory_roundToPowerOf2.f
  rw [hb, hw, ha]
  rfl

/-- A buffer, with bytes of its own. -/
def IsBuf (w : World) (B D : Nat) (l : List Int) (n : Int) (G : Nat) : Prop := w.heap[B]? = some (bufO (.slice (some ⟨D, 0, none⟩) l.length l.length) n G) ∧ Row w D l
set_option maxHeartbeats 1000000 in
theorem roundp_calls (a0 a1 r : Int) (w : World) (h : memory_roundToPowerOf2.f a0 a1 = some r) :
    Calls Try.prog 110 #[.int .i64 a0, .int .i64 a1] w fun e w' => e = .returned (.int .i64 r) ∧ w' = w := by
  have H : (some (Go.bits .and .i64 (wrap64 (a0 + (wrap64 (a1 - 1)))) (Go.bits .xor .i64 (-1) (wrap64 (a1 - 1))))) = some r := h
  clear h
  obtain rfl := Option.some.inj H
  go_enter Try.func110, Try.ntmps110
  go_wp2
  go_ret
  exact ⟨rfl, rfl⟩
set_option maxHeartbeats 1000000 in
theorem round_calls (n m : Int) (w : World) (h : memory_roundUpToMultipleOf64.f n = some m) :
    Calls Try.prog 97 #[.int .i64 n] w fun e w' => e = .returned (.int .i64 m) ∧ w' = w := by
  have HC := Aside0.mk (roundp_calls n 64 m w (by unfold memory_roundUpToMultipleOf64.f at h; cases hh : memory_roundToPowerOf2.f n 64 with | none => rw [hh] at h; exact absurd h (by simp) | some v => rw [hh] at h; exact h))
  clear h
  go_enter Try.func97, Try.ntmps97
  go_wp2_with (go_at_call 110; refine HC.out.mono ?_; rintro e w1 ⟨rfl, rfl⟩)
  go_ret
  exact ⟨rfl, rfl⟩
theorem kept_alloc (w : World) (o : Obj) (S : Nat → Prop) : Kept w (w.alloc o) S := (Kept.refl w S).alloc o
set_option maxHeartbeats 1000000 in
set_option maxRecDepth 100000 in
theorem reserve_first (B n G : Nat) (h : n ≤ 1073741824) (w : World) (hn : 0 < n) (hB : w.heap[B]? = some (bufO (.slice none 0 0) 0 G)) :
    Calls Try.prog 80 #[.pointer (some ⟨B, 0, none⟩), .int .i64 (n : Int)] w fun e w' => e = .returned (.tuple #[]) ∧ ∃ m, n ≤ m ∧ m < n + 64 ∧ IsBuf w' B w.heap.size (List.replicate m 0) 0 G ∧
      Kept w w' (fun k => k = B) ∧ Below B w w' := by
  obtain ⟨m, hm, h1, h2⟩ := round_of n (by omega)
  have HM := Aside0.mk (round_calls (n : Int) (m : Int) w hm)
  have r1 : w.cell? ⟨B, 1, none⟩ = some (.slice none 0 0) := (blk_cell hB 1).trans rfl
  have r4 : w.cell? ⟨B, 4, none⟩ = some (.iface 167 (.pointer (some ⟨G, 0, none⟩))) := (blk_cell hB 4).trans rfl
  have hc := fun (p : Value) => alloc_calls p m (by omega) w
  have hd : decide ((n : Int) > 0) = true := by simp; omega
  have hB2 := blk_alloc hB (zeros m)
  have hz := row_zeros w m
  have hk := kept_alloc w (zeros m) (fun k => k = B)
  have hb : Below B w (w.alloc (zeros m)) := (below_alloc (Below.refl _ _) _).mono (Nat.le_of_lt (blk_lt hB))
  have HL := Aside0.mk (blk_lt hB)
  generalize w.alloc (zeros m) = w2 at hc hB2 hz hk hb
  have HC := Aside0.mk hc
  have HB2 := Aside0.mk hB2
  have HZ := Aside0.mk hz
  have HK := Aside0.mk hk
  have HBB := Aside0.mk hb
  have s1 : w2.cell? ⟨B, 1, none⟩ = some (.slice none 0 0) := (blk_cell hB2 1).trans rfl
  have z1 : w2.frozen? ⟨B, 1, none⟩ = false := blk_frozen hB2 1
  clear hB hm hc hB2 hz hk hb
  go_enter Try.func80, Try.ntmps80
  go_wp2_with (first | (go_at_call 97; refine HM.out.mono ?_; rintro e w1 ⟨rfl, hw1⟩; subst w1) | (go_at_call 148; refine (HC.out _).mono ?_; rintro e w1 ⟨rfl, hw1⟩; subst w1))
  go_end0
  refine ⟨rfl, m, h1, h2, ⟨?_, ?_⟩, ?_, ?_⟩
  · have := blk_set HB2.out 1 (.slice (some ⟨w.heap.size, 0, none⟩) m m)
    rw [List.length_replicate]
    exact this
  · exact blk_far HZ.out (p := ⟨B, 1, none⟩) (by show w.heap.size ≠ B; have := HL.out; omega) _
  · exact HK.out.setCell (.inl rfl) _
  · exact Below.setCell (p := ⟨B, 1, none⟩) HBB.out (Nat.le_refl _) _

set_option maxHeartbeats 1000000 in
set_option maxRecDepth 100000 in
theorem reserve_same (B D n : Nat) (l : List Int) (q : Int) (G : Nat) (h : n ≤ 1073741824) (hll : l.length ≤ 1073741824) (w : World) (hn : n ≤ l.length) (hB : IsBuf w B D l q G) :
    Calls Try.prog 80 #[.pointer (some ⟨B, 0, none⟩), .int .i64 (n : Int)] w fun e w' => e = .returned (.tuple #[]) ∧ w' = w := by
  have r1 : w.cell? ⟨B, 1, none⟩ = some (.slice (some ⟨D, 0, none⟩) l.length l.length) := (blk_cell hB.1 1).trans rfl
  have hd : decide ((n : Int) > (l.length : Int)) = false := by simp; omega
  go_enter Try.func80, Try.ntmps80
  go_wp2
  go_end0
  exact ⟨rfl, rfl⟩
set_option maxHeartbeats 4000000 in
set_option maxRecDepth 100000 in
theorem reserve_grow (B D n : Nat) (l : List Int) (q : Int) (G : Nat) (h : n ≤ 1073741824) (w : World) (hl : 0 < l.length) (hn : l.length < n) (hB : IsBuf w B D l q G) :
    Calls Try.prog 80 #[.pointer (some ⟨B, 0, none⟩), .int .i64 (n : Int)] w fun e w' => e = .returned (.tuple #[]) ∧ ∃ m, n ≤ m ∧ m < n + 64 ∧ IsBuf w' B w.heap.size (l ++ List.replicate (m - l.length) 0) q G ∧
      Kept w w' (fun k => k = B) ∧ Below B w w' := by
  obtain ⟨m, hm, h1, h2⟩ := round_of n (by omega)
  have HM := Aside0.mk (round_calls (n : Int) (m : Int) w hm)
  have r1 : w.cell? ⟨B, 1, none⟩ = some (.slice (some ⟨D, 0, none⟩) l.length l.length) := (blk_cell hB.1 1).trans rfl
  have r4 : w.cell? ⟨B, 4, none⟩ = some (.iface 167 (.pointer (some ⟨G, 0, none⟩))) := (blk_cell hB.1 4).trans rfl
  have hd : decide ((n : Int) > (l.length : Int)) = true := by simp; omega
  have hd2 : decide ((l.length : Int) = 0) = false := by simp; intro e; rw [e] at hl; simp at hl
  have HL := Aside0.mk (blk_lt hB.1)
  have HC := Aside0.mk (fun (p : Value) W (hr : Row W D l) => realloc_calls p m D l (by omega) W hr (by omega))
  have HB := Aside0.mk hB
  clear hB hm
  go_enter Try.func80, Try.ntmps80
  go_wp2_with (go_at_call 97; refine HM.out.mono ?_; rintro e w1 ⟨rfl, hw1⟩; subst w1)
  go_region_with (go_at_call 150; refine (HC.out _ w.drew HB.out.2).mono ?_; rintro e w2 ⟨rfl, e1, e2, e3⟩; have hb2 := (e2.block B HL.out).trans HB.out.1; have s1 : w2.cell? ⟨B, 1, none⟩ = some (.slice (some ⟨D, 0, none⟩) l.length l.length) := (blk_cell hb2 1).trans rfl; have z1 : w2.frozen? ⟨B, 1, none⟩ = false := blk_frozen hb2 1; have E1 := Aside0.mk e1; have E2 := Aside0.mk e2; have HB2 := Aside0.mk hb2; clear e1 e2 e3 hb2)
  all_goals
    go_end0
    refine ⟨rfl, m, h1, h2, ⟨?_, ?_⟩, ?_, ?_⟩
    · have := blk_set HB2.out 1 (.slice (some ⟨w.heap.size, 0, none⟩) m m)
      rw [show (l ++ List.replicate (m - l.length) (0 : Int)).length = m by simp; omega]
      exact this
    · exact blk_far E1.out (p := ⟨B, 1, none⟩) (by show w.heap.size ≠ B; have := HL.out; omega) _
    · exact (Kept.of_below (w := w) (show Below w.heap.size w w2 from (below_drew (Below.refl _ w)).trans E2.out) (fun k => k = B)).setCell (.inl rfl) _
    · exact Below.setCell (p := ⟨B, 1, none⟩) (((below_drew (Below.refl _ w)).trans E2.out).mono (Nat.le_of_lt HL.out)) (Nat.le_refl _) _
end Go.Proofs.Ytcfnniminikmfaa.Q
