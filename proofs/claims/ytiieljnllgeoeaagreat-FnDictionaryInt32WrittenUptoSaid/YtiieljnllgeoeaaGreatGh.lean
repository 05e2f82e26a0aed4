/- The encoder by a dictionary: its objects, its sizes. -/
import Derived.Test.YtiieljnllgeoeaaGreatGg
import Derived.Test.YtiieljnllgeoeaaGreatHa
namespace Go.Proofs.YtiieljnllgeoeaaGreat.Q
open Go.RowKit Go.Proofs.YtiieljnllgeoeaaGreatW.PrintWords Go.Proofs.YtiieljnllgeoeaaGreatW.PrintLast Go.Proofs.YtiieljnllgeoeaaGreatW.PrintMore
set_option linter.unusedVariables false
set_option linter.unusedSimpArgs false
/-- The entries' cells. -/
def entL (es : List Ent) : List Value := es.flatMap fun e => [.int .u64 (e.h : Int), .int .i32 e.val, .int .i32 e.idx]
def tabL (cap mask n M len : Nat) : Array Value := #[.int .u64 (cap : Int), .int .u64 (mask : Int), .int .u64 (n : Int), .slice (some ⟨M, 0, none⟩) len len]
/-- A table of hashes. -/
structure Tab (w : World) (lo H M : Nat) (es : List Ent) (n : Nat) : Prop where
 h : w.heap[H]? = some (.cells (tabL es.length (es.length - 1) n M es.length) 150 (0, 0))
 m : w.heap[M]? = some (.cells (entL es).toArray 247 (0, 0))
 lh : lo ≤ H
 lm : lo ≤ M
/-- A memo: a table, and no null. -/
structure Mm (w : World) (lo T H M : Nat) (es : List Ent) (n : Nat) : Prop where
 t : w.heap[T]? = some (.cells #[.pointer (some ⟨H, 0, none⟩), .int .i32 (-1)] 122 (0, 0))
 lt : lo ≤ T
 tab : Tab w lo H M es n
theorem Mm.drewN {w : World} {lo T H M : Nat} {es : List Ent} {n : Nat} (h : Mm w lo T H M es n) (k : Nat) : Mm (w.drewN k) lo T H M es n := ⟨h.t, h.lt, ⟨h.tab.h, h.tab.m, h.tab.lh, h.tab.lm⟩⟩
set_option maxHeartbeats 1000000 in
set_option maxRecDepth 100000 in
theorem getnull_calls (T H : Nat) (w : World) (h : w.heap[T]? = some (.cells #[.pointer (some ⟨H, 0, none⟩), .int .i32 (-1)] 122 (0, 0))) :
  Calls Tryz.prog 143 #[.pointer (some ⟨T, 0, none⟩)] w fun e w' => e = .returned (.tuple #[.int .i64 (-1), .bool false]) ∧ ∃ m, w' = w.drewN m := by
 have r1 : w.cell? ⟨T, 1, none⟩ = some (.int .i32 (-1)) := (blk_cell h 1).trans rfl
 clear h
 go_enter Tryz.func143, Tryz.ntmps143
 go_wp2
 go_quiet (fail)
 go_wp2
 go_ret2
 exact ⟨rfl, _, rfl⟩
theorem i64n (n : Nat) (h : n < 4000000000000) : IntKind.i64.wrap (n : Int) = (n : Int) := by rw [IntKind.wrap_i64]; omega
theorem w64n (n : Nat) (h : n < 4000000000000) : wrap64 (n : Int) = (n : Int) := by unfold wrap64; omega
set_option maxHeartbeats 1000000 in
set_option maxRecDepth 100000 in
theorem size_calls {w : World} {lo T H M : Nat} {es : List Ent} {n : Nat} (h : Mm w lo T H M es n) (hn : n < 1000000) :
  Calls Tryz.prog 136 #[.pointer (some ⟨T, 0, none⟩)] w fun e w' => e = .returned (.int .i64 (n : Int)) ∧ ∃ m, w' = w.drewN m := by
 have r0 : w.cell? ⟨T, 0, none⟩ = some (.pointer (some ⟨H, 0, none⟩)) := (blk_cell h.t 0).trans rfl
 have q2 : w.cell? ⟨H, 2, none⟩ = some (.int .u64 (n : Int)) := (blk_cell h.tab.h 2).trans rfl
 have HG := Aside0.mk (getnull_calls T H w h.t)
 have hw := i64n n (by omega)
 have hw2 := w64n n (by omega)
 clear h hn
 go_enter Tryz.func136, Tryz.ntmps136
 go_wp2_with (first | (go_at_call 143; go_loud (with_reducible refine HG.out.mono ?_; rintro e w1 ⟨rfl, m, rfl⟩)))
 go_ret
 exact ⟨rfl, _, rfl⟩
/-- The encoder's cells. -/
def encL (S T : Nat) (ds : Int) (iv : Value) (raw : Int) : Array Value := #[.iface 50 (.agg #[]), .pointer (some ⟨S, 0, none⟩), .int .i64 0, .int .i64 ds, iv, .iface 86 (.pointer (some ⟨T, 0, none⟩)), .bool false, .slice none 0 0, .slice none 0 0, .int .i64 raw, .nilIface]
structure Dc (w : World) (lo E T H M : Nat) (es : List Ent) (n : Nat) (S : Nat) (ds : Int) (iv : Value) (raw : Int) : Prop where
 e : w.heap[E]? = some (.cells (encL S T ds iv raw) 67 (0, 0))
 le : lo ≤ E
 mm : Mm w lo T H M es n
theorem Dc.drewN {w : World} {lo E T H M : Nat} {es : List Ent} {n S : Nat} {ds : Int} {iv : Value} {raw : Int} (h : Dc w lo E T H M es n S ds iv raw) (k : Nat) : Dc (w.drewN k) lo E T H M es n S ds iv raw := ⟨h.e, h.le, h.mm.drewN k⟩
set_option maxHeartbeats 1000000 in
set_option maxRecDepth 100000 in
theorem entries_calls {w : World} {lo E T H M : Nat} {es : List Ent} {n S : Nat} {ds : Int} {iv : Value} {raw : Int} (h : Dc w lo E T H M es n S ds iv raw) (hn : n < 1000000) :
  Calls Tryz.prog 19 #[.pointer (some ⟨E, 0, none⟩)] w fun e w' => e = .returned (.int .i64 (n : Int)) ∧ ∃ m, w' = w.drewN m := by
 have r5 : w.cell? ⟨E, 5, none⟩ = some (.iface 86 (.pointer (some ⟨T, 0, none⟩))) := (blk_cell h.e 5).trans rfl
 have HS := Aside0.mk (size_calls h.mm hn)
 clear h
 go_enter Tryz.func19, Tryz.ntmps19
 go_wp2_with (first | (go_at_call 136; go_loud (with_reducible refine HS.out.mono ?_; rintro e w1 ⟨rfl, m, rfl⟩)))
 go_ret
 exact ⟨rfl, _, rfl⟩
set_option maxHeartbeats 1000000 in
set_option maxRecDepth 100000 in
theorem len32_00 (x : Int) (w : World) (h0 : 0 ≤ x) (c2 : ¬ 256 ≤ x) :
  Calls Tryz.prog 76 #[.int .u32 x] w fun e w' => e = .returned (.int .i64 (Lib.bitLen x.toNat)) ∧ w' = w := by
 have q : ∀ W : World, (Instr.index 9 (.string Lib.len8tab) (.int .u8 (x))).run Tryz.prog W = .ok (.int .u8 (Lib.len8 (x))) W := fun W => Lib.run_index_len8tab (P := Tryz.prog) W 9 .u8 (x) Tryz.underlying9 (by omega) (by omega)
 have HE := Aside0.mk (len64_end x (x) 0 h0 (by omega) (by omega) 1 (by decide) (by omega) (by omega) (.inl rfl))
 have g1 : decide (x ≥ 65536) = false := decide_eq_false (by omega)
 have g2 : decide (x ≥ 256) = false := decide_eq_false (by omega)
 have hu : IntKind.u8.wrap (x) = x := by simp [IntKind.wrap, IntKind.bits, IntKind.signed]; omega
 clear c2
 go_enter Tryz.func76, Tryz.ntmps76
 go_wp2
 go_ret
 exact ⟨congrArg Ending.returned (congrArg (Value.int IntKind.i64) (by have := HE.out; rwa [show ((0 : Nat) : Int) + wrap64 (Lib.len8 x) = wrap64 (Lib.len8 x) by omega] at this)), rfl⟩
set_option maxHeartbeats 1000000 in
set_option maxRecDepth 100000 in
theorem len32_01 (x : Int) (w : World) (h0 : 256 ≤ x) (c1 : ¬ 65536 ≤ x) :
  Calls Tryz.prog 76 #[.int .u32 x] w fun e w' => e = .returned (.int .i64 (Lib.bitLen x.toNat)) ∧ w' = w := by
 have q : ∀ W : World, (Instr.index 9 (.string Lib.len8tab) (.int .u8 (x / 256))).run Tryz.prog W = .ok (.int .u8 (Lib.len8 (x / 256))) W := fun W => Lib.run_index_len8tab (P := Tryz.prog) W 9 .u8 (x / 256) Tryz.underlying9 (by omega) (by omega)
 have HE := Aside0.mk (len64_end x (x / 256) 8 (by omega) (by omega) (by omega) 256 (by decide) (by omega) (by omega) (.inr (by omega)))
 have g1 : decide (x ≥ 65536) = false := decide_eq_false (by omega)
 have g2 : decide (x ≥ 256) = true := decide_eq_true (by omega)
 have hu : IntKind.u8.wrap (x / 256) = x / 256 := by simp [IntKind.wrap, IntKind.bits, IntKind.signed]; omega
 clear c1
 go_enter Tryz.func76, Tryz.ntmps76
 go_wp2
 go_ret
 exact ⟨congrArg Ending.returned (congrArg (Value.int IntKind.i64) HE.out), rfl⟩
theorem len32_calls (x : Nat) (w : World) (h : x < 65536) : Calls Tryz.prog 76 #[.int .u32 (x : Int)] w fun e w' => e = .returned (.int .i64 ((Lib.bitLen x : Nat) : Int)) ∧ w' = w := by
 by_cases c : 256 ≤ (x : Int)
 ·exact len32_01 (x : Int) w c (by omega)
 ·exact len32_00 (x : Int) w (by omega) c
set_option maxHeartbeats 1000000 in
set_option maxRecDepth 100000 in
theorem lens_calls (x : Nat) (w : World) (h1 : x ≤ 16777215) :
  Calls Tryz.prog 72 #[.int .u64 (x : Int)] w fun e w' => e = .returned (.int .i64 ((Lib.bitLen x : Nat) : Int)) ∧ w' = w := by
 have HC := Aside0.mk (len64_calls (x : Int) w (by omega) (by omega))
 rw [Int.toNat_natCast] at HC
 go_enter Tryz.func72, Tryz.ntmps72
 go_wp2_with (go_at_call 90; refine HC.out.mono ?_; rintro e w1 ⟨rfl, rfl⟩)
 go_ret
 exact ⟨rfl, rfl⟩
set_option maxHeartbeats 2000000 in
set_option maxRecDepth 100000 in
/-- The next power of two, told exactly. -/
theorem pow2e_calls (x : Nat) (w : World) (h1 : x ≤ 16777215) : Calls Tryz.prog 52 #[.int .i64 (x : Int)] w fun e w' => e = .returned (.int .i64 ((2 ^ Lib.bitLen x : Nat) : Int)) ∧ w' = w := by
 have a3 := Lib.bitLen_le x 24 (by decide) (by omega)
 have HC := Aside0.mk (lens_calls x w h1)
 have b0 : (0 : Int) ≤ (Lib.bitLen x : Int) := by omega
 have b1 : (Lib.bitLen x : Int) ≤ 24 := by omega
 have hp : 2 ^ Lib.bitLen x ≤ 2 ^ 24 := Nat.pow_le_pow_right (by omega) a3
 have HP := Aside0.mk hp
 clear hp a3
 generalize Lib.bitLen x = L at HC b0 b1 HP ⊢
 go_enter Tryz.func52, Tryz.ntmps52
 go_wp2_with (go_at_call 72; refine HC.out.mono ?_; rintro e w' ⟨rfl, rfl⟩)
 go_ret
 have e : wrap64 ((2 : Int) ^ L) = ((2 ^ L : Nat) : Int) := by
  have := HP.out
  rw [show ((2 : Int) ^ L) = ((2 ^ L : Nat) : Int) by simp]
  generalize (2 : Nat) ^ L = y at this ⊢
  exact w64n y (by omega)
 exact ⟨congrArg Ending.returned (congrArg (Value.int .i64) e), rfl⟩
/-- The bits of a number among so many. -/
def wdof (n : Nat) : Nat := if n = 1 then 1 else Lib.bitLen (n - 1)
theorem wdof_b (n : Nat) (h0 : 0 < n) (h : n ≤ 1000) : 1 ≤ wdof n ∧ wdof n ≤ 10 ∧ n ≤ 2 ^ wdof n := by
 unfold wdof
 by_cases c : n = 1
 ·subst c; decide
 ·rw [if_neg c]
  have h1 := bitLen_lt (n - 1) (by omega)
  have h2 := Lib.bitLen_le (n - 1) 10 (by decide) (by omega)
  refine ⟨?_, h2, by omega⟩
  rcases Nat.eq_zero_or_pos (Lib.bitLen (n - 1)) with q | q
  ·rw [q] at h1; omega
  ·exact q
set_option maxHeartbeats 2000000 in
set_option maxRecDepth 100000 in
theorem bwid_calls {w : World} {lo E T H M : Nat} {es : List Ent} {n S : Nat} {ds : Int} {iv : Value} {raw : Int} (h : Dc w lo E T H M es n S ds iv raw) (h0 : 0 < n) (hn : n ≤ 1000) :
  Calls Tryz.prog 58 #[.pointer (some ⟨E, 0, none⟩)] w fun e w' => e = .returned (.int .i64 ((wdof n : Nat) : Int)) ∧ ∃ m, w' = w.drewN m := by
 have HE := Aside0.mk (fun k => entries_calls (h.drewN k) (by omega))
 have HE0 := Aside0.mk (entries_calls h (by omega))
 have q0 : ((n : Int) == 0) = false := beq_eq_false_iff_ne.mpr (by omega)
 have q1 : decide ((n : Int) = 0) = false := decide_eq_false (by omega)
 by_cases c : n = 1
 ·subst c
  clear h hn h0
  go_enter Tryz.func58, Tryz.ntmps58
  go_wp2_with (first | (go_at_call 19; refine HE0.out.mono ?_; rintro e w1 ⟨he, m, rfl⟩; (have he : e = .returned (.int .i64 1) := he); subst he))
  go_ret
  exact ⟨rfl, _, rfl⟩
 ·have q2 : ((n : Int) == 1) = false := beq_eq_false_iff_ne.mpr (by omega)
  have q3 : decide ((n : Int) = 1) = false := decide_eq_false (by omega)
  obtain ⟨k, rfl⟩ : ∃ k, n = k + 1 := ⟨n - 1, by omega⟩
  have hw : wdof (k + 1) = Lib.bitLen k := by unfold wdof; rw [if_neg c]; rfl
  rw [hw]
  have s1 : wrap64 (((k + 1 : Nat) : Int) - 1) = (k : Int) := by unfold wrap64; omega
  have s2 : IntKind.i64.wrap (((k + 1 : Nat) : Int) - 1) = (k : Int) := by rw [IntKind.wrap_i64]; omega
  have s3 : IntKind.u32.wrap (k : Int) = (k : Int) := by simp [IntKind.wrap, IntKind.bits, IntKind.signed]; omega
  have HL := Aside0.mk (fun W => len32_calls k W (by omega))
  clear h hn h0 c hw
  generalize k + 1 = k1 at HE HE0 q0 q1 q2 q3 s1 s2
  go_enter Tryz.func58, Tryz.ntmps58
  go_wp2_with (first | (go_at_call 19; (first | with_reducible refine HE0.out.mono ?_ | with_reducible refine (HE.out _).mono ?_); rintro e w1 ⟨rfl, m, rfl⟩) | (go_at_call 76; go_loud (with_reducible refine (HL.out _).mono ?_; rintro e w1 ⟨rfl, rfl⟩)))
  go_ret
  exact ⟨rfl, _, rfl⟩
end Go.Proofs.YtiieljnllgeoeaaGreat.Q
