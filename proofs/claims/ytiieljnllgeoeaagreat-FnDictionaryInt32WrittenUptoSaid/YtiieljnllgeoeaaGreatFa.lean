/- math/bits.Len64, Len and bitutil.NextPowerOf2, walked. -/
import Derived.Test.YtiieljnllgeoeaaGreatProg
import Derived.Below
import Derived.Deep.Draws
import Derived.Deep.AppendLies
import Derived.Maps.AppendAt
import Derived.OwnWalk
import Derived.Laws.BytesArg
import Derived.Laws.MakeOwn
import Derived.Laws.OwnMore
import Derived.Deep.OwnRows
import Derived.Tactics
import Derived.Lib.ConvBytes
import Derived.Laws.Slices
import Derived.WalkKit
import Derived.KernelRfl
import Derived.RowKit3
import Derived.Deep.LoopGhost
import Derived.Deep.QuietTactic
import Derived.BigQuiet
import Derived.WideLaws
import Derived.Deep.DeepCutAuto
import Derived.Deep.CutBlock
import Derived.Deep.RegionHeld3
import Derived.Laws.Rows
import Derived.Lib.AppendStr
import Derived.ArgAppend
import Derived.Laws.IdiomCopy
import Derived.OrdersHeld
import Derived.Laws.BitsLemmas
import Derived.RowKit
import Derived.Test.YtiieljnllgeoeaaGreatV
import Derived.Laws.Externs
import Derived.Laws.FloatArith
import Derived.Handy
import Derived.Recover
import Derived.Defers
import Derived.StillTailTactics
import Derived.Deep.RegionLaw
import Derived.Lib.Strings
import Derived.Lib.Slices
import Derived.Lib.Small
import Derived.Lib.Walk
import Derived.Lib.BitFns
namespace Go.Proofs.YtiieljnllgeoeaaGreat.Q
open Go.RowKit Go.Proofs.YtiieljnllgeoeaaGreatW.PrintWords Go.Proofs.YtiieljnllgeoeaaGreatW.PrintLast Go.Proofs.YtiieljnllgeoeaaGreatW.PrintMore
set_option linter.unusedVariables false
set_option linter.unusedSimpArgs false
theorem bitLen_lt (x : Nat) (h : x < 2 ^ 64) : x < 2 ^ Lib.bitLen x := by
 induction x using Nat.strongRecOn with
 | _ x ih =>
  rcases Nat.eq_zero_or_pos x with rfl | hp
  ·exact Nat.two_pow_pos _
  ·rw [Lib.bitLen_half x (by omega) h, Nat.pow_add]
   have := ih (x / 2) (by omega) (by omega)
   omega
theorem bitLen_up (x : Nat) (hp : 0 < x) (h : x < 2 ^ 64) : 2 ^ Lib.bitLen x ≤ 2 * x := by
 induction x using Nat.strongRecOn with
 | _ x ih =>
  rw [Lib.bitLen_half x (by omega) h, Nat.pow_add]
  rcases Nat.eq_zero_or_pos (x / 2) with e | hq
  ·rw [e]; have e0 : Lib.bitLen 0 = 0 := by decide
   rw [e0]; omega
  ·have := ih (x / 2) (by omega) hq (by omega)
   omega

set_option maxRecDepth 100000 in
theorem fold_tab : ({ data := (([0, 1, 2, 2, 3, 3, 3, 3, 4, 4, 4, 4, 4, 4, 4, 4, 5, 5, 5, 5, 5, 5, 5, 5, 5, 5, 5, 5, 5, 5, 5, 5, 6, 6, 6, 6, 6, 6, 6, 6, 6, 6, 6, 6, 6, 6, 6, 6, 6, 6, 6, 6, 6, 6, 6, 6, 6, 6, 6, 6, 6, 6, 6, 6].append [7, 7, 7, 7, 7, 7, 7, 7, 7, 7, 7, 7, 7, 7, 7, 7, 7, 7, 7, 7, 7, 7, 7, 7, 7, 7, 7, 7, 7, 7, 7, 7, 7, 7, 7, 7, 7, 7, 7, 7, 7, 7, 7, 7, 7, 7, 7, 7, 7, 7, 7, 7, 7, 7, 7, 7, 7, 7, 7, 7, 7, 7, 7, 7]).append ([8, 8, 8, 8, 8, 8, 8, 8, 8, 8, 8, 8, 8, 8, 8, 8, 8, 8, 8, 8, 8, 8, 8, 8, 8, 8, 8, 8, 8, 8, 8, 8, 8, 8, 8, 8, 8, 8, 8, 8, 8, 8, 8, 8, 8, 8, 8, 8, 8, 8, 8, 8, 8, 8, 8, 8, 8, 8, 8, 8, 8, 8, 8, 8].append [8, 8, 8, 8, 8, 8, 8, 8, 8, 8, 8, 8, 8, 8, 8, 8, 8, 8, 8, 8, 8, 8, 8, 8, 8, 8, 8, 8, 8, 8, 8, 8, 8, 8, 8, 8, 8, 8, 8, 8, 8, 8, 8, 8, 8, 8, 8, 8, 8, 8, 8, 8, 8, 8, 8, 8, 8, 8, 8, 8, 8, 8, 8, 8])).toArray } : ByteArray) = Lib.len8tab := by decide +kernel
attribute [local go_sem high] fold_tab
theorem len64_end (x y : Int) (k : Nat) (h0 : 0 ≤ x) (h1 : x < 18446744073709551616) (hk : k ≤ 56) (K : Int) (hK : K = (2 : Int) ^ k) (hy : y = x / K) (h8 : y < 256) (hl : k = 0 ∨ K ≤ x) : wrap64 ((k : Int) + wrap64 (Lib.len8 y)) = (Lib.bitLen x.toNat : Int) := by
 subst hK
 have hy0 : 0 ≤ y := by rw [hy]; exact Int.ediv_nonneg h0 (by have := Int.pow_pos (n := 2) (m := k) (by decide); omega)
 rw [Lib.len8_of y hy0 (by omega)]
 have l := Lib.bitLen_le8' y hy0 (by omega)
 have hpn : ((2 ^ k : Nat) : Int) = (2 : Int) ^ k := by simp
 have e : y.toNat = x.toNat / 2 ^ k := by
  obtain ⟨n, rfl⟩ : ∃ n : Nat, x = (n : Int) := ⟨x.toNat, by omega⟩
  rw [hy, ← hpn, Int.toNat_natCast, ← Int.natCast_ediv, Int.toNat_natCast]
 have s : Lib.bitLen x.toNat = k + Lib.bitLen y.toNat := by
  rw [e]
  rcases hl with rfl | hl
  ·simp
  ·exact Lib.bitLen_shift k x.toNat (by rw [← hpn] at hl; omega) (by omega)
 rw [s]
 clear s e hpn hl h8 hy hy0 h1 h0
 generalize Lib.bitLen y.toNat = b at l ⊢
 have e1 : wrap64 (b : Int) = (b : Int) := by unfold wrap64; omega
 rw [e1]
 unfold wrap64
 omega
set_option maxHeartbeats 1000000 in
set_option maxRecDepth 100000 in
theorem len64_000 (x : Int) (w : World) (h0 : 0 ≤ x) (h1 : x < 18446744073709551616) (c0 : ¬ 4294967296 ≤ x) (c1 : ¬ 65536 ≤ x) (c2 : ¬ 256 ≤ x) :
  Calls Tryz.prog 90 #[.int .u64 x] w fun e w' => e = .returned (.int .i64 (Lib.bitLen x.toNat)) ∧ w' = w := by
 have q : ∀ W : World, (Instr.index 9 (.string Lib.len8tab) (.int .u8 (x))).run Tryz.prog W = .ok (.int .u8 (Lib.len8 (x))) W := fun W => Lib.run_index_len8tab (P := Tryz.prog) W 9 .u8 (x) Tryz.underlying9 (by omega) (by omega)
 have HE := Aside0.mk (len64_end x (x) 0 h0 h1 (by omega) 1 (by decide) (by omega) (by omega) (.inl rfl))
 have g0 : decide (x ≥ 4294967296) = false := decide_eq_false (by omega)
 have g1 : decide (x ≥ 65536) = false := decide_eq_false (by omega)
 have g2 : decide (x ≥ 256) = false := decide_eq_false (by omega)
 have hu : IntKind.u8.wrap (x) = x := by simp [IntKind.wrap, IntKind.bits, IntKind.signed]; omega
 clear c0 c1 c2
 go_enter Tryz.func90, Tryz.ntmps90
 go_wp2
 go_ret
 exact ⟨congrArg Ending.returned (congrArg (Value.int IntKind.i64) (by have := HE.out; rwa [show ((0 : Nat) : Int) + wrap64 (Lib.len8 x) = wrap64 (Lib.len8 x) by omega] at this)), rfl⟩
set_option maxHeartbeats 1000000 in
set_option maxRecDepth 100000 in
theorem len64_001 (x : Int) (w : World) (h0 : 0 ≤ x) (h1 : x < 18446744073709551616) (c0 : ¬ 4294967296 ≤ x) (c1 : ¬ 65536 ≤ x) (c2 : 256 ≤ x) :
  Calls Tryz.prog 90 #[.int .u64 x] w fun e w' => e = .returned (.int .i64 (Lib.bitLen x.toNat)) ∧ w' = w := by
 have q : ∀ W : World, (Instr.index 9 (.string Lib.len8tab) (.int .u8 (x / 256))).run Tryz.prog W = .ok (.int .u8 (Lib.len8 (x / 256))) W := fun W => Lib.run_index_len8tab (P := Tryz.prog) W 9 .u8 (x / 256) Tryz.underlying9 (by omega) (by omega)
 have HE := Aside0.mk (len64_end x (x / 256) 8 h0 h1 (by omega) 256 (by decide) (by omega) (by omega) (.inr (by omega)))
 have g0 : decide (x ≥ 4294967296) = false := decide_eq_false (by omega)
 have g1 : decide (x ≥ 65536) = false := decide_eq_false (by omega)
 have g2 : decide (x ≥ 256) = true := decide_eq_true (by omega)
 have hu : IntKind.u8.wrap (x / 256) = x / 256 := by simp [IntKind.wrap, IntKind.bits, IntKind.signed]; omega
 clear c0 c1 c2
 go_enter Tryz.func90, Tryz.ntmps90
 go_wp2
 go_ret
 exact ⟨congrArg Ending.returned (congrArg (Value.int IntKind.i64) HE.out), rfl⟩
set_option maxHeartbeats 1000000 in
set_option maxRecDepth 100000 in
theorem len64_010 (x : Int) (w : World) (h0 : 0 ≤ x) (h1 : x < 18446744073709551616) (c0 : ¬ 4294967296 ≤ x) (c1 : 65536 ≤ x) (c2 : ¬ 256 ≤ x / 65536) :
  Calls Tryz.prog 90 #[.int .u64 x] w fun e w' => e = .returned (.int .i64 (Lib.bitLen x.toNat)) ∧ w' = w := by
 have q : ∀ W : World, (Instr.index 9 (.string Lib.len8tab) (.int .u8 (x / 65536))).run Tryz.prog W = .ok (.int .u8 (Lib.len8 (x / 65536))) W := fun W => Lib.run_index_len8tab (P := Tryz.prog) W 9 .u8 (x / 65536) Tryz.underlying9 (by omega) (by omega)
 have HE := Aside0.mk (len64_end x (x / 65536) 16 h0 h1 (by omega) 65536 (by decide) (by omega) (by omega) (.inr (by omega)))
 have g0 : decide (x ≥ 4294967296) = false := decide_eq_false (by omega)
 have g1 : decide (x ≥ 65536) = true := decide_eq_true (by omega)
 have g2 : decide (x / 65536 ≥ 256) = false := decide_eq_false (by omega)
 have hu : IntKind.u8.wrap (x / 65536) = x / 65536 := by simp [IntKind.wrap, IntKind.bits, IntKind.signed]; omega
 clear c0 c1 c2
 go_enter Tryz.func90, Tryz.ntmps90
 go_wp2
 go_ret
 exact ⟨congrArg Ending.returned (congrArg (Value.int IntKind.i64) HE.out), rfl⟩
set_option maxHeartbeats 1000000 in
set_option maxRecDepth 100000 in
theorem len64_011 (x : Int) (w : World) (h0 : 0 ≤ x) (h1 : x < 18446744073709551616) (c0 : ¬ 4294967296 ≤ x) (c1 : 65536 ≤ x) (c2 : 256 ≤ x / 65536) :
  Calls Tryz.prog 90 #[.int .u64 x] w fun e w' => e = .returned (.int .i64 (Lib.bitLen x.toNat)) ∧ w' = w := by
 have q : ∀ W : World, (Instr.index 9 (.string Lib.len8tab) (.int .u8 (x / 65536 / 256))).run Tryz.prog W = .ok (.int .u8 (Lib.len8 (x / 65536 / 256))) W := fun W => Lib.run_index_len8tab (P := Tryz.prog) W 9 .u8 (x / 65536 / 256) Tryz.underlying9 (by omega) (by omega)
 have HE := Aside0.mk (len64_end x (x / 65536 / 256) 24 h0 h1 (by omega) 16777216 (by decide) (by omega) (by omega) (.inr (by omega)))
 have g0 : decide (x ≥ 4294967296) = false := decide_eq_false (by omega)
 have g1 : decide (x ≥ 65536) = true := decide_eq_true (by omega)
 have g2 : decide (x / 65536 ≥ 256) = true := decide_eq_true (by omega)
 have hu : IntKind.u8.wrap (x / 65536 / 256) = x / 65536 / 256 := by simp [IntKind.wrap, IntKind.bits, IntKind.signed]; omega
 clear c0 c1 c2
 go_enter Tryz.func90, Tryz.ntmps90
 go_wp2
 go_ret
 exact ⟨congrArg Ending.returned (congrArg (Value.int IntKind.i64) HE.out), rfl⟩
set_option maxHeartbeats 1000000 in
set_option maxRecDepth 100000 in
theorem len64_100 (x : Int) (w : World) (h0 : 0 ≤ x) (h1 : x < 18446744073709551616) (c0 : 4294967296 ≤ x) (c1 : ¬ 65536 ≤ x / 4294967296) (c2 : ¬ 256 ≤ x / 4294967296) :
  Calls Tryz.prog 90 #[.int .u64 x] w fun e w' => e = .returned (.int .i64 (Lib.bitLen x.toNat)) ∧ w' = w := by
 have q : ∀ W : World, (Instr.index 9 (.string Lib.len8tab) (.int .u8 (x / 4294967296))).run Tryz.prog W = .ok (.int .u8 (Lib.len8 (x / 4294967296))) W := fun W => Lib.run_index_len8tab (P := Tryz.prog) W 9 .u8 (x / 4294967296) Tryz.underlying9 (by omega) (by omega)
 have HE := Aside0.mk (len64_end x (x / 4294967296) 32 h0 h1 (by omega) 4294967296 (by decide) (by omega) (by omega) (.inr (by omega)))
 have g0 : decide (x ≥ 4294967296) = true := decide_eq_true (by omega)
 have g1 : decide (x / 4294967296 ≥ 65536) = false := decide_eq_false (by omega)
 have g2 : decide (x / 4294967296 ≥ 256) = false := decide_eq_false (by omega)
 have hu : IntKind.u8.wrap (x / 4294967296) = x / 4294967296 := by simp [IntKind.wrap, IntKind.bits, IntKind.signed]; omega
 clear c0 c1 c2
 go_enter Tryz.func90, Tryz.ntmps90
 go_wp2
 go_ret
 exact ⟨congrArg Ending.returned (congrArg (Value.int IntKind.i64) HE.out), rfl⟩
set_option maxHeartbeats 1000000 in
set_option maxRecDepth 100000 in
theorem len64_101 (x : Int) (w : World) (h0 : 0 ≤ x) (h1 : x < 18446744073709551616) (c0 : 4294967296 ≤ x) (c1 : ¬ 65536 ≤ x / 4294967296) (c2 : 256 ≤ x / 4294967296) :
  Calls Tryz.prog 90 #[.int .u64 x] w fun e w' => e = .returned (.int .i64 (Lib.bitLen x.toNat)) ∧ w' = w := by
 have q : ∀ W : World, (Instr.index 9 (.string Lib.len8tab) (.int .u8 (x / 4294967296 / 256))).run Tryz.prog W = .ok (.int .u8 (Lib.len8 (x / 4294967296 / 256))) W := fun W => Lib.run_index_len8tab (P := Tryz.prog) W 9 .u8 (x / 4294967296 / 256) Tryz.underlying9 (by omega) (by omega)
 have HE := Aside0.mk (len64_end x (x / 4294967296 / 256) 40 h0 h1 (by omega) 1099511627776 (by decide) (by omega) (by omega) (.inr (by omega)))
 have g0 : decide (x ≥ 4294967296) = true := decide_eq_true (by omega)
 have g1 : decide (x / 4294967296 ≥ 65536) = false := decide_eq_false (by omega)
 have g2 : decide (x / 4294967296 ≥ 256) = true := decide_eq_true (by omega)
 have hu : IntKind.u8.wrap (x / 4294967296 / 256) = x / 4294967296 / 256 := by simp [IntKind.wrap, IntKind.bits, IntKind.signed]; omega
 clear c0 c1 c2
 go_enter Tryz.func90, Tryz.ntmps90
 go_wp2
 go_ret
 exact ⟨congrArg Ending.returned (congrArg (Value.int IntKind.i64) HE.out), rfl⟩
set_option maxHeartbeats 1000000 in
set_option maxRecDepth 100000 in
theorem len64_110 (x : Int) (w : World) (h0 : 0 ≤ x) (h1 : x < 18446744073709551616) (c0 : 4294967296 ≤ x) (c1 : 65536 ≤ x / 4294967296) (c2 : ¬ 256 ≤ x / 4294967296 / 65536) :
  Calls Tryz.prog 90 #[.int .u64 x] w fun e w' => e = .returned (.int .i64 (Lib.bitLen x.toNat)) ∧ w' = w := by
 have q : ∀ W : World, (Instr.index 9 (.string Lib.len8tab) (.int .u8 (x / 4294967296 / 65536))).run Tryz.prog W = .ok (.int .u8 (Lib.len8 (x / 4294967296 / 65536))) W := fun W => Lib.run_index_len8tab (P := Tryz.prog) W 9 .u8 (x / 4294967296 / 65536) Tryz.underlying9 (by omega) (by omega)
 have HE := Aside0.mk (len64_end x (x / 4294967296 / 65536) 48 h0 h1 (by omega) 281474976710656 (by decide) (by omega) (by omega) (.inr (by omega)))
 have g0 : decide (x ≥ 4294967296) = true := decide_eq_true (by omega)
 have g1 : decide (x / 4294967296 ≥ 65536) = true := decide_eq_true (by omega)
 have g2 : decide (x / 4294967296 / 65536 ≥ 256) = false := decide_eq_false (by omega)
 have hu : IntKind.u8.wrap (x / 4294967296 / 65536) = x / 4294967296 / 65536 := by simp [IntKind.wrap, IntKind.bits, IntKind.signed]; omega
 clear c0 c1 c2
 go_enter Tryz.func90, Tryz.ntmps90
 go_wp2
 go_ret
 exact ⟨congrArg Ending.returned (congrArg (Value.int IntKind.i64) HE.out), rfl⟩
set_option maxHeartbeats 1000000 in
set_option maxRecDepth 100000 in
theorem len64_111 (x : Int) (w : World) (h0 : 0 ≤ x) (h1 : x < 18446744073709551616) (c0 : 4294967296 ≤ x) (c1 : 65536 ≤ x / 4294967296) (c2 : 256 ≤ x / 4294967296 / 65536) :
  Calls Tryz.prog 90 #[.int .u64 x] w fun e w' => e = .returned (.int .i64 (Lib.bitLen x.toNat)) ∧ w' = w := by
 have q : ∀ W : World, (Instr.index 9 (.string Lib.len8tab) (.int .u8 (x / 4294967296 / 65536 / 256))).run Tryz.prog W = .ok (.int .u8 (Lib.len8 (x / 4294967296 / 65536 / 256))) W := fun W => Lib.run_index_len8tab (P := Tryz.prog) W 9 .u8 (x / 4294967296 / 65536 / 256) Tryz.underlying9 (by omega) (by omega)
 have HE := Aside0.mk (len64_end x (x / 4294967296 / 65536 / 256) 56 h0 h1 (by omega) 72057594037927936 (by decide) (by omega) (by omega) (.inr (by omega)))
 have g0 : decide (x ≥ 4294967296) = true := decide_eq_true (by omega)
 have g1 : decide (x / 4294967296 ≥ 65536) = true := decide_eq_true (by omega)
 have g2 : decide (x / 4294967296 / 65536 ≥ 256) = true := decide_eq_true (by omega)
 have hu : IntKind.u8.wrap (x / 4294967296 / 65536 / 256) = x / 4294967296 / 65536 / 256 := by simp [IntKind.wrap, IntKind.bits, IntKind.signed]; omega
 clear c0 c1 c2
 go_enter Tryz.func90, Tryz.ntmps90
 go_wp2
 go_ret
 exact ⟨congrArg Ending.returned (congrArg (Value.int IntKind.i64) HE.out), rfl⟩
theorem len64_calls (x : Int) (w : World) (h0 : 0 ≤ x) (h1 : x < 18446744073709551616) :
  Calls Tryz.prog 90 #[.int .u64 x] w fun e w' => e = .returned (.int .i64 (Lib.bitLen x.toNat)) ∧ w' = w := by
 by_cases c0 : 4294967296 ≤ x
 ·by_cases c1 : 65536 ≤ x / 4294967296
  ·by_cases c2 : 256 ≤ x / 4294967296 / 65536
   ·exact len64_111 x w h0 h1 c0 c1 c2
   ·exact len64_110 x w h0 h1 c0 c1 c2
  ·by_cases c2 : 256 ≤ x / 4294967296
   ·exact len64_101 x w h0 h1 c0 c1 c2
   ·exact len64_100 x w h0 h1 c0 c1 c2
 ·by_cases c1 : 65536 ≤ x
  ·by_cases c2 : 256 ≤ x / 65536
   ·exact len64_011 x w h0 h1 c0 c1 c2
   ·exact len64_010 x w h0 h1 c0 c1 c2
  ·by_cases c2 : 256 ≤ x
   ·exact len64_001 x w h0 h1 c0 c1 c2
   ·exact len64_000 x w h0 h1 c0 c1 c2
set_option maxHeartbeats 2000000 in
set_option maxRecDepth 100000 in
theorem len_calls (x : Int) (w : World) (h0 : 256 ≤ x) (h1 : x ≤ 16777215) :
  Calls Tryz.prog 72 #[.int .u64 x] w fun e w' => e = .returned (.int .i64 (Lib.bitLen x.toNat)) ∧ w' = w := by
 have HC := Aside0.mk (len64_calls x w (by omega) (by omega))
 go_enter Tryz.func72, Tryz.ntmps72
 go_wp2_with (go_at_call 90; refine HC.out.mono ?_; rintro e w1 ⟨rfl, rfl⟩)
 go_ret
 exact ⟨rfl, rfl⟩

/-- The next power of two: greater, and at most twice as great. -/
def Pow2 (x : Nat) (w : World) (e : Ending) (w' : World) : Prop := ∃ r : Nat, e = .returned (.int .i64 (r : Int)) ∧ x < r ∧ r ≤ 2 * x ∧ w' = w
set_option maxHeartbeats 2000000 in
set_option maxRecDepth 100000 in
theorem pow2_calls (x : Nat) (w : World) (h0 : 256 ≤ x) (h1 : x ≤ 16777215) : Calls Tryz.prog 52 #[.int .i64 (x : Int)] w (Pow2 x w) := by
 have a1 := bitLen_lt x (by omega)
 have a2 := bitLen_up x (by omega) (by omega)
 have a3 := Lib.bitLen_le x 24 (by decide) (by omega)
 have hc := len_calls (x : Int) w (by omega) (by omega)
 rw [Int.toNat_natCast] at hc
 have HC := Aside0.mk hc
 clear hc
 have b0 : (0 : Int) ≤ (Lib.bitLen x : Int) := by omega
 have b1 : (Lib.bitLen x : Int) ≤ 24 := by omega
 have HP := Aside0.mk (show x < 2 ^ Lib.bitLen x ∧ 2 ^ Lib.bitLen x ≤ 2 * x from ⟨a1, a2⟩)
 clear a1 a2 a3
 generalize Lib.bitLen x = L at HC b0 b1 HP
 go_enter Tryz.func52, Tryz.ntmps52
 go_wp2_with (go_at_call 72; refine HC.out.mono ?_; rintro e w' ⟨rfl, rfl⟩)
 go_ret
 have e : wrap64 ((2 : Int) ^ L) = ((2 ^ L : Nat) : Int) := by
  have := HP.out
  rw [show ((2 : Int) ^ L) = ((2 ^ L : Nat) : Int) by simp]
  unfold wrap64; omega
 exact ⟨2 ^ L, congrArg Ending.returned (congrArg (Value.int .i64) e), HP.out.1, HP.out.2, rfl⟩
end Go.Proofs.YtiieljnllgeoeaaGreat.Q
