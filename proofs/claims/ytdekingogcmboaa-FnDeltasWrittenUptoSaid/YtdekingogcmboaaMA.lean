/- Several texts of ours in one: Fa, Fb, Fc, Fd. -/
import Derived.Test.YtdekingogcmboaaProg
import Derived.Below
import Derived.Deep.Draws
import Derived.Deep.AppendLies
import Derived.Maps.AppendAt
import Derived.OwnWalk
import Derived.Laws.BytesArg
import Derived.Laws.MakeOwn
import Derived.Laws.OwnMore
import Derived.Deep.OwnRows
import Derived.Tactics
import Derived.Lib.ConvBytes
import Derived.Laws.Slices
import Derived.WalkKit
import Derived.KernelRfl
import Derived.RowKit3
import Derived.Deep.LoopGhost
import Derived.Deep.QuietTactic
import Derived.BigQuiet
import Derived.WideLaws
import Derived.Deep.DeepCutAuto
import Derived.Deep.CutBlock
import Derived.Deep.RegionHeld3
import Derived.Laws.Rows
import Derived.Lib.AppendStr
import Derived.ArgAppend
import Derived.Laws.IdiomCopy
import Derived.OrdersHeld
import Derived.Laws.BitsLemmas
import Derived.RowKit
import Derived.Test.YtdekingogcmboaaWWords
import Derived.Test.YtdekingogcmboaaWLast
import Derived.Test.YtdekingogcmboaaWTab
import Derived.Test.YtdekingogcmboaaWFour
import Derived.Test.YtdekingogcmboaaWQPut
import Derived.Test.YtdekingogcmboaaWApart
import Derived.Test.YtdekingogcmboaaWArr
import Derived.Test.YtdekingogcmboaaWZeros
import Derived.Test.YtdekingogcmboaaWFoot
import Derived.Test.YtdekingogcmboaaWKept
import Derived.Test.YtdekingogcmboaaWShare
import Derived.Test.YtdekingogcmboaaWN
import Derived.Test.YtdekingogcmboaaWFootNe
import Derived.Test.YtdekingogcmboaaWAt
import Derived.Test.YtdekingogcmboaaWEqStruct
import Derived.Test.YtdekingogcmboaaWRepsOne
import Derived.Test.YtdekingogcmboaaWInv
import Derived.Test.YtdekingogcmboaaWInvWords
import Derived.Test.YtdekingogcmboaaWGuard
import Derived.Test.YtdekingogcmboaaWNEv
import Derived.Test.YtdekingogcmboaaWMore
import Derived.Laws.Externs
import Derived.Laws.FloatArith
import Derived.Handy
import Derived.Recover
import Derived.Defers
import Derived.StillTailTactics
import Derived.Deep.RegionLaw
import Derived.Lib.Strings
import Derived.Lib.Slices
import Derived.Lib.Small
import Derived.Lib.Walk
import Derived.Lib.BitFns
import Derived.Laws.LoneSync
import Derived.Laws.CopyOwn
import Derived.Outline
/- math/bits.Len64, Len and bitutil.NextPowerOf2, walked. -/
namespace Go.Proofs.Ytdekingogcmboaa.Q
open Go.RowKit Go.Proofs.YtdekingogcmboaaW.PrintWords Go.Proofs.YtdekingogcmboaaW.PrintLast Go.Proofs.YtdekingogcmboaaW.PrintMore
set_option linter.unusedVariables false
set_option linter.unusedSimpArgs false
theorem bitLen_lt (x : Nat) (h : x < 2 ^ 64) : x < 2 ^ Lib.bitLen x := by
  induction x using Nat.strongRecOn with
  | _ x ih =>
    rcases Nat.eq_zero_or_pos x with rfl | hp
    · exact Nat.two_pow_pos _
    · rw [Lib.bitLen_half x (by omega) h, Nat.pow_add]
      have := ih (x / 2) (by omega) (by omega)
      omega
theorem bitLen_up (x : Nat) (hp : 0 < x) (h : x < 2 ^ 64) : 2 ^ Lib.bitLen x ≤ 2 * x := by
  induction x using Nat.strongRecOn with
  | _ x ih =>
    rw [Lib.bitLen_half x (by omega) h, Nat.pow_add]
    rcases Nat.eq_zero_or_pos (x / 2) with e | hq
    · rw [e]; have e0 : Lib.bitLen 0 = 0 := by decide
      rw [e0]; omega
    · have := ih (x / 2) (by omega) hq (by omega)
      omega

set_option maxRecDepth 100000 in
theorem fold_tab : ({ data := (([0, 1, 2, 2, 3, 3, 3, 3, 4, 4, 4, 4, 4, 4, 4, 4, 5, 5, 5, 5, 5, 5, 5, 5, 5, 5, 5, 5, 5, 5, 5, 5, 6, 6, 6, 6, 6, 6, 6, 6, 6, 6, 6, 6, 6, 6, 6, 6, 6, 6, 6, 6, 6, 6, 6, 6, 6, 6, 6, 6, 6, 6, 6, 6].append [7, 7, 7, 7, 7, 7, 7, 7, 7, 7, 7, 7, 7, 7, 7, 7, 7, 7, 7, 7, 7, 7, 7, 7, 7, 7, 7, 7, 7, 7, 7, 7, 7, 7, 7, 7, 7, 7, 7, 7, 7, 7, 7, 7, 7, 7, 7, 7, 7, 7, 7, 7, 7, 7, 7, 7, 7, 7, 7, 7, 7, 7, 7, 7]).append ([8, 8, 8, 8, 8, 8, 8, 8, 8, 8, 8, 8, 8, 8, 8, 8, 8, 8, 8, 8, 8, 8, 8, 8, 8, 8, 8, 8, 8, 8, 8, 8, 8, 8, 8, 8, 8, 8, 8, 8, 8, 8, 8, 8, 8, 8, 8, 8, 8, 8, 8, 8, 8, 8, 8, 8, 8, 8, 8, 8, 8, 8, 8, 8].append [8, 8, 8, 8, 8, 8, 8, 8, 8, 8, 8, 8, 8, 8, 8, 8, 8, 8, 8, 8, 8, 8, 8, 8, 8, 8, 8, 8, 8, 8, 8, 8, 8, 8, 8, 8, 8, 8, 8, 8, 8, 8, 8, 8, 8, 8, 8, 8, 8, 8, 8, 8, 8, 8, 8, 8, 8, 8, 8, 8, 8, 8, 8, 8])).toArray } : ByteArray) = Lib.len8tab := by decide +kernel
attribute [local go_sem high] fold_tab
theorem len64_end (x y : Int) (k : Nat) (h0 : 0 ≤ x) (h1 : x < 18446744073709551616) (hk : k ≤ 56) (K : Int) (hK : K = (2 : Int) ^ k) (hy : y = x / K) (h8 : y < 256) (hl : k = 0 ∨ K ≤ x) : wrap64 ((k : Int) + wrap64 (Lib.len8 y)) = (Lib.bitLen x.toNat : Int) := by
  subst hK
  have hy0 : 0 ≤ y := by rw [hy]; exact Int.ediv_nonneg h0 (by have := Int.pow_pos (n := 2) (m := k) (by decide); omega)
  rw [Lib.len8_of y hy0 (by omega)]
  have l := Lib.bitLen_le8' y hy0 (by omega)
  have hpn : ((2 ^ k : Nat) : Int) = (2 : Int) ^ k := by simp
  have e : y.toNat = x.toNat / 2 ^ k := by
    obtain ⟨n, rfl⟩ : ∃ n : Nat, x = (n : Int) := ⟨x.toNat, by omega⟩
    rw [hy, ← hpn, Int.toNat_natCast, ← Int.natCast_ediv, Int.toNat_natCast]
  have s : Lib.bitLen x.toNat = k + Lib.bitLen y.toNat := by
    rw [e]
    rcases hl with rfl | hl
    · simp
    · exact Lib.bitLen_shift k x.toNat (by rw [← hpn] at hl; omega) (by omega)
  rw [s]
  clear s e hpn hl h8 hy hy0 h1 h0
  generalize Lib.bitLen y.toNat = b at l ⊢
  have e1 : wrap64 (b : Int) = (b : Int) := by unfold wrap64; omega
  rw [e1]
  unfold wrap64
  omega
set_option maxHeartbeats 1000000 in
set_option maxRecDepth 100000 in
theorem len64_000 (x : Int) (w : World) (h0 : 0 ≤ x) (h1 : x < 18446744073709551616) (c0 : ¬ 4294967296 ≤ x) (c1 : ¬ 65536 ≤ x) (c2 : ¬ 256 ≤ x) :
    Calls Try.prog 43 #[.int .u64 x] w fun e w' => e = .returned (.int .i64 (Lib.bitLen x.toNat)) ∧ w' = w := by
  have q : ∀ W : World, (Instr.index 9 (.string Lib.len8tab) (.int .u8 (x))).run Try.prog W = .ok (.int .u8 (Lib.len8 (x))) W := fun W => Lib.run_index_len8tab (P := Try.prog) W 9 .u8 (x) Try.underlying9 (by omega) (by omega)
  have HE := Aside0.mk (len64_end x (x) 0 h0 h1 (by omega) 1 (by decide) (by omega) (by omega) (.inl rfl))
  have g0 : decide (x ≥ 4294967296) = false := decide_eq_false (by omega)
  have g1 : decide (x ≥ 65536) = false := decide_eq_false (by omega)
  have g2 : decide (x ≥ 256) = false := decide_eq_false (by omega)
  have hu : IntKind.u8.wrap (x) = x := by simp [IntKind.wrap, IntKind.bits, IntKind.signed]; omega
  clear c0 c1 c2
  go_enter Try.func43, Try.ntmps43
  go_wp2
  go_ret
  exact ⟨congrArg Ending.returned (congrArg (Value.int IntKind.i64) (by have := HE.out; rwa [show ((0 : Nat) : Int) + wrap64 (Lib.len8 x) = wrap64 (Lib.len8 x) by omega] at this)), rfl⟩
set_option maxHeartbeats 1000000 in
set_option maxRecDepth 100000 in
theorem len64_001 (x : Int) (w : World) (h0 : 0 ≤ x) (h1 : x < 18446744073709551616) (c0 : ¬ 4294967296 ≤ x) (c1 : ¬ 65536 ≤ x) (c2 : 256 ≤ x) :
    Calls Try.prog 43 #[.int .u64 x] w fun e w' => e = .returned (.int .i64 (Lib.bitLen x.toNat)) ∧ w' = w := by
  have q : ∀ W : World, (Instr.index 9 (.string Lib.len8tab) (.int .u8 (x / 256))).run Try.prog W = .ok (.int .u8 (Lib.len8 (x / 256))) W := fun W => Lib.run_index_len8tab (P := Try.prog) W 9 .u8 (x / 256) Try.underlying9 (by omega) (by omega)
  have HE := Aside0.mk (len64_end x (x / 256) 8 h0 h1 (by omega) 256 (by decide) (by omega) (by omega) (.inr (by omega)))
  have g0 : decide (x ≥ 4294967296) = false := decide_eq_false (by omega)
  have g1 : decide (x ≥ 65536) = false := decide_eq_false (by omega)
  have g2 : decide (x ≥ 256) = true := decide_eq_true (by omega)
  have hu : IntKind.u8.wrap (x / 256) = x / 256 := by simp [IntKind.wrap, IntKind.bits, IntKind.signed]; omega
  clear c0 c1 c2
  go_enter Try.func43, Try.ntmps43
  go_wp2
  go_ret
  exact ⟨congrArg Ending.returned (congrArg (Value.int IntKind.i64) HE.out), rfl⟩
set_option maxHeartbeats 1000000 in
set_option maxRecDepth 100000 in
theorem len64_010 (x : Int) (w : World) (h0 : 0 ≤ x) (h1 : x < 18446744073709551616) (c0 : ¬ 4294967296 ≤ x) (c1 : 65536 ≤ x) (c2 : ¬ 256 ≤ x / 65536) :
    Calls Try.prog 43 #[.int .u64 x] w fun e w' => e = .returned (.int .i64 (Lib.bitLen x.toNat)) ∧ w' = w := by
  have q : ∀ W : World, (Instr.index 9 (.string Lib.len8tab) (.int .u8 (x / 65536))).run Try.prog W = .ok (.int .u8 (Lib.len8 (x / 65536))) W := fun W => Lib.run_index_len8tab (P := Try.prog) W 9 .u8 (x / 65536) Try.underlying9 (by omega) (by omega)
  have HE := Aside0.mk (len64_end x (x / 65536) 16 h0 h1 (by omega) 65536 (by decide) (by omega) (by omega) (.inr (by omega)))
  have g0 : decide (x ≥ 4294967296) = false := decide_eq_false (by omega)
  have g1 : decide (x ≥ 65536) = true := decide_eq_true (by omega)
  have g2 : decide (x / 65536 ≥ 256) = false := decide_eq_false (by omega)
  have hu : IntKind.u8.wrap (x / 65536) = x / 65536 := by simp [IntKind.wrap, IntKind.bits, IntKind.signed]; omega
  clear c0 c1 c2
  go_enter Try.func43, Try.ntmps43
  go_wp2
  go_ret
  exact ⟨congrArg Ending.returned (congrArg (Value.int IntKind.i64) HE.out), rfl⟩
set_option maxHeartbeats 1000000 in
set_option maxRecDepth 100000 in
theorem len64_011 (x : Int) (w : World) (h0 : 0 ≤ x) (h1 : x < 18446744073709551616) (c0 : ¬ 4294967296 ≤ x) (c1 : 65536 ≤ x) (c2 : 256 ≤ x / 65536) :
    Calls Try.prog 43 #[.int .u64 x] w fun e w' => e = .returned (.int .i64 (Lib.bitLen x.toNat)) ∧ w' = w := by
  have q : ∀ W : World, (Instr.index 9 (.string Lib.len8tab) (.int .u8 (x / 65536 / 256))).run Try.prog W = .ok (.int .u8 (Lib.len8 (x / 65536 / 256))) W := fun W => Lib.run_index_len8tab (P := Try.prog) W 9 .u8 (x / 65536 / 256) Try.underlying9 (by omega) (by omega)
  have HE := Aside0.mk (len64_end x (x / 65536 / 256) 24 h0 h1 (by omega) 16777216 (by decide) (by omega) (by omega) (.inr (by omega)))
  have g0 : decide (x ≥ 4294967296) = false := decide_eq_false (by omega)
  have g1 : decide (x ≥ 65536) = true := decide_eq_true (by omega)
  have g2 : decide (x / 65536 ≥ 256) = true := decide_eq_true (by omega)
  have hu : IntKind.u8.wrap (x / 65536 / 256) = x / 65536 / 256 := by simp [IntKind.wrap, IntKind.bits, IntKind.signed]; omega
  clear c0 c1 c2
  go_enter Try.func43, Try.ntmps43
  go_wp2
  go_ret
  exact ⟨congrArg Ending.returned (congrArg (Value.int IntKind.i64) HE.out), rfl⟩
set_option maxHeartbeats 1000000 in
set_option maxRecDepth 100000 in
theorem len64_100 (x : Int) (w : World) (h0 : 0 ≤ x) (h1 : x < 18446744073709551616) (c0 : 4294967296 ≤ x) (c1 : ¬ 65536 ≤ x / 4294967296) (c2 : ¬ 256 ≤ x / 4294967296) :
    Calls Try.prog 43 #[.int .u64 x] w fun e w' => e = .returned (.int .i64 (Lib.bitLen x.toNat)) ∧ w' = w := by
  have q : ∀ W : World, (Instr.index 9 (.string Lib.len8tab) (.int .u8 (x / 4294967296))).run Try.prog W = .ok (.int .u8 (Lib.len8 (x / 4294967296))) W := fun W => Lib.run_index_len8tab (P := Try.prog) W 9 .u8 (x / 4294967296) Try.underlying9 (by omega) (by omega)
  have HE := Aside0.mk (len64_end x (x / 4294967296) 32 h0 h1 (by omega) 4294967296 (by decide) (by omega) (by omega) (.inr (by omega)))
  have g0 : decide (x ≥ 4294967296) = true := decide_eq_true (by omega)
  have g1 : decide (x / 4294967296 ≥ 65536) = false := decide_eq_false (by omega)
  have g2 : decide (x / 4294967296 ≥ 256) = false := decide_eq_false (by omega)
  have hu : IntKind.u8.wrap (x / 4294967296) = x / 4294967296 := by simp [IntKind.wrap, IntKind.bits, IntKind.signed]; omega
  clear c0 c1 c2
  go_enter Try.func43, Try.ntmps43
  go_wp2
  go_ret
  exact ⟨congrArg Ending.returned (congrArg (Value.int IntKind.i64) HE.out), rfl⟩
set_option maxHeartbeats 1000000 in
set_option maxRecDepth 100000 in
theorem len64_101 (x : Int) (w : World) (h0 : 0 ≤ x) (h1 : x < 18446744073709551616) (c0 : 4294967296 ≤ x) (c1 : ¬ 65536 ≤ x / 4294967296) (c2 : 256 ≤ x / 4294967296) :
    Calls Try.prog 43 #[.int .u64 x] w fun e w' => e = .returned (.int .i64 (Lib.bitLen x.toNat)) ∧ w' = w := by
  have q : ∀ W : World, (Instr.index 9 (.string Lib.len8tab) (.int .u8 (x / 4294967296 / 256))).run Try.prog W = .ok (.int .u8 (Lib.len8 (x / 4294967296 / 256))) W := fun W => Lib.run_index_len8tab (P := Try.prog) W 9 .u8 (x / 4294967296 / 256) Try.underlying9 (by omega) (by omega)
  have HE := Aside0.mk (len64_end x (x / 4294967296 / 256) 40 h0 h1 (by omega) 1099511627776 (by decide) (by omega) (by omega) (.inr (by omega)))
  have g0 : decide (x ≥ 4294967296) = true := decide_eq_true (by omega)
  have g1 : decide (x / 4294967296 ≥ 65536) = false := decide_eq_false (by omega)
  have g2 : decide (x / 4294967296 ≥ 256) = true := decide_eq_true (by omega)
  have hu : IntKind.u8.wrap (x / 4294967296 / 256) = x / 4294967296 / 256 := by simp [IntKind.wrap, IntKind.bits, IntKind.signed]; omega
  clear c0 c1 c2
  go_enter Try.func43, Try.ntmps43
  go_wp2
  go_ret
  exact ⟨congrArg Ending.returned (congrArg (Value.int IntKind.i64) HE.out), rfl⟩
set_option maxHeartbeats 1000000 in
set_option maxRecDepth 100000 in
theorem len64_110 (x : Int) (w : World) (h0 : 0 ≤ x) (h1 : x < 18446744073709551616) (c0 : 4294967296 ≤ x) (c1 : 65536 ≤ x / 4294967296) (c2 : ¬ 256 ≤ x / 4294967296 / 65536) :
    Calls Try.prog 43 #[.int .u64 x] w fun e w' => e = .returned (.int .i64 (Lib.bitLen x.toNat)) ∧ w' = w := by
  have q : ∀ W : World, (Instr.index 9 (.string Lib.len8tab) (.int .u8 (x / 4294967296 / 65536))).run Try.prog W = .ok (.int .u8 (Lib.len8 (x / 4294967296 / 65536))) W := fun W => Lib.run_index_len8tab (P := Try.prog) W 9 .u8 (x / 4294967296 / 65536) Try.underlying9 (by omega) (by omega)
  have HE := Aside0.mk (len64_end x (x / 4294967296 / 65536) 48 h0 h1 (by omega) 281474976710656 (by decide) (by omega) (by omega) (.inr (by omega)))
  have g0 : decide (x ≥ 4294967296) = true := decide_eq_true (by omega)
  have g1 : decide (x / 4294967296 ≥ 65536) = true := decide_eq_true (by omega)
  have g2 : decide (x / 4294967296 / 65536 ≥ 256) = false := decide_eq_false (by omega)
  have hu : IntKind.u8.wrap (x / 4294967296 / 65536) = x / 4294967296 / 65536 := by simp [IntKind.wrap, IntKind.bits, IntKind.signed]; omega
  clear c0 c1 c2
  go_enter Try.func43, Try.ntmps43
  go_wp2
  go_ret
  exact ⟨congrArg Ending.returned (congrArg (Value.int IntKind.i64) HE.out), rfl⟩
set_option maxHeartbeats 1000000 in
set_option maxRecDepth 100000 in
theorem len64_111 (x : Int) (w : World) (h0 : 0 ≤ x) (h1 : x < 18446744073709551616) (c0 : 4294967296 ≤ x) (c1 : 65536 ≤ x / 4294967296) (c2 : 256 ≤ x / 4294967296 / 65536) :
    Calls Try.prog 43 #[.int .u64 x] w fun e w' => e = .returned (.int .i64 (Lib.bitLen x.toNat)) ∧ w' = w := by
  have q : ∀ W : World, (Instr.index 9 (.string Lib.len8tab) (.int .u8 (x / 4294967296 / 65536 / 256))).run Try.prog W = .ok (.int .u8 (Lib.len8 (x / 4294967296 / 65536 / 256))) W := fun W => Lib.run_index_len8tab (P := Try.prog) W 9 .u8 (x / 4294967296 / 65536 / 256) Try.underlying9 (by omega) (by omega)
  have HE := Aside0.mk (len64_end x (x / 4294967296 / 65536 / 256) 56 h0 h1 (by omega) 72057594037927936 (by decide) (by omega) (by omega) (.inr (by omega)))
  have g0 : decide (x ≥ 4294967296) = true := decide_eq_true (by omega)
  have g1 : decide (x / 4294967296 ≥ 65536) = true := decide_eq_true (by omega)
  have g2 : decide (x / 4294967296 / 65536 ≥ 256) = true := decide_eq_true (by omega)
  have hu : IntKind.u8.wrap (x / 4294967296 / 65536 / 256) = x / 4294967296 / 65536 / 256 := by simp [IntKind.wrap, IntKind.bits, IntKind.signed]; omega
  clear c0 c1 c2
  go_enter Try.func43, Try.ntmps43
  go_wp2
  go_ret
  exact ⟨congrArg Ending.returned (congrArg (Value.int IntKind.i64) HE.out), rfl⟩
theorem len64_calls (x : Int) (w : World) (h0 : 0 ≤ x) (h1 : x < 18446744073709551616) :
    Calls Try.prog 43 #[.int .u64 x] w fun e w' => e = .returned (.int .i64 (Lib.bitLen x.toNat)) ∧ w' = w := by
  by_cases c0 : 4294967296 ≤ x
  · by_cases c1 : 65536 ≤ x / 4294967296
    · by_cases c2 : 256 ≤ x / 4294967296 / 65536
      · exact len64_111 x w h0 h1 c0 c1 c2
      · exact len64_110 x w h0 h1 c0 c1 c2
    · by_cases c2 : 256 ≤ x / 4294967296
      · exact len64_101 x w h0 h1 c0 c1 c2
      · exact len64_100 x w h0 h1 c0 c1 c2
  · by_cases c1 : 65536 ≤ x
    · by_cases c2 : 256 ≤ x / 65536
      · exact len64_011 x w h0 h1 c0 c1 c2
      · exact len64_010 x w h0 h1 c0 c1 c2
    · by_cases c2 : 256 ≤ x
      · exact len64_001 x w h0 h1 c0 c1 c2
      · exact len64_000 x w h0 h1 c0 c1 c2
set_option maxHeartbeats 2000000 in
set_option maxRecDepth 100000 in
theorem len_calls (x : Int) (w : World) (h0 : 256 ≤ x) (h1 : x ≤ 16777215) :
    Calls Try.prog 65 #[.int .u64 x] w fun e w' => e = .returned (.int .i64 (Lib.bitLen x.toNat)) ∧ w' = w := by
  have HC := Aside0.mk (len64_calls x w (by omega) (by omega))
  go_enter Try.func65, Try.ntmps65
  go_wp2_with (go_at_call 43; refine HC.out.mono ?_; rintro e w1 ⟨rfl, rfl⟩)
  go_ret
  exact ⟨rfl, rfl⟩

/-- The next power of two: greater, and at most twice as great. -/
def Pow2 (x : Nat) (w : World) (e : Ending) (w' : World) : Prop := ∃ r : Nat, e = .returned (.int .i64 (r : Int)) ∧ x < r ∧ r ≤ 2 * x ∧ w' = w
set_option maxHeartbeats 2000000 in
set_option maxRecDepth 100000 in
theorem pow2_calls (x : Nat) (w : World) (h0 : 256 ≤ x) (h1 : x ≤ 16777215) : Calls Try.prog 59 #[.int .i64 (x : Int)] w (Pow2 x w) := by
  have a1 := bitLen_lt x (by omega)
  have a2 := bitLen_up x (by omega) (by omega)
  have a3 := Lib.bitLen_le x 24 (by decide) (by omega)
  have hc := len_calls (x : Int) w (by omega) (by omega)
  rw [Int.toNat_natCast] at hc
  have HC := Aside0.mk hc
  clear hc
  have b0 : (0 : Int) ≤ (Lib.bitLen x : Int) := by omega
  have b1 : (Lib.bitLen x : Int) ≤ 24 := by omega
  have HP := Aside0.mk (show x < 2 ^ Lib.bitLen x ∧ 2 ^ Lib.bitLen x ≤ 2 * x from ⟨a1, a2⟩)
  clear a1 a2 a3
  generalize Lib.bitLen x = L at HC b0 b1 HP
  go_enter Try.func59, Try.ntmps59
  go_wp2_with (go_at_call 65; refine HC.out.mono ?_; rintro e w' ⟨rfl, rfl⟩)
  go_ret
  have e : wrap64 ((2 : Int) ^ L) = ((2 ^ L : Nat) : Int) := by
    have := HP.out
    rw [show ((2 : Int) ^ L) = ((2 ^ L : Nat) : Int) by simp]
    unfold wrap64; omega
  exact ⟨2 ^ L, congrArg Ending.returned (congrArg (Value.int .i64) e), HP.out.1, HP.out.2, rfl⟩
end Go.Proofs.Ytdekingogcmboaa.Q

/- memory.Buffer: made, reserved. -/
namespace Go.Proofs.Ytdekingogcmboaa.Q
open Go.RowKit Go.Proofs.YtdekingogcmboaaW.PrintWords Go.Proofs.YtdekingogcmboaaW.PrintLast Go.Proofs.YtdekingogcmboaaW.PrintMore
set_option linter.unusedVariables false
set_option linter.unusedSimpArgs false

theorem made_bytes (n : Nat) : madeCells #[.int .u8 0] n = ((List.replicate n (0 : Int)).map (Value.int .u8)).toArray := by
  apply Array.ext'
  simp [madeCells]
  apply List.ext_getElem <;> simp
  intro i h1
  simp [Nat.mod_one]

/-- n bytes that were made. -/
def zeros (n : Nat) : Obj := .cells ((List.replicate n (0 : Int)).map (Value.int .u8)).toArray 5
theorem info5_some : (Try.prog.info? 5).isSome = true := by kernel_rfl
theorem make_bytes (n : Nat) (h : n ≤ 1099511627776) (W : World) : (Instr.makeSlice 27 (.int .i64 (n : Int)) (.int .i64 (n : Int))).run Try.prog W = .ok (.slice (some ⟨W.heap.size, 0, none⟩) n n) (W.alloc (zeros n)) := by
  have hb : ((Try.prog.info? 5).get info5_some).bytes = 1 := by kernel_rfl
  have hs : ((Try.prog.info? 5).get info5_some).size = 1 := by kernel_rfl
  have hr := run_make (P := Try.prog) W 27 5 ((Try.prog.info? 5).get info5_some) (.int .u8 0) (by kernel_rfl) (Option.some_get _).symm (by kernel_rfl) .i64 .i64 (n : Int) (n : Int) (by omega) (Int.le_refl _) (by rw [hb]; omega) (by omega)
  simp only [Int.toNat_natCast, hs, Nat.mul_one] at hr
  rw [hr]
  have : Value.cells (.int .u8 0) = #[.int .u8 0] := rfl
  rw [this, made_bytes]
  rfl

set_option maxHeartbeats 1000000 in
set_option maxRecDepth 100000 in
theorem add_calls (a : Addr) (w : World) (hc : w.cell? a = some (.int .i64 0)) (hf : w.frozen? a = false) :
    Calls Try.prog 67 #[.pointer (some a), .int .i64 1] w fun e w' => e = .returned (.int .i64 1) ∧ w' = w.setCell a (.int .i64 1) := by
  have r := run_call_add (P := Try.prog) (y := 1) (s := 1) Try.func69 (by kernel_rfl) (by kernel_rfl) (by kernel_rfl) .i64 (by kernel_rfl) hc hf (by rfl)
  go_enter Try.func67, Try.ntmps67
  go_wp2
  go_ret
  exact ⟨rfl, rfl⟩

/-- A buffer: one owner, its bytes, its length, of an allocator. -/
def bufO (sl : Value) (n : Int) (G : Nat) : Obj := .cells #[.int .i64 1, sl, .int .i64 n, .bool true, .iface 126 (.pointer (some ⟨G, 0, none⟩)), .pointer none] 117 (0, 0)
set_option maxHeartbeats 1000000 in
set_option maxRecDepth 100000 in
theorem goalloc_calls (w : World) : Calls Try.prog 64 #[] w fun e w' => e = .returned (.pointer (some ⟨w.heap.size, 0, none⟩)) ∧ w' = w.alloc (.cells #[] 130) := by
  go_enter Try.func64, Try.ntmps64
  go_wp2
  go_ret
  exact ⟨rfl, rfl⟩
set_option maxHeartbeats 1000000 in
set_option maxRecDepth 100000 in
theorem newres_calls (G : Nat) (w : World) : Calls Try.prog 63 #[.iface 126 (.pointer (some ⟨G, 0, none⟩))] w fun e w' => e = .returned (.pointer (some ⟨w.heap.size, 0, none⟩)) ∧ w' = w.alloc (bufO (.slice none 0 0) 0 G) := by
  have hn := blk_new w (.cells #[.int .i64 0, .slice none 0 0, .int .i64 0, .bool true, .iface 126 (.pointer (some ⟨G, 0, none⟩)), .pointer none] 117)
  have HC := Aside0.mk (add_calls ⟨w.heap.size, 0, none⟩ _ ((blk_cell hn 0).trans rfl) (blk_frozen hn 0))
  clear hn
  go_enter Try.func63, Try.ntmps63
  go_wp2_with (go_at_call 67; refine HC.out.mono ?_; rintro e w1 ⟨rfl, rfl⟩)
  go_ret
  refine ⟨rfl, ?_⟩
  simp [bufO]
set_option maxHeartbeats 1000000 in
set_option maxRecDepth 100000 in
theorem newbuf_calls (w : World) : Calls Try.prog 56 #[] w fun e w' => e = .returned (.pointer (some ⟨w.heap.size + 1, 0, none⟩)) ∧ w' = (w.alloc (.cells #[] 130)).alloc (bufO (.slice none 0 0) 0 w.heap.size) := by
  have HC := Aside0.mk (goalloc_calls w)
  have HD := Aside0.mk (newres_calls w.heap.size (w.alloc (.cells #[] 130)))
  go_enter Try.func56, Try.ntmps56
  go_wp2_with (first | (go_at_call 64; refine HC.out.mono ?_; rintro e w1 ⟨rfl, rfl⟩) | (go_at_call 63; refine HD.out.mono ?_; rintro e w1 ⟨rfl, rfl⟩))
  go_ret
  exact ⟨rfl, rfl⟩

set_option maxHeartbeats 1000000 in
set_option maxRecDepth 100000 in
theorem alloc_calls (p : Value) (n : Nat) (h : n ≤ 1099511627776) (w : World) : Calls Try.prog 113 #[p, .int .i64 (n : Int)] w fun e w' => e = .returned (.slice (some ⟨w.heap.size, 0, none⟩) n n) ∧ w' = w.alloc (zeros n) := by
  have hmk := make_bytes n h
  go_enter Try.func113, Try.ntmps113
  go_wp2
  go_ret
  exact ⟨rfl, rfl⟩

/-- Bytes in a block of their own. -/
def Row (w : World) (D : Nat) (l : List Int) : Prop := w.heap[D]? = some (.cells (l.map (Value.int .u8)).toArray 5 (0, 0))
theorem row_zeros (w : World) (n : Nat) : Row (w.alloc (zeros n)) w.heap.size (List.replicate n 0) := blk_new w _
theorem Row.cell {w : World} {D : Nat} {l : List Int} (h : Row w D l) (j : Nat) (hj : j < l.length) : w.cell? ⟨D, j, none⟩ = some (.int .u8 (l.getD j 0)) := by
  rw [blk_cell h j]; simp [hj]
theorem Row.lt {w : World} {D : Nat} {l : List Int} (h : Row w D l) : D < w.heap.size := blk_lt h

/-- 'copy' into a row that is known. -/
theorem copy_bytes (w : World) (g o dLen dCap : Nat) (a : Addr) (sLen sCap : Nat) (cur cs : List Int) (hg : Row w g cur) (hn : cs.length = Nat.min sLen dLen)
    (hsrc : ∀ j, j < cs.length → w.cell? (a.add j) = some (.int .u8 (cs.getD j 0))) (hfit : o + cs.length ≤ cur.length) :
    ∃ w3, (Builtin.copy_ #[27, 27] 3 #[.slice (some ⟨g, o, none⟩) dLen dCap, .slice (some a) sLen sCap]).run Try.prog w = .ok (.int .i64 (cs.length : Int)) w3 ∧
      Row w3 g (cur.take o ++ cs ++ cur.drop (o + cs.length)) ∧ w3.heap.size = w.heap.size ∧ (∀ k, k ≠ g → w3.heap[k]? = w.heap[k]?) ∧ Below g w w3 := by
  have hr := run_copy_row (P := Try.prog) w 27 27 3 5 g o dLen dCap a sLen sCap (cur.map (Value.int .u8)).toArray 5 (cs.map (Value.int .u8)) Try.underlying27 (by kernel_rfl) hg (by simpa using hn)
    (fun j v hv => by
      have hj : j < cs.length := by
        have := (List.getElem?_eq_some_iff.1 hv).1
        simpa using this
      rw [hsrc j hj]
      simp [hj] at hv
      simp [hj, hv]) (by simpa using hfit) (by simp [Value.oneCell'])
  refine ⟨_, by simpa [goInt] using hr, ?_, by simp, fun k hk => setRow_other w g k _ hk, below_setRow (Below.refl _ _) (Nat.le_refl _) _⟩
  have := setRow_heap w g _ ((cur.map (Value.int .u8)).take o ++ cs.map (Value.int .u8) ++ (cur.map (Value.int .u8)).drop (o + (cs.map (Value.int .u8)).length)).toArray 5 _ hg
  unfold Row
  simpa using this

set_option maxHeartbeats 1000000 in
set_option maxRecDepth 100000 in
theorem realloc_calls (p : Value) (n D : Nat) (l : List Int) (h : n ≤ 1099511627776) (w : World) (hr : Row w D l) (hn : l.length < n) :
    Calls Try.prog 115 #[p, .int .i64 (n : Int), .slice (some ⟨D, 0, none⟩) l.length l.length] w fun e w' => e = .returned (.slice (some ⟨w.heap.size, 0, none⟩) n n) ∧
      Row w' w.heap.size (l ++ List.replicate (n - l.length) 0) ∧ Below w.heap.size w w' ∧ w.heap.size < w'.heap.size := by
  have HC := Aside0.mk (alloc_calls p n h w)
  have hD := hr.lt
  have hr1 : Row (w.alloc (zeros n)) D l := blk_alloc hr (zeros n)
  have hz := row_zeros w n
  have hb : Below w.heap.size w (w.alloc (zeros n)) := below_alloc (Below.refl _ _) _
  have hs : w.heap.size < (w.alloc (zeros n)).heap.size := by simp
  have hd : decide ((l.length : Int) ≥ (n : Int)) = false := by simp; omega
  generalize hw1 : w.alloc (zeros n) = w1 at HC hr1 hz hb hs
  obtain ⟨w3, hcp, e1, e2, e3, e4⟩ := copy_bytes w1 w.heap.size 0 n n ⟨D, 0, none⟩ l.length l.length (List.replicate n 0) l hz (by show _ = min _ _; omega) (fun j hj => by
    have : (⟨D, 0, none⟩ : Addr).add j = ⟨D, j, none⟩ := by simp [Addr.add]; omega
    rw [this]; exact hr1.cell j hj) (by simp; omega)
  have HE := Aside0.mk (show Row w3 w.heap.size (l ++ List.replicate (n - l.length) 0) by simpa using e1)
  have HB := Aside0.mk (hb.trans e4)
  have HS := Aside0.mk (show w.heap.size < w3.heap.size by omega)
  clear hr1 hz hb hs hw1 hr e1 e2 e3 e4
  go_enter Try.func115, Try.ntmps115
  go_wp2_with (go_at_call 113; refine HC.out.mono ?_; rintro e w2 ⟨rfl, rfl⟩)
  go_ret
  exact ⟨rfl, HE.out, HB.out, HS.out⟩
theorem and_m64 (m : Nat) (h : m < 2 ^ 64) : m &&& (2 ^ 64 - 64) = m / 64 * 64 := by
  have e1 : (2 ^ 64 - 64 : Nat) = (2 ^ 58 - 1) <<< 6 := by decide
  have e2 : m / 64 * 64 = (m >>> 6) <<< 6 := by rw [Nat.shiftLeft_eq, Nat.shiftRight_eq_div_pow]
  rw [e1, e2]
  apply Nat.eq_of_testBit_eq
  intro i
  rw [Nat.testBit_and, Nat.testBit_shiftLeft, Nat.testBit_shiftLeft, Nat.testBit_two_pow_sub_one, Nat.testBit_shiftRight]
  by_cases c : 6 ≤ i
  · have e : 6 + (i - 6) = i := by omega
    rw [e]
    by_cases c2 : i - 6 < 58
    · simp [c, c2]
    · have : m.testBit i = false := Nat.testBit_lt_two_pow (Nat.lt_of_lt_of_le h (Nat.pow_le_pow_right (by decide) (by omega)))
      simp [this]
  · simp [c]
/-- A buffer, with bytes of its own. -/
def IsBuf (w : World) (B D : Nat) (l : List Int) (n : Int) (G : Nat) : Prop := w.heap[B]? = some (bufO (.slice (some ⟨D, 0, none⟩) l.length l.length) n G) ∧ Row w D l
/-- The next multiple of 64. -/
def up64 (n : Nat) : Nat := (n + 63) / 64 * 64
theorem round_of (n : Nat) (h : n ≤ 1099511627776) : ∃ m : Nat, m = up64 n ∧ n ≤ m ∧ m < n + 64 := ⟨_, rfl, by unfold up64; omega, by unfold up64; omega⟩
set_option maxHeartbeats 1000000 in
set_option maxRecDepth 100000 in
theorem roundp_calls (n : Nat) (h : n ≤ 1099511627776) (w : World) :
    Calls Try.prog 66 #[.int .i64 (n : Int), .int .i64 64] w fun e w' => e = .returned (.int .i64 (up64 n : Nat)) ∧ w' = w := by
  have hb : bits .xor .i64 (-1) 63 = -64 := by kernel_rfl
  have hw : IntKind.i64.wrap ((n : Int) + 63) = ((n + 63 : Nat) : Int) := by rw [IntKind.wrap_i64]; omega
  have ha : bits .and .i64 ((n + 63 : Nat) : Int) (-64) = ((up64 n : Nat) : Int) := by
    have e : (BitVec.ofInt 64 ((n + 63 : Nat) : Int) &&& BitVec.ofInt 64 (-64)).toNat = (n + 63) / 64 * 64 := by
      rw [BitVec.toNat_and, BitVec.ofInt_natCast, BitVec.toNat_ofNat, Nat.mod_eq_of_lt (by omega)]
      exact and_m64 _ (by omega)
    show IntKind.i64.wrap ((BitVec.ofInt 64 ((n + 63 : Nat) : Int) &&& BitVec.ofInt 64 (-64)).toNat : Int) = _
    unfold up64
    rw [e, IntKind.wrap_i64]; omega
  generalize up64 n = m at *
  generalize n + 63 = t at *
  go_enter Try.func66, Try.ntmps66
  go_wp2
  go_ret
  exact ⟨rfl, rfl⟩
set_option maxHeartbeats 1000000 in
theorem round_calls (n m : Nat) (hn : n ≤ 1099511627776) (w : World) (h : m = up64 n) :
    Calls Try.prog 61 #[.int .i64 (n : Int)] w fun e w' => e = .returned (.int .i64 (m : Int)) ∧ w' = w := by
  have HC := Aside0.mk (roundp_calls n hn w)
  rw [← h] at HC
  clear h
  go_enter Try.func61, Try.ntmps61
  go_wp2_with (go_at_call 66; refine HC.out.mono ?_; rintro e w1 ⟨rfl, rfl⟩)
  go_ret
  exact ⟨rfl, rfl⟩
theorem kept_alloc (w : World) (o : Obj) (S : Nat → Prop) : Kept w (w.alloc o) S := (Kept.refl w S).alloc o
set_option maxHeartbeats 1000000 in
set_option maxRecDepth 100000 in
theorem reserve_first (B n G : Nat) (h : n ≤ 1073741824) (w : World) (hn : 0 < n) (hB : w.heap[B]? = some (bufO (.slice none 0 0) 0 G)) :
    Calls Try.prog 60 #[.pointer (some ⟨B, 0, none⟩), .int .i64 (n : Int)] w fun e w' => e = .returned (.tuple #[]) ∧ ∃ m, n ≤ m ∧ m < n + 64 ∧ IsBuf w' B w.heap.size (List.replicate m 0) 0 G ∧
      Kept w w' (fun k => k = B) ∧ Below B w w' := by
  obtain ⟨m, hm, h1, h2⟩ := round_of n (by omega)
  have HM := Aside0.mk (round_calls n m (by omega) w hm)
  have r1 : w.cell? ⟨B, 1, none⟩ = some (.slice none 0 0) := (blk_cell hB 1).trans rfl
  have r4 : w.cell? ⟨B, 4, none⟩ = some (.iface 126 (.pointer (some ⟨G, 0, none⟩))) := (blk_cell hB 4).trans rfl
  have hc := fun (p : Value) => alloc_calls p m (by omega) w
  have hd : decide ((n : Int) > 0) = true := by simp; omega
  have hB2 := blk_alloc hB (zeros m)
  have hz := row_zeros w m
  have hk := kept_alloc w (zeros m) (fun k => k = B)
  have hb : Below B w (w.alloc (zeros m)) := (below_alloc (Below.refl _ _) _).mono (Nat.le_of_lt (blk_lt hB))
  have HL := Aside0.mk (blk_lt hB)
  generalize w.alloc (zeros m) = w2 at hc hB2 hz hk hb
  have HC := Aside0.mk hc
  have HB2 := Aside0.mk hB2
  have HZ := Aside0.mk hz
  have HK := Aside0.mk hk
  have HBB := Aside0.mk hb
  have s1 : w2.cell? ⟨B, 1, none⟩ = some (.slice none 0 0) := (blk_cell hB2 1).trans rfl
  have z1 : w2.frozen? ⟨B, 1, none⟩ = false := blk_frozen hB2 1
  clear hB hm hc hB2 hz hk hb
  go_enter Try.func60, Try.ntmps60
  go_wp2_with (first | (go_at_call 61; refine HM.out.mono ?_; rintro e w1 ⟨rfl, hw1⟩; subst w1) | (go_at_call 113; refine (HC.out _).mono ?_; rintro e w1 ⟨rfl, hw1⟩; subst w1))
  go_end0
  refine ⟨rfl, m, h1, h2, ⟨?_, ?_⟩, ?_, ?_⟩
  · have := blk_set HB2.out 1 (.slice (some ⟨w.heap.size, 0, none⟩) m m)
    rw [List.length_replicate]
    exact this
  · exact blk_far HZ.out (p := ⟨B, 1, none⟩) (by show w.heap.size ≠ B; have := HL.out; omega) _
  · exact HK.out.setCell (.inl rfl) _
  · exact Below.setCell (p := ⟨B, 1, none⟩) HBB.out (Nat.le_refl _) _

set_option maxHeartbeats 1000000 in
set_option maxRecDepth 100000 in
theorem reserve_same (B D n : Nat) (l : List Int) (q : Int) (G : Nat) (h : n ≤ 1073741824) (hll : l.length ≤ 1073741824) (w : World) (hn : n ≤ l.length) (hB : IsBuf w B D l q G) :
    Calls Try.prog 60 #[.pointer (some ⟨B, 0, none⟩), .int .i64 (n : Int)] w fun e w' => e = .returned (.tuple #[]) ∧ w' = w := by
  have r1 : w.cell? ⟨B, 1, none⟩ = some (.slice (some ⟨D, 0, none⟩) l.length l.length) := (blk_cell hB.1 1).trans rfl
  have hd : decide ((n : Int) > (l.length : Int)) = false := by simp; omega
  go_enter Try.func60, Try.ntmps60
  go_wp2
  go_end0
  exact ⟨rfl, rfl⟩
set_option maxHeartbeats 4000000 in
set_option maxRecDepth 100000 in
theorem reserve_grow (B D n : Nat) (l : List Int) (q : Int) (G : Nat) (h : n ≤ 1073741824) (w : World) (hl : 0 < l.length) (hn : l.length < n) (hB : IsBuf w B D l q G) :
    Calls Try.prog 60 #[.pointer (some ⟨B, 0, none⟩), .int .i64 (n : Int)] w fun e w' => e = .returned (.tuple #[]) ∧ ∃ m, n ≤ m ∧ m < n + 64 ∧ IsBuf w' B w.heap.size (l ++ List.replicate (m - l.length) 0) q G ∧
      Kept w w' (fun k => k = B) ∧ Below B w w' := by
  obtain ⟨m, hm, h1, h2⟩ := round_of n (by omega)
  have HM := Aside0.mk (round_calls n m (by omega) w hm)
  have r1 : w.cell? ⟨B, 1, none⟩ = some (.slice (some ⟨D, 0, none⟩) l.length l.length) := (blk_cell hB.1 1).trans rfl
  have r4 : w.cell? ⟨B, 4, none⟩ = some (.iface 126 (.pointer (some ⟨G, 0, none⟩))) := (blk_cell hB.1 4).trans rfl
  have hd : decide ((n : Int) > (l.length : Int)) = true := by simp; omega
  have hd2 : decide ((l.length : Int) = 0) = false := by simp; intro e; rw [e] at hl; simp at hl
  have HL := Aside0.mk (blk_lt hB.1)
  have HC := Aside0.mk (fun (p : Value) W (hr : Row W D l) => realloc_calls p m D l (by omega) W hr (by omega))
  have HB := Aside0.mk hB
  clear hB hm
  go_enter Try.func60, Try.ntmps60
  go_wp2_with (go_at_call 61; refine HM.out.mono ?_; rintro e w1 ⟨rfl, hw1⟩; subst w1)
  go_region_with (go_at_call 115; refine (HC.out _ w.drew HB.out.2).mono ?_; rintro e w2 ⟨rfl, e1, e2, e3⟩; have hb2 := (e2.block B HL.out).trans HB.out.1; have s1 : w2.cell? ⟨B, 1, none⟩ = some (.slice (some ⟨D, 0, none⟩) l.length l.length) := (blk_cell hb2 1).trans rfl; have z1 : w2.frozen? ⟨B, 1, none⟩ = false := blk_frozen hb2 1; have E1 := Aside0.mk e1; have E2 := Aside0.mk e2; have HB2 := Aside0.mk hb2; clear e1 e2 e3 hb2)
  all_goals
    go_end0
    refine ⟨rfl, m, h1, h2, ⟨?_, ?_⟩, ?_, ?_⟩
    · have := blk_set HB2.out 1 (.slice (some ⟨w.heap.size, 0, none⟩) m m)
      rw [show (l ++ List.replicate (m - l.length) (0 : Int)).length = m by simp; omega]
      exact this
    · exact blk_far E1.out (p := ⟨B, 1, none⟩) (by show w.heap.size ≠ B; have := HL.out; omega) _
    · exact (Kept.of_below (w := w) (show Below w.heap.size w w2 from (below_drew (Below.refl _ w)).trans E2.out) (fun k => k = B)).setCell (.inl rfl) _
    · exact Below.setCell (p := ⟨B, 1, none⟩) (((below_drew (Below.refl _ w)).trans E2.out).mono (Nat.le_of_lt HL.out)) (Nat.le_refl _) _
end Go.Proofs.Ytdekingogcmboaa.Q

/- The writer over a buffer: reserved, written to. -/
namespace Go.Proofs.Ytdekingogcmboaa.Q
open Go.RowKit Go.Proofs.YtdekingogcmboaaW.PrintWords Go.Proofs.YtdekingogcmboaaW.PrintLast Go.Proofs.YtdekingogcmboaaW.PrintMore
set_option linter.unusedVariables false
set_option linter.unusedSimpArgs false
/-- A writer: its buffer, its place. -/
def sinkO (B : Nat) (pos : Nat) : Obj := .cells #[.pointer (some ⟨B, 0, none⟩), .int .i64 (pos : Int), .int .i64 0] 110 (0, 0)
structure Snk (w : World) (S B D : Nat) (l : List Int) (pos : Nat) (q : Int) (G : Nat) : Prop where
  s : w.heap[S]? = some (sinkO B pos)
  b : IsBuf w B D l q G
  le : pos ≤ l.length
  lo : 256 ≤ l.length
  hi : l.length ≤ 16777216

set_option maxHeartbeats 1000000 in
set_option maxRecDepth 100000 in
theorem buf_calls (B D : Nat) (l : List Int) (q : Int) (G : Nat) (w : World) (h : IsBuf w B D l q G) :
    Calls Try.prog 55 #[.pointer (some ⟨B, 0, none⟩)] w fun e w' => e = .returned (.slice (some ⟨D, 0, none⟩) l.length l.length) ∧ w' = w := by
  have r1 : w.cell? ⟨B, 1, none⟩ = some (.slice (some ⟨D, 0, none⟩) l.length l.length) := (blk_cell h.1 1).trans rfl
  clear h
  go_enter Try.func55, Try.ntmps55
  go_wp2
  go_ret
  exact ⟨rfl, rfl⟩
set_option maxHeartbeats 1000000 in
set_option maxRecDepth 100000 in
theorem cap_calls (B : Nat) (s : Option Addr) (n c : Nat) (q : Int) (G : Nat) (w : World) (h : w.heap[B]? = some (bufO (.slice s n c) q G)) :
    Calls Try.prog 58 #[.pointer (some ⟨B, 0, none⟩)] w fun e w' => e = .returned (.int .i64 (n : Int)) ∧ w' = w := by
  have r1 : w.cell? ⟨B, 1, none⟩ = some (.slice s n c) := (blk_cell h 1).trans rfl
  clear h
  go_enter Try.func58, Try.ntmps58
  go_wp2
  go_ret
  exact ⟨rfl, rfl⟩
set_option maxHeartbeats 1000000 in
set_option maxRecDepth 100000 in
theorem len_calls_b (B : Nat) (s : Value) (q : Int) (G : Nat) (w : World) (h : w.heap[B]? = some (bufO s q G)) :
    Calls Try.prog 49 #[.pointer (some ⟨B, 0, none⟩)] w fun e w' => e = .returned (.int .i64 q) ∧ w' = w := by
  have r1 : w.cell? ⟨B, 2, none⟩ = some (.int .i64 q) := (blk_cell h 2).trans rfl
  clear h
  go_enter Try.func49, Try.ntmps49
  go_wp2
  go_ret
  exact ⟨rfl, rfl⟩
set_option maxHeartbeats 1000000 in
set_option maxRecDepth 100000 in
theorem max_calls (n : Nat) (w : World) : Calls Try.prog 57 #[.int .i64 (n : Int), .int .i64 256] w fun e w' => e = .returned (.int .i64 ((max n 256 : Nat) : Int)) ∧ w' = w := by
  by_cases c : (n : Int) > 256
  · have hd : decide ((n : Int) > 256) = true := decide_eq_true c
    have e : max n 256 = n := by omega
    rw [e]
    go_enter Try.func57, Try.ntmps57
    go_wp2
    go_ret
    exact ⟨rfl, rfl⟩
  · have hd : decide ((n : Int) > 256) = false := decide_eq_false c
    have e : max n 256 = 256 := by omega
    rw [e]
    go_enter Try.func57, Try.ntmps57
    go_wp2
    go_ret
    exact ⟨rfl, rfl⟩

/-- What a reserve comes to. -/
def Grew (w w' : World) (S B D : Nat) (l : List Int) (pos : Nat) (q : Int) (G n : Nat) : Prop :=
  ∃ D' l', Snk w' S B D' l' pos q G ∧ pos + n ≤ l'.length ∧ (∃ k, l' = l ++ List.replicate k 0) ∧ (D' = D ∨ w.heap.size ≤ D') ∧ Kept w w' (fun k => k = B) ∧ Below B w w'

theorem bufne {w : World} {S B D : Nat} {l : List Int} {pos : Nat} {q : Int} {G : Nat} (h : Snk w S B D l pos q G) : S ≠ B ∧ S ≠ D ∧ B ≠ D :=
  ⟨blk_ne h.s h.b.1 (by decide), blk_ne h.s h.b.2 (by decide), blk_ne h.b.1 h.b.2 (by decide)⟩
set_option maxHeartbeats 1000000 in
set_option maxRecDepth 100000 in
theorem reserve_has (S B D : Nat) (l : List Int) (pos : Nat) (q : Int) (G n : Nat) (w : World) (h : Snk w S B D l pos q G) (hn : pos + n ≤ l.length) :
    Calls Try.prog 52 #[.pointer (some ⟨S, 0, none⟩), .int .i64 (n : Int)] w fun e w' => e = .returned (.tuple #[]) ∧ w' = w := by
  have h1 := h.lo; have h2 := h.hi
  have s0 : w.cell? ⟨S, 0, none⟩ = some (.pointer (some ⟨B, 0, none⟩)) := (blk_cell h.s 0).trans rfl
  have s1 : w.cell? ⟨S, 1, none⟩ = some (.int .i64 (pos : Int)) := (blk_cell h.s 1).trans rfl
  have HP := Aside0.mk (cap_calls B _ _ _ q G w h.b.1)
  have HM := Aside0.mk (show Calls Try.prog 57 #[.int .i64 (l.length : Int), .int .i64 256] w fun e w' => e = .returned (.int .i64 (l.length : Int)) ∧ w' = w by have := max_calls l.length w; rwa [show max l.length 256 = l.length by omega] at this)
  have HR := Aside0.mk (reserve_same B D l.length l q G (by omega) (by omega) w (Nat.le_refl _) h.b)
  have hd : decide ((l.length : Int) < (pos : Int) + (n : Int)) = false := by simp; omega
  clear h
  go_enter Try.func52, Try.ntmps52
  go_wp2_with (first | (go_at_call 58; refine HP.out.mono ?_; rintro e w1 ⟨rfl, hw1⟩; subst w1) | (go_at_call 57; refine HM.out.mono ?_; rintro e w1 ⟨rfl, hw1⟩; subst w1) | (go_at_call 60; refine HR.out.mono ?_; rintro e w1 ⟨rfl, hw1⟩; subst w1))
  refine wp_loop_rounds 1 ?_
  rw [rounds_succ]
  go_wp2_with (first | (go_at_call 60; refine HR.out.mono ?_; rintro e w1 ⟨rfl, hw1⟩; subst w1))
  go_end0
  exact ⟨rfl, rfl⟩

set_option maxHeartbeats 2000000 in
set_option maxRecDepth 100000 in
theorem reserve_more (S B D : Nat) (l : List Int) (pos : Nat) (q : Int) (G n : Nat) (w : World) (h : Snk w S B D l pos q G) (hn : l.length < pos + n) (hb : pos + n ≤ 4194304) :
    Calls Try.prog 52 #[.pointer (some ⟨S, 0, none⟩), .int .i64 (n : Int)] w fun e w' => e = .returned (.tuple #[]) ∧ ∃ m, pos + n < m ∧ m ≤ 8388700 ∧ IsBuf w' B w.heap.size (l ++ List.replicate (m - l.length) 0) q G ∧ Kept w w' (fun k => k = B) ∧ Below B w w' := by
  have h1 := h.lo; have h2 := h.hi
  have s0 : w.cell? ⟨S, 0, none⟩ = some (.pointer (some ⟨B, 0, none⟩)) := (blk_cell h.s 0).trans rfl
  have s1 : w.cell? ⟨S, 1, none⟩ = some (.int .i64 (pos : Int)) := (blk_cell h.s 1).trans rfl
  have HP := Aside0.mk (cap_calls B _ _ _ q G w h.b.1)
  have HM := Aside0.mk (show Calls Try.prog 57 #[.int .i64 (l.length : Int), .int .i64 256] w fun e w' => e = .returned (.int .i64 (l.length : Int)) ∧ w' = w by have := max_calls l.length w; rwa [show max l.length 256 = l.length by omega] at this)
  have HR := Aside0.mk (fun (r : Nat) (hr : pos + n < r ∧ r ≤ 2 * (pos + n)) => reserve_grow B D r l q G (by omega) w (by omega) (by omega) h.b)
  have hw := pow2_calls (pos + n) w (by omega) (by omega)
  rw [show ((pos + n : Nat) : Int) = (pos : Int) + (n : Int) by omega] at hw
  have HW := Aside0.mk hw
  clear hw
  have hd : decide ((l.length : Int) < (pos : Int) + (n : Int)) = true := by simp; omega
  clear h
  go_enter Try.func52, Try.ntmps52
  go_wp2_with (first | (go_at_call 58; refine HP.out.mono ?_; rintro e w1 ⟨rfl, hw1⟩; subst w1) | (go_at_call 57; refine HM.out.mono ?_; rintro e w1 ⟨rfl, hw1⟩; subst w1))
  refine wp_loop_rounds 2 ?_
  rw [rounds_succ]
  go_wp2_with (first | (go_at_call 59; refine HW.out.mono ?_; rintro e w1 ⟨r, rfl, hr1, hr2, hw1⟩; subst w1; have HRR := Aside0.mk (And.intro hr1 hr2); have hd2 : decide ((r : Int) < (pos : Int) + (n : Int)) = false := by simp; omega))
  rw [rounds_succ]
  go_wp2_with (first | (go_at_call 60; refine (HR.out r HRR.out).mono ?_; rintro e w1 ⟨rfl, hw1⟩; have HE := Aside0.mk hw1; clear hw1))
  go_end0
  obtain ⟨m, m1, m2, m3, m4, m5⟩ := HE.out
  have := HRR.out
  exact ⟨rfl, m, by omega, by omega, m3, m4, m5⟩

theorem reserve_any (S B D : Nat) (l : List Int) (pos : Nat) (q : Int) (G n : Nat) (w : World) (h : Snk w S B D l pos q G) (hb : pos + n ≤ 4194304) :
    Calls Try.prog 52 #[.pointer (some ⟨S, 0, none⟩), .int .i64 (n : Int)] w fun e w' => e = .returned (.tuple #[]) ∧ Grew w w' S B D l pos q G n := by
  have hne := bufne h
  have hlo := h.lo
  have hle := h.le
  by_cases c : pos + n ≤ l.length
  · refine (reserve_has S B D l pos q G n w h c).mono ?_
    rintro e w' ⟨rfl, rfl⟩
    exact ⟨rfl, D, l, h, c, ⟨0, by simp⟩, .inl rfl, Kept.refl _ _, Below.refl _ _⟩
  · refine (reserve_more S B D l pos q G n w h (by omega) hb).mono ?_
    rintro e w' ⟨rfl, m, m1, m2, m3, m4, m5⟩
    have hl : (l ++ List.replicate (m - l.length) (0 : Int)).length = m := by simp; omega
    refine ⟨rfl, w.heap.size, _, ⟨(m4.2 S (blk_lt h.s) (by omega)).trans h.s, m3, by omega, by omega, by omega⟩, by omega, ⟨_, rfl⟩, .inr (Nat.le_refl _), m4, m5⟩

/-- A writer that has no buffer. -/
def sink0 (pos : Int) : Obj := .cells #[.pointer none, .int .i64 pos, .int .i64 0] 110 (0, 0)
theorem cells_three (w : World) (G : Nat) (S : Nat) (hS : w.heap[S]? = some (sink0 0)) :
    ∀ W, W = ((w.alloc (.cells #[] 130)).alloc (bufO (.slice none 0 0) 0 w.heap.size)) → W.heap[S]? = some (sink0 0) ∧ W.heap[w.heap.size + 1]? = some (bufO (.slice none 0 0) 0 w.heap.size) ∧ Below w.heap.size w W ∧ W.heap.size = w.heap.size + 2 := by
  rintro W rfl
  refine ⟨blk_alloc (blk_alloc hS _) _, ?_, below_alloc (below_alloc (Below.refl _ _) _) _, by simp⟩
  have h := blk_new (w.alloc (.cells #[] 130)) (bufO (.slice none 0 0) 0 w.heap.size)
  simpa using h
set_option maxHeartbeats 2000000 in
set_option maxRecDepth 100000 in
theorem reserve_new0 (S : Nat) (w : World) (h : w.heap[S]? = some (sink0 0)) :
    Calls Try.prog 52 #[.pointer (some ⟨S, 0, none⟩), .int .i64 0] w fun e w' => e = .returned (.tuple #[]) ∧ Kept w w' (fun k => k = S) ∧ Below S w w' := by
  have hS := blk_lt h
  have s0 : w.cell? ⟨S, 0, none⟩ = some (.pointer none) := (blk_cell h 0).trans rfl
  have HN := Aside0.mk (newbuf_calls w)
  obtain ⟨c1, c2, c3, c4⟩ := cells_three w 0 S h _ rfl
  generalize (w.alloc (.cells #[] 130)).alloc (bufO (.slice none 0 0) 0 w.heap.size) = w2 at HN c1 c2 c3 c4
  have t0 : w2.cell? ⟨S, 0, none⟩ = some (.pointer none) := (blk_cell c1 0).trans rfl
  have z0 : w2.frozen? ⟨S, 0, none⟩ = false := blk_frozen c1 0
  have d1 : (w2.setCell ⟨S, 0, none⟩ (.pointer (some ⟨w.heap.size + 1, 0, none⟩))).heap[S]? = some (sinkO (w.heap.size + 1) 0) := blk_set c1 0 _
  have d2 := blk_far c2 (p := ⟨S, 0, none⟩) (by show w.heap.size + 1 ≠ S; omega) (.pointer (some ⟨w.heap.size + 1, 0, none⟩))
  have d3 : Kept w (w2.setCell ⟨S, 0, none⟩ (.pointer (some ⟨w.heap.size + 1, 0, none⟩))) (fun k => k = S) := (Kept.of_below c3 (fun k => k = S)).setCell (.inl rfl) _
  have d4 : Below S w (w2.setCell ⟨S, 0, none⟩ (.pointer (some ⟨w.heap.size + 1, 0, none⟩))) := Below.setCell (p := ⟨S, 0, none⟩) (c3.mono (Nat.le_of_lt hS)) (Nat.le_refl _) _
  generalize hw3 : w2.setCell ⟨S, 0, none⟩ (.pointer (some ⟨w.heap.size + 1, 0, none⟩)) = w3 at d1 d2 d3 d4
  have u0 : w3.cell? ⟨S, 0, none⟩ = some (.pointer (some ⟨w.heap.size + 1, 0, none⟩)) := (blk_cell d1 0).trans rfl
  have u1 : w3.cell? ⟨S, 1, none⟩ = some (.int .i64 0) := (blk_cell d1 1).trans rfl
  have HP := Aside0.mk (show Calls Try.prog 58 #[.pointer (some ⟨w.heap.size + 1, 0, none⟩)] w3 fun e w' => e = .returned (.int .i64 0) ∧ w' = w3 from cap_calls (w.heap.size + 1) none 0 0 0 w.heap.size w3 d2)
  have HM := Aside0.mk (show Calls Try.prog 57 #[.int .i64 0, .int .i64 256] w3 fun e w' => e = .returned (.int .i64 256) ∧ w' = w3 from max_calls 0 w3)
  have HR := Aside0.mk (reserve_first (w.heap.size + 1) 256 w.heap.size (by omega) w3 (by omega) d2)
  have D1 := Aside0.mk d1
  have D3 := Aside0.mk d3
  have D4 := Aside0.mk d4
  have HS := Aside0.mk hS
  clear h c1 c2 c3 c4 d1 d2 d3 d4 hS
  go_enter Try.func52, Try.ntmps52
  go_wp2_with (first | (go_at_call 56; refine HN.out.mono ?_; rintro e w1 ⟨rfl, hw1⟩; subst w1) | (go_at_call 58; refine HP.out.mono ?_; rintro e w1 ⟨rfl, hw1⟩; subst w1) | (go_at_call 57; refine HM.out.mono ?_; rintro e w1 ⟨rfl, hw1⟩; subst w1))
  refine wp_loop_rounds 1 ?_
  rw [rounds_succ]
  go_wp2_with (first | (go_at_call 60; refine HR.out.mono ?_; rintro e w1 ⟨rfl, hw1⟩; have HE := Aside0.mk hw1; clear hw1))
  go_end0
  obtain ⟨m, m1, m2, m3, m4, m5⟩ := HE.out
  have hs := HS.out
  have h3 := D3.out.1
  exact ⟨rfl, D3.out.then_ m4 (fun k hk => .inr (by omega)), D4.out.trans (m5.mono (by omega))⟩
set_option maxHeartbeats 2000000 in
set_option maxRecDepth 100000 in
theorem reserve_new (S : Nat) (w : World) (h : w.heap[S]? = some (sink0 0)) :
    Calls Try.prog 52 #[.pointer (some ⟨S, 0, none⟩), .int .i64 1024] w fun e w' => e = .returned (.tuple #[]) ∧ ∃ B D l G, w.heap.size ≤ B ∧ w.heap.size ≤ D ∧ Snk w' S B D l 0 0 G ∧ (∃ k, l = List.replicate k 0) ∧ Kept w w' (fun k => k = S) ∧ Below S w w' := by
  have hS := blk_lt h
  have s0 : w.cell? ⟨S, 0, none⟩ = some (.pointer none) := (blk_cell h 0).trans rfl
  have HN := Aside0.mk (newbuf_calls w)
  obtain ⟨c1, c2, c3, c4⟩ := cells_three w 0 S h _ rfl
  generalize (w.alloc (.cells #[] 130)).alloc (bufO (.slice none 0 0) 0 w.heap.size) = w2 at HN c1 c2 c3 c4
  have t0 : w2.cell? ⟨S, 0, none⟩ = some (.pointer none) := (blk_cell c1 0).trans rfl
  have z0 : w2.frozen? ⟨S, 0, none⟩ = false := blk_frozen c1 0
  have d1 : (w2.setCell ⟨S, 0, none⟩ (.pointer (some ⟨w.heap.size + 1, 0, none⟩))).heap[S]? = some (sinkO (w.heap.size + 1) 0) := blk_set c1 0 _
  have d2 := blk_far c2 (p := ⟨S, 0, none⟩) (by show w.heap.size + 1 ≠ S; omega) (.pointer (some ⟨w.heap.size + 1, 0, none⟩))
  have d3 : Kept w (w2.setCell ⟨S, 0, none⟩ (.pointer (some ⟨w.heap.size + 1, 0, none⟩))) (fun k => k = S) := (Kept.of_below c3 (fun k => k = S)).setCell (.inl rfl) _
  have d4 : Below S w (w2.setCell ⟨S, 0, none⟩ (.pointer (some ⟨w.heap.size + 1, 0, none⟩))) := Below.setCell (p := ⟨S, 0, none⟩) (c3.mono (Nat.le_of_lt hS)) (Nat.le_refl _) _
  generalize hw3 : w2.setCell ⟨S, 0, none⟩ (.pointer (some ⟨w.heap.size + 1, 0, none⟩)) = w3 at d1 d2 d3 d4
  have u0 : w3.cell? ⟨S, 0, none⟩ = some (.pointer (some ⟨w.heap.size + 1, 0, none⟩)) := (blk_cell d1 0).trans rfl
  have u1 : w3.cell? ⟨S, 1, none⟩ = some (.int .i64 0) := (blk_cell d1 1).trans rfl
  have HP := Aside0.mk (show Calls Try.prog 58 #[.pointer (some ⟨w.heap.size + 1, 0, none⟩)] w3 fun e w' => e = .returned (.int .i64 0) ∧ w' = w3 from cap_calls (w.heap.size + 1) none 0 0 0 w.heap.size w3 d2)
  have HM := Aside0.mk (show Calls Try.prog 57 #[.int .i64 0, .int .i64 256] w3 fun e w' => e = .returned (.int .i64 256) ∧ w' = w3 from max_calls 0 w3)
  have HW := Aside0.mk (show Calls Try.prog 59 #[.int .i64 1024] w3 (Pow2 1024 w3) from pow2_calls 1024 w3 (by omega) (by omega))
  have HR := Aside0.mk (fun (r : Nat) (hr : 1024 < r ∧ r ≤ 2 * 1024) => reserve_first (w.heap.size + 1) r w.heap.size (by omega) w3 (by omega) d2)
  have D1 := Aside0.mk d1
  have D3 := Aside0.mk d3
  have D4 := Aside0.mk d4
  have HS := Aside0.mk hS
  clear h c1 c2 c3 c4 d1 d2 d3 d4 hS
  go_enter Try.func52, Try.ntmps52
  go_wp2_with (first | (go_at_call 56; refine HN.out.mono ?_; rintro e w1 ⟨rfl, hw1⟩; subst w1) | (go_at_call 58; refine HP.out.mono ?_; rintro e w1 ⟨rfl, hw1⟩; subst w1) | (go_at_call 57; refine HM.out.mono ?_; rintro e w1 ⟨rfl, hw1⟩; subst w1))
  refine wp_loop_rounds 2 ?_
  rw [rounds_succ]
  go_wp2_with (first | (go_at_call 59; refine HW.out.mono ?_; rintro e w1 ⟨r, rfl, hr1, hr2, hw1⟩; subst w1; have HRR := Aside0.mk (And.intro hr1 hr2); have hd2 : decide ((r : Int) < 1024) = false := by simp; omega))
  rw [rounds_succ]
  go_wp2_with (first | (go_at_call 60; refine (HR.out r HRR.out).mono ?_; rintro e w1 ⟨rfl, hw1⟩; have HE := Aside0.mk hw1; clear hw1))
  go_end0
  obtain ⟨m, m1, m2, m3, m4, m5⟩ := HE.out
  have hs := HS.out
  have h3 := D3.out.1
  have hr := HRR.out
  exact ⟨rfl, w.heap.size + 1, w3.heap.size, _, w.heap.size, by omega, h3, ⟨(m4.2 S (by omega) (by omega)).trans D1.out, m3, Nat.zero_le _, by simp; omega, by simp; omega⟩, ⟨_, rfl⟩, D3.out.then_ m4 (fun k hk => .inr (by omega)), D4.out.trans (m5.mono (by omega))⟩

set_option maxHeartbeats 2000000 in
set_option maxRecDepth 100000 in
theorem new_calls (w : World) : Calls Try.prog 39 #[.int .i64 1024] w fun e w' => e = .returned (.pointer (some ⟨w.heap.size, 0, none⟩)) ∧ ∃ B D l G, w.heap.size < B ∧ w.heap.size < D ∧ Snk w' w.heap.size B D l 0 0 G ∧ (∃ k, l = List.replicate k 0) ∧ Below w.heap.size w w' := by
  have hn := blk_new w (sink0 0)
  have hR := reserve_new w.heap.size (w.alloc (sink0 0)) hn
  have HR := Aside0.mk hR
  clear hn hR
  go_enter Try.func39, Try.ntmps39
  go_wp2_with (first | (go_at_call 52; refine HR.out.mono ?_; rintro e w1 ⟨rfl, hw1⟩; have HE := Aside0.mk hw1; clear hw1))
  go_ret
  obtain ⟨B, D, l, G, h1, h2, h3, hz, h4, h5⟩ := HE.out
  simp at h1 h2
  exact ⟨rfl, B, D, l, G, by omega, by omega, h3, hz, (below_alloc (Below.refl _ _) _).trans h5⟩

/-- Bytes that lie somewhere. -/
def Src (w : World) (a : Addr) (cs : List Int) : Prop := ∀ j, j < cs.length → w.cell? (a.add j) = some (.int .u8 (cs.getD j 0))
set_option maxRecDepth 100000 in
theorem sliceAt_b (D i n : Nat) (hi : i ≤ n) (hn : n ≤ 16777216) (W : World) : (Instr.sliceAt 27 (.slice (some ⟨D, 0, none⟩) n n) (some (.int .i64 (i : Int))) none none).run Try.prog W = .ok (.slice (some ⟨D, if n - i = 0 then 0 else i, none⟩) (n - i) (n - i)) W := by
  rw [run_sliceAt_slice W 27 _ _ _ _ Try.underlying27, run_slice_l W 27 (some ⟨D, 0, none⟩) n n Try.underlying27 .i64 (i : Int) (by omega) (by omega)]
  have hsz : (sizeOf (Try.prog.elem 27)).run Try.prog W = .ok 1 W := by kernel_rfl
  rw [hsz]
  simp only [Result.andThen, sliced, Int.toNat_natCast]
  by_cases c : n - i = 0
  · rw [if_pos c, if_pos (by omega)]
  · rw [if_neg c, if_neg (by omega)]
    simp [Addr.add]
    omega
end Go.Proofs.Ytdekingogcmboaa.Q

/- The writer over a buffer: written to at a place. -/
namespace Go.Proofs.Ytdekingogcmboaa.Q
open Go.RowKit Go.Proofs.YtdekingogcmboaaW.PrintWords Go.Proofs.YtdekingogcmboaaW.PrintLast Go.Proofs.YtdekingogcmboaaW.PrintMore
set_option linter.unusedVariables false
set_option linter.unusedSimpArgs false
set_option maxHeartbeats 2000000 in
set_option maxRecDepth 100000 in
theorem resize_calls (B D : Nat) (l : List Int) (q : Int) (G pos : Nat) (w : World) (h : IsBuf w B D l q G) (hp : pos ≤ l.length) (hl : l.length ≤ 16777216) :
    Calls Try.prog 53 #[.pointer (some ⟨B, 0, none⟩), .int .i64 (pos : Int), .bool false] w fun e w' => e = .returned (.tuple #[]) ∧ w' = w.setCell ⟨B, 2, none⟩ (.int .i64 (pos : Int)) := by
  have HR := Aside0.mk (fun W (hW : IsBuf W B D l q G) => reserve_same B D pos l q G (by omega) (by omega) W hp hW)
  have r2 : w.cell? ⟨B, 2, none⟩ = some (.int .i64 q) := (blk_cell h.1 2).trans rfl
  have z2 : w.frozen? ⟨B, 2, none⟩ = false := blk_frozen h.1 2
  have H := Aside0.mk h
  clear h
  go_enter Try.func53, Try.ntmps53
  go_wp2_with (first | (go_at_call 60; refine (HR.out _ H.out).mono ?_; rintro e w1 ⟨rfl, hw1⟩; subst w1))

  go_end0
  exact ⟨rfl, rfl⟩
set_option maxHeartbeats 2000000 in
set_option maxRecDepth 100000 in
theorem resizens_calls (B D : Nat) (l : List Int) (q : Int) (G pos : Nat) (w : World) (h : IsBuf w B D l q G) (hp : pos ≤ l.length) (hl : l.length ≤ 16777216) :
    Calls Try.prog 50 #[.pointer (some ⟨B, 0, none⟩), .int .i64 (pos : Int)] w fun e w' => e = .returned (.tuple #[]) ∧ w' = w.setCell ⟨B, 2, none⟩ (.int .i64 (pos : Int)) := by
  have HR := Aside0.mk (resize_calls B D l q G pos w h hp hl)
  clear h
  go_enter Try.func50, Try.ntmps50
  go_wp2_with (first | (go_at_call 53; refine HR.out.mono ?_; rintro e w1 ⟨rfl, hw1⟩; subst w1))
  go_end0
  exact ⟨rfl, rfl⟩
/-- What a write at a place comes to. -/
def Wat (w w' : World) (S B D : Nat) (l : List Int) (off : Nat) (cs : List Int) (G : Nat) : Prop :=
  ∃ D' q' k, Snk w' S B D' ((l ++ List.replicate k 0).take off ++ cs ++ (l ++ List.replicate k 0).drop (off + cs.length)) 0 ((q' : Nat) : Int) G ∧ off + cs.length ≤ l.length + k ∧ (D' = D ∨ w.heap.size ≤ D') ∧ Kept w w' (fun k => k = B ∨ k = D) ∧ Below (min B D) w w'
theorem wat_end {w w1 w3 w4 : World} {S B D D1 q G k : Nat} {l cs : List Int} {off : Nat} (hlt : S < w.heap.size ∧ B < w.heap.size ∧ D < w.heap.size) (g1 : Snk w1 S B D1 (l ++ List.replicate k 0) 0 q G) (g2 : off + cs.length ≤ l.length + k) (g4 : D1 = D ∨ w.heap.size ≤ D1) (g5 : Kept w w1 (fun k => k = B)) (g6 : Below B w w1)
    (e1 : Row w3 D1 ((l ++ List.replicate k 0).take off ++ cs ++ (l ++ List.replicate k 0).drop (off + cs.length))) (e2 : w3.heap.size = w1.heap.size) (e3 : ∀ k, k ≠ D1 → w3.heap[k]? = w1.heap[k]?) (e4 : Below D1 w1 w3)
    (h4 : w4 = w3 ∨ w4 = w3.setCell ⟨B, 2, none⟩ (.int .i64 ((off : Int) + (cs.length : Int)))) : Wat w w4 S B D l off cs G := by
  obtain ⟨n1, n2, n3⟩ := bufne g1
  have hl : (l ++ List.replicate k (0 : Int)).length = l.length + k := by simp
  have hlen : ((l ++ List.replicate k (0 : Int)).take off ++ cs ++ (l ++ List.replicate k (0 : Int)).drop (off + cs.length)).length = (l ++ List.replicate k (0 : Int)).length := by simp; omega
  have f1 : w3.heap[S]? = _ := (e3 S n2).trans g1.s
  have f2 : w3.heap[B]? = _ := (e3 B n3).trans g1.b.1
  have hk : Kept w w3 (fun k => k = B ∨ k = D) := by
    refine ⟨by have := g5.1; omega, fun i hi hn => ?_⟩
    have hne : i ≠ D1 := by rcases g4 with rfl | h <;> omega
    exact (e3 i hne).trans (g5.2 i hi (by omega))
  have hbl : Below (min B D) w w3 := (g6.mono (Nat.min_le_left _ _)).trans (e4.mono (by rcases g4 with rfl | h <;> omega))
  have glo := g1.lo; have ghi := g1.hi
  rcases h4 with rfl | rfl
  · exact ⟨D1, q, k, ⟨f1, ⟨by rw [hlen]; exact f2, e1⟩, Nat.zero_le _, by omega, by omega⟩, g2, g4, hk, hbl⟩
  · refine ⟨D1, off + cs.length, k, ⟨blk_far f1 (p := ⟨B, 2, none⟩) n1 _, ⟨?_, blk_far e1 (p := ⟨B, 2, none⟩) (Ne.symm n3) _⟩, Nat.zero_le _, by omega, by omega⟩, g2, g4, hk.setCell (.inl (.inl rfl)) _, Below.setCell (p := ⟨B, 2, none⟩) hbl (Nat.min_le_left _ _) _⟩
    rw [hlen]
    have := blk_set f2 2 (.int .i64 ((off : Int) + (cs.length : Int)))
    exact this
set_option maxHeartbeats 4000000 in
set_option maxRecDepth 100000 in
theorem wat_calls (S B D : Nat) (l : List Int) (q : Nat) (G : Nat) (a : Addr) (c : Nat) (cs : List Int) (off : Nat) (w : World) (h : Snk w S B D l 0 (q : Int) G) (h0 : 0 < cs.length) (hb : off + cs.length ≤ 4000000) (hs : ∀ W, Kept w W (fun k => k = B) → Src W a cs) :
    Calls Try.prog 99 #[.pointer (some ⟨S, 0, none⟩), .slice (some a) cs.length c, .int .i64 (off : Int)] w fun e w' => (∃ n, e = .returned (.tuple #[.int .i64 n, .nilIface])) ∧ Wat w w' S B D l off cs G := by
  have hd : decide ((cs.length : Int) = 0) = false := decide_eq_false (by omega)
  have s0 : w.cell? ⟨S, 0, none⟩ = some (.pointer (some ⟨B, 0, none⟩)) := (blk_cell h.s 0).trans rfl
  have s1 : w.cell? ⟨S, 1, none⟩ = some (.int .i64 0) := (blk_cell h.s 1).trans rfl
  have s2 : w.cell? ⟨S, 2, none⟩ = some (.int .i64 0) := (blk_cell h.s 2).trans rfl
  have HL := Aside0.mk (And.intro (blk_lt h.s) (And.intro (blk_lt h.b.1) (blk_lt h.b.2)))
  have HP := Aside0.mk (cap_calls B _ _ _ q G w h.b.1)
  have hhi := h.hi
  have NE := Aside0.mk (bufne h)
  have HT := Aside0.mk (fun (D1 k : Nat) (W : World) (g1 : Snk W S B D1 (l ++ List.replicate k 0) 0 q G) (g2 : off + cs.length ≤ l.length + k) (hsW : Src W a cs) => copy_bytes W D1 off ((l ++ List.replicate k 0).length - off) ((l ++ List.replicate k 0).length - off) a cs.length c (l ++ List.replicate k 0) cs g1.b.2 (by show _ = min _ _; simp; omega) hsW (by simp; omega))
  by_cases c1 : off + cs.length ≥ l.length
  · have hd1 : decide ((off : Int) + (cs.length : Int) ≥ (l.length : Int)) = true := by simp; omega
    have HR := Aside0.mk (reserve_any S B D l 0 q G (off + cs.length) w h (by omega))
    have hX : ((off + cs.length : Nat) : Int) = (off : Int) + (cs.length : Int) := by omega
    rw [hX] at HR
    have HS := Aside0.mk hs
    clear h hs
    by_cases c2 : off + cs.length > q
    · have hd2 : decide ((off : Int) + (cs.length : Int) > (q : Int)) = true := by simp; omega
      go_enter Try.func99, Try.ntmps99
      go_wp2_with (first | (go_at_call 58; refine HP.out.mono ?_; rintro e w1 ⟨rfl, hw1⟩; subst w1) | (go_at_call 52; refine HR.out.mono ?_; rintro e w1 ⟨rfl, D1, l1, g1, g2, ⟨k, rfl⟩, g4, g5, g6⟩; have g2' : off + cs.length ≤ l.length + k := (by simp at g2; omega); obtain ⟨w3, hcp, e1, e2, e3, e4⟩ := HT.out D1 k w1 g1 g2' (HS.out w1 g5); have t0 : w1.cell? ⟨S, 0, none⟩ = some (.pointer (some ⟨B, 0, none⟩)) := (blk_cell g1.s 0).trans rfl; have HB1 := Aside0.mk (buf_calls B D1 _ q G w1 g1.b); have hsl := sliceAt_b D1 off (l ++ List.replicate k 0).length (by simp; omega) g1.hi; rw [if_neg (by simp; omega)] at hsl; have fS : w3.heap[S]? = _ := (e3 S (bufne g1).2.1).trans g1.s; have fB : w3.heap[B]? = _ := (e3 B (bufne g1).2.2).trans g1.b.1; have t3 : w3.cell? ⟨S, 0, none⟩ = some (.pointer (some ⟨B, 0, none⟩)) := (blk_cell fS 0).trans rfl; have HN := Aside0.mk (len_calls_b B _ q G w3 fB); have lhi := g1.hi; have e1l : ((l ++ List.replicate k (0 : Int)).take off ++ cs ++ (l ++ List.replicate k (0 : Int)).drop (off + cs.length)).length = (l ++ List.replicate k (0 : Int)).length := (by simp; omega); have HZ := Aside0.mk (resizens_calls B D1 _ q G (off + cs.length) w3 (And.intro (by rw [e1l]; exact fB) e1) (by rw [e1l]; simp; omega) (by rw [e1l]; exact lhi)); rw [hX] at HZ; have X := Aside0.mk (And.intro g1 (And.intro g2' (And.intro g4 (And.intro g5 (And.intro g6 (And.intro e1 (And.intro e2 (And.intro e3 e4)))))))); generalize hLL : (l ++ List.replicate k (0 : Int)).length = LL at hcp hsl HB1; clear g1 g2 g2' g4 g5 g6 e1 e2 e3 e4 fS fB lhi e1l hLL) | (go_at_call 55; refine HB1.out.mono ?_; rintro e w4 ⟨rfl, hw4⟩; subst w4) | (go_at_call 49; refine HN.out.mono ?_; rintro e w4 ⟨rfl, hw4⟩; subst w4) | (go_at_call 50; refine HZ.out.mono ?_; rintro e w4 ⟨rfl, hw4⟩; subst w4))
      go_ret2
      obtain ⟨g1, g2, g4, g5, g6, e1, e2, e3, e4⟩ := X.out
      exact ⟨⟨_, rfl⟩, wat_end HL.out g1 g2 g4 g5 g6 e1 e2 e3 e4 (.inr rfl)⟩
    · have hd2 : decide ((off : Int) + (cs.length : Int) > (q : Int)) = false := by simp; omega
      go_enter Try.func99, Try.ntmps99
      go_wp2_with (first | (go_at_call 58; refine HP.out.mono ?_; rintro e w1 ⟨rfl, hw1⟩; subst w1) | (go_at_call 52; refine HR.out.mono ?_; rintro e w1 ⟨rfl, D1, l1, g1, g2, ⟨k, rfl⟩, g4, g5, g6⟩; have g2' : off + cs.length ≤ l.length + k := (by simp at g2; omega); obtain ⟨w3, hcp, e1, e2, e3, e4⟩ := HT.out D1 k w1 g1 g2' (HS.out w1 g5); have t0 : w1.cell? ⟨S, 0, none⟩ = some (.pointer (some ⟨B, 0, none⟩)) := (blk_cell g1.s 0).trans rfl; have HB1 := Aside0.mk (buf_calls B D1 _ q G w1 g1.b); have hsl := sliceAt_b D1 off (l ++ List.replicate k 0).length (by simp; omega) g1.hi; rw [if_neg (by simp; omega)] at hsl; have fS : w3.heap[S]? = _ := (e3 S (bufne g1).2.1).trans g1.s; have fB : w3.heap[B]? = _ := (e3 B (bufne g1).2.2).trans g1.b.1; have t3 : w3.cell? ⟨S, 0, none⟩ = some (.pointer (some ⟨B, 0, none⟩)) := (blk_cell fS 0).trans rfl; have HN := Aside0.mk (len_calls_b B _ q G w3 fB); have X := Aside0.mk (And.intro g1 (And.intro g2' (And.intro g4 (And.intro g5 (And.intro g6 (And.intro e1 (And.intro e2 (And.intro e3 e4)))))))); generalize hLL : (l ++ List.replicate k (0 : Int)).length = LL at hcp hsl HB1; clear g1 g2 g2' g4 g5 g6 e1 e2 e3 e4 fS fB hLL) | (go_at_call 55; refine HB1.out.mono ?_; rintro e w4 ⟨rfl, hw4⟩; subst w4) | (go_at_call 49; refine HN.out.mono ?_; rintro e w4 ⟨rfl, hw4⟩; subst w4))
      go_ret2
      obtain ⟨g1, g2, g4, g5, g6, e1, e2, e3, e4⟩ := X.out
      exact ⟨⟨_, rfl⟩, wat_end HL.out g1 g2 g4 g5 g6 e1 e2 e3 e4 (.inl rfl)⟩
  · have hd1 : decide ((off : Int) + (cs.length : Int) ≥ (l.length : Int)) = false := by simp; omega
    have g1 : Snk w S B D (l ++ List.replicate 0 0) 0 q G := by simpa using h
    obtain ⟨w3, hcp, e1, e2, e3, e4⟩ := HT.out D 0 w g1 (by omega) (hs w (Kept.refl _ _))
    have hll : (l ++ List.replicate 0 (0 : Int)).length = l.length := by simp
    rw [hll] at hcp
    have HB1 := Aside0.mk (buf_calls B D _ q G w h.b)
    have hsl := sliceAt_b D off l.length (by omega) hhi
    rw [if_neg (by omega)] at hsl
    have fS : w3.heap[S]? = _ := (e3 S (bufne h).2.1).trans h.s
    have fB : w3.heap[B]? = _ := (e3 B (bufne h).2.2).trans h.b.1
    have t3 : w3.cell? ⟨S, 0, none⟩ = some (.pointer (some ⟨B, 0, none⟩)) := (blk_cell fS 0).trans rfl
    have HN := Aside0.mk (len_calls_b B _ q G w3 fB)
    have e1l : ((l ++ List.replicate 0 (0 : Int)).take off ++ cs ++ (l ++ List.replicate 0 (0 : Int)).drop (off + cs.length)).length = l.length := by simp; omega
    have HZ := Aside0.mk (resizens_calls B D _ q G (off + cs.length) w3 (And.intro (by rw [e1l]; exact fB) e1) (by rw [e1l]; omega) (by rw [e1l]; exact hhi))
    rw [show ((off + cs.length : Nat) : Int) = (off : Int) + (cs.length : Int) by omega] at HZ
    have X := Aside0.mk (And.intro g1 (And.intro e1 (And.intro e2 (And.intro e3 e4))))
    clear h hs g1 e1 e2 e3 e4 fS fB e1l hll
    by_cases c2 : off + cs.length > q
    · have hd2 : decide ((off : Int) + (cs.length : Int) > (q : Int)) = true := by simp; omega
      go_enter Try.func99, Try.ntmps99
      go_wp2_with (first | (go_at_call 58; refine HP.out.mono ?_; rintro e w1 ⟨rfl, hw1⟩; subst w1) | (go_at_call 55; refine HB1.out.mono ?_; rintro e w4 ⟨rfl, hw4⟩; subst w4) | (go_at_call 49; refine HN.out.mono ?_; rintro e w4 ⟨rfl, hw4⟩; subst w4) | (go_at_call 50; refine HZ.out.mono ?_; rintro e w4 ⟨rfl, hw4⟩; subst w4))
      go_ret2
      obtain ⟨g1, e1, e2, e3, e4⟩ := X.out
      exact ⟨⟨_, rfl⟩, wat_end HL.out g1 (by omega) (.inl rfl) (Kept.refl _ _) (Below.refl _ _) e1 e2 e3 e4 (.inr rfl)⟩
    · have hd2 : decide ((off : Int) + (cs.length : Int) > (q : Int)) = false := by simp; omega
      go_enter Try.func99, Try.ntmps99
      go_wp2_with (first | (go_at_call 58; refine HP.out.mono ?_; rintro e w1 ⟨rfl, hw1⟩; subst w1) | (go_at_call 55; refine HB1.out.mono ?_; rintro e w4 ⟨rfl, hw4⟩; subst w4) | (go_at_call 49; refine HN.out.mono ?_; rintro e w4 ⟨rfl, hw4⟩; subst w4))
      go_ret2
      obtain ⟨g1, e1, e2, e3, e4⟩ := X.out
      exact ⟨⟨_, rfl⟩, wat_end HL.out g1 (by omega) (.inl rfl) (Kept.refl _ _) (Below.refl _ _) e1 e2 e3 e4 (.inl rfl)⟩
end Go.Proofs.Ytdekingogcmboaa.Q
