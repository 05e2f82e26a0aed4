/- math/bits.Len64, Len and bitutil.NextPowerOf2, walked; atomic.Int64.Add. -/
import Derived.Test.YtcfnniminikmfaaQPI32a
import Derived.WalkKit
import Derived.Handy
import Derived.WideLaws
import Derived.Lib.Strings
import Derived.Lib.Slices
import Derived.Lib.Small
import Derived.Lib.Walk
import Derived.Lib.BitFns
import Derived.Laws.BitsLemmas
namespace Go.Proofs.Ytcfnniminikmfaa.Q
open Go.RowKit Go.Proofs.YtcfnniminikmfaaW.PrintWords Go.Proofs.YtcfnniminikmfaaW.PrintLast Go.Proofs.YtcfnniminikmfaaW.PrintMore
set_option linter.unusedVariables false
set_option linter.unusedSimpArgs false

theorem bitLen_lt (x : Nat) (h : x < 2 ^ 64) : x < 2 ^ Lib.bitLen x := by
  induction x using Nat.strongRecOn with
  | _ x ih =>
    rcases Nat.eq_zero_or_pos x with rfl | hp
    · exact Nat.two_pow_pos _
    · rw [Lib.bitLen_half x (by omega) h, Nat.pow_add]
      have := ih (x / 2) (by omega) (by omega)
      omega
theorem bitLen_up (x : Nat) (hp : 0 < x) (h : x < 2 ^ 64) : 2 ^ Lib.bitLen x ≤ 2 * x := by
  induction x using Nat.strongRecOn with
  | _ x ih =>
    rw [Lib.bitLen_half x (by omega) h, Nat.pow_add]
    rcases Nat.eq_zero_or_pos (x / 2) with e | hq
    · rw [e]; have e0 : Lib.bitLen 0 = 0 := by decide
      rw [e0]; omega
    · have := ih (x / 2) (by omega) hq (by omega)
      omega

set_option maxRecDepth 100000 in
theorem fold_tab : ({ data := (([0, 1, 2, 2, 3, 3, 3, 3, 4, 4, 4, 4, 4, 4, 4, 4, 5, 5, 5, 5, 5, 5, 5, 5, 5, 5, 5, 5, 5, 5, 5, 5, 6, 6, 6, 6, 6, 6, 6, 6, 6, 6, 6, 6, 6, 6, 6, 6, 6, 6, 6, 6, 6, 6, 6, 6, 6, 6, 6, 6, 6, 6, 6, 6].append [7, 7, 7, 7, 7, 7, 7, 7, 7, 7, 7, 7, 7, 7, 7, 7, 7, 7, 7, 7, 7, 7, 7, 7, 7, 7, 7, 7, 7, 7, 7, 7, 7, 7, 7, 7, 7, 7, 7, 7, 7, 7, 7, 7, 7, 7, 7, 7, 7, 7, 7, 7, 7, 7, 7, 7, 7, 7, 7, 7, 7, 7, 7, 7]).append ([8, 8, 8, 8, 8, 8, 8, 8, 8, 8, 8, 8, 8, 8, 8, 8, 8, 8, 8, 8, 8, 8, 8, 8, 8, 8, 8, 8, 8, 8, 8, 8, 8, 8, 8, 8, 8, 8, 8, 8, 8, 8, 8, 8, 8, 8, 8, 8, 8, 8, 8, 8, 8, 8, 8, 8, 8, 8, 8, 8, 8, 8, 8, 8].append [8, 8, 8, 8, 8, 8, 8, 8, 8, 8, 8, 8, 8, 8, 8, 8, 8, 8, 8, 8, 8, 8, 8, 8, 8, 8, 8, 8, 8, 8, 8, 8, 8, 8, 8, 8, 8, 8, 8, 8, 8, 8, 8, 8, 8, 8, 8, 8, 8, 8, 8, 8, 8, 8, 8, 8, 8, 8, 8, 8, 8, 8, 8, 8])).toArray } : ByteArray) = Lib.len8tab := by decide +kernel
attribute [local go_sem high] fold_tab
set_option maxHeartbeats 4000000 in
set_option maxRecDepth 100000 in
theorem len64_calls (x : Int) (w : World) (h0 : 256 ≤ x) (h1 : x ≤ 16777215) :
    Calls Try.prog 109 #[.int .u64 x] w fun e w' => e = .returned (.int .i64 (Lib.bitLen x.toNat)) ∧ w' = w := by
  by_cases c : x < 65536
  · have q : ∀ W : World, (Instr.index 9 (.string Lib.len8tab) (.int .u8 (x / 256))).run Try.prog W = .ok (.int .u8 (Lib.len8 (x / 256))) W := fun W => Lib.run_index_len8tab (P := Try.prog) W 9 .u8 (x / 256) Try.underlying9 (by omega) (by omega)
    have e : wrap64 (8 + wrap64 (Lib.len8 (x / 256))) = (Lib.bitLen x.toNat : Int) := by
      rw [Lib.len8_of (x / 256) (by omega) (by omega)]
      have e : (x / 256).toNat = x.toNat / 256 := by omega
      have l := Lib.bitLen_le8' (x / 256) (by omega) (by omega)
      have s := Lib.bitLen_shift8 x.toNat (by omega) (by omega)
      rw [e] at l ⊢
      unfold wrap64; omega
    have g0 : 0 ≤ x := by omega
    have HE := Aside0.mk (e)
    clear e
    go_enter Try.func109, Try.ntmps109
    go_wp2
    go_ret
    exact ⟨congrArg Ending.returned (congrArg (Value.int IntKind.i64) HE.out), rfl⟩
  · have q : ∀ W : World, (Instr.index 9 (.string Lib.len8tab) (.int .u8 (x / 65536))).run Try.prog W = .ok (.int .u8 (Lib.len8 (x / 65536))) W := fun W => Lib.run_index_len8tab (P := Try.prog) W 9 .u8 (x / 65536) Try.underlying9 (by omega) (by omega)
    have e : wrap64 (16 + wrap64 (Lib.len8 (x / 65536))) = (Lib.bitLen x.toNat : Int) := by
      rw [Lib.len8_of (x / 65536) (by omega) (by omega)]
      have e : (x / 65536).toNat = x.toNat / 65536 := by omega
      have l := Lib.bitLen_le8' (x / 65536) (by omega) (by omega)
      have s := Lib.bitLen_shift16 x.toNat (by omega) (by omega)
      rw [e] at l ⊢
      unfold wrap64; omega
    have g0 : 0 ≤ x := by omega
    have g1 : 65536 ≤ x := by omega
    have g2 : x / 65536 < 256 := by omega
    have HE := Aside0.mk (e)
    clear e
    go_enter Try.func109, Try.ntmps109
    go_wp2
    go_ret
    exact ⟨congrArg Ending.returned (congrArg (Value.int IntKind.i64) HE.out), rfl⟩

set_option maxHeartbeats 2000000 in
set_option maxRecDepth 100000 in
theorem len_calls (x : Int) (w : World) (h0 : 256 ≤ x) (h1 : x ≤ 16777215) :
    Calls Try.prog 96 #[.int .u64 x] w fun e w' => e = .returned (.int .i64 (Lib.bitLen x.toNat)) ∧ w' = w := by
  have HC := Aside0.mk (len64_calls x w h0 h1)
  go_enter Try.func96, Try.ntmps96
  go_wp2_with (go_at_call 109; refine HC.out.mono ?_; rintro e w1 ⟨rfl, rfl⟩)
  go_ret
  exact ⟨rfl, rfl⟩

/-- The next power of two: greater, and at most twice as great. -/
def Pow2 (x : Nat) (w : World) (e : Ending) (w' : World) : Prop := ∃ r : Nat, e = .returned (.int .i64 (r : Int)) ∧ x < r ∧ r ≤ 2 * x ∧ w' = w
set_option maxHeartbeats 2000000 in
set_option maxRecDepth 100000 in
theorem pow2_calls (x : Nat) (w : World) (h0 : 256 ≤ x) (h1 : x ≤ 16777215) : Calls Try.prog 79 #[.int .i64 (x : Int)] w (Pow2 x w) := by
  have a1 := bitLen_lt x (by omega)
  have a2 := bitLen_up x (by omega) (by omega)
  have a3 := Lib.bitLen_le x 24 (by decide) (by omega)
  have hc := len_calls (x : Int) w (by omega) (by omega)
  rw [Int.toNat_natCast] at hc
  have HC := Aside0.mk hc
  clear hc
  have b0 : (0 : Int) ≤ (Lib.bitLen x : Int) := by omega
  have b1 : (Lib.bitLen x : Int) ≤ 24 := by omega
  have HP := Aside0.mk (show x < 2 ^ Lib.bitLen x ∧ 2 ^ Lib.bitLen x ≤ 2 * x from ⟨a1, a2⟩)
  clear a1 a2 a3
  generalize Lib.bitLen x = L at HC b0 b1 HP
  go_enter Try.func79, Try.ntmps79
  go_wp2_with (go_at_call 96; refine HC.out.mono ?_; rintro e w' ⟨rfl, rfl⟩)
  go_ret
  have e : wrap64 ((2 : Int) ^ L) = ((2 ^ L : Nat) : Int) := by
    have := HP.out
    rw [show ((2 : Int) ^ L) = ((2 ^ L : Nat) : Int) by simp]
    unfold wrap64; omega
  exact ⟨2 ^ L, congrArg Ending.returned (congrArg (Value.int .i64) e), HP.out.1, HP.out.2, rfl⟩
end Go.Proofs.Ytcfnniminikmfaa.Q
