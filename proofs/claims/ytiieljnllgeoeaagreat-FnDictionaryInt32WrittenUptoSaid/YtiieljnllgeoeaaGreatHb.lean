/- A hash of a number. -/
import Derived.Test.YtiieljnllgeoeaaGreatGh
import Derived.Laws.Closers25b
namespace Go.Proofs.YtiieljnllgeoeaaGreat.Q
open Go.RowKit Go.Proofs.YtiieljnllgeoeaaGreatW.PrintWords Go.Proofs.YtiieljnllgeoeaaGreatW.PrintLast Go.Proofs.YtiieljnllgeoeaaGreatW.PrintMore
set_option linter.unusedVariables false
set_option linter.unusedSimpArgs false
def rA (x : Int) : Int := bits .or .u64 (bits .and .u64 (x / 256) 71777214294589695) (IntKind.u64.wrap (bits .and .u64 x 71777214294589695 * 256))
def rB (x : Int) : Int := bits .or .u64 (bits .and .u64 (rA x / 65536) 281470681808895) (IntKind.u64.wrap (bits .and .u64 (rA x) 281470681808895 * 65536))
def rC (x : Int) : Int := bits .or .u64 (rB x / 4294967296) (IntKind.u64.wrap (rB x * 4294967296))
def rv (x : Int) : Nat := (rC x).toNat
theorem rv_lt (x : Int) : rv x < 18446744073709551616 := by
 have := bits_hi_u64 .or (rB x / 4294967296) (IntKind.u64.wrap (rB x * 4294967296))
 have h : rC x ≤ 18446744073709551615 := this
 unfold rv; omega
theorem rv_is (x : Int) : ((rv x : Nat) : Int) = rC x := by
 have h : 0 ≤ rC x := bits_lo_u64 .or (rB x / 4294967296) (IntKind.u64.wrap (rB x * 4294967296))
 unfold rv; omega
set_option maxHeartbeats 2000000 in
set_option maxRecDepth 100000 in
theorem rev_calls (x : Int) (h0 : 0 ≤ x) (hx : x < 18446744073709551616) (w : World) : Calls Tryz.prog 154 #[.int .u64 x] w fun e w' => e = .returned (.int .u64 ((rv x : Nat) : Int)) ∧ w' = w := by
 rw [rv_is]
 go_enter Tryz.func154, Tryz.ntmps154
 go_wp2
 go_ret
 exact ⟨rfl, rfl⟩
def mulH (x : Int) : Int := IntKind.u64.wrap (11400714785074694791 * x)
set_option maxHeartbeats 2000000 in
set_option maxRecDepth 100000 in
theorem hashint_calls (x : Int) (h0 : 0 ≤ x) (hx : x < 18446744073709551616) (w : World) : Calls Tryz.prog 145 #[.int .u64 x, .int .u64 0] w fun e w' => e = .returned (.int .u64 ((rv (mulH x) : Nat) : Int)) ∧ Below w.heap.size w w' := by
 have hm : 0 ≤ mulH x ∧ mulH x < 18446744073709551616 := by unfold mulH; simp [IntKind.wrap, IntKind.bits, IntKind.signed]; omega
 have HR := Aside0.mk (fun W => show Calls Tryz.prog 154 #[.int .u64 (IntKind.u64.wrap (11400714785074694791 * x))] W (fun e w' => e = .returned (.int .u64 ((rv (mulH x) : Nat) : Int)) ∧ w' = W) from rev_calls (mulH x) hm.1 hm.2 W)
 clear hm
 go_enter Tryz.func145, Tryz.ntmps145
 go_wp2_with (first | (go_at_call 154; go_loud (with_reducible refine (HR.out _).mono ?_; rintro e w1 ⟨rfl, hw1⟩; subst w1)))
 go_ret
 exact ⟨rfl, by repeat (first | exact Below.refl _ _ | apply below_alloc | apply below_drew | exact Below.setCell (below_alloc (Below.refl _ _) _) (Nat.le_refl _) _)⟩
/-- A number's hash. -/
def hr0 (x : Int) : Int := ((rv (mulH (IntKind.u64.wrap x)) : Nat) : Int)
set_option maxHeartbeats 4000000 in
set_option maxRecDepth 100000 in
theorem hash_calls (x : Int) (w : World) : Calls Tryz.prog 138 #[.int .i32 x, .int .u64 0] w fun e w' => e = .returned (.int .u64 (hr0 x)) ∧ Below w.heap.size w w' := by
 have hm : 0 ≤ IntKind.u64.wrap x ∧ IntKind.u64.wrap x < 18446744073709551616 := by simp [IntKind.wrap, IntKind.bits, IntKind.signed]; omega
 have HR := Aside0.mk (hashint_calls (IntKind.u64.wrap x) hm.1 hm.2 w)
 obtain ⟨y250, hb250⟩ : ∃ z, ∀ W : World, (Instr.typeAssert (.iface 21 (.int .i32 x)) 20 250 true).run Tryz.prog W = .ok (.tuple #[z, .bool false]) W := ⟨_, fun W => by rfl⟩
 obtain ⟨y5, hb5⟩ : ∃ z, ∀ W : World, (Instr.typeAssert (.iface 21 (.int .i32 x)) 20 5 true).run Tryz.prog W = .ok (.tuple #[z, .bool false]) W := ⟨_, fun W => by rfl⟩
 obtain ⟨y252, hb252⟩ : ∃ z, ∀ W : World, (Instr.typeAssert (.iface 21 (.int .i32 x)) 20 252 true).run Tryz.prog W = .ok (.tuple #[z, .bool false]) W := ⟨_, fun W => by rfl⟩
 obtain ⟨y109, hb109⟩ : ∃ z, ∀ W : World, (Instr.typeAssert (.iface 21 (.int .i32 x)) 20 109 true).run Tryz.prog W = .ok (.tuple #[z, .bool false]) W := ⟨_, fun W => by rfl⟩
 have ha : ∀ W : World, (Instr.typeAssert (.iface 21 (.int .i32 x)) 20 21 true).run Tryz.prog W = .ok (.tuple #[.int .i32 x, .bool true]) W := fun W => by kernel_rfl
 clear hm
 go_enter Tryz.func138, Tryz.ntmps138
 go_wp2_with (first | (go_at_call 145; go_loud (with_reducible refine HR.out.mono ?_; rintro e w1 ⟨rfl, b1⟩)))

 go_ret
 exact ⟨rfl, b1⟩
/-- A hash that is not none. -/
def hh (x : Int) : Nat := if hr0 x = 0 then 42 else (hr0 x).toNat
theorem hr0_b (x : Int) : 0 ≤ hr0 x ∧ hr0 x < 18446744073709551616 := by
 have := rv_lt (mulH (IntKind.u64.wrap x))
 unfold hr0; omega
theorem hh_b (x : Int) : hh x ≠ 0 ∧ hh x < 2 ^ 64 := by
 have := hr0_b x
 unfold hh
 split <;> omega
set_option maxHeartbeats 2000000 in
set_option maxRecDepth 100000 in
theorem fix_calls (a : Value) (v : Int) (k : Nat) (hk : (k : Int) = if v = 0 then 42 else v) (w : World) (cap mask n M len : Nat) (ha : a = .agg (tabL cap mask n M len)) : Calls Tryz.prog 150 #[a, .int .u64 v] w fun e w' => e = .returned (.int .u64 (k : Int)) ∧ Below w.heap.size w w' := by
 subst ha
 by_cases c : v = 0
 ·subst c
  rw [if_pos rfl] at hk
  rw [hk]
  clear hk
  unfold tabL
  go_enter Tryz.func150, Tryz.ntmps150
  go_wp2
  go_ret
  exact ⟨rfl, below_alloc (Below.refl _ _) _⟩
 ·rw [if_neg c] at hk
  have hd : (v == 0) = false := beq_eq_false_iff_ne.mpr c
  have hd2 : decide (v = 0) = false := decide_eq_false c
  rw [hk]
  clear hk c
  unfold tabL
  go_enter Tryz.func150, Tryz.ntmps150
  go_wp2
  go_ret
  exact ⟨rfl, below_alloc (Below.refl _ _) _⟩
set_option maxHeartbeats 2000000 in
set_option maxRecDepth 100000 in
theorem nan_calls (x : Int) (w : World) : Calls Tryz.prog 149 #[.int .i32 x] w fun e w' => e = .returned (.bool false) ∧ w' = w := by
 have h1 : (x != x) = false := bne_self_eq_false _
 go_enter Tryz.func149, Tryz.ntmps149
 go_wp2
 go_ret
 exact ⟨rfl, rfl⟩
def cmp3 (x y : Int) : Int := if x < y then -1 else if x > y then 1 else 0
set_option maxHeartbeats 2000000 in
set_option maxRecDepth 100000 in
theorem cmp_calls (x y : Int) (w : World) : Calls Tryz.prog 141 #[.int .i32 x, .int .i32 y] w fun e w' => e = .returned (.int .i64 (cmp3 x y)) ∧ w' = w := by
 have HN := Aside0.mk (fun z => nan_calls z w)
 unfold cmp3
 by_cases c1 : x < y
 ·have d1 : decide (x < y) = true := decide_eq_true c1
  rw [if_pos c1]
  clear c1
  go_enter Tryz.func141, Tryz.ntmps141
  go_wp2_with (first | (go_at_call 149; go_loud (with_reducible refine (HN.out _).mono ?_; rintro e w1 ⟨rfl, hw1⟩; subst w1)))
  go_ret
  exact ⟨rfl, rfl⟩
 ·have d1 : decide (x < y) = false := decide_eq_false c1
  rw [if_neg c1]
  clear c1
  by_cases c2 : x > y
  ·have d2 : decide (x > y) = true := decide_eq_true c2
   rw [if_pos c2]
   clear c2
   go_enter Tryz.func141, Tryz.ntmps141
   go_wp2_with (first | (go_at_call 149; go_loud (with_reducible refine (HN.out _).mono ?_; rintro e w1 ⟨rfl, hw1⟩; subst w1)))
   go_ret
   exact ⟨rfl, rfl⟩
  ·have d2 : decide (x > y) = false := decide_eq_false c2
   rw [if_neg c2]
   clear c2
   go_enter Tryz.func141, Tryz.ntmps141
   go_wp2_with (first | (go_at_call 149; go_loud (with_reducible refine (HN.out _).mono ?_; rintro e w1 ⟨rfl, hw1⟩; subst w1)))
   go_ret
   exact ⟨rfl, rfl⟩
theorem cmp3_z (x y : Int) : (cmp3 x y == 0) = decide (x = y) := by
 unfold cmp3
 by_cases c : x = y
 ·subst c; simp
 ·rw [decide_eq_false c]
  split
  ·rfl
  ·split
   ·rfl
   ·omega
set_option maxHeartbeats 2000000 in
set_option maxRecDepth 100000 in
/-- The comparison that a search is given. -/
theorem eq_calls (p : Addr) (x y : Int) (w : World) (hp : w.cell? p = some (.int .i32 x)) : Calls Tryz.prog 140 #[.int .i32 y, .pointer (some p)] w fun e w' => e = .returned (.bool (decide (x = y))) ∧ w' = w := by
 have HC := Aside0.mk (cmp_calls x y w)
 have hz := cmp3_z x y
 have hz2 : decide (cmp3 x y = 0) = decide (x = y) := hz
 go_enter Tryz.func140, Tryz.ntmps140
 go_wp2_with (first | (go_at_call 141; go_loud (with_reducible refine HC.out.mono ?_; rintro e w1 ⟨rfl, hw1⟩; subst w1)))

 go_ret
 exact ⟨rfl, rfl⟩
set_option maxHeartbeats 2000000 in
set_option maxRecDepth 100000 in
theorem no_calls (y : Value) (w : World) : Calls Tryz.prog 157 #[y] w fun e w' => e = .returned (.bool false) ∧ w' = w := by
 go_enter Tryz.func157, Tryz.ntmps157
 go_wp2
 go_ret
 exact ⟨rfl, rfl⟩
end Go.Proofs.YtiieljnllgeoeaaGreat.Q
