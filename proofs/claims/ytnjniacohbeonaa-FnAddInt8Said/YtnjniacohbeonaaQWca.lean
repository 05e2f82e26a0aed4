-- written by programs of ours (wip/tools) out of the kit's printer: the functions of one law, less those that are shared or proved by hand
import Derived.Test.YtnjniacohbeonaaQ0
namespace Go.Proofs.Ytnjniacohbeonaa.Q
open Go.RowKit Go.Proofs.YtnjniacohbeonaaW.PrintWords Go.Proofs.YtnjniacohbeonaaW.PrintLast Go.Proofs.YtnjniacohbeonaaW.PrintMore
attribute [local go_sem] max2_int min2_int max_two min_two max_three min_three max_four min_four
set_option linter.unusedVariables false
set_option linter.unusedSimpArgs false

/-! ### kernels_SizeOf_int8: function 89 -/
def kernels_SizeOf_int8.f  : Option (Int) := some (IntKind.u64.wrap ((IntKind.u64.wrap ((IntKind.u64.wrap (1 + ((IntKind.u64.wrap (IntKind.i8.wrap (256))) / 256))) + ((IntKind.u64.wrap (IntKind.i8.wrap (131072))) / 65536))) + ((IntKind.u64.wrap (IntKind.i8.wrap (17179869184))) / 4294967296)))
set_option maxHeartbeats 8000000 in
set_option maxRecDepth 100000 in
theorem kernels_SizeOf_int8.calls  (r : Int) (w : World) (h : kernels_SizeOf_int8.f  = some r) :
    Calls Try.prog 89 #[] w fun e w' => e = .returned (.int .u64 r) ∧ Drawn0 w w' := by
  have H : (some (IntKind.u64.wrap ((IntKind.u64.wrap ((IntKind.u64.wrap (1 + ((IntKind.u64.wrap (IntKind.i8.wrap (256))) / 256))) + ((IntKind.u64.wrap (IntKind.i8.wrap (131072))) / 65536))) + ((IntKind.u64.wrap (IntKind.i8.wrap (17179869184))) / 4294967296)))) = some r := h
  clear h
  obtain rfl := Option.some.inj H
  go_enter Try.func89, Try.ntmps89
  go_wp2
  go_ret
  exact ⟨by first | rfl | (simp; done) | (simp [*]; done), by repeat (first | exact Drawn0.refl _ | apply Drawn0.step)⟩

/-! ### kernels_MaxOf_int8: function 81 -/
def kernels_MaxOf_int8.f  : Option (Int) := if (Go.bits .xor .i8 (-1) 0) < 0 then ((kernels_SizeOf_int8.f).bind fun t349 => (if 0 ≤ (IntKind.u64.wrap ((IntKind.u64.wrap (8 * t349)) - 1)) then (some (Go.bits .xor .i8 (Go.bits .xor .i8 (-1) 0) (shl .i8 (Go.bits .xor .i8 (-1) 0) (IntKind.u64.wrap ((IntKind.u64.wrap (8 * t349)) - 1))))) else (none))) else (some (Go.bits .xor .i8 (-1) 0))
set_option maxHeartbeats 8000000 in
set_option maxRecDepth 100000 in
theorem kernels_MaxOf_int8.calls  (r : Int) (w : World) (h : kernels_MaxOf_int8.f  = some r) :
    Calls Try.prog 81 #[] w fun e w' => e = .returned (.int .i8 r) ∧ Drawn0 w w' := by
  have H : (if (Go.bits .xor .i8 (-1) 0) < 0 then ((kernels_SizeOf_int8.f).bind fun t349 => (if 0 ≤ (IntKind.u64.wrap ((IntKind.u64.wrap (8 * t349)) - 1)) then (some (Go.bits .xor .i8 (Go.bits .xor .i8 (-1) 0) (shl .i8 (Go.bits .xor .i8 (-1) 0) (IntKind.u64.wrap ((IntKind.u64.wrap (8 * t349)) - 1))))) else (none))) else (some (Go.bits .xor .i8 (-1) 0))) = some r := h
  clear h
  by_cases c1 : (Go.bits .xor .i8 (-1) 0) < 0
  · rw [if_pos c1] at H
    have c1b0 : decide ((Go.bits .xor .i8 (-1) 0) < 0) = true := decide_eq_true c1
    clear c1
    replace H := Option.bind_eq_some_iff.mp H
    obtain ⟨t349, A20, H⟩ := H
    replace H : (if 0 ≤ (IntKind.u64.wrap ((IntKind.u64.wrap (8 * t349)) - 1)) then (some (Go.bits .xor .i8 (Go.bits .xor .i8 (-1) 0) (shl .i8 (Go.bits .xor .i8 (-1) 0) (IntKind.u64.wrap ((IntKind.u64.wrap (8 * t349)) - 1))))) else (none)) = some r := H
    have A2 := Aside0.mk A20
    clear A20
    obtain ⟨ji3, hji3⟩ : ∃ j_ : Int, (IntKind.u64.wrap ((IntKind.u64.wrap (8 * t349)) - 1)) = j_ := ⟨_, rfl⟩
    replace H : (if 0 ≤ (ji3) then (some (Go.bits .xor .i8 (Go.bits .xor .i8 (-1) 0) (shl .i8 (Go.bits .xor .i8 (-1) 0) (ji3)))) else (none)) = some r := by first | (rw [hji3] at H; exact H) | (simp only [hji3] at H ⊢; exact H)
    (try rw [hji3] at A2)
    by_cases c4 : 0 ≤ (ji3)
    · rw [if_pos c4] at H
      have c4b0 := eq_true c4
      have c4b1 : decide (0 ≤ (ji3)) = true := decide_eq_true c4
      clear c4
      obtain ⟨ji5, hji5⟩ : ∃ j_ : Int, (shl .i8 (Go.bits .xor .i8 (-1) 0) (ji3)) = j_ := ⟨_, rfl⟩
      replace H : (some (Go.bits .xor .i8 (Go.bits .xor .i8 (-1) 0) (ji5))) = some r := by first | (rw [hji5] at H; exact H) | (simp only [hji5] at H ⊢; exact H)
      (try rw [hji5] at A2)
      have hji5_ : (IntKind.i8.wrap ((Go.bits .xor .i8 (-1) 0) * 2 ^ min (ji3).toNat 8)) = ji5 := hji5
      have hji5z : (ji3) ≤ 8 → (IntKind.i8.wrap ((Go.bits .xor .i8 (-1) 0) * 2 ^ (ji3).toNat)) = ji5 := shl_small hji5
      obtain rfl := Option.some.inj H
      go_enter Try.func81, Try.ntmps81
      go_wp2_with (first | ((with_reducible refine gate_callee (f := 89) rfl ?_); refine goesL_ (some 8) rfl rfl Try.func89 (by kernel_rfl) rfl #[] rfl (by (try simp only [List.map_toArray, List.map_cons, List.map_nil]); first | done | rfl | (simp only [List.length_drop, List.length_take]; rfl)) ?_; (with_reducible refine (kernels_SizeOf_int8.calls  t349 _ A2.out).mono ?_); rintro e w' ⟨rfl, ⟨nd, rfl⟩⟩; refine ⟨_, rfl, ?_⟩))
      go_ret
      exact ⟨by first | rfl | (simp; done) | (simp only [← hji3, ← hji5] <;> (first | rfl | simp)) | (simp [*]; done), by repeat (first | exact Drawn0.refl _ | apply Drawn0.step)⟩
    · rw [if_neg c4] at H
      exact absurd H (by simp)
  · rw [if_neg c1] at H
    exact absurd (by decide) c1

/-! ### kernels_MinOf_int8: function 82 -/
def kernels_MinOf_int8.f  : Option (Int) := if (Go.bits .xor .i8 (-1) 0) < 0 then ((kernels_SizeOf_int8.f).bind fun t350 => (if 0 ≤ (IntKind.u64.wrap ((IntKind.u64.wrap (8 * t350)) - 1)) then (some (shl .i8 (Go.bits .xor .i8 (-1) 0) (IntKind.u64.wrap ((IntKind.u64.wrap (8 * t350)) - 1)))) else (none))) else (some 0)
set_option maxHeartbeats 8000000 in
set_option maxRecDepth 100000 in
theorem kernels_MinOf_int8.calls  (r : Int) (w : World) (h : kernels_MinOf_int8.f  = some r) :
    Calls Try.prog 82 #[] w fun e w' => e = .returned (.int .i8 r) ∧ Drawn0 w w' := by
  have H : (if (Go.bits .xor .i8 (-1) 0) < 0 then ((kernels_SizeOf_int8.f).bind fun t350 => (if 0 ≤ (IntKind.u64.wrap ((IntKind.u64.wrap (8 * t350)) - 1)) then (some (shl .i8 (Go.bits .xor .i8 (-1) 0) (IntKind.u64.wrap ((IntKind.u64.wrap (8 * t350)) - 1)))) else (none))) else (some 0)) = some r := h
  clear h
  by_cases c1 : (Go.bits .xor .i8 (-1) 0) < 0
  · rw [if_pos c1] at H
    have c1b0 : decide ((Go.bits .xor .i8 (-1) 0) < 0) = true := decide_eq_true c1
    clear c1
    replace H := Option.bind_eq_some_iff.mp H
    obtain ⟨t350, A20, H⟩ := H
    replace H : (if 0 ≤ (IntKind.u64.wrap ((IntKind.u64.wrap (8 * t350)) - 1)) then (some (shl .i8 (Go.bits .xor .i8 (-1) 0) (IntKind.u64.wrap ((IntKind.u64.wrap (8 * t350)) - 1)))) else (none)) = some r := H
    have A2 := Aside0.mk A20
    clear A20
    obtain ⟨ji3, hji3⟩ : ∃ j_ : Int, (IntKind.u64.wrap ((IntKind.u64.wrap (8 * t350)) - 1)) = j_ := ⟨_, rfl⟩
    replace H : (if 0 ≤ (ji3) then (some (shl .i8 (Go.bits .xor .i8 (-1) 0) (ji3))) else (none)) = some r := by first | (rw [hji3] at H; exact H) | (simp only [hji3] at H ⊢; exact H)
    (try rw [hji3] at A2)
    by_cases c4 : 0 ≤ (ji3)
    · rw [if_pos c4] at H
      have c4b0 := eq_true c4
      have c4b1 : decide (0 ≤ (ji3)) = true := decide_eq_true c4
      clear c4
      obtain ⟨ji5, hji5⟩ : ∃ j_ : Int, (shl .i8 (Go.bits .xor .i8 (-1) 0) (ji3)) = j_ := ⟨_, rfl⟩
      replace H : (some ji5) = some r := by first | (rw [hji5] at H; exact H) | (simp only [hji5] at H ⊢; exact H)
      (try rw [hji5] at A2)
      have hji5_ : (IntKind.i8.wrap ((Go.bits .xor .i8 (-1) 0) * 2 ^ min (ji3).toNat 8)) = ji5 := hji5
      have hji5z : (ji3) ≤ 8 → (IntKind.i8.wrap ((Go.bits .xor .i8 (-1) 0) * 2 ^ (ji3).toNat)) = ji5 := shl_small hji5
      obtain rfl := Option.some.inj H
      go_enter Try.func82, Try.ntmps82
      go_wp2_with (first | ((with_reducible refine gate_callee (f := 89) rfl ?_); refine goesL_ (some 7) rfl rfl Try.func89 (by kernel_rfl) rfl #[] rfl (by (try simp only [List.map_toArray, List.map_cons, List.map_nil]); first | done | rfl | (simp only [List.length_drop, List.length_take]; rfl)) ?_; (with_reducible refine (kernels_SizeOf_int8.calls  t350 _ A2.out).mono ?_); rintro e w' ⟨rfl, ⟨nd, rfl⟩⟩; refine ⟨_, rfl, ?_⟩))
      go_ret
      exact ⟨by first | rfl | (simp; done) | (simp only [← hji3, ← hji5] <;> (first | rfl | simp)) | (simp [*]; done), by repeat (first | exact Drawn0.refl _ | apply Drawn0.step)⟩
    · rw [if_neg c4] at H
      exact absurd H (by simp)
  · rw [if_neg c1] at H
    exact absurd (by decide) c1

end Go.Proofs.Ytnjniacohbeonaa.Q
