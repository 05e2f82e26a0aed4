/- impl.MulUint16: what the program's own arithmetic hands back, with an error of errors.New told apart from nil. -/
import Derived.Test.YtnjniacohbeonaaEr
import Derived.Test.YtnjniacohbeonaaQWdf
namespace Go.Proofs.Ytnjniacohbeonaa.Q
open Go.RowKit Go.Proofs.YtnjniacohbeonaaW.PrintWords Go.Proofs.YtnjniacohbeonaaW.PrintLast Go.Proofs.YtnjniacohbeonaaW.PrintMore
attribute [local go_sem] max2_int min2_int max_two min_two max_three min_three max_four min_four
set_option linter.unusedVariables false
set_option linter.unusedSimpArgs false
def kernels_MinOf_uint16.f  : Option (Int) := some 0
set_option maxHeartbeats 8000000 in
set_option maxRecDepth 100000 in
theorem kernels_MinOf_uint16.calls  (r : Int) (w : World) (h : kernels_MinOf_uint16.f  = some r) :
  Calls Try.prog 83 #[] w fun e w' => e = .returned (.int .u16 r) ∧ Drawn0 w w' := by
 have H : (some 0) = some r := h
 clear h
 obtain rfl := Option.some.inj H
 have ex : Go.bits .xor .u16 (IntKind.u16.wrap (-1)) 0 = 65535 := by decide
 have ex2 : Go.bits .xor .u16 (-1) 0 = 65535 := by decide
 go_enter Try.func83, Try.ntmps83
 go_wp2
 go_ret
 exact ⟨by first | rfl | (simp; done) | (simp [*]; done), by repeat (first | exact Drawn0.refl _ | apply Drawn0.step)⟩
def kernels_MaxOf_uint16.f  : Option (Int) := some 65535
set_option maxHeartbeats 8000000 in
set_option maxRecDepth 100000 in
theorem kernels_MaxOf_uint16.calls  (r : Int) (w : World) (h : kernels_MaxOf_uint16.f  = some r) :
  Calls Try.prog 84 #[] w fun e w' => e = .returned (.int .u16 r) ∧ Drawn0 w w' := by
 have H : (some 65535) = some r := h
 clear h
 obtain rfl := Option.some.inj H
 have ex : Go.bits .xor .u16 (IntKind.u16.wrap (-1)) 0 = 65535 := by decide
 have ex2 : Go.bits .xor .u16 (-1) 0 = 65535 := by decide
 go_enter Try.func84, Try.ntmps84
 go_wp2
 go_ret
 exact ⟨by first | rfl | (simp; done) | (simp [*]; done), by repeat (first | exact Drawn0.refl _ | apply Drawn0.step)⟩
def kernels_mulWithOverflow_uint16.f (a0 : Int) (a1 : Int) : Option (Int × Bool) := (kernels_MinOf_uint16.f).bind fun t335 => ((kernels_MaxOf_uint16.f).bind fun t336 => (if a0 > 0 then (if a1 > 0 then (if a1 = 0 then (none) else (if a0 > (IntKind.u16.wrap (Int.tdiv t336 a1)) then (some (0, false)) else (some (IntKind.u16.wrap (a0 * a1), true)))) else (if a0 = 0 then (none) else (if a1 < (IntKind.u16.wrap (Int.tdiv t335 a0)) then (some (0, false)) else (some (IntKind.u16.wrap (a0 * a1), true))))) else (if a1 > 0 then (if a1 = 0 then (none) else (if a0 < (IntKind.u16.wrap (Int.tdiv t335 a1)) then (some (0, false)) else (some (IntKind.u16.wrap (a0 * a1), true)))) else (if a0 = 0 then (some (IntKind.u16.wrap (a0 * a1), true)) else (if a1 < (IntKind.u16.wrap (Int.tdiv t336 a0)) then (some (0, false)) else (some (IntKind.u16.wrap (a0 * a1), true)))))))
set_option maxHeartbeats 8000000 in
set_option maxRecDepth 100000 in
theorem kernels_mulWithOverflow_uint16.calls (a0 : Int) (a1 : Int) (r1 : Int) (r2 : Bool) (w : World) (h : kernels_mulWithOverflow_uint16.f a0 a1 = some (r1, r2)) :
  Calls Try.prog 72 #[.int .u16 a0, .int .u16 a1] w fun e w' => ∃ v_ : Value, e = .returned (.tuple #[.int .u16 r1, v_]) ∧ ErrIs v_ r2 ∧ Below w.heap.size w w' := by
 have H : ((kernels_MinOf_uint16.f).bind fun t335 => ((kernels_MaxOf_uint16.f).bind fun t336 => (if a0 > 0 then (if a1 > 0 then (if a1 = 0 then (none) else (if a0 > (IntKind.u16.wrap (Int.tdiv t336 a1)) then (some (0, false)) else (some (IntKind.u16.wrap (a0 * a1), true)))) else (if a0 = 0 then (none) else (if a1 < (IntKind.u16.wrap (Int.tdiv t335 a0)) then (some (0, false)) else (some (IntKind.u16.wrap (a0 * a1), true))))) else (if a1 > 0 then (if a1 = 0 then (none) else (if a0 < (IntKind.u16.wrap (Int.tdiv t335 a1)) then (some (0, false)) else (some (IntKind.u16.wrap (a0 * a1), true)))) else (if a0 = 0 then (some (IntKind.u16.wrap (a0 * a1), true)) else (if a1 < (IntKind.u16.wrap (Int.tdiv t336 a0)) then (some (0, false)) else (some (IntKind.u16.wrap (a0 * a1), true)))))))) = some (r1, r2) := h
 clear h
 replace H := Option.bind_eq_some_iff.mp H
 obtain ⟨t335, A30, H⟩ := H
 replace H : ((kernels_MaxOf_uint16.f).bind fun t336 => (if a0 > 0 then (if a1 > 0 then (if a1 = 0 then (none) else (if a0 > (IntKind.u16.wrap (Int.tdiv t336 a1)) then (some (0, false)) else (some (IntKind.u16.wrap (a0 * a1), true)))) else (if a0 = 0 then (none) else (if a1 < (IntKind.u16.wrap (Int.tdiv t335 a0)) then (some (0, false)) else (some (IntKind.u16.wrap (a0 * a1), true))))) else (if a1 > 0 then (if a1 = 0 then (none) else (if a0 < (IntKind.u16.wrap (Int.tdiv t335 a1)) then (some (0, false)) else (some (IntKind.u16.wrap (a0 * a1), true)))) else (if a0 = 0 then (some (IntKind.u16.wrap (a0 * a1), true)) else (if a1 < (IntKind.u16.wrap (Int.tdiv t336 a0)) then (some (0, false)) else (some (IntKind.u16.wrap (a0 * a1), true))))))) = some (r1, r2) := H
 have A3 := Aside0.mk A30
 clear A30
 replace H := Option.bind_eq_some_iff.mp H
 obtain ⟨t336, A40, H⟩ := H
 replace H : (if a0 > 0 then (if a1 > 0 then (if a1 = 0 then (none) else (if a0 > (IntKind.u16.wrap (Int.tdiv t336 a1)) then (some (0, false)) else (some (IntKind.u16.wrap (a0 * a1), true)))) else (if a0 = 0 then (none) else (if a1 < (IntKind.u16.wrap (Int.tdiv t335 a0)) then (some (0, false)) else (some (IntKind.u16.wrap (a0 * a1), true))))) else (if a1 > 0 then (if a1 = 0 then (none) else (if a0 < (IntKind.u16.wrap (Int.tdiv t335 a1)) then (some (0, false)) else (some (IntKind.u16.wrap (a0 * a1), true)))) else (if a0 = 0 then (some (IntKind.u16.wrap (a0 * a1), true)) else (if a1 < (IntKind.u16.wrap (Int.tdiv t336 a0)) then (some (0, false)) else (some (IntKind.u16.wrap (a0 * a1), true)))))) = some (r1, r2) := H
 have A4 := Aside0.mk A40
 clear A40
 by_cases c5 : a0 > 0
 ·rw [if_pos c5] at H
  have c5b0 : decide (0 < a0) = true := decide_eq_true c5
  clear c5
  by_cases c6 : a1 > 0
  ·rw [if_pos c6] at H
   have c6b0 : decide (0 < a1) = true := decide_eq_true c6
   clear c6
   by_cases c7 : a1 = 0
   ·rw [if_pos c7] at H
    exact absurd H (by simp)
   ·rw [if_neg c7] at H
    have c7b0 : (a1 == 0) = false := beq_eq_false_iff_ne.mpr c7
    have c7b1 : (a1 != 0) = true := bne_iff_ne.mpr c7
    by_cases c8 : a0 > (IntKind.u16.wrap (Int.tdiv t336 a1))
    ·rw [if_pos c8] at H
     have c8b0 : decide ((IntKind.u16.wrap (Int.tdiv t336 a1)) < a0) = true := decide_eq_true c8
     clear c8
     simp only [Option.some.injEq, Prod.mk.injEq] at H
     obtain ⟨rfl, rfl⟩ := H
     go_enter Try.func72, Try.ntmps72
     go_wp2_with (first | ((with_reducible refine gate_callee (f := 83) rfl ?_); refine goesL_ (some 8) rfl rfl Try.func83 (by kernel_rfl) rfl #[] rfl (by (try simp only [List.map_toArray, List.map_cons, List.map_nil]); first | done | rfl | (simp only [List.length_drop, List.length_take]; rfl)) ?_; (with_reducible refine (kernels_MinOf_uint16.calls  t335 _ A3.out).mono ?_); rintro e w' ⟨rfl, ⟨nd, rfl⟩⟩; refine ⟨_, rfl, ?_⟩) | ((with_reducible refine gate_callee (f := 84) rfl ?_); refine goesL_ (some 9) rfl rfl Try.func84 (by kernel_rfl) rfl #[] rfl (by (try simp only [List.map_toArray, List.map_cons, List.map_nil]); first | done | rfl | (simp only [List.length_drop, List.length_take]; rfl)) ?_; (with_reducible refine (kernels_MaxOf_uint16.calls  t336 _ A4.out).mono ?_); rintro e w' ⟨rfl, ⟨nd, rfl⟩⟩; refine ⟨_, rfl, ?_⟩) | (go_at_call 80; (with_reducible refine (errors_New.calls _ _).mono ?_); rintro e w' ⟨p_, rfl, hb_⟩) | ((with_reducible refine gate_callee (f := 80) rfl ?_); refine goesL_ _ rfl rfl Try.func80 (by kernel_rfl) rfl _ rfl (by (try simp only [List.map_toArray, List.map_cons, List.map_nil]); first | done | rfl) ?_; (with_reducible refine (errors_New.calls _ _).mono ?_); rintro e w' ⟨p_, rfl, hb_⟩; refine ⟨_, rfl, ?_⟩))
     go_ret2
     exact ⟨_, rfl, by first | exact ErrIs.no | exact ErrIs.yes _, by first | exact below_of hb_ (by repeat (first | exact Drawn0.refl _ | apply Drawn0.step)) | exact below_drawn (by repeat (first | exact Drawn0.refl _ | apply Drawn0.step))⟩
    ·rw [if_neg c8] at H
     have c8b0 : decide ((IntKind.u16.wrap (Int.tdiv t336 a1)) < a0) = false := decide_eq_false c8
     clear c8
     simp only [Option.some.injEq, Prod.mk.injEq] at H
     obtain ⟨rfl, rfl⟩ := H
     go_enter Try.func72, Try.ntmps72
     go_wp2_with (first | ((with_reducible refine gate_callee (f := 83) rfl ?_); refine goesL_ (some 8) rfl rfl Try.func83 (by kernel_rfl) rfl #[] rfl (by (try simp only [List.map_toArray, List.map_cons, List.map_nil]); first | done | rfl | (simp only [List.length_drop, List.length_take]; rfl)) ?_; (with_reducible refine (kernels_MinOf_uint16.calls  t335 _ A3.out).mono ?_); rintro e w' ⟨rfl, ⟨nd, rfl⟩⟩; refine ⟨_, rfl, ?_⟩) | ((with_reducible refine gate_callee (f := 84) rfl ?_); refine goesL_ (some 9) rfl rfl Try.func84 (by kernel_rfl) rfl #[] rfl (by (try simp only [List.map_toArray, List.map_cons, List.map_nil]); first | done | rfl | (simp only [List.length_drop, List.length_take]; rfl)) ?_; (with_reducible refine (kernels_MaxOf_uint16.calls  t336 _ A4.out).mono ?_); rintro e w' ⟨rfl, ⟨nd, rfl⟩⟩; refine ⟨_, rfl, ?_⟩) | (go_at_call 80; (with_reducible refine (errors_New.calls _ _).mono ?_); rintro e w' ⟨p_, rfl, hb_⟩) | ((with_reducible refine gate_callee (f := 80) rfl ?_); refine goesL_ _ rfl rfl Try.func80 (by kernel_rfl) rfl _ rfl (by (try simp only [List.map_toArray, List.map_cons, List.map_nil]); first | done | rfl) ?_; (with_reducible refine (errors_New.calls _ _).mono ?_); rintro e w' ⟨p_, rfl, hb_⟩; refine ⟨_, rfl, ?_⟩))
     go_ret2
     exact ⟨_, rfl, by first | exact ErrIs.no | exact ErrIs.yes _, by first | exact below_of hb_ (by repeat (first | exact Drawn0.refl _ | apply Drawn0.step)) | exact below_drawn (by repeat (first | exact Drawn0.refl _ | apply Drawn0.step))⟩
  ·rw [if_neg c6] at H
   have c6b0 : decide (0 < a1) = false := decide_eq_false c6
   clear c6
   by_cases c9 : a0 = 0
   ·rw [if_pos c9] at H
    exact absurd H (by simp)
   ·rw [if_neg c9] at H
    have c9b0 : (a0 == 0) = false := beq_eq_false_iff_ne.mpr c9
    have c9b1 : (a0 != 0) = true := bne_iff_ne.mpr c9
    by_cases c10 : a1 < (IntKind.u16.wrap (Int.tdiv t335 a0))
    ·rw [if_pos c10] at H
     have c10b0 : decide (a1 < (IntKind.u16.wrap (Int.tdiv t335 a0))) = true := decide_eq_true c10
     clear c10
     simp only [Option.some.injEq, Prod.mk.injEq] at H
     obtain ⟨rfl, rfl⟩ := H
     go_enter Try.func72, Try.ntmps72
     go_wp2_with (first | ((with_reducible refine gate_callee (f := 83) rfl ?_); refine goesL_ (some 8) rfl rfl Try.func83 (by kernel_rfl) rfl #[] rfl (by (try simp only [List.map_toArray, List.map_cons, List.map_nil]); first | done | rfl | (simp only [List.length_drop, List.length_take]; rfl)) ?_; (with_reducible refine (kernels_MinOf_uint16.calls  t335 _ A3.out).mono ?_); rintro e w' ⟨rfl, ⟨nd, rfl⟩⟩; refine ⟨_, rfl, ?_⟩) | ((with_reducible refine gate_callee (f := 84) rfl ?_); refine goesL_ (some 9) rfl rfl Try.func84 (by kernel_rfl) rfl #[] rfl (by (try simp only [List.map_toArray, List.map_cons, List.map_nil]); first | done | rfl | (simp only [List.length_drop, List.length_take]; rfl)) ?_; (with_reducible refine (kernels_MaxOf_uint16.calls  t336 _ A4.out).mono ?_); rintro e w' ⟨rfl, ⟨nd, rfl⟩⟩; refine ⟨_, rfl, ?_⟩) | (go_at_call 80; (with_reducible refine (errors_New.calls _ _).mono ?_); rintro e w' ⟨p_, rfl, hb_⟩) | ((with_reducible refine gate_callee (f := 80) rfl ?_); refine goesL_ _ rfl rfl Try.func80 (by kernel_rfl) rfl _ rfl (by (try simp only [List.map_toArray, List.map_cons, List.map_nil]); first | done | rfl) ?_; (with_reducible refine (errors_New.calls _ _).mono ?_); rintro e w' ⟨p_, rfl, hb_⟩; refine ⟨_, rfl, ?_⟩))
     go_ret2
     exact ⟨_, rfl, by first | exact ErrIs.no | exact ErrIs.yes _, by first | exact below_of hb_ (by repeat (first | exact Drawn0.refl _ | apply Drawn0.step)) | exact below_drawn (by repeat (first | exact Drawn0.refl _ | apply Drawn0.step))⟩
    ·rw [if_neg c10] at H
     have c10b0 : decide (a1 < (IntKind.u16.wrap (Int.tdiv t335 a0))) = false := decide_eq_false c10
     clear c10
     simp only [Option.some.injEq, Prod.mk.injEq] at H
     obtain ⟨rfl, rfl⟩ := H
     go_enter Try.func72, Try.ntmps72
     go_wp2_with (first | ((with_reducible refine gate_callee (f := 83) rfl ?_); refine goesL_ (some 8) rfl rfl Try.func83 (by kernel_rfl) rfl #[] rfl (by (try simp only [List.map_toArray, List.map_cons, List.map_nil]); first | done | rfl | (simp only [List.length_drop, List.length_take]; rfl)) ?_; (with_reducible refine (kernels_MinOf_uint16.calls  t335 _ A3.out).mono ?_); rintro e w' ⟨rfl, ⟨nd, rfl⟩⟩; refine ⟨_, rfl, ?_⟩) | ((with_reducible refine gate_callee (f := 84) rfl ?_); refine goesL_ (some 9) rfl rfl Try.func84 (by kernel_rfl) rfl #[] rfl (by (try simp only [List.map_toArray, List.map_cons, List.map_nil]); first | done | rfl | (simp only [List.length_drop, List.length_take]; rfl)) ?_; (with_reducible refine (kernels_MaxOf_uint16.calls  t336 _ A4.out).mono ?_); rintro e w' ⟨rfl, ⟨nd, rfl⟩⟩; refine ⟨_, rfl, ?_⟩) | (go_at_call 80; (with_reducible refine (errors_New.calls _ _).mono ?_); rintro e w' ⟨p_, rfl, hb_⟩) | ((with_reducible refine gate_callee (f := 80) rfl ?_); refine goesL_ _ rfl rfl Try.func80 (by kernel_rfl) rfl _ rfl (by (try simp only [List.map_toArray, List.map_cons, List.map_nil]); first | done | rfl) ?_; (with_reducible refine (errors_New.calls _ _).mono ?_); rintro e w' ⟨p_, rfl, hb_⟩; refine ⟨_, rfl, ?_⟩))
     go_ret2
     exact ⟨_, rfl, by first | exact ErrIs.no | exact ErrIs.yes _, by first | exact below_of hb_ (by repeat (first | exact Drawn0.refl _ | apply Drawn0.step)) | exact below_drawn (by repeat (first | exact Drawn0.refl _ | apply Drawn0.step))⟩
 ·rw [if_neg c5] at H
  have c5b0 : decide (0 < a0) = false := decide_eq_false c5
  clear c5
  by_cases c11 : a1 > 0
  ·rw [if_pos c11] at H
   have c11b0 : decide (0 < a1) = true := decide_eq_true c11
   clear c11
   by_cases c12 : a1 = 0
   ·rw [if_pos c12] at H
    exact absurd H (by simp)
   ·rw [if_neg c12] at H
    have c12b0 : (a1 == 0) = false := beq_eq_false_iff_ne.mpr c12
    have c12b1 : (a1 != 0) = true := bne_iff_ne.mpr c12
    by_cases c13 : a0 < (IntKind.u16.wrap (Int.tdiv t335 a1))
    ·rw [if_pos c13] at H
     have c13b0 : decide (a0 < (IntKind.u16.wrap (Int.tdiv t335 a1))) = true := decide_eq_true c13
     clear c13
     simp only [Option.some.injEq, Prod.mk.injEq] at H
     obtain ⟨rfl, rfl⟩ := H
     go_enter Try.func72, Try.ntmps72
     go_wp2_with (first | ((with_reducible refine gate_callee (f := 83) rfl ?_); refine goesL_ (some 8) rfl rfl Try.func83 (by kernel_rfl) rfl #[] rfl (by (try simp only [List.map_toArray, List.map_cons, List.map_nil]); first | done | rfl | (simp only [List.length_drop, List.length_take]; rfl)) ?_; (with_reducible refine (kernels_MinOf_uint16.calls  t335 _ A3.out).mono ?_); rintro e w' ⟨rfl, ⟨nd, rfl⟩⟩; refine ⟨_, rfl, ?_⟩) | ((with_reducible refine gate_callee (f := 84) rfl ?_); refine goesL_ (some 9) rfl rfl Try.func84 (by kernel_rfl) rfl #[] rfl (by (try simp only [List.map_toArray, List.map_cons, List.map_nil]); first | done | rfl | (simp only [List.length_drop, List.length_take]; rfl)) ?_; (with_reducible refine (kernels_MaxOf_uint16.calls  t336 _ A4.out).mono ?_); rintro e w' ⟨rfl, ⟨nd, rfl⟩⟩; refine ⟨_, rfl, ?_⟩) | (go_at_call 80; (with_reducible refine (errors_New.calls _ _).mono ?_); rintro e w' ⟨p_, rfl, hb_⟩) | ((with_reducible refine gate_callee (f := 80) rfl ?_); refine goesL_ _ rfl rfl Try.func80 (by kernel_rfl) rfl _ rfl (by (try simp only [List.map_toArray, List.map_cons, List.map_nil]); first | done | rfl) ?_; (with_reducible refine (errors_New.calls _ _).mono ?_); rintro e w' ⟨p_, rfl, hb_⟩; refine ⟨_, rfl, ?_⟩))
     go_ret2
     exact ⟨_, rfl, by first | exact ErrIs.no | exact ErrIs.yes _, by first | exact below_of hb_ (by repeat (first | exact Drawn0.refl _ | apply Drawn0.step)) | exact below_drawn (by repeat (first | exact Drawn0.refl _ | apply Drawn0.step))⟩
    ·rw [if_neg c13] at H
     have c13b0 : decide (a0 < (IntKind.u16.wrap (Int.tdiv t335 a1))) = false := decide_eq_false c13
     clear c13
     simp only [Option.some.injEq, Prod.mk.injEq] at H
     obtain ⟨rfl, rfl⟩ := H
     go_enter Try.func72, Try.ntmps72
     go_wp2_with (first | ((with_reducible refine gate_callee (f := 83) rfl ?_); refine goesL_ (some 8) rfl rfl Try.func83 (by kernel_rfl) rfl #[] rfl (by (try simp only [List.map_toArray, List.map_cons, List.map_nil]); first | done | rfl | (simp only [List.length_drop, List.length_take]; rfl)) ?_; (with_reducible refine (kernels_MinOf_uint16.calls  t335 _ A3.out).mono ?_); rintro e w' ⟨rfl, ⟨nd, rfl⟩⟩; refine ⟨_, rfl, ?_⟩) | ((with_reducible refine gate_callee (f := 84) rfl ?_); refine goesL_ (some 9) rfl rfl Try.func84 (by kernel_rfl) rfl #[] rfl (by (try simp only [List.map_toArray, List.map_cons, List.map_nil]); first | done | rfl | (simp only [List.length_drop, List.length_take]; rfl)) ?_; (with_reducible refine (kernels_MaxOf_uint16.calls  t336 _ A4.out).mono ?_); rintro e w' ⟨rfl, ⟨nd, rfl⟩⟩; refine ⟨_, rfl, ?_⟩) | (go_at_call 80; (with_reducible refine (errors_New.calls _ _).mono ?_); rintro e w' ⟨p_, rfl, hb_⟩) | ((with_reducible refine gate_callee (f := 80) rfl ?_); refine goesL_ _ rfl rfl Try.func80 (by kernel_rfl) rfl _ rfl (by (try simp only [List.map_toArray, List.map_cons, List.map_nil]); first | done | rfl) ?_; (with_reducible refine (errors_New.calls _ _).mono ?_); rintro e w' ⟨p_, rfl, hb_⟩; refine ⟨_, rfl, ?_⟩))
     go_ret2
     exact ⟨_, rfl, by first | exact ErrIs.no | exact ErrIs.yes _, by first | exact below_of hb_ (by repeat (first | exact Drawn0.refl _ | apply Drawn0.step)) | exact below_drawn (by repeat (first | exact Drawn0.refl _ | apply Drawn0.step))⟩
  ·rw [if_neg c11] at H
   have c11b0 : decide (0 < a1) = false := decide_eq_false c11
   clear c11
   by_cases c14 : a0 = 0
   ·rw [if_pos c14] at H
    have c14b0 : (a0 == 0) = true := beq_iff_eq.mpr c14
    have c14b1 : (a0 != 0) = false := bne_eq_false_iff_eq.mpr c14
    clear c14
    simp only [Option.some.injEq, Prod.mk.injEq] at H
    obtain ⟨rfl, rfl⟩ := H
    go_enter Try.func72, Try.ntmps72
    go_wp2_with (first | ((with_reducible refine gate_callee (f := 83) rfl ?_); refine goesL_ (some 8) rfl rfl Try.func83 (by kernel_rfl) rfl #[] rfl (by (try simp only [List.map_toArray, List.map_cons, List.map_nil]); first | done | rfl | (simp only [List.length_drop, List.length_take]; rfl)) ?_; (with_reducible refine (kernels_MinOf_uint16.calls  t335 _ A3.out).mono ?_); rintro e w' ⟨rfl, ⟨nd, rfl⟩⟩; refine ⟨_, rfl, ?_⟩) | ((with_reducible refine gate_callee (f := 84) rfl ?_); refine goesL_ (some 9) rfl rfl Try.func84 (by kernel_rfl) rfl #[] rfl (by (try simp only [List.map_toArray, List.map_cons, List.map_nil]); first | done | rfl | (simp only [List.length_drop, List.length_take]; rfl)) ?_; (with_reducible refine (kernels_MaxOf_uint16.calls  t336 _ A4.out).mono ?_); rintro e w' ⟨rfl, ⟨nd, rfl⟩⟩; refine ⟨_, rfl, ?_⟩) | (go_at_call 80; (with_reducible refine (errors_New.calls _ _).mono ?_); rintro e w' ⟨p_, rfl, hb_⟩) | ((with_reducible refine gate_callee (f := 80) rfl ?_); refine goesL_ _ rfl rfl Try.func80 (by kernel_rfl) rfl _ rfl (by (try simp only [List.map_toArray, List.map_cons, List.map_nil]); first | done | rfl) ?_; (with_reducible refine (errors_New.calls _ _).mono ?_); rintro e w' ⟨p_, rfl, hb_⟩; refine ⟨_, rfl, ?_⟩))
    go_ret2
    exact ⟨_, rfl, by first | exact ErrIs.no | exact ErrIs.yes _, by first | exact below_of hb_ (by repeat (first | exact Drawn0.refl _ | apply Drawn0.step)) | exact below_drawn (by repeat (first | exact Drawn0.refl _ | apply Drawn0.step))⟩
   ·rw [if_neg c14] at H
    have c14b0 : (a0 == 0) = false := beq_eq_false_iff_ne.mpr c14
    have c14b1 : (a0 != 0) = true := bne_iff_ne.mpr c14
    by_cases c15 : a1 < (IntKind.u16.wrap (Int.tdiv t336 a0))
    ·rw [if_pos c15] at H
     have c15b0 : decide (a1 < (IntKind.u16.wrap (Int.tdiv t336 a0))) = true := decide_eq_true c15
     clear c15
     simp only [Option.some.injEq, Prod.mk.injEq] at H
     obtain ⟨rfl, rfl⟩ := H
     go_enter Try.func72, Try.ntmps72
     go_wp2_with (first | ((with_reducible refine gate_callee (f := 83) rfl ?_); refine goesL_ (some 8) rfl rfl Try.func83 (by kernel_rfl) rfl #[] rfl (by (try simp only [List.map_toArray, List.map_cons, List.map_nil]); first | done | rfl | (simp only [List.length_drop, List.length_take]; rfl)) ?_; (with_reducible refine (kernels_MinOf_uint16.calls  t335 _ A3.out).mono ?_); rintro e w' ⟨rfl, ⟨nd, rfl⟩⟩; refine ⟨_, rfl, ?_⟩) | ((with_reducible refine gate_callee (f := 84) rfl ?_); refine goesL_ (some 9) rfl rfl Try.func84 (by kernel_rfl) rfl #[] rfl (by (try simp only [List.map_toArray, List.map_cons, List.map_nil]); first | done | rfl | (simp only [List.length_drop, List.length_take]; rfl)) ?_; (with_reducible refine (kernels_MaxOf_uint16.calls  t336 _ A4.out).mono ?_); rintro e w' ⟨rfl, ⟨nd, rfl⟩⟩; refine ⟨_, rfl, ?_⟩) | (go_at_call 80; (with_reducible refine (errors_New.calls _ _).mono ?_); rintro e w' ⟨p_, rfl, hb_⟩) | ((with_reducible refine gate_callee (f := 80) rfl ?_); refine goesL_ _ rfl rfl Try.func80 (by kernel_rfl) rfl _ rfl (by (try simp only [List.map_toArray, List.map_cons, List.map_nil]); first | done | rfl) ?_; (with_reducible refine (errors_New.calls _ _).mono ?_); rintro e w' ⟨p_, rfl, hb_⟩; refine ⟨_, rfl, ?_⟩))
     go_ret2
     exact ⟨_, rfl, by first | exact ErrIs.no | exact ErrIs.yes _, by first | exact below_of hb_ (by repeat (first | exact Drawn0.refl _ | apply Drawn0.step)) | exact below_drawn (by repeat (first | exact Drawn0.refl _ | apply Drawn0.step))⟩
    ·rw [if_neg c15] at H
     have c15b0 : decide (a1 < (IntKind.u16.wrap (Int.tdiv t336 a0))) = false := decide_eq_false c15
     clear c15
     simp only [Option.some.injEq, Prod.mk.injEq] at H
     obtain ⟨rfl, rfl⟩ := H
     go_enter Try.func72, Try.ntmps72
     go_wp2_with (first | ((with_reducible refine gate_callee (f := 83) rfl ?_); refine goesL_ (some 8) rfl rfl Try.func83 (by kernel_rfl) rfl #[] rfl (by (try simp only [List.map_toArray, List.map_cons, List.map_nil]); first | done | rfl | (simp only [List.length_drop, List.length_take]; rfl)) ?_; (with_reducible refine (kernels_MinOf_uint16.calls  t335 _ A3.out).mono ?_); rintro e w' ⟨rfl, ⟨nd, rfl⟩⟩; refine ⟨_, rfl, ?_⟩) | ((with_reducible refine gate_callee (f := 84) rfl ?_); refine goesL_ (some 9) rfl rfl Try.func84 (by kernel_rfl) rfl #[] rfl (by (try simp only [List.map_toArray, List.map_cons, List.map_nil]); first | done | rfl | (simp only [List.length_drop, List.length_take]; rfl)) ?_; (with_reducible refine (kernels_MaxOf_uint16.calls  t336 _ A4.out).mono ?_); rintro e w' ⟨rfl, ⟨nd, rfl⟩⟩; refine ⟨_, rfl, ?_⟩) | (go_at_call 80; (with_reducible refine (errors_New.calls _ _).mono ?_); rintro e w' ⟨p_, rfl, hb_⟩) | ((with_reducible refine gate_callee (f := 80) rfl ?_); refine goesL_ _ rfl rfl Try.func80 (by kernel_rfl) rfl _ rfl (by (try simp only [List.map_toArray, List.map_cons, List.map_nil]); first | done | rfl) ?_; (with_reducible refine (errors_New.calls _ _).mono ?_); rintro e w' ⟨p_, rfl, hb_⟩; refine ⟨_, rfl, ?_⟩))
     go_ret2
     exact ⟨_, rfl, by first | exact ErrIs.no | exact ErrIs.yes _, by first | exact below_of hb_ (by repeat (first | exact Drawn0.refl _ | apply Drawn0.step)) | exact below_drawn (by repeat (first | exact Drawn0.refl _ | apply Drawn0.step))⟩
def kernels_MulWithOverflow_uint16.f (a0 : Int) (a1 : Int) : Option (Int × Bool) := (kernels_mulWithOverflow_uint16.f a0 a1).bind fun bt337 => (some (bt337.1, bt337.2))
set_option maxHeartbeats 8000000 in
set_option maxRecDepth 100000 in
theorem kernels_MulWithOverflow_uint16.calls (a0 : Int) (a1 : Int) (r1 : Int) (r2 : Bool) (w : World) (h : kernels_MulWithOverflow_uint16.f a0 a1 = some (r1, r2)) :
  Calls Try.prog 58 #[.int .u16 a0, .int .u16 a1] w fun e w' => ∃ v_ : Value, e = .returned (.tuple #[.int .u16 r1, v_]) ∧ ErrIs v_ r2 ∧ Below w.heap.size w w' := by
 have H : ((kernels_mulWithOverflow_uint16.f a0 a1).bind fun bt337 => (some (bt337.1, bt337.2))) = some (r1, r2) := h
 clear h
 replace H := Option.bind_eq_some_iff.mp H
 obtain ⟨⟨t337, t338⟩, A30, H⟩ := H
 replace H : (some (t337, t338)) = some (r1, r2) := H
 have A3 := Aside0.mk A30
 clear A30
 simp only [Option.some.injEq, Prod.mk.injEq] at H
 obtain ⟨rfl, rfl⟩ := H
 go_enter Try.func58, Try.ntmps58
 go_wp2_with (first | ((with_reducible refine gate_callee (f := 72) rfl ?_); refine goesL_ (some 8) rfl rfl Try.func72 (by kernel_rfl) rfl #[.int .u16 a0, .int .u16 a1] rfl (by (try simp only [List.map_toArray, List.map_cons, List.map_nil]); first | done | rfl | (simp only [List.length_drop, List.length_take]; rfl)) ?_; (with_reducible refine (kernels_mulWithOverflow_uint16.calls a0 a1 t337 t338 _ A3.out).mono ?_); rintro e w' ⟨v_, rfl, hv_, hb_⟩; refine ⟨_, rfl, ?_⟩))
 go_ret2
 exact ⟨_, rfl, hv_, hb_⟩
def impl_MulUint16.f (a0 : Int) (a1 : Int) : Option (Int × Bool) := (kernels_MulWithOverflow_uint16.f a0 a1).bind fun bt339 => (some (bt339.1, bt339.2))
set_option maxHeartbeats 8000000 in
set_option maxRecDepth 100000 in
theorem impl_MulUint16.calls (a0 : Int) (a1 : Int) (r1 : Int) (r2 : Bool) (w : World) (h : impl_MulUint16.f a0 a1 = some (r1, r2)) :
  Calls Try.prog 31 #[.int .u16 a0, .int .u16 a1] w fun e w' => e = .returned (.tuple #[.int .u16 r1, .bool r2]) ∧ Below w.heap.size w w' := by
 have H : ((kernels_MulWithOverflow_uint16.f a0 a1).bind fun bt339 => (some (bt339.1, bt339.2))) = some (r1, r2) := h
 clear h
 replace H := Option.bind_eq_some_iff.mp H
 obtain ⟨⟨t339, t340⟩, A30, H⟩ := H
 replace H : (some (t339, t340)) = some (r1, r2) := H
 have A3 := Aside0.mk A30
 clear A30
 simp only [Option.some.injEq, Prod.mk.injEq] at H
 obtain ⟨rfl, rfl⟩ := H
 cases t340 with
 | true =>
  go_enter Try.func31, Try.ntmps31
  go_wp2_with (first | (go_at_call 58; (with_reducible refine (kernels_MulWithOverflow_uint16.calls a0 a1 t339 true _ A3.out).mono ?_); rintro e w' ⟨v_, rfl, hv_, hb_⟩; cases hv_))
  repeat (go_quiet (first | (go_at_call 58; (with_reducible refine (kernels_MulWithOverflow_uint16.calls a0 a1 t339 true _ A3.out).mono ?_); rintro e w' ⟨v_, rfl, hv_, hb_⟩; cases hv_)); try go_wp2_with (first | (go_at_call 58; (with_reducible refine (kernels_MulWithOverflow_uint16.calls a0 a1 t339 true _ A3.out).mono ?_); rintro e w' ⟨v_, rfl, hv_, hb_⟩; cases hv_)))
  go_ret2
  exact ⟨by first | rfl | (simp; done) | (simp [*]; done), by repeat (first | exact hb_ | apply pw_below_drewN | apply below_drew1)⟩
 | false =>
  go_enter Try.func31, Try.ntmps31
  go_wp2_with (first | (go_at_call 58; (with_reducible refine (kernels_MulWithOverflow_uint16.calls a0 a1 t339 false _ A3.out).mono ?_); rintro e w' ⟨v_, rfl, hv_, hb_⟩; cases hv_))
  repeat (go_quiet (first | (go_at_call 58; (with_reducible refine (kernels_MulWithOverflow_uint16.calls a0 a1 t339 false _ A3.out).mono ?_); rintro e w' ⟨v_, rfl, hv_, hb_⟩; cases hv_)); try go_wp2_with (first | (go_at_call 58; (with_reducible refine (kernels_MulWithOverflow_uint16.calls a0 a1 t339 false _ A3.out).mono ?_); rintro e w' ⟨v_, rfl, hv_, hb_⟩; cases hv_)))
  go_ret2
  exact ⟨by first | rfl | (simp; done) | (simp [*]; done), by repeat (first | exact hb_ | apply pw_below_drewN | apply below_drew1)⟩
end Go.Proofs.Ytnjniacohbeonaa.Q
