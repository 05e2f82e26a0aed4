/- impl.AddInt8: what the program's own arithmetic hands back, with an error of errors.New told apart from nil. -/
import Derived.Test.YtnjniacohbeonaaEr
import Derived.Test.YtnjniacohbeonaaQWca
namespace Go.Proofs.Ytnjniacohbeonaa.Q
open Go.RowKit Go.Proofs.YtnjniacohbeonaaW.PrintWords Go.Proofs.YtnjniacohbeonaaW.PrintLast Go.Proofs.YtnjniacohbeonaaW.PrintMore
attribute [local go_sem] max2_int min2_int max_two min_two max_three min_three max_four min_four
set_option linter.unusedVariables false
set_option linter.unusedSimpArgs false

/-! ### kernels_checkedAddSigned_int8: function 71 -/
def kernels_checkedAddSigned_int8.f (a0 : Int) (a1 : Int) : Option (Int × Bool) := if a1 > 0 then ((kernels_MaxOf_int8.f).bind fun t308 => (if a0 > (IntKind.i8.wrap (t308 - a1)) then (some (0, false)) else (if a1 < 0 then ((kernels_MinOf_int8.f).bind fun t309 => (if a0 < (IntKind.i8.wrap (t309 - a1)) then (some (0, false)) else (some (IntKind.i8.wrap (a0 + a1), true)))) else (some (IntKind.i8.wrap (a0 + a1), true))))) else (if a1 < 0 then ((kernels_MinOf_int8.f).bind fun t310 => (if a0 < (IntKind.i8.wrap (t310 - a1)) then (some (0, false)) else (some (IntKind.i8.wrap (a0 + a1), true)))) else (some (IntKind.i8.wrap (a0 + a1), true)))
set_option maxHeartbeats 8000000 in
set_option maxRecDepth 100000 in
theorem kernels_checkedAddSigned_int8.calls (a0 : Int) (a1 : Int) (r1 : Int) (r2 : Bool) (w : World) (h : kernels_checkedAddSigned_int8.f a0 a1 = some (r1, r2)) :
    Calls Try.prog 71 #[.int .i8 a0, .int .i8 a1] w fun e w' => ∃ v_ : Value, e = .returned (.tuple #[.int .i8 r1, v_]) ∧ ErrIs v_ r2 ∧ Below w.heap.size w w' := by
  have H : (if a1 > 0 then ((kernels_MaxOf_int8.f).bind fun t308 => (if a0 > (IntKind.i8.wrap (t308 - a1)) then (some (0, false)) else (if a1 < 0 then ((kernels_MinOf_int8.f).bind fun t309 => (if a0 < (IntKind.i8.wrap (t309 - a1)) then (some (0, false)) else (some (IntKind.i8.wrap (a0 + a1), true)))) else (some (IntKind.i8.wrap (a0 + a1), true))))) else (if a1 < 0 then ((kernels_MinOf_int8.f).bind fun t310 => (if a0 < (IntKind.i8.wrap (t310 - a1)) then (some (0, false)) else (some (IntKind.i8.wrap (a0 + a1), true)))) else (some (IntKind.i8.wrap (a0 + a1), true)))) = some (r1, r2) := h
  clear h
  by_cases c3 : a1 > 0
  · rw [if_pos c3] at H
    have c3b0 : decide (0 < a1) = true := decide_eq_true c3
    clear c3
    replace H := Option.bind_eq_some_iff.mp H
    obtain ⟨t308, A40, H⟩ := H
    replace H : (if a0 > (IntKind.i8.wrap (t308 - a1)) then (some (0, false)) else (if a1 < 0 then ((kernels_MinOf_int8.f).bind fun t309 => (if a0 < (IntKind.i8.wrap (t309 - a1)) then (some (0, false)) else (some (IntKind.i8.wrap (a0 + a1), true)))) else (some (IntKind.i8.wrap (a0 + a1), true)))) = some (r1, r2) := H
    have A4 := Aside0.mk A40
    clear A40
    by_cases c5 : a0 > (IntKind.i8.wrap (t308 - a1))
    · rw [if_pos c5] at H
      have c5b0 : decide ((IntKind.i8.wrap (t308 - a1)) < a0) = true := decide_eq_true c5
      clear c5
      simp only [Option.some.injEq, Prod.mk.injEq] at H
      obtain ⟨rfl, rfl⟩ := H
      go_enter Try.func71, Try.ntmps71
      go_wp2_with (first | (go_at_call 81; (with_reducible refine (kernels_MaxOf_int8.calls  t308 _ A4.out).mono ?_); rintro e w' ⟨rfl, ⟨nd, rfl⟩⟩) | (go_at_call 80; (with_reducible refine (errors_New.calls _ _).mono ?_); rintro e w' ⟨p_, rfl, hb_⟩) | ((with_reducible refine gate_callee (f := 80) rfl ?_); refine goesL_ _ rfl rfl Try.func80 (by kernel_rfl) rfl _ rfl (by (try simp only [List.map_toArray, List.map_cons, List.map_nil]); first | done | rfl) ?_; (with_reducible refine (errors_New.calls _ _).mono ?_); rintro e w' ⟨p_, rfl, hb_⟩; refine ⟨_, rfl, ?_⟩))
      go_ret2
      exact ⟨_, rfl, by first | exact ErrIs.no | exact ErrIs.yes _, by first | exact below_of hb_ (by repeat (first | exact Drawn0.refl _ | apply Drawn0.step)) | exact below_drawn (by repeat (first | exact Drawn0.refl _ | apply Drawn0.step))⟩
    · rw [if_neg c5] at H
      have c5b0 : decide ((IntKind.i8.wrap (t308 - a1)) < a0) = false := decide_eq_false c5
      clear c5
      by_cases c6 : a1 < 0
      · rw [if_pos c6] at H
        have c6b0 : decide (a1 < 0) = true := decide_eq_true c6
        clear c6
        replace H := Option.bind_eq_some_iff.mp H
        obtain ⟨t309, A70, H⟩ := H
        replace H : (if a0 < (IntKind.i8.wrap (t309 - a1)) then (some (0, false)) else (some (IntKind.i8.wrap (a0 + a1), true))) = some (r1, r2) := H
        have A7 := Aside0.mk A70
        clear A70
        by_cases c8 : a0 < (IntKind.i8.wrap (t309 - a1))
        · rw [if_pos c8] at H
          have c8b0 : decide (a0 < (IntKind.i8.wrap (t309 - a1))) = true := decide_eq_true c8
          clear c8
          simp only [Option.some.injEq, Prod.mk.injEq] at H
          obtain ⟨rfl, rfl⟩ := H
          go_enter Try.func71, Try.ntmps71
          go_wp2_with (first | (go_at_call 81; (with_reducible refine (kernels_MaxOf_int8.calls  t308 _ A4.out).mono ?_); rintro e w' ⟨rfl, ⟨nd, rfl⟩⟩) | (go_at_call 82; (with_reducible refine (kernels_MinOf_int8.calls  t309 _ A7.out).mono ?_); rintro e w' ⟨rfl, ⟨nd, rfl⟩⟩) | (go_at_call 80; (with_reducible refine (errors_New.calls _ _).mono ?_); rintro e w' ⟨p_, rfl, hb_⟩) | ((with_reducible refine gate_callee (f := 80) rfl ?_); refine goesL_ _ rfl rfl Try.func80 (by kernel_rfl) rfl _ rfl (by (try simp only [List.map_toArray, List.map_cons, List.map_nil]); first | done | rfl) ?_; (with_reducible refine (errors_New.calls _ _).mono ?_); rintro e w' ⟨p_, rfl, hb_⟩; refine ⟨_, rfl, ?_⟩))
          go_ret2
          exact ⟨_, rfl, by first | exact ErrIs.no | exact ErrIs.yes _, by first | exact below_of hb_ (by repeat (first | exact Drawn0.refl _ | apply Drawn0.step)) | exact below_drawn (by repeat (first | exact Drawn0.refl _ | apply Drawn0.step))⟩
        · rw [if_neg c8] at H
          have c8b0 : decide (a0 < (IntKind.i8.wrap (t309 - a1))) = false := decide_eq_false c8
          clear c8
          simp only [Option.some.injEq, Prod.mk.injEq] at H
          obtain ⟨rfl, rfl⟩ := H
          go_enter Try.func71, Try.ntmps71
          go_wp2_with (first | (go_at_call 81; (with_reducible refine (kernels_MaxOf_int8.calls  t308 _ A4.out).mono ?_); rintro e w' ⟨rfl, ⟨nd, rfl⟩⟩) | (go_at_call 82; (with_reducible refine (kernels_MinOf_int8.calls  t309 _ A7.out).mono ?_); rintro e w' ⟨rfl, ⟨nd, rfl⟩⟩) | (go_at_call 80; (with_reducible refine (errors_New.calls _ _).mono ?_); rintro e w' ⟨p_, rfl, hb_⟩) | ((with_reducible refine gate_callee (f := 80) rfl ?_); refine goesL_ _ rfl rfl Try.func80 (by kernel_rfl) rfl _ rfl (by (try simp only [List.map_toArray, List.map_cons, List.map_nil]); first | done | rfl) ?_; (with_reducible refine (errors_New.calls _ _).mono ?_); rintro e w' ⟨p_, rfl, hb_⟩; refine ⟨_, rfl, ?_⟩))
          go_ret2
          exact ⟨_, rfl, by first | exact ErrIs.no | exact ErrIs.yes _, by first | exact below_of hb_ (by repeat (first | exact Drawn0.refl _ | apply Drawn0.step)) | exact below_drawn (by repeat (first | exact Drawn0.refl _ | apply Drawn0.step))⟩
      · rw [if_neg c6] at H
        have c6b0 : decide (a1 < 0) = false := decide_eq_false c6
        clear c6
        simp only [Option.some.injEq, Prod.mk.injEq] at H
        obtain ⟨rfl, rfl⟩ := H
        go_enter Try.func71, Try.ntmps71
        go_wp2_with (first | (go_at_call 81; (with_reducible refine (kernels_MaxOf_int8.calls  t308 _ A4.out).mono ?_); rintro e w' ⟨rfl, ⟨nd, rfl⟩⟩) | (go_at_call 80; (with_reducible refine (errors_New.calls _ _).mono ?_); rintro e w' ⟨p_, rfl, hb_⟩) | ((with_reducible refine gate_callee (f := 80) rfl ?_); refine goesL_ _ rfl rfl Try.func80 (by kernel_rfl) rfl _ rfl (by (try simp only [List.map_toArray, List.map_cons, List.map_nil]); first | done | rfl) ?_; (with_reducible refine (errors_New.calls _ _).mono ?_); rintro e w' ⟨p_, rfl, hb_⟩; refine ⟨_, rfl, ?_⟩))
        go_ret2
        exact ⟨_, rfl, by first | exact ErrIs.no | exact ErrIs.yes _, by first | exact below_of hb_ (by repeat (first | exact Drawn0.refl _ | apply Drawn0.step)) | exact below_drawn (by repeat (first | exact Drawn0.refl _ | apply Drawn0.step))⟩
  · rw [if_neg c3] at H
    have c3b0 : decide (0 < a1) = false := decide_eq_false c3
    clear c3
    by_cases c9 : a1 < 0
    · rw [if_pos c9] at H
      have c9b0 : decide (a1 < 0) = true := decide_eq_true c9
      clear c9
      replace H := Option.bind_eq_some_iff.mp H
      obtain ⟨t310, A100, H⟩ := H
      replace H : (if a0 < (IntKind.i8.wrap (t310 - a1)) then (some (0, false)) else (some (IntKind.i8.wrap (a0 + a1), true))) = some (r1, r2) := H
      have A10 := Aside0.mk A100
      clear A100
      by_cases c11 : a0 < (IntKind.i8.wrap (t310 - a1))
      · rw [if_pos c11] at H
        have c11b0 : decide (a0 < (IntKind.i8.wrap (t310 - a1))) = true := decide_eq_true c11
        clear c11
        simp only [Option.some.injEq, Prod.mk.injEq] at H
        obtain ⟨rfl, rfl⟩ := H
        go_enter Try.func71, Try.ntmps71
        go_wp2_with (first | (go_at_call 82; (with_reducible refine (kernels_MinOf_int8.calls  t310 _ A10.out).mono ?_); rintro e w' ⟨rfl, ⟨nd, rfl⟩⟩) | (go_at_call 80; (with_reducible refine (errors_New.calls _ _).mono ?_); rintro e w' ⟨p_, rfl, hb_⟩) | ((with_reducible refine gate_callee (f := 80) rfl ?_); refine goesL_ _ rfl rfl Try.func80 (by kernel_rfl) rfl _ rfl (by (try simp only [List.map_toArray, List.map_cons, List.map_nil]); first | done | rfl) ?_; (with_reducible refine (errors_New.calls _ _).mono ?_); rintro e w' ⟨p_, rfl, hb_⟩; refine ⟨_, rfl, ?_⟩))
        go_ret2
        exact ⟨_, rfl, by first | exact ErrIs.no | exact ErrIs.yes _, by first | exact below_of hb_ (by repeat (first | exact Drawn0.refl _ | apply Drawn0.step)) | exact below_drawn (by repeat (first | exact Drawn0.refl _ | apply Drawn0.step))⟩
      · rw [if_neg c11] at H
        have c11b0 : decide (a0 < (IntKind.i8.wrap (t310 - a1))) = false := decide_eq_false c11
        clear c11
        simp only [Option.some.injEq, Prod.mk.injEq] at H
        obtain ⟨rfl, rfl⟩ := H
        go_enter Try.func71, Try.ntmps71
        go_wp2_with (first | (go_at_call 82; (with_reducible refine (kernels_MinOf_int8.calls  t310 _ A10.out).mono ?_); rintro e w' ⟨rfl, ⟨nd, rfl⟩⟩) | (go_at_call 80; (with_reducible refine (errors_New.calls _ _).mono ?_); rintro e w' ⟨p_, rfl, hb_⟩) | ((with_reducible refine gate_callee (f := 80) rfl ?_); refine goesL_ _ rfl rfl Try.func80 (by kernel_rfl) rfl _ rfl (by (try simp only [List.map_toArray, List.map_cons, List.map_nil]); first | done | rfl) ?_; (with_reducible refine (errors_New.calls _ _).mono ?_); rintro e w' ⟨p_, rfl, hb_⟩; refine ⟨_, rfl, ?_⟩))
        go_ret2
        exact ⟨_, rfl, by first | exact ErrIs.no | exact ErrIs.yes _, by first | exact below_of hb_ (by repeat (first | exact Drawn0.refl _ | apply Drawn0.step)) | exact below_drawn (by repeat (first | exact Drawn0.refl _ | apply Drawn0.step))⟩
    · rw [if_neg c9] at H
      have c9b0 : decide (a1 < 0) = false := decide_eq_false c9
      clear c9
      simp only [Option.some.injEq, Prod.mk.injEq] at H
      obtain ⟨rfl, rfl⟩ := H
      go_enter Try.func71, Try.ntmps71
      go_wp2_with (first | (go_at_call 80; (with_reducible refine (errors_New.calls _ _).mono ?_); rintro e w' ⟨p_, rfl, hb_⟩) | ((with_reducible refine gate_callee (f := 80) rfl ?_); refine goesL_ _ rfl rfl Try.func80 (by kernel_rfl) rfl _ rfl (by (try simp only [List.map_toArray, List.map_cons, List.map_nil]); first | done | rfl) ?_; (with_reducible refine (errors_New.calls _ _).mono ?_); rintro e w' ⟨p_, rfl, hb_⟩; refine ⟨_, rfl, ?_⟩))
      go_ret2
      exact ⟨_, rfl, by first | exact ErrIs.no | exact ErrIs.yes _, by first | exact below_of hb_ (by repeat (first | exact Drawn0.refl _ | apply Drawn0.step)) | exact below_drawn (by repeat (first | exact Drawn0.refl _ | apply Drawn0.step))⟩

/-! ### kernels_AddChecked_int8: function 56 -/
def kernels_AddChecked_int8.f (a0 : Int) (a1 : Int) : Option (Int × Bool) := (kernels_checkedAddSigned_int8.f a0 a1).bind fun bt311 => (some (bt311.1, bt311.2))
set_option maxHeartbeats 8000000 in
set_option maxRecDepth 100000 in
theorem kernels_AddChecked_int8.calls (a0 : Int) (a1 : Int) (r1 : Int) (r2 : Bool) (w : World) (h : kernels_AddChecked_int8.f a0 a1 = some (r1, r2)) :
    Calls Try.prog 56 #[.int .i8 a0, .int .i8 a1] w fun e w' => ∃ v_ : Value, e = .returned (.tuple #[.int .i8 r1, v_]) ∧ ErrIs v_ r2 ∧ Below w.heap.size w w' := by
  have H : ((kernels_checkedAddSigned_int8.f a0 a1).bind fun bt311 => (some (bt311.1, bt311.2))) = some (r1, r2) := h
  clear h
  replace H := Option.bind_eq_some_iff.mp H
  obtain ⟨⟨t311, t312⟩, A30, H⟩ := H
  replace H : (some (t311, t312)) = some (r1, r2) := H
  have A3 := Aside0.mk A30
  clear A30
  simp only [Option.some.injEq, Prod.mk.injEq] at H
  obtain ⟨rfl, rfl⟩ := H
  go_enter Try.func56, Try.ntmps56
  go_wp2_with (first | ((with_reducible refine gate_callee (f := 71) rfl ?_); refine goesL_ (some 8) rfl rfl Try.func71 (by kernel_rfl) rfl #[.int .i8 a0, .int .i8 a1] rfl (by (try simp only [List.map_toArray, List.map_cons, List.map_nil]); first | done | rfl | (simp only [List.length_drop, List.length_take]; rfl)) ?_; (with_reducible refine (kernels_checkedAddSigned_int8.calls a0 a1 t311 t312 _ A3.out).mono ?_); rintro e w' ⟨v_, rfl, hv_, hb_⟩; refine ⟨_, rfl, ?_⟩))
  go_ret2
  exact ⟨_, rfl, hv_, hb_⟩

/-! ### impl_AddInt8: function 28 -/
def impl_AddInt8.f (a0 : Int) (a1 : Int) : Option (Int × Bool) := (kernels_AddChecked_int8.f a0 a1).bind fun bt313 => (some (bt313.1, bt313.2))
set_option maxHeartbeats 8000000 in
set_option maxRecDepth 100000 in
theorem impl_AddInt8.calls (a0 : Int) (a1 : Int) (r1 : Int) (r2 : Bool) (w : World) (h : impl_AddInt8.f a0 a1 = some (r1, r2)) :
    Calls Try.prog 28 #[.int .i8 a0, .int .i8 a1] w fun e w' => e = .returned (.tuple #[.int .i8 r1, .bool r2]) ∧ Below w.heap.size w w' := by
  have H : ((kernels_AddChecked_int8.f a0 a1).bind fun bt313 => (some (bt313.1, bt313.2))) = some (r1, r2) := h
  clear h
  replace H := Option.bind_eq_some_iff.mp H
  obtain ⟨⟨t313, t314⟩, A30, H⟩ := H
  replace H : (some (t313, t314)) = some (r1, r2) := H
  have A3 := Aside0.mk A30
  clear A30
  simp only [Option.some.injEq, Prod.mk.injEq] at H
  obtain ⟨rfl, rfl⟩ := H
  cases t314 with
  | true =>
    go_enter Try.func28, Try.ntmps28
    go_wp2_with (first | (go_at_call 56; (with_reducible refine (kernels_AddChecked_int8.calls a0 a1 t313 true _ A3.out).mono ?_); rintro e w' ⟨v_, rfl, hv_, hb_⟩; cases hv_))
    repeat (go_quiet (first | (go_at_call 56; (with_reducible refine (kernels_AddChecked_int8.calls a0 a1 t313 true _ A3.out).mono ?_); rintro e w' ⟨v_, rfl, hv_, hb_⟩; cases hv_)); try go_wp2_with (first | (go_at_call 56; (with_reducible refine (kernels_AddChecked_int8.calls a0 a1 t313 true _ A3.out).mono ?_); rintro e w' ⟨v_, rfl, hv_, hb_⟩; cases hv_)))
    go_ret2
    exact ⟨by first | rfl | (simp; done) | (simp [*]; done), by repeat (first | exact hb_ | apply pw_below_drewN | apply below_drew1)⟩
  | false =>
    go_enter Try.func28, Try.ntmps28
    go_wp2_with (first | (go_at_call 56; (with_reducible refine (kernels_AddChecked_int8.calls a0 a1 t313 false _ A3.out).mono ?_); rintro e w' ⟨v_, rfl, hv_, hb_⟩; cases hv_))
    repeat (go_quiet (first | (go_at_call 56; (with_reducible refine (kernels_AddChecked_int8.calls a0 a1 t313 false _ A3.out).mono ?_); rintro e w' ⟨v_, rfl, hv_, hb_⟩; cases hv_)); try go_wp2_with (first | (go_at_call 56; (with_reducible refine (kernels_AddChecked_int8.calls a0 a1 t313 false _ A3.out).mono ?_); rintro e w' ⟨v_, rfl, hv_, hb_⟩; cases hv_)))
    go_ret2
    exact ⟨by first | rfl | (simp; done) | (simp [*]; done), by repeat (first | exact hb_ | apply pw_below_drewN | apply below_drew1)⟩

end Go.Proofs.Ytnjniacohbeonaa.Q
