-- written by programs of ours (wip/tools) out of the kit's printer: the functions of one law, less those that are shared or proved by hand
import Derived.Test.YtnjniacohbeonaaQ0
namespace Go.Proofs.Ytnjniacohbeonaa.Q
open Go.RowKit Go.Proofs.YtnjniacohbeonaaW.PrintWords Go.Proofs.YtnjniacohbeonaaW.PrintLast Go.Proofs.YtnjniacohbeonaaW.PrintMore
attribute [local go_sem] max2_int min2_int max_two min_two max_three min_three max_four min_four
set_option linter.unusedVariables false
set_option linter.unusedSimpArgs false

/-! ### utils_Add_int: function 44 -/
def utils_Add_int.f (a0 : Int) (a1 : Int) : Option (Int × Bool) := some (wrap64 (a0 + a1), ((decide ((wrap64 (a0 + a1)) > a0)) == (decide (a1 > 0))))
set_option maxHeartbeats 8000000 in
set_option maxRecDepth 100000 in
theorem utils_Add_int.calls (a0 : Int) (a1 : Int) (r1 : Int) (r2 : Bool) (w : World) (h : utils_Add_int.f a0 a1 = some (r1, r2)) :
    Calls Try.prog 44 #[.int .i64 a0, .int .i64 a1] w fun e w' => e = .returned (.tuple #[.int .i64 r1, .bool r2]) ∧ Drawn0 w w' := by
  have H : (some (wrap64 (a0 + a1), ((decide ((wrap64 (a0 + a1)) > a0)) == (decide (a1 > 0))))) = some (r1, r2) := h
  clear h
  simp only [Option.some.injEq, Prod.mk.injEq] at H
  obtain ⟨rfl, rfl⟩ := H
  go_enter Try.func44, Try.ntmps44
  go_wp2
  go_ret2
  exact ⟨by first | rfl | (simp; done) | (simp [*]; done), by repeat (first | exact Drawn0.refl _ | apply Drawn0.step)⟩

/-! ### impl_AddChecked: function 18 -/
def impl_AddChecked.f (a0 : Int) (a1 : Int) : Option (Int × Bool) := (utils_Add_int.f a0 a1).bind fun bt293 => (some (bt293.1, bt293.2))
set_option maxHeartbeats 8000000 in
set_option maxRecDepth 100000 in
theorem impl_AddChecked.calls (a0 : Int) (a1 : Int) (r1 : Int) (r2 : Bool) (w : World) (h : impl_AddChecked.f a0 a1 = some (r1, r2)) :
    Calls Try.prog 18 #[.int .i64 a0, .int .i64 a1] w fun e w' => e = .returned (.tuple #[.int .i64 r1, .bool r2]) ∧ Drawn0 w w' := by
  have H : ((utils_Add_int.f a0 a1).bind fun bt293 => (some (bt293.1, bt293.2))) = some (r1, r2) := h
  clear h
  replace H := Option.bind_eq_some_iff.mp H
  obtain ⟨⟨t293, t294⟩, A30, H⟩ := H
  replace H : (some (t293, t294)) = some (r1, r2) := H
  have A3 := Aside0.mk A30
  clear A30
  simp only [Option.some.injEq, Prod.mk.injEq] at H
  obtain ⟨rfl, rfl⟩ := H
  go_enter Try.func18, Try.ntmps18
  go_wp2_with (first | ((with_reducible refine gate_callee (f := 44) rfl ?_); refine goesL_ (some 11) rfl rfl Try.func44 (by kernel_rfl) rfl #[.int .i64 a0, .int .i64 a1] rfl (by (try simp only [List.map_toArray, List.map_cons, List.map_nil]); first | done | rfl | (simp only [List.length_drop, List.length_take]; rfl)) ?_; (with_reducible refine (utils_Add_int.calls a0 a1 t293 t294 _ A3.out).mono ?_); rintro e w' ⟨rfl, ⟨nd, rfl⟩⟩; refine ⟨_, rfl, ?_⟩))
  go_ret2
  exact ⟨by first | rfl | (simp; done) | (simp [*]; done), by repeat (first | exact Drawn0.refl _ | apply Drawn0.step)⟩

end Go.Proofs.Ytnjniacohbeonaa.Q
