-- written by programs of ours (wip/tools) out of the kit's printer: the functions of one law, less those that are shared or proved by hand
import Derived.Test.YtnjniacohbeonaaQ0
namespace Go.Proofs.Ytnjniacohbeonaa.Q
open Go.RowKit Go.Proofs.YtnjniacohbeonaaW.PrintWords Go.Proofs.YtnjniacohbeonaaW.PrintLast Go.Proofs.YtnjniacohbeonaaW.PrintMore
attribute [local go_sem] max2_int min2_int max_two min_two max_three min_three max_four min_four
set_option linter.unusedVariables false
set_option linter.unusedSimpArgs false

/-! ### kernels_SizeOf_uint64: function 91 -/
def kernels_SizeOf_uint64.f  : Option (Int) := some (((1 + (256 / 256)) + (131072 / 65536)) + (17179869184 / 4294967296))
set_option maxHeartbeats 8000000 in
set_option maxRecDepth 100000 in
theorem kernels_SizeOf_uint64.calls  (r : Int) (w : World) (h : kernels_SizeOf_uint64.f  = some r) :
    Calls Try.prog 91 #[] w fun e w' => e = .returned (.int .u64 r) ∧ Drawn0 w w' := by
  have H : (some (((1 + (256 / 256)) + (131072 / 65536)) + (17179869184 / 4294967296))) = some r := h
  clear h
  obtain rfl := Option.some.inj H
  go_enter Try.func91, Try.ntmps91
  go_wp2
  go_ret
  exact ⟨by first | rfl | (simp; done) | (simp [*]; done), by repeat (first | exact Drawn0.refl _ | apply Drawn0.step)⟩

end Go.Proofs.Ytnjniacohbeonaa.Q
