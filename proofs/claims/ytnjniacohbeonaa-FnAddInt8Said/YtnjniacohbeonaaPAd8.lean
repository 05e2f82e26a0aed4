/- The law FnAddInt8 over numbers: the exact integers of package spec against the sums of the program. -/
import Derived.Test.YtnjniacohbeonaaWd4
import Derived.Test.YtnjniacohbeonaaQWcb
import Derived.DataShut
namespace Go.Proofs.Ytnjniacohbeonaa.Q
open Go.RowKit Go.Proofs.Ytnjniacohbeonaa.Nv Go.Proofs.YtnjniacohbeonaaW.PrintWords Go.Proofs.YtnjniacohbeonaaW.PrintLast Go.Proofs.YtnjniacohbeonaaW.PrintMore
set_option linter.unusedVariables false
set_option linter.unusedSimpArgs false

theorem addInt8_max : kernels_MaxOf_int8.f = some 127 := by kernel_rfl
theorem addInt8_min : kernels_MinOf_int8.f = some (-128) := by kernel_rfl
theorem addInt8_wrap (x : Int) : IntKind.i8.wrap x = (x + 128) % 256 - 128 := by
  simp [IntKind.wrap, IntKind.bits, IntKind.signed]; omega
theorem addInt8_impl (a0 a1 : Int) (p0 : -128 ≤ a0) (p1 : a0 ≤ 127) (q0 : -128 ≤ a1) (q1 : a1 ≤ 127) :
    impl_AddInt8.f a0 a1 = some (if -128 ≤ a0 + a1 ∧ a0 + a1 ≤ 127 then a0 + a1 else 0, decide (-128 ≤ a0 + a1 ∧ a0 + a1 ≤ 127)) := by
  unfold impl_AddInt8.f kernels_AddChecked_int8.f kernels_checkedAddSigned_int8.f
  rw [addInt8_max, addInt8_min]
  simp only [ob, addInt8_wrap]
  by_cases c : -128 ≤ a0 + a1 ∧ a0 + a1 ≤ 127
  · rw [if_pos c, decide_eq_true c]
    have e : (a0 + a1 + 128) % 256 - 128 = a0 + a1 := by omega
    rw [e]
    by_cases c1 : a1 > 0
    · rw [if_pos c1, if_neg (by omega), if_neg (by omega)]; rfl
    · rw [if_neg c1]
      by_cases c2 : a1 < 0
      · rw [if_pos c2, if_neg (by omega)]; rfl
      · rw [if_neg c2]; rfl
  · rw [if_neg c, decide_eq_false c]
    by_cases c1 : a1 > 0
    · rw [if_pos c1, if_pos (by omega)]; rfl
    · rw [if_neg c1, if_pos (by omega), if_pos (by omega)]; rfl

theorem fnAddInt8_pure : laws_FnAddInt8.Pure := by
  intro a0 a1 h0 h1
  obtain ⟨p0, p1⟩ := (Lit.wf_int_iff .i8 a0).1 h0
  obtain ⟨q0, q1⟩ := (Lit.wf_int_iff .i8 a1).1 h1
  have m0 : IntKind.i8.min = -128 := by decide
  have m1 : IntKind.i8.max = 127 := by decide
  rw [m0] at p0 q0
  rw [m1] at p1 q1
  obtain ⟨lr, lt, gr, gt, x1, x2, x3, x4, x5, x6, x7⟩ := bounds_signed 8 7 0 128 128 (by kernel_rfl) (by kernel_rfl) (by decide) (by decide) (by kernel_rfl) (by decide) (by decide) (by decide)
  obtain ⟨r0, t0, b1, b2, b3, b4⟩ := wint_ev a0 (by omega) (by omega)
  obtain ⟨r1, t1, c1, c2, c3, c4⟩ := wint_ev a1 (by omega) (by omega)
  obtain ⟨r, t, d1, d2, d3, d4⟩ := wadd_ev r0 r1 t0 t1 b2 c2 2 b4 c4 (by decide)
  refine ⟨40000, ?_⟩
  unfold laws_FnAddInt8.f
  rw [x1 40000 (by decide), w64 (x := a0) (by omega) (by omega), w64 (x := a1) (by omega) (by omega)]
  simp only [ob]
  rw [b1 40000 (by decide), c1 40000 (by decide)]
  simp only [ob]
  rw [d1 40000 (by decide)]
  simp only [ob]
  rw [fitted_ev r lr gr t lt gt d2 x2 x3 (by omega) (by omega) (by omega) 40000 (by decide), d3, b3, c3, x4, x5, addInt8_impl a0 a1 p0 p1 q0 q1, addInt8_impl 2 3 (by decide) (by decide) (by decide) (by decide)]
  simp only [ob]
  have e : (128 : Int) - 1 = 127 := by decide
  rw [e, if_pos (by simp)]
  by_cases c : -128 ≤ a0 + a1 ∧ a0 + a1 ≤ 127
  · rw [if_pos (decide_eq_true c), if_pos c, if_pos (by rw [addInt8_wrap]; omega), if_pos (by decide)]; rfl
  · rw [if_neg (by simpa using c), if_pos (by decide)]; rfl
end Go.Proofs.Ytnjniacohbeonaa.Q
namespace Go.Proofs.Ytnjniacohbeonaa.Pure
theorem FnAddInt8 : Go.Proofs.Ytnjniacohbeonaa.Q.laws_FnAddInt8.Pure := Go.Proofs.Ytnjniacohbeonaa.Q.fnAddInt8_pure
end Go.Proofs.Ytnjniacohbeonaa.Pure
