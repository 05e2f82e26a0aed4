/- The law FnAddInt32 over numbers: the exact integers of package spec against the sums of the program. -/
import Derived.Test.YtnjniacohbeonaaWd4
import Derived.Test.YtnjniacohbeonaaQWbb
import Derived.DataShut
namespace Go.Proofs.Ytnjniacohbeonaa.Q
open Go.RowKit Go.Proofs.Ytnjniacohbeonaa.Nv Go.Proofs.YtnjniacohbeonaaW.PrintWords Go.Proofs.YtnjniacohbeonaaW.PrintLast Go.Proofs.YtnjniacohbeonaaW.PrintMore
set_option linter.unusedVariables false
set_option linter.unusedSimpArgs false

theorem addInt32_max : kernels_MaxOf_int32.f = some 2147483647 := by kernel_rfl
theorem addInt32_min : kernels_MinOf_int32.f = some (-2147483648) := by kernel_rfl
theorem addInt32_wrap (x : Int) : wrap32 x = (x + 2147483648) % 4294967296 - 2147483648 := by
  unfold wrap32; rfl
theorem addInt32_impl (a0 a1 : Int) (p0 : -2147483648 ≤ a0) (p1 : a0 ≤ 2147483647) (q0 : -2147483648 ≤ a1) (q1 : a1 ≤ 2147483647) :
    impl_AddInt32.f a0 a1 = some (if -2147483648 ≤ a0 + a1 ∧ a0 + a1 ≤ 2147483647 then a0 + a1 else 0, decide (-2147483648 ≤ a0 + a1 ∧ a0 + a1 ≤ 2147483647)) := by
  unfold impl_AddInt32.f kernels_AddChecked_int32.f kernels_checkedAddSigned_int32.f
  rw [addInt32_max, addInt32_min]
  simp only [ob, addInt32_wrap]
  by_cases c : -2147483648 ≤ a0 + a1 ∧ a0 + a1 ≤ 2147483647
  · rw [if_pos c, decide_eq_true c]
    have e : (a0 + a1 + 2147483648) % 4294967296 - 2147483648 = a0 + a1 := by omega
    rw [e]
    by_cases c1 : a1 > 0
    · rw [if_pos c1, if_neg (by omega), if_neg (by omega)]; rfl
    · rw [if_neg c1]
      by_cases c2 : a1 < 0
      · rw [if_pos c2, if_neg (by omega)]; rfl
      · rw [if_neg c2]; rfl
  · rw [if_neg c, decide_eq_false c]
    by_cases c1 : a1 > 0
    · rw [if_pos c1, if_pos (by omega)]; rfl
    · rw [if_neg c1, if_pos (by omega), if_pos (by omega)]; rfl

theorem fnAddInt32_pure : laws_FnAddInt32.Pure := by
  intro a0 a1 h0 h1
  obtain ⟨p0, p1⟩ := (Lit.wf_int_iff .i32 a0).1 h0
  obtain ⟨q0, q1⟩ := (Lit.wf_int_iff .i32 a1).1 h1
  have m0 : IntKind.i32.min = -2147483648 := by decide
  have m1 : IntKind.i32.max = 2147483647 := by decide
  rw [m0] at p0 q0
  rw [m1] at p1 q1
  obtain ⟨lr, lt, gr, gt, x1, x2, x3, x4, x5, x6, x7⟩ := bounds_signed 32 31 0 2147483648 2147483648 (by kernel_rfl) (by kernel_rfl) (by decide) (by decide) (by kernel_rfl) (by decide) (by decide) (by decide)
  obtain ⟨r0, t0, b1, b2, b3, b4⟩ := wint_ev a0 (by omega) (by omega)
  obtain ⟨r1, t1, c1, c2, c3, c4⟩ := wint_ev a1 (by omega) (by omega)
  obtain ⟨r, t, d1, d2, d3, d4⟩ := wadd_ev r0 r1 t0 t1 b2 c2 2 b4 c4 (by decide)
  refine ⟨40000, ?_⟩
  unfold laws_FnAddInt32.f
  rw [x1 40000 (by decide), w64 (x := a0) (by omega) (by omega), w64 (x := a1) (by omega) (by omega)]
  simp only [ob]
  rw [b1 40000 (by decide), c1 40000 (by decide)]
  simp only [ob]
  rw [d1 40000 (by decide)]
  simp only [ob]
  rw [fitted_ev r lr gr t lt gt d2 x2 x3 (by omega) (by omega) (by omega) 40000 (by decide), d3, b3, c3, x4, x5, addInt32_impl a0 a1 p0 p1 q0 q1, addInt32_impl 2 3 (by decide) (by decide) (by decide) (by decide)]
  simp only [ob]
  have e : (2147483648 : Int) - 1 = 2147483647 := by decide
  rw [e, if_pos (by simp)]
  by_cases c : -2147483648 ≤ a0 + a1 ∧ a0 + a1 ≤ 2147483647
  · rw [if_pos (decide_eq_true c), if_pos c, if_pos (by rw [addInt32_wrap]; omega), if_pos (by decide)]; rfl
  · rw [if_neg (by simpa using c), if_pos (by decide)]; rfl
end Go.Proofs.Ytnjniacohbeonaa.Q
namespace Go.Proofs.Ytnjniacohbeonaa.Pure
theorem FnAddInt32 : Go.Proofs.Ytnjniacohbeonaa.Q.laws_FnAddInt32.Pure := Go.Proofs.Ytnjniacohbeonaa.Q.fnAddInt32_pure
end Go.Proofs.Ytnjniacohbeonaa.Pure
