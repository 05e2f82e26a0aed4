/- The law FnAddChecked over numbers: the exact integers of package spec against the sums of the program. -/
import Derived.Test.YtnjniacohbeonaaWd4
import Derived.Test.YtnjniacohbeonaaQWab
import Derived.DataShut
namespace Go.Proofs.Ytnjniacohbeonaa.Q
open Go.RowKit Go.Proofs.Ytnjniacohbeonaa.Nv Go.Proofs.YtnjniacohbeonaaW.PrintWords Go.Proofs.YtnjniacohbeonaaW.PrintLast Go.Proofs.YtnjniacohbeonaaW.PrintMore
set_option linter.unusedVariables false
set_option linter.unusedSimpArgs false

theorem addChecked_impl (a0 a1 : Int) (p0 : -9223372036854775808 ≤ a0) (p1 : a0 ≤ 9223372036854775807) (q0 : -9223372036854775808 ≤ a1) (q1 : a1 ≤ 9223372036854775807) :
    impl_AddChecked.f a0 a1 = some (wrap64 (a0 + a1), decide (-9223372036854775808 ≤ a0 + a1 ∧ a0 + a1 < 9223372036854775808)) := by
  unfold impl_AddChecked.f utils_Add_int.f
  simp only [ob]
  congr 2
  rw [Bool.eq_iff_iff]
  simp only [beq_iff_eq, decide_eq_decide, decide_eq_true_eq]
  unfold wrap64
  omega

theorem fnAddChecked_pure : laws_FnAddChecked.Pure := by
  intro a0 a1 h0 h1
  obtain ⟨p0, p1⟩ := (Lit.wf_int_iff .i64 a0).1 h0
  obtain ⟨q0, q1⟩ := (Lit.wf_int_iff .i64 a1).1 h1
  have m0 : IntKind.i64.min = -9223372036854775808 := by decide
  have m1 : IntKind.i64.max = 9223372036854775807 := by decide
  rw [m0] at p0 q0
  rw [m1] at p1 q1
  obtain ⟨r0, t0, b1, b2, b3, b4⟩ := wint_ev a0 p0 p1
  obtain ⟨r1, t1, c1, c2, c3, c4⟩ := wint_ev a1 q0 q1
  obtain ⟨r, t, d1, d2, d3, d4⟩ := wadd_ev r0 r1 t0 t1 b2 c2 2 b4 c4 (by decide)
  refine ⟨40000, ?_⟩
  unfold laws_FnAddChecked.f
  rw [b1 40000 (by decide), c1 40000 (by decide)]
  simp only [ob]
  rw [d1 40000 (by decide)]
  simp only [ob]
  rw [towords_ev r t d2 (by omega) 40000 (by decide), d3, b3, c3, addChecked_impl a0 a1 p0 p1 q0 q1, addChecked_impl 2 3 (by decide) (by decide) (by decide) (by decide)]
  simp only [ob]
  have e5 : wrap64 (2 + 3) = 5 := by kernel_rfl
  have r0 : ∀ x : Int, rd [x] 0 = x := fun _ => rfl
  rw [if_pos (by simp), e5]
  by_cases c : -9223372036854775808 ≤ a0 + a1 ∧ a0 + a1 < 9223372036854775808
  · rw [if_pos (decide_eq_true c), if_pos (by simp), r0, if_pos (by unfold wrap64; omega), if_pos (by decide)]; rfl
  · rw [if_neg (by simpa using c), if_pos (by decide)]; rfl
end Go.Proofs.Ytnjniacohbeonaa.Q
namespace Go.Proofs.Ytnjniacohbeonaa.Pure
theorem FnAddChecked : Go.Proofs.Ytnjniacohbeonaa.Q.laws_FnAddChecked.Pure := Go.Proofs.Ytnjniacohbeonaa.Q.fnAddChecked_pure
end Go.Proofs.Ytnjniacohbeonaa.Pure
