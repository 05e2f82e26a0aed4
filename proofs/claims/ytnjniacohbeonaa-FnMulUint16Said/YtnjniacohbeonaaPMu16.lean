/- The law FnMulUint16 over numbers: the exact integers of package spec against the products of the program. -/
import Derived.Test.YtnjniacohbeonaaWd4
import Derived.Test.YtnjniacohbeonaaQWdg
import Derived.DataShut
namespace Go.Proofs.Ytnjniacohbeonaa.Q
open Go.RowKit Go.Proofs.Ytnjniacohbeonaa.Nv Go.Proofs.YtnjniacohbeonaaW.PrintWords Go.Proofs.YtnjniacohbeonaaW.PrintLast Go.Proofs.YtnjniacohbeonaaW.PrintMore
set_option linter.unusedVariables false
set_option linter.unusedSimpArgs false
theorem mulUint16_wrap (x : Int) : IntKind.u16.wrap x = x % 65536 := by
 simp [IntKind.wrap, IntKind.bits, IntKind.signed]
theorem mulUint16_max : kernels_MaxOf_uint16.f = some 65535 := by kernel_rfl
theorem mulUint16_min : kernels_MinOf_uint16.f = some 0 := by kernel_rfl
theorem mulUint16_impl (a0 a1 : Int) (p0 : 0 ≤ a0) (p1 : a0 ≤ 65535) (q0 : 0 ≤ a1) (q1 : a1 ≤ 65535) :
  impl_MulUint16.f a0 a1 = some (if a0 * a1 ≤ 65535 then a0 * a1 else 0, decide (a0 * a1 ≤ 65535)) := by
 unfold impl_MulUint16.f kernels_MulWithOverflow_uint16.f kernels_mulWithOverflow_uint16.f
 rw [mulUint16_max, mulUint16_min]
 simp only [ob, mulUint16_wrap]
 have z : ∀ y : Int, Int.tdiv 0 y = 0 := fun y => Int.zero_tdiv y
 simp only [z]
 by_cases c0 : a0 > 0
 ·rw [if_pos c0]
  by_cases c1 : a1 > 0
  ·rw [if_pos c1, if_neg (by omega), Int.tdiv_eq_ediv_of_nonneg (by decide)]
   have hd : (65535 : Int) / a1 < a0 ↔ 65535 < a0 * a1 := Int.ediv_lt_iff_lt_mul c1
   have hq : 0 ≤ (65535 : Int) / a1 := Int.ediv_nonneg (by decide) (by omega)
   have hq2 : (65535 : Int) / a1 ≤ 65535 := Int.ediv_le_self _ (by decide)
   rw [Int.emod_eq_of_lt hq (by omega)]
   have hp : 0 ≤ a0 * a1 := Int.mul_nonneg p0 q0
   by_cases c : a0 * a1 ≤ 65535
   ·rw [if_neg (by rw [gt_iff_lt, hd]; omega), if_pos c, decide_eq_true c, Int.emod_eq_of_lt hp (by omega)]; rfl
   ·rw [if_pos (by rw [gt_iff_lt, hd]; omega), if_neg c, decide_eq_false c]; rfl
  ·obtain rfl : a1 = 0 := by omega
   rw [if_neg c1, if_neg (by omega), if_neg (by decide)]
   simp
 ·obtain rfl : a0 = 0 := by omega
  rw [if_neg c0]
  by_cases c1 : a1 > 0
  ·rw [if_pos c1, if_neg (by omega), if_neg (by decide)]
   simp
  ·rw [if_neg c1, if_pos rfl]
   simp
theorem fnMulUint16_pure : laws_FnMulUint16.Pure := by
 intro a0 a1 h0 h1
 obtain ⟨p0, p1⟩ := (Lit.wf_int_iff .u16 a0).1 h0
 obtain ⟨q0, q1⟩ := (Lit.wf_int_iff .u16 a1).1 h1
 have m0 : IntKind.u16.min = 0 := by decide
 have m1 : IntKind.u16.max = 65535 := by decide
 rw [m0] at p0 q0
 rw [m1] at p1 q1
 obtain ⟨gr, gt, x1, x2, x3, x4⟩ := bounds_unsigned 16 0 65536 65536 (by kernel_rfl) (by decide) (by decide) (by kernel_rfl) (by decide) (by decide) (by decide)
 obtain ⟨r0, t0, b1, b2, b3, b4⟩ := wuint_ev a0 (by omega) (by omega)
 obtain ⟨r1, t1, c1, c2, c3, c4⟩ := wuint_ev a1 (by omega) (by omega)
 obtain ⟨r, t, d1, d2, d3, d4⟩ := wmul_ev r0 r1 t0 t1 b2 c2 (by omega) (by omega)
 refine ⟨40000, ?_⟩
 unfold laws_FnMulUint16.f
 rw [x1 40000 (by decide)]
 simp only [ob]
 rw [wu64 (x := a0) (by omega) (by omega), wu64 (x := a1) (by omega) (by omega)]
 rw [b1 40000 (by decide), c1 40000 (by decide)]
 simp only [ob]
 rw [d1 40000 (by decide)]
 simp only [ob]
 have hp : 0 ≤ a0 * a1 := Int.mul_nonneg p0 q0
 have z : val false [] = 0 := rfl
 rw [fitted_ev r false gr t [] gt d2 wf_zero x2 (by omega) (by simp) (by omega) 40000 (by decide), d3, b3, c3, x3, z, mulUint16_impl a0 a1 p0 p1 q0 q1, mulUint16_impl 2 3 (by decide) (by decide) (by decide) (by decide)]
 simp only [ob]
 have e : (65536 : Int) - 1 = 65535 := by decide
 rw [e]
 generalize a0 * a1 = p at hp ⊢
 by_cases c : p ≤ 65535
 ·have c' : 0 ≤ p ∧ p ≤ 65535 := ⟨hp, c⟩
  rw [decide_eq_true c, decide_eq_true c', if_pos (by simp), if_pos rfl, if_pos c, if_pos (by rw [mulUint16_wrap]; omega), if_pos (by decide)]; rfl
 ·have c' : ¬ (0 ≤ p ∧ p ≤ 65535) := fun h => c h.2
  rw [decide_eq_false c, decide_eq_false c', if_pos (by simp), if_neg (by simp), if_pos (by decide)]; rfl
end Go.Proofs.Ytnjniacohbeonaa.Q
namespace Go.Proofs.Ytnjniacohbeonaa.Pure
theorem FnMulUint16 : Go.Proofs.Ytnjniacohbeonaa.Q.laws_FnMulUint16.Pure := Go.Proofs.Ytnjniacohbeonaa.Q.fnMulUint16_pure
end Go.Proofs.Ytnjniacohbeonaa.Pure
