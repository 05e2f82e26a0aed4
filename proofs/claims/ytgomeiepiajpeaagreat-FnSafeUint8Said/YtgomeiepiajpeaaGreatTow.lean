/- spec.ToWords, walked. -/
import Derived.Test.YtgomeiepiajpeaaGreatTowt
import Derived.Test.YtgomeiepiajpeaaGreatTowf
namespace Go.Proofs.YtgomeiepiajpeaaGreat.Q
open Go.RowKit Go.Proofs.YtgomeiepiajpeaaGreatW.PrintWords Go.Proofs.YtgomeiepiajpeaaGreatW.PrintLast Go.Proofs.YtgomeiepiajpeaaGreatW.PrintMore
attribute [local go_sem] max2_int min2_int max_two min_two max_three min_three max_four min_four
set_option linter.unusedVariables false
set_option linter.unusedSimpArgs false

theorem spec_ToWords.calls (k : Nat) (a0_0 : Bool) (A0_1 : Option Addr) (c0_1 : Nat) (l0_1 : List Int) (a1 : Int) (r1 : List Int) (r2 : Bool) (w : World) (hr0_1 : Kd.C (Kd.int .u32) w A0_1 l0_1.length l0_1) (hc0_1 : l0_1.length ≤ c0_1) (h : spec_ToWords.f k a0_0 l0_1 a1 = some (r1, r2)) :
    Calls Tryz.prog 17 #[.agg #[.bool a0_0, .slice A0_1 l0_1.length c0_1], .int .i64 a1] w fun e w' => ∃ v0_ : Value, e = .returned (.tuple #[v0_, .bool r2]) ∧ Kd.R (Kd.int .u64) 30 w' w.heap.size (fun _ => True) v0_ r1 ∧ Below w.heap.size w w' := by
  cases ha : a0_0 with
  | true => subst ha; exact spec_ToWords.calls_t k true A0_1 c0_1 l0_1 a1 r1 r2 w hr0_1 hc0_1 rfl h
  | false => subst ha; exact spec_ToWords.calls_f k false A0_1 c0_1 l0_1 a1 r1 r2 w hr0_1 hc0_1 rfl h
end Go.Proofs.YtgomeiepiajpeaaGreat.Q
