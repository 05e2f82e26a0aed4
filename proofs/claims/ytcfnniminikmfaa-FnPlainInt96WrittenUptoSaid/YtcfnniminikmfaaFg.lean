/- What is common to the seven. -/
import Derived.Test.YtcfnniminikmfaaFf
namespace Go.Proofs.Ytcfnniminikmfaa.Q
open Go.RowKit Go.Proofs.YtcfnniminikmfaaW.PrintWords Go.Proofs.YtcfnniminikmfaaW.PrintLast Go.Proofs.YtcfnniminikmfaaW.PrintMore
set_option linter.unusedVariables false
set_option linter.unusedSimpArgs false
theorem noBytes_idle (pl pok : Addr) (w : World) :
    CallsD Try.prog 21 #[.pointer (some pl), .pointer (some pok)] .returning w fun e u' w' => e = .returned (.tuple #[]) ∧ u' = .returning ∧ w' = w := by
  refine callsD_of_wpS Try.func21 rfl fun c₀ cs hu => ?_
  apply wpS_seq
  apply wpS_region
  simp [wpOpsS, go_sem, recoverD, hu, Try.ntmps21, Exit.thenS]
  refine wpS_cond (t := false) (by simp [Act.eval, Array.replicate]) ?_
  simp only [Bool.false_eq_true, if_false]
  refine wpS_of_wp (wp_skip ?_)
  cases c₀
  simp_all [bodyPostS, results, Try.results21]

/-- What is written of parts. -/
def plainB (f : S29 → List Int) (l0 : List (List S29)) : List Int := l0.flatMap fun p => p.flatMap f
/-- The parts that are spoken of. -/
def Fair (f : S29 → List Int) (l0 : List (List S29)) : Prop := l0.length ≤ 20 ∧ (∀ p ∈ l0, p.length ≤ 500) ∧ (plainB f l0).length ≤ 1048576
instance (f : S29 → List Int) (l0 : List (List S29)) : Decidable (Fair f l0) := by unfold Fair; infer_instance
def plainF (f : S29 → List Int) (l0 : List (List S29)) : Option (List Int × Bool) := if Fair f l0 then some (plainB f l0, true) else none
theorem plainB_step (f : S29 → List Int) (l0 : List (List S29)) (i : Nat) (h : i < l0.length) : plainB f (l0.take (i + 1)) = plainB f (l0.take i) ++ (rd_L6 l0 (i : Int)).flatMap f := by
  have e : l0.take (i + 1) = l0.take i ++ [rd_L6 l0 (i : Int)] := by
    show _ = l0.take i ++ [l0.getD (i : Int).toNat []]
    rw [Int.toNat_natCast, List.take_add_one, List.getD_eq_getElem?_getD, List.getElem?_eq_getElem h]; rfl
  unfold plainB
  rw [e, List.flatMap_append]
  simp
theorem plainB_le (f : S29 → List Int) (l0 : List (List S29)) (i : Nat) : (plainB f (l0.take i)).length ≤ (plainB f l0).length := by
  have e : plainB f l0 = plainB f (l0.take i) ++ plainB f (l0.drop i) := by
    unfold plainB
    rw [← List.flatMap_append, List.take_append_drop]
  rw [e, List.length_append]; omega
end Go.Proofs.Ytcfnniminikmfaa.Q
