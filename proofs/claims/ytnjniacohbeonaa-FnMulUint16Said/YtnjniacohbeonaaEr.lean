/- An error of errors.New: never nil; and what a bound on memory says behind it. -/
import Derived.Test.YtnjniacohbeonaaQWda
namespace Go.Proofs.Ytnjniacohbeonaa.Q
open Go.RowKit Go.Proofs.YtnjniacohbeonaaW.PrintWords Go.Proofs.YtnjniacohbeonaaW.PrintLast Go.Proofs.YtnjniacohbeonaaW.PrintMore
set_option linter.unusedVariables false
set_option linter.unusedSimpArgs false

/-- An error value: nil (ok), or a pointer in an interface. -/
inductive ErrIs : Value → Bool → Prop
  | no : ErrIs .nilIface true
  | yes (p : Value) : ErrIs (.iface 123 p) false
theorem ErrIs.cases {v : Value} {b : Bool} (h : ErrIs v b) : (b = true ∧ v = .nilIface) ∨ (b = false ∧ ∃ p, v = .iface 123 p) := by
  cases h with
  | no => exact .inl ⟨rfl, rfl⟩
  | yes p => exact .inr ⟨rfl, p, rfl⟩
theorem below_drawn {w w' : World} (h : Drawn0 w w') : Below w.heap.size w w' := by
  exact h.below
theorem below_of {w w' w'' : World} (h : Below w'.heap.size w' w'') (k : Drawn0 w w') : Below w.heap.size w w'' := by
  exact below_step k.below h

set_option maxHeartbeats 8000000 in
set_option maxRecDepth 100000 in
theorem errors_New.calls (s : ByteArray) (w : World) : Calls Try.prog 80 #[.string s] w fun e w' => ∃ p, e = .returned (.iface 123 p) ∧ Below w.heap.size w w' := by
  go_enter Try.func80, Try.ntmps80
  go_wp2
  go_ret
  exact ⟨_, rfl, by repeat (first | exact Below.refl _ _ | apply below_alloc | apply pw_below_drewN | apply below_drew1)⟩
end Go.Proofs.Ytnjniacohbeonaa.Q
