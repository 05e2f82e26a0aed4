/- laws.ten; spec.upper. -/
import Derived.Test.YtobdmcdbfpjpiaaDoorWk
namespace Go.Proofs.YtobdmcdbfpjpiaaDoor.Q
open Go.RowKit Go.Proofs.YtobdmcdbfpjpiaaDoorW.PrintWords Go.Proofs.YtobdmcdbfpjpiaaDoorW.PrintLast Go.Proofs.YtobdmcdbfpjpiaaDoorW.PrintMore
set_option linter.unusedVariables false
set_option linter.unusedSimpArgs false
theorem ten_step (i : Nat) (h : i < 22) : Ieee.double.mul (tenW i) 4621819117588971520 = some (tenW (i + 1)) := by
  have : (List.range 22).all (fun n => Ieee.double.mul (tenW n) 4621819117588971520 == some (tenW (n + 1))) = true := by decide +kernel
  have := List.all_eq_true.1 this i (List.mem_range.2 h)
  simpa using this
set_option maxHeartbeats 1000000 in
set_option maxRecDepth 100000 in
theorem ten_calls (d : Int) (hd : d.toNat < 23) (w : World) : Calls Tryd.prog 9 #[.int .i64 d] w fun e w' => e = .returned (.float .f64 (tenW d.toNat)) ∧ w' = w := by
  have hm := fun (i : Nat) (hi : i < 22) (t : TypeId) (W : World) => run_float_arith (P := Tryd.prog) W .mul t .f64 _ _ _ (ten_step i hi)
  go_enter Tryd.func9, Tryd.ntmps9
  go_wp2
  go_loopg [3, 4] d.toNat (fun k p q wr => ∃ i : Nat, p = .float .f64 (tenW i) ∧ q = .int .i64 (i : Int) ∧ i + k = d.toNat ∧ wr = w)
  case atStart => exact ⟨0, rfl, rfl, by omega, rfl⟩
  case round =>
    obtain ⟨i, rfl, rfl, hk, rfl⟩ := hrel
    by_cases c : (i : Int) < d
    · have cb : decide ((i : Int) < d) = true := decide_eq_true c
      have hmi := hm i (by omega)
      have hw : IntKind.i64.wrap ((i : Int) + 1) = ((i + 1 : Nat) : Int) := by rw [IntKind.wrap_i64]; omega
      clear hm
      go_wp2
      go_roundg (gk - 1)
      case measure => omega
      case rel => exact ⟨i + 1, rfl, (by first | rw [hw] | rfl), by omega, rfl⟩
    · have cb : decide ((i : Int) < d) = false := decide_eq_false c
      have hi : i = d.toNat := by omega
      subst hi
      go_wp2
      go_ret
      exact ⟨rfl, rfl⟩
set_option maxHeartbeats 2000000 in
set_option maxRecDepth 100000 in
theorem upper_calls (m : Nat) (hm : m < 10) (half : Int) (hh : half = -1 ∨ half = 0 ∨ half = 1) (even neg : Bool) (w : World) :
    Calls Tryd.prog 15 #[.int .i64 (m : Int), .int .i64 half, .bool even, .bool neg] w fun e w' => e = .returned (.bool (upperB m half even neg)) ∧ w' = w := by
  match m, hm with
  | 0, _ => go_enter Tryd.func15, Tryd.ntmps15; go_wp2; go_ret; exact ⟨rfl, rfl⟩
  | 1, _ => go_enter Tryd.func15, Tryd.ntmps15; go_wp2; go_ret; exact ⟨rfl, rfl⟩
  | 2, _ => go_enter Tryd.func15, Tryd.ntmps15; go_wp2; go_ret; exact ⟨rfl, rfl⟩
  | 3, _ => go_enter Tryd.func15, Tryd.ntmps15; go_wp2; go_ret; exact ⟨rfl, rfl⟩
  | 4, _ => rcases hh with rfl | rfl | rfl <;> (go_enter Tryd.func15, Tryd.ntmps15; go_wp2; go_ret; exact ⟨rfl, rfl⟩)
  | 5, _ => rcases hh with rfl | rfl | rfl <;> (go_enter Tryd.func15, Tryd.ntmps15; go_wp2; go_ret; exact ⟨rfl, rfl⟩)
  | 6, _ => rcases hh with rfl | rfl | rfl <;> (go_enter Tryd.func15, Tryd.ntmps15; go_wp2; go_ret; exact ⟨rfl, rfl⟩)
  | 7, _ => rcases hh with rfl | rfl | rfl <;> (go_enter Tryd.func15, Tryd.ntmps15; go_wp2; go_ret; exact ⟨rfl, rfl⟩)
  | 8, _ => rcases hh with rfl | rfl | rfl <;> (go_enter Tryd.func15, Tryd.ntmps15; go_wp2; go_ret; exact ⟨rfl, rfl⟩)
  | 9, _ => rcases hh with rfl | rfl | rfl <;> (go_enter Tryd.func15, Tryd.ntmps15; go_wp2; go_ret; exact ⟨rfl, rfl⟩)
  | k + 10, h => omega
end Go.Proofs.YtobdmcdbfpjpiaaDoor.Q
