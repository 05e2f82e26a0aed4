/- math's small functions on doubles, walked. -/
import Derived.Test.YtobdmcdbfpjpiaaDoorProg
import Derived.Below
import Derived.Deep.Draws
import Derived.Deep.AppendLies
import Derived.Maps.AppendAt
import Derived.OwnWalk
import Derived.Laws.BytesArg
import Derived.Laws.MakeOwn
import Derived.Laws.OwnMore
import Derived.Deep.OwnRows
import Derived.Tactics
import Derived.Lib.ConvBytes
import Derived.Laws.Slices
import Derived.WalkKit
import Derived.KernelRfl
import Derived.RowKit3
import Derived.Deep.LoopGhost
import Derived.Deep.QuietTactic
import Derived.BigQuiet
import Derived.WideLaws
import Derived.Deep.DeepCutAuto
import Derived.Deep.CutBlock
import Derived.Deep.RegionHeld3
import Derived.Laws.Rows
import Derived.Lib.AppendStr
import Derived.ArgAppend
import Derived.Laws.IdiomCopy
import Derived.OrdersHeld
import Derived.Laws.BitsLemmas
import Derived.RowKit
import Derived.Test.YtobdmcdbfpjpiaaDoorWWords
import Derived.Test.YtobdmcdbfpjpiaaDoorWLast
import Derived.Test.YtobdmcdbfpjpiaaDoorWTab
import Derived.Test.YtobdmcdbfpjpiaaDoorWFour
import Derived.Test.YtobdmcdbfpjpiaaDoorWQPut
import Derived.Test.YtobdmcdbfpjpiaaDoorWApart
import Derived.Test.YtobdmcdbfpjpiaaDoorWArr
import Derived.Test.YtobdmcdbfpjpiaaDoorWZeros
import Derived.Test.YtobdmcdbfpjpiaaDoorWFoot
import Derived.Test.YtobdmcdbfpjpiaaDoorWKept
import Derived.Test.YtobdmcdbfpjpiaaDoorWShare
import Derived.Test.YtobdmcdbfpjpiaaDoorWN
import Derived.Test.YtobdmcdbfpjpiaaDoorWFootNe
import Derived.Test.YtobdmcdbfpjpiaaDoorWAt
import Derived.Test.YtobdmcdbfpjpiaaDoorWEqStruct
import Derived.Test.YtobdmcdbfpjpiaaDoorWRepsOne
import Derived.Test.YtobdmcdbfpjpiaaDoorWInv
import Derived.Test.YtobdmcdbfpjpiaaDoorWInvWords
import Derived.Test.YtobdmcdbfpjpiaaDoorWGuard
import Derived.Test.YtobdmcdbfpjpiaaDoorWNEv
import Derived.Test.YtobdmcdbfpjpiaaDoorWMore
import Derived.Test.YtobdmcdbfpjpiaaDoorFe
import Derived.Laws.Externs
import Derived.Laws.FloatArith
import Derived.Handy
import Derived.Recover
import Derived.Defers
import Derived.StillTailTactics
import Derived.Deep.RegionLaw
namespace Go.Proofs.YtobdmcdbfpjpiaaDoor.Q
open Go.RowKit Go.Proofs.YtobdmcdbfpjpiaaDoorW.PrintWords Go.Proofs.YtobdmcdbfpjpiaaDoorW.PrintLast Go.Proofs.YtobdmcdbfpjpiaaDoorW.PrintMore
set_option linter.unusedVariables false
set_option linter.unusedSimpArgs false
theorem dec (x : Nat) : FloatKind.f64.decode x = Ieee.double.read x := rfl
theorem ext5 (b : Nat) (W : World) : (callFunc 5 #[.float .f64 b]).run Tryd.prog W = .ok (.value (.int .u64 b)) W := by
  rw [run_callFunc_extern (P := Tryd.prog) Tryd.func5 (by kernel_rfl) (by kernel_rfl) (by kernel_rfl) (e := Extern.MathFloatBits.float64bits) (by kernel_rfl)]
  rfl
theorem ext6 (n : Int) (W : World) : (callFunc 6 #[.int .u64 n]).run Tryd.prog W = .ok (.value (.float .f64 n.toNat)) W := by
  rw [run_callFunc_extern (P := Tryd.prog) Tryd.func6 (by kernel_rfl) (by kernel_rfl) (by kernel_rfl) (e := Extern.MathFloatBits.float64frombits) (by kernel_rfl)]
  rfl
/-- A word that is no NaN. -/
def Num (x : Nat) : Prop := ∃ s r, x = W s r ∧ r ≤ 9218868437227405312
theorem integ_run (name : String) (way : Ieee.Toward) (x : Nat) (h : Num x) (w : World) : (Extern.MathFloor.toIntegral name way #[.float .f64 x]).run Tryd.prog w = .ok (.float .f64 (intg way x)) w := by
  obtain ⟨s, r, rfl, hr⟩ := h
  rcases Nat.lt_or_ge r 9218868437227405312 with c | c
  · have e : FloatKind.f64.decode (W s r) = .number s (mg r) (pl r) := read_W s r c
    have e2 : intg way (W s r) = FloatKind.f64.encode ((Ieee.Datum.number s (mg r) (pl r)).integral way) := by rw [← e]; rfl
    rw [e2]
    show Sem.run Tryd.prog (Extern.MathFloor.toIntegral.match_1 (fun _ => Sem Value) (FloatKind.f64.decode (W s r)) _ _) w = _
    rw [e]
    rfl
  · have : r = 9218868437227405312 := by omega
    subst this
    have e : FloatKind.f64.decode (W s 9218868437227405312) = .infinity s := read_inf s
    have e2 : intg way (W s 9218868437227405312) = FloatKind.f64.encode ((Ieee.Datum.infinity s).integral way) := by rw [← e]; rfl
    rw [e2]
    show Sem.run Tryd.prog (Extern.MathFloor.toIntegral.match_1 (fun _ => Sem Value) (FloatKind.f64.decode (W s 9218868437227405312)) _ _) w = _
    rw [e]
    rfl
theorem ext17 (x : Nat) (h : Num x) (W : World) : (callFunc 17 #[.float .f64 x]).run Tryd.prog W = .ok (.value (.float .f64 (intg .down x))) W := by
  rw [run_callFunc_extern (P := Tryd.prog) Tryd.func17 (by kernel_rfl) (by kernel_rfl) (by kernel_rfl) (e := Extern.MathFloor.toIntegral "math.archFloor" .down) (by kernel_rfl), integ_run _ _ _ h]
  rfl
theorem ext46 (x : Nat) (h : Num x) (W : World) : (callFunc 46 #[.float .f64 x]).run Tryd.prog W = .ok (.value (.float .f64 (intg .up x))) W := by
  rw [run_callFunc_extern (P := Tryd.prog) Tryd.func46 (by kernel_rfl) (by kernel_rfl) (by kernel_rfl) (e := Extern.MathFloor.toIntegral "math.archCeil" .up) (by kernel_rfl), integ_run _ _ _ h]
  rfl
theorem ext48 (x : Nat) (h : Num x) (W : World) : (callFunc 48 #[.float .f64 x]).run Tryd.prog W = .ok (.value (.float .f64 (intg .zero x))) W := by
  rw [run_callFunc_extern (P := Tryd.prog) Tryd.func48 (by kernel_rfl) (by kernel_rfl) (by kernel_rfl) (e := Extern.MathFloor.toIntegral "math.archTrunc" .zero) (by kernel_rfl), integ_run _ _ _ h]
  rfl
theorem ext38 (x : Nat) (h : Num x) (W : World) : (callFunc 38 #[.float .f64 x]).run Tryd.prog W = .ok (.value (.float .f64 (intg .even x))) W := by
  rw [run_callFunc_extern (P := Tryd.prog) Tryd.func38 (by kernel_rfl) (by kernel_rfl) (by kernel_rfl) (e := Extern.MathFloor.toIntegral "math.RoundToEven" .even) (by kernel_rfl), integ_run _ _ _ h]
  rfl
set_option maxHeartbeats 1000000 in
set_option maxRecDepth 100000 in
theorem floor_calls (x : Nat) (h : Num x) (w : World) : Calls Tryd.prog 11 #[.float .f64 x] w fun e w' => e = .returned (.float .f64 (intg .down x)) ∧ w' = w := by
  have hx := ext17 x h
  clear h
  go_enter Tryd.func11, Tryd.ntmps11
  go_wp2
  go_ret
  exact ⟨rfl, rfl⟩
set_option maxHeartbeats 1000000 in
set_option maxRecDepth 100000 in
theorem ceil_calls (x : Nat) (h : Num x) (w : World) : Calls Tryd.prog 28 #[.float .f64 x] w fun e w' => e = .returned (.float .f64 (intg .up x)) ∧ w' = w := by
  have hx := ext46 x h
  clear h
  go_enter Tryd.func28, Tryd.ntmps28
  go_wp2
  go_ret
  exact ⟨rfl, rfl⟩
set_option maxHeartbeats 1000000 in
set_option maxRecDepth 100000 in
theorem trunc_calls (x : Nat) (h : Num x) (w : World) : Calls Tryd.prog 30 #[.float .f64 x] w fun e w' => e = .returned (.float .f64 (intg .zero x)) ∧ w' = w := by
  have hx := ext48 x h
  clear h
  go_enter Tryd.func30, Tryd.ntmps30
  go_wp2
  go_ret
  exact ⟨rfl, rfl⟩
end Go.Proofs.YtobdmcdbfpjpiaaDoor.Q
