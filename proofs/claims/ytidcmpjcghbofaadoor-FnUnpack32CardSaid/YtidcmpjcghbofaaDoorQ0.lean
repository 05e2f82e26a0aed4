-- written by programs of ours (wip/tools) out of the kit's printer: the functions of one law, less those that are shared or proved by hand
import Derived.Test.YtidcmpjcghbofaaDoorProg
import Derived.Below
import Derived.Deep.Draws
import Derived.Deep.AppendLies
import Derived.Maps.AppendAt
import Derived.OwnWalk
import Derived.Laws.BytesArg
import Derived.Laws.MakeOwn
import Derived.Laws.OwnMore
import Derived.Deep.OwnRows
import Derived.Tactics
import Derived.Lib.ConvBytes
import Derived.Laws.Slices
import Derived.WalkKit
import Derived.KernelRfl
import Derived.RowKit3
import Derived.Deep.LoopGhost
import Derived.Deep.QuietTactic
import Derived.BigQuiet
import Derived.WideLaws
import Derived.Deep.DeepCutAuto
import Derived.Deep.CutBlock
import Derived.Deep.RegionHeld3
import Derived.Laws.Rows
import Derived.Lib.AppendStr
import Derived.ArgAppend
import Derived.Laws.IdiomCopy
import Derived.OrdersHeld
import Derived.Laws.BitsLemmas
import Derived.RowKit
import Derived.Test.YtidcmpjcghbofaaDoorWWords
import Derived.Test.YtidcmpjcghbofaaDoorWLast
import Derived.Test.YtidcmpjcghbofaaDoorWTab
import Derived.Test.YtidcmpjcghbofaaDoorWFour
import Derived.Test.YtidcmpjcghbofaaDoorWQPut
import Derived.Test.YtidcmpjcghbofaaDoorWApart
import Derived.Test.YtidcmpjcghbofaaDoorWArr
import Derived.Test.YtidcmpjcghbofaaDoorWZeros
import Derived.Test.YtidcmpjcghbofaaDoorWFoot
import Derived.Test.YtidcmpjcghbofaaDoorWKept
import Derived.Test.YtidcmpjcghbofaaDoorWShare
import Derived.Test.YtidcmpjcghbofaaDoorWN
import Derived.Test.YtidcmpjcghbofaaDoorWFootNe
import Derived.Test.YtidcmpjcghbofaaDoorWAt
import Derived.Test.YtidcmpjcghbofaaDoorWEqStruct
import Derived.Test.YtidcmpjcghbofaaDoorWRepsOne
import Derived.Test.YtidcmpjcghbofaaDoorWInv
import Derived.Test.YtidcmpjcghbofaaDoorWInvWords
import Derived.Test.YtidcmpjcghbofaaDoorWGuard
import Derived.Test.YtidcmpjcghbofaaDoorWNEv
import Derived.Test.YtidcmpjcghbofaaDoorWMore
namespace Go.Proofs.YtidcmpjcghbofaaDoor.Q
open Go.RowKit Go.Proofs.YtidcmpjcghbofaaDoorW.PrintWords Go.Proofs.YtidcmpjcghbofaaDoorW.PrintLast Go.Proofs.YtidcmpjcghbofaaDoorW.PrintMore
attribute [local go_sem] max2_int min2_int max_two min_two max_three min_three max_four min_four
set_option linter.unusedVariables false
set_option linter.unusedSimpArgs false

def errW : Option Int → Value
  | none => .nilIface
  | some c => .iface 0 (.int .i64 c)
theorem errW_none : errW none = .nilIface := rfl
theorem errW_some (c : Int) : errW (some c) = .iface 0 (.int .i64 c) := rfl
theorem info5 : (Tryd.prog.info? 5).map (fun i => (i.zero, i.size, i.bytes)) = some (some (.int .u8 0), 1, 1) := by kernel_rfl
theorem info30 : (Tryd.prog.info? 30).map (fun i => (i.zero, i.size, i.bytes)) = some (some (.int .u32 0), 1, 4) := by kernel_rfl
theorem info39 : (Tryd.prog.info? 39).map (fun i => (i.zero, i.size, i.bytes)) = some (some (.int .u64 0), 1, 8) := by kernel_rfl
end Go.Proofs.YtidcmpjcghbofaaDoor.Q
