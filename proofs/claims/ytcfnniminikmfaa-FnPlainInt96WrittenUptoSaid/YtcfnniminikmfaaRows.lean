/-
  NARROWER THAN 'FOR EVERY INPUT', by the rows' own cells (each row's printed sentence says how): FnPlainInt32Written: loops · FnPlainInt64Written: loops · FnPlainFloat32Written: loops · FnPlainFloat64Written: loops · FnPlainInt96Written: loops · FnPlainTextWritten: loops · FnPlainFixedWritten: loops.
  DERIVED. THE GIVEN ROWS OF THIS SEAT. 7 by the template 'for every input the law returns true; each argument reads behind the call as it read before'; 0 by the template 'total and deterministic' (their statements: YtcfnniminikmfaaTotals.lean).
  GIVEN WITH THE SEED: the statements are not yours to turn. If you find one false, say at which input.
  Laid BY PROGRAM, IN A SANDBOX (cutbox-rows.mjs): the forced cells as the released guide's own fill.sh prints them over the translation 0867e5ea06c5c4bd… (all of the seat's roots in one cut). By AI agents, Wed Nov 11 2026. No macro, syntax, notation, axiom, sorry.
-/
import Derived.Test.YtcfnniminikmfaaChecked
import GoSem.Claim
import GoSem.ClaimJoined
import GoSem.ClaimMapViews
import Derived.JoinedTies
import Derived.KernelRfl
namespace Go.Proofs.Ytcfnniminikmfaa
/- THE CELL 'sum', in the pinned program and in every row, IS THE sha256 OF THE DUMP (.gsa) THAT YtcfnniminikmfaaProg.lean LOADS. Nothing in Lean hashes anything: it is a label: what it is worth is what the hold of that sum in a sandbox is worth. -/
noncomputable def Try.pinned : Pinned := { name := "ytcfnniminikmfaa", sum := "0867e5ea06c5c4bd71ea9c06109d0113a34935e994b684f865f1ea4120a3725d", checked := Try.checked }
namespace Rows
def none {H : Type} : Left H := { results := [], args := [] }

/-- 'laws.FnPlainInt32Written': WHATEVER THE INPUT: true; the input reads as it did. -/
def fnPlainInt32WrittenSpec : ChangeSpec := { name := "fnPlainInt32Written", fn := fun _ => fun
  | [d] => { results := [.lit (.bool true)], args := [d] }
  | _ => none }
def fnPlainInt32WrittenRow : OpenClaim := { program := "ytcfnniminikmfaa", sum := "0867e5ea06c5c4bd71ea9c06109d0113a34935e994b684f865f1ea4120a3725d", func := "given.example/pub-arrowroot/laws.FnPlainInt32Written", spec := "fnPlainInt32Written", inPlace := ["sync/atomic.AddInt64", "math.Float32bits", "math.Float64bits"], unfollowed := true, recurses := true, named := ["encoding/binary.LittleEndian"], loops := true, apart := false }
def FnPlainInt32WrittenSaid : Prop := fnPlainInt32WrittenRow.holds Try.pinned (OpenSpec.ofChange fnPlainInt32WrittenSpec)

/-- ITS FALSE NEIGHBOUR: 'it returns false'. Refute it at one input. -/
def fnPlainInt32WrittenWrong : ChangeSpec := { name := "fnPlainInt32Written", fn := fun _ => fun
  | [d] => { results := [.lit (.bool false)], args := [d] }
  | _ => none }
def FnPlainInt32WrittenWrongFalsely : Prop := fnPlainInt32WrittenRow.holds Try.pinned (OpenSpec.ofChange fnPlainInt32WrittenWrong)

/-- 'laws.FnPlainInt64Written': WHATEVER THE INPUT: true; the input reads as it did. -/
def fnPlainInt64WrittenSpec : ChangeSpec := { name := "fnPlainInt64Written", fn := fun _ => fun
  | [d] => { results := [.lit (.bool true)], args := [d] }
  | _ => none }
def fnPlainInt64WrittenRow : OpenClaim := { program := "ytcfnniminikmfaa", sum := "0867e5ea06c5c4bd71ea9c06109d0113a34935e994b684f865f1ea4120a3725d", func := "given.example/pub-arrowroot/laws.FnPlainInt64Written", spec := "fnPlainInt64Written", inPlace := ["sync/atomic.AddInt64", "math.Float32bits", "math.Float64bits"], unfollowed := true, recurses := true, named := ["encoding/binary.LittleEndian"], loops := true, apart := false }
def FnPlainInt64WrittenSaid : Prop := fnPlainInt64WrittenRow.holds Try.pinned (OpenSpec.ofChange fnPlainInt64WrittenSpec)

/-- ITS FALSE NEIGHBOUR: 'it returns false'. Refute it at one input. -/
def fnPlainInt64WrittenWrong : ChangeSpec := { name := "fnPlainInt64Written", fn := fun _ => fun
  | [d] => { results := [.lit (.bool false)], args := [d] }
  | _ => none }
def FnPlainInt64WrittenWrongFalsely : Prop := fnPlainInt64WrittenRow.holds Try.pinned (OpenSpec.ofChange fnPlainInt64WrittenWrong)

/-- 'laws.FnPlainFloat32Written': WHATEVER THE INPUT: true; the input reads as it did. -/
def fnPlainFloat32WrittenSpec : ChangeSpec := { name := "fnPlainFloat32Written", fn := fun _ => fun
  | [d] => { results := [.lit (.bool true)], args := [d] }
  | _ => none }
def fnPlainFloat32WrittenRow : OpenClaim := { program := "ytcfnniminikmfaa", sum := "0867e5ea06c5c4bd71ea9c06109d0113a34935e994b684f865f1ea4120a3725d", func := "given.example/pub-arrowroot/laws.FnPlainFloat32Written", spec := "fnPlainFloat32Written", inPlace := ["sync/atomic.AddInt64", "math.Float32frombits", "math.Float32bits", "math.Float64bits"], unfollowed := true, recurses := true, named := ["encoding/binary.LittleEndian"], loops := true, apart := false }
def FnPlainFloat32WrittenSaid : Prop := fnPlainFloat32WrittenRow.holds Try.pinned (OpenSpec.ofChange fnPlainFloat32WrittenSpec)

/-- ITS FALSE NEIGHBOUR: 'it returns false'. Refute it at one input. -/
def fnPlainFloat32WrittenWrong : ChangeSpec := { name := "fnPlainFloat32Written", fn := fun _ => fun
  | [d] => { results := [.lit (.bool false)], args := [d] }
  | _ => none }
def FnPlainFloat32WrittenWrongFalsely : Prop := fnPlainFloat32WrittenRow.holds Try.pinned (OpenSpec.ofChange fnPlainFloat32WrittenWrong)

/-- 'laws.FnPlainFloat64Written': WHATEVER THE INPUT: true; the input reads as it did. -/
def fnPlainFloat64WrittenSpec : ChangeSpec := { name := "fnPlainFloat64Written", fn := fun _ => fun
  | [d] => { results := [.lit (.bool true)], args := [d] }
  | _ => none }
def fnPlainFloat64WrittenRow : OpenClaim := { program := "ytcfnniminikmfaa", sum := "0867e5ea06c5c4bd71ea9c06109d0113a34935e994b684f865f1ea4120a3725d", func := "given.example/pub-arrowroot/laws.FnPlainFloat64Written", spec := "fnPlainFloat64Written", inPlace := ["sync/atomic.AddInt64", "math.Float64frombits", "math.Float32bits", "math.Float64bits"], unfollowed := true, recurses := true, named := ["encoding/binary.LittleEndian"], loops := true, apart := false }
def FnPlainFloat64WrittenSaid : Prop := fnPlainFloat64WrittenRow.holds Try.pinned (OpenSpec.ofChange fnPlainFloat64WrittenSpec)

/-- ITS FALSE NEIGHBOUR: 'it returns false'. Refute it at one input. -/
def fnPlainFloat64WrittenWrong : ChangeSpec := { name := "fnPlainFloat64Written", fn := fun _ => fun
  | [d] => { results := [.lit (.bool false)], args := [d] }
  | _ => none }
def FnPlainFloat64WrittenWrongFalsely : Prop := fnPlainFloat64WrittenRow.holds Try.pinned (OpenSpec.ofChange fnPlainFloat64WrittenWrong)

/-- 'laws.FnPlainInt96Written': WHATEVER THE INPUT: true; the input reads as it did. -/
def fnPlainInt96WrittenSpec : ChangeSpec := { name := "fnPlainInt96Written", fn := fun _ => fun
  | [d] => { results := [.lit (.bool true)], args := [d] }
  | _ => none }
def fnPlainInt96WrittenRow : OpenClaim := { program := "ytcfnniminikmfaa", sum := "0867e5ea06c5c4bd71ea9c06109d0113a34935e994b684f865f1ea4120a3725d", func := "given.example/pub-arrowroot/laws.FnPlainInt96Written", spec := "fnPlainInt96Written", inPlace := ["sync/atomic.AddInt64", "math.Float32bits", "math.Float64bits"], unfollowed := true, recurses := true, named := ["encoding/binary.LittleEndian"], loops := true, apart := false }
def FnPlainInt96WrittenSaid : Prop := fnPlainInt96WrittenRow.holds Try.pinned (OpenSpec.ofChange fnPlainInt96WrittenSpec)

/-- ITS FALSE NEIGHBOUR: 'it returns false'. Refute it at one input. -/
def fnPlainInt96WrittenWrong : ChangeSpec := { name := "fnPlainInt96Written", fn := fun _ => fun
  | [d] => { results := [.lit (.bool false)], args := [d] }
  | _ => none }
def FnPlainInt96WrittenWrongFalsely : Prop := fnPlainInt96WrittenRow.holds Try.pinned (OpenSpec.ofChange fnPlainInt96WrittenWrong)

/-- 'laws.FnPlainTextWritten': WHATEVER THE INPUT: true; the input reads as it did. -/
def fnPlainTextWrittenSpec : ChangeSpec := { name := "fnPlainTextWritten", fn := fun _ => fun
  | [d] => { results := [.lit (.bool true)], args := [d] }
  | _ => none }
def fnPlainTextWrittenRow : OpenClaim := { program := "ytcfnniminikmfaa", sum := "0867e5ea06c5c4bd71ea9c06109d0113a34935e994b684f865f1ea4120a3725d", func := "given.example/pub-arrowroot/laws.FnPlainTextWritten", spec := "fnPlainTextWritten", inPlace := ["sync/atomic.AddInt64"], unfollowed := true, recurses := true, named := ["encoding/binary.LittleEndian"], loops := true, apart := false }
def FnPlainTextWrittenSaid : Prop := fnPlainTextWrittenRow.holds Try.pinned (OpenSpec.ofChange fnPlainTextWrittenSpec)

/-- ITS FALSE NEIGHBOUR: 'it returns false'. Refute it at one input. -/
def fnPlainTextWrittenWrong : ChangeSpec := { name := "fnPlainTextWritten", fn := fun _ => fun
  | [d] => { results := [.lit (.bool false)], args := [d] }
  | _ => none }
def FnPlainTextWrittenWrongFalsely : Prop := fnPlainTextWrittenRow.holds Try.pinned (OpenSpec.ofChange fnPlainTextWrittenWrong)

/-- 'laws.FnPlainFixedWritten': WHATEVER THE INPUT: true; the input reads as it did. -/
def fnPlainFixedWrittenSpec : ChangeSpec := { name := "fnPlainFixedWritten", fn := fun _ => fun
  | [d1, d2] => { results := [.lit (.bool true)], args := [d1, d2] }
  | _ => none }
def fnPlainFixedWrittenRow : OpenClaim := { program := "ytcfnniminikmfaa", sum := "0867e5ea06c5c4bd71ea9c06109d0113a34935e994b684f865f1ea4120a3725d", func := "given.example/pub-arrowroot/laws.FnPlainFixedWritten", spec := "fnPlainFixedWritten", inPlace := ["sync/atomic.AddInt64"], unfollowed := true, recurses := true, loops := true, apart := false }
def FnPlainFixedWrittenSaid : Prop := fnPlainFixedWrittenRow.holds Try.pinned (OpenSpec.ofChange fnPlainFixedWrittenSpec)

/-- ITS FALSE NEIGHBOUR: 'it returns false'. Refute it at one input. -/
def fnPlainFixedWrittenWrong : ChangeSpec := { name := "fnPlainFixedWritten", fn := fun _ => fun
  | [d1, d2] => { results := [.lit (.bool false)], args := [d1, d2] }
  | _ => none }
def FnPlainFixedWrittenWrongFalsely : Prop := fnPlainFixedWrittenRow.holds Try.pinned (OpenSpec.ofChange fnPlainFixedWrittenWrong)

/- THE SECOND FORM. 'bulk': how many values and letters a reading holds, each counted each time it is reached (what is shared counts as often as it is met; a slice's spare places count too). A statement '..UptoSaid' is the law's where the arguments, and the package variables that the reading takes, are together of bulk at most 1048576: NARROWER than '..Said'. Prove '..Said' where nothing that the law and all that it calls make is longer than what came in: it says more and counts as full. Else prove '..UptoSaid'. A law counts once. -/
mutual
def uptoBulk {H : Type} : DataW H → Nat
  | .lit (.string bytes) => bytes.length + 1
  | .lit _ => 1
  | .nil => 1
  | .ptr d => uptoBulk d + 1
  | .slice elems spare => uptoBulkAll elems + uptoBulkAll spare + 1
  | .agg parts => uptoBulkAll parts + 1
  | .iface _ d => uptoBulk d + 1
  | .map entries => uptoBulkEntries entries + 1
  | .held _ => 1
def uptoBulkAll {H : Type} : List (DataW H) → Nat
  | [] => 0
  | d :: r => uptoBulk d + uptoBulkAll r
def uptoBulkEntries {H : Type} : List (Lit × DataW H) → Nat
  | [] => 0
  | x :: r => uptoBulkEntry x + uptoBulkEntries r
def uptoBulkEntry {H : Type} : Lit × DataW H → Nat
  | (.string bytes, d) => bytes.length + uptoBulk d + 1
  | (_, d) => uptoBulk d + 1
 end
def uptoSmall : (H : Type) → List (DataW H) → Bool := fun _ ds => decide (uptoBulkAll ds ≤ 1048576)
def OpenSpec.upto (s : _root_.Go.ChangeSpec) : _root_.Go.OpenSpec := { _root_.Go.OpenSpec.ofChange s with cond := some uptoSmall }

/-- 'laws.FnPlainInt32Written', WHERE WHAT IT READS IS OF BULK AT MOST 1048576: true; the input reads as it did. -/
def fnPlainInt32WrittenUptoRow : OpenClaim := { program := "ytcfnniminikmfaa", sum := "0867e5ea06c5c4bd71ea9c06109d0113a34935e994b684f865f1ea4120a3725d", func := "given.example/pub-arrowroot/laws.FnPlainInt32Written", spec := "fnPlainInt32Written", inPlace := ["sync/atomic.AddInt64", "math.Float32bits", "math.Float64bits"], unfollowed := true, recurses := true, named := ["encoding/binary.LittleEndian"], loops := true, apart := false, narrowed := true }
def FnPlainInt32WrittenUptoSaid : Prop := fnPlainInt32WrittenUptoRow.holds Try.pinned (OpenSpec.upto fnPlainInt32WrittenSpec)

/-- 'laws.FnPlainInt64Written', WHERE WHAT IT READS IS OF BULK AT MOST 1048576: true; the input reads as it did. -/
def fnPlainInt64WrittenUptoRow : OpenClaim := { program := "ytcfnniminikmfaa", sum := "0867e5ea06c5c4bd71ea9c06109d0113a34935e994b684f865f1ea4120a3725d", func := "given.example/pub-arrowroot/laws.FnPlainInt64Written", spec := "fnPlainInt64Written", inPlace := ["sync/atomic.AddInt64", "math.Float32bits", "math.Float64bits"], unfollowed := true, recurses := true, named := ["encoding/binary.LittleEndian"], loops := true, apart := false, narrowed := true }
def FnPlainInt64WrittenUptoSaid : Prop := fnPlainInt64WrittenUptoRow.holds Try.pinned (OpenSpec.upto fnPlainInt64WrittenSpec)

/-- 'laws.FnPlainFloat32Written', WHERE WHAT IT READS IS OF BULK AT MOST 1048576: true; the input reads as it did. -/
def fnPlainFloat32WrittenUptoRow : OpenClaim := { program := "ytcfnniminikmfaa", sum := "0867e5ea06c5c4bd71ea9c06109d0113a34935e994b684f865f1ea4120a3725d", func := "given.example/pub-arrowroot/laws.FnPlainFloat32Written", spec := "fnPlainFloat32Written", inPlace := ["sync/atomic.AddInt64", "math.Float32frombits", "math.Float32bits", "math.Float64bits"], unfollowed := true, recurses := true, named := ["encoding/binary.LittleEndian"], loops := true, apart := false, narrowed := true }
def FnPlainFloat32WrittenUptoSaid : Prop := fnPlainFloat32WrittenUptoRow.holds Try.pinned (OpenSpec.upto fnPlainFloat32WrittenSpec)

/-- 'laws.FnPlainFloat64Written', WHERE WHAT IT READS IS OF BULK AT MOST 1048576: true; the input reads as it did. -/
def fnPlainFloat64WrittenUptoRow : OpenClaim := { program := "ytcfnniminikmfaa", sum := "0867e5ea06c5c4bd71ea9c06109d0113a34935e994b684f865f1ea4120a3725d", func := "given.example/pub-arrowroot/laws.FnPlainFloat64Written", spec := "fnPlainFloat64Written", inPlace := ["sync/atomic.AddInt64", "math.Float64frombits", "math.Float32bits", "math.Float64bits"], unfollowed := true, recurses := true, named := ["encoding/binary.LittleEndian"], loops := true, apart := false, narrowed := true }
def FnPlainFloat64WrittenUptoSaid : Prop := fnPlainFloat64WrittenUptoRow.holds Try.pinned (OpenSpec.upto fnPlainFloat64WrittenSpec)

/-- 'laws.FnPlainInt96Written', WHERE WHAT IT READS IS OF BULK AT MOST 1048576: true; the input reads as it did. -/
def fnPlainInt96WrittenUptoRow : OpenClaim := { program := "ytcfnniminikmfaa", sum := "0867e5ea06c5c4bd71ea9c06109d0113a34935e994b684f865f1ea4120a3725d", func := "given.example/pub-arrowroot/laws.FnPlainInt96Written", spec := "fnPlainInt96Written", inPlace := ["sync/atomic.AddInt64", "math.Float32bits", "math.Float64bits"], unfollowed := true, recurses := true, named := ["encoding/binary.LittleEndian"], loops := true, apart := false, narrowed := true }
def FnPlainInt96WrittenUptoSaid : Prop := fnPlainInt96WrittenUptoRow.holds Try.pinned (OpenSpec.upto fnPlainInt96WrittenSpec)

/-- 'laws.FnPlainTextWritten', WHERE WHAT IT READS IS OF BULK AT MOST 1048576: true; the input reads as it did. -/
def fnPlainTextWrittenUptoRow : OpenClaim := { program := "ytcfnniminikmfaa", sum := "0867e5ea06c5c4bd71ea9c06109d0113a34935e994b684f865f1ea4120a3725d", func := "given.example/pub-arrowroot/laws.FnPlainTextWritten", spec := "fnPlainTextWritten", inPlace := ["sync/atomic.AddInt64"], unfollowed := true, recurses := true, named := ["encoding/binary.LittleEndian"], loops := true, apart := false, narrowed := true }
def FnPlainTextWrittenUptoSaid : Prop := fnPlainTextWrittenUptoRow.holds Try.pinned (OpenSpec.upto fnPlainTextWrittenSpec)

/-- 'laws.FnPlainFixedWritten', WHERE WHAT IT READS IS OF BULK AT MOST 1048576: true; the input reads as it did. -/
def fnPlainFixedWrittenUptoRow : OpenClaim := { program := "ytcfnniminikmfaa", sum := "0867e5ea06c5c4bd71ea9c06109d0113a34935e994b684f865f1ea4120a3725d", func := "given.example/pub-arrowroot/laws.FnPlainFixedWritten", spec := "fnPlainFixedWritten", inPlace := ["sync/atomic.AddInt64"], unfollowed := true, recurses := true, loops := true, apart := false, narrowed := true }
def FnPlainFixedWrittenUptoSaid : Prop := fnPlainFixedWrittenUptoRow.holds Try.pinned (OpenSpec.upto fnPlainFixedWrittenSpec)

end Rows
end Go.Proofs.Ytcfnniminikmfaa
