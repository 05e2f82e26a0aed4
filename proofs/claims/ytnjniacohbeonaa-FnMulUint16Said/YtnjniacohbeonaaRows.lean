/-
  No cell of these rows narrows 'for every input' (looked for: loops, veiled, ifaces, maps, wideKeys, modest, calm, conditions, laid).
  DERIVED. THE GIVEN ROWS OF THIS SEAT. 12 by the template 'for every input the law returns true; each argument reads behind the call as it read before'; 0 by the template 'total and deterministic' (their statements: YtnjniacohbeonaaTotals.lean).
  GIVEN WITH THE SEED: the statements are not yours to turn. If you find one false, say at which input.
  Laid BY PROGRAM, IN A SANDBOX (cutbox-rows.mjs): the forced cells as the released guide's own fill.sh prints them over the translation 6a765bfe1a71b49a… (all of the seat's roots in one cut). By AI agents, Wed Nov 11 2026. No macro, syntax, notation, axiom, sorry.
-/
import Derived.Test.YtnjniacohbeonaaChecked
import GoSem.Claim
import GoSem.ClaimJoined
import GoSem.ClaimMapViews
import Derived.JoinedTies
import Derived.KernelRfl
namespace Go.Proofs.Ytnjniacohbeonaa
/- THE CELL 'sum', in the pinned program and in every row, IS THE sha256 OF THE DUMP (.gsa) THAT YtnjniacohbeonaaProg.lean LOADS. Nothing in Lean hashes anything: it is a label: what it is worth is what the hold of that sum in a sandbox is worth. -/
noncomputable def Try.pinned : Pinned := { name := "ytnjniacohbeonaa", sum := "6a765bfe1a71b49a31f3fe8699e1e426d23645d4a8daf6d66f6f9f7e3e91d063", checked := Try.checked }
namespace Rows
def none {H : Type} : Left H := { results := [], args := [] }

/-- 'laws.FnAddChecked': WHATEVER THE INPUT: true; the input reads as it did. -/
def fnAddCheckedSpec : ChangeSpec := { name := "fnAddChecked", fn := fun _ => fun
  | [d1, d2] => { results := [.lit (.bool true)], args := [d1, d2] }
  | _ => none }
def fnAddCheckedRow : OpenClaim := { program := "ytnjniacohbeonaa", sum := "6a765bfe1a71b49a31f3fe8699e1e426d23645d4a8daf6d66f6f9f7e3e91d063", func := "given.example/pub-arrowroot/laws.FnAddChecked", spec := "fnAddChecked", apart := false }
def FnAddCheckedSaid : Prop := fnAddCheckedRow.holds Try.pinned (OpenSpec.ofChange fnAddCheckedSpec)

/-- ITS FALSE NEIGHBOUR: 'it returns false'. Refute it at one input. -/
def fnAddCheckedWrong : ChangeSpec := { name := "fnAddChecked", fn := fun _ => fun
  | [d1, d2] => { results := [.lit (.bool false)], args := [d1, d2] }
  | _ => none }
def FnAddCheckedWrongFalsely : Prop := fnAddCheckedRow.holds Try.pinned (OpenSpec.ofChange fnAddCheckedWrong)

/-- 'laws.FnGreaterBits': WHATEVER THE INPUT: true; the input reads as it did. -/
def fnGreaterBitsSpec : ChangeSpec := { name := "fnGreaterBits", fn := fun _ => fun
  | [d1, d2] => { results := [.lit (.bool true)], args := [d1, d2] }
  | _ => none }
def fnGreaterBitsRow : OpenClaim := { program := "ytnjniacohbeonaa", sum := "6a765bfe1a71b49a31f3fe8699e1e426d23645d4a8daf6d66f6f9f7e3e91d063", func := "given.example/pub-arrowroot/laws.FnGreaterBits", spec := "fnGreaterBits", apart := false }
def FnGreaterBitsSaid : Prop := fnGreaterBitsRow.holds Try.pinned (OpenSpec.ofChange fnGreaterBitsSpec)

/-- ITS FALSE NEIGHBOUR: 'it returns false'. Refute it at one input. -/
def fnGreaterBitsWrong : ChangeSpec := { name := "fnGreaterBits", fn := fun _ => fun
  | [d1, d2] => { results := [.lit (.bool false)], args := [d1, d2] }
  | _ => none }
def FnGreaterBitsWrongFalsely : Prop := fnGreaterBitsRow.holds Try.pinned (OpenSpec.ofChange fnGreaterBitsWrong)

/-- 'laws.FnTransposeInt32Int32': WHATEVER THE INPUT: true; the input reads as it did. -/
def fnTransposeInt32Int32Spec : ChangeSpec := { name := "fnTransposeInt32Int32", fn := fun _ => fun
  | [d1, d2] => { results := [.lit (.bool true)], args := [d1, d2] }
  | _ => none }
def fnTransposeInt32Int32Row : OpenClaim := { program := "ytnjniacohbeonaa", sum := "6a765bfe1a71b49a31f3fe8699e1e426d23645d4a8daf6d66f6f9f7e3e91d063", func := "given.example/pub-arrowroot/laws.FnTransposeInt32Int32", spec := "fnTransposeInt32Int32", apart := false }
def FnTransposeInt32Int32Said : Prop := fnTransposeInt32Int32Row.holds Try.pinned (OpenSpec.ofChange fnTransposeInt32Int32Spec)

/-- ITS FALSE NEIGHBOUR: 'it returns false'. Refute it at one input. -/
def fnTransposeInt32Int32Wrong : ChangeSpec := { name := "fnTransposeInt32Int32", fn := fun _ => fun
  | [d1, d2] => { results := [.lit (.bool false)], args := [d1, d2] }
  | _ => none }
def FnTransposeInt32Int32WrongFalsely : Prop := fnTransposeInt32Int32Row.holds Try.pinned (OpenSpec.ofChange fnTransposeInt32Int32Wrong)

/-- 'laws.FnTransposeUint64Uint32': WHATEVER THE INPUT: true; the input reads as it did. -/
def fnTransposeUint64Uint32Spec : ChangeSpec := { name := "fnTransposeUint64Uint32", fn := fun _ => fun
  | [d1, d2] => { results := [.lit (.bool true)], args := [d1, d2] }
  | _ => none }
def fnTransposeUint64Uint32Row : OpenClaim := { program := "ytnjniacohbeonaa", sum := "6a765bfe1a71b49a31f3fe8699e1e426d23645d4a8daf6d66f6f9f7e3e91d063", func := "given.example/pub-arrowroot/laws.FnTransposeUint64Uint32", spec := "fnTransposeUint64Uint32", apart := false }
def FnTransposeUint64Uint32Said : Prop := fnTransposeUint64Uint32Row.holds Try.pinned (OpenSpec.ofChange fnTransposeUint64Uint32Spec)

/-- ITS FALSE NEIGHBOUR: 'it returns false'. Refute it at one input. -/
def fnTransposeUint64Uint32Wrong : ChangeSpec := { name := "fnTransposeUint64Uint32", fn := fun _ => fun
  | [d1, d2] => { results := [.lit (.bool false)], args := [d1, d2] }
  | _ => none }
def FnTransposeUint64Uint32WrongFalsely : Prop := fnTransposeUint64Uint32Row.holds Try.pinned (OpenSpec.ofChange fnTransposeUint64Uint32Wrong)

/-- 'laws.FnTransposeUint8Int16': WHATEVER THE INPUT: true; the input reads as it did. -/
def fnTransposeUint8Int16Spec : ChangeSpec := { name := "fnTransposeUint8Int16", fn := fun _ => fun
  | [d1, d2] => { results := [.lit (.bool true)], args := [d1, d2] }
  | _ => none }
def fnTransposeUint8Int16Row : OpenClaim := { program := "ytnjniacohbeonaa", sum := "6a765bfe1a71b49a31f3fe8699e1e426d23645d4a8daf6d66f6f9f7e3e91d063", func := "given.example/pub-arrowroot/laws.FnTransposeUint8Int16", spec := "fnTransposeUint8Int16", apart := false }
def FnTransposeUint8Int16Said : Prop := fnTransposeUint8Int16Row.holds Try.pinned (OpenSpec.ofChange fnTransposeUint8Int16Spec)

/-- ITS FALSE NEIGHBOUR: 'it returns false'. Refute it at one input. -/
def fnTransposeUint8Int16Wrong : ChangeSpec := { name := "fnTransposeUint8Int16", fn := fun _ => fun
  | [d1, d2] => { results := [.lit (.bool false)], args := [d1, d2] }
  | _ => none }
def FnTransposeUint8Int16WrongFalsely : Prop := fnTransposeUint8Int16Row.holds Try.pinned (OpenSpec.ofChange fnTransposeUint8Int16Wrong)

/-- 'laws.FnExtremesUint32': WHATEVER THE INPUT: true; the input reads as it did. -/
def fnExtremesUint32Spec : ChangeSpec := { name := "fnExtremesUint32", fn := fun _ => fun
  | [d] => { results := [.lit (.bool true)], args := [d] }
  | _ => none }
def fnExtremesUint32Row : OpenClaim := { program := "ytnjniacohbeonaa", sum := "6a765bfe1a71b49a31f3fe8699e1e426d23645d4a8daf6d66f6f9f7e3e91d063", func := "given.example/pub-arrowroot/laws.FnExtremesUint32", spec := "fnExtremesUint32", apart := false }
def FnExtremesUint32Said : Prop := fnExtremesUint32Row.holds Try.pinned (OpenSpec.ofChange fnExtremesUint32Spec)

/-- ITS FALSE NEIGHBOUR: 'it returns false'. Refute it at one input. -/
def fnExtremesUint32Wrong : ChangeSpec := { name := "fnExtremesUint32", fn := fun _ => fun
  | [d] => { results := [.lit (.bool false)], args := [d] }
  | _ => none }
def FnExtremesUint32WrongFalsely : Prop := fnExtremesUint32Row.holds Try.pinned (OpenSpec.ofChange fnExtremesUint32Wrong)

/-- 'laws.FnExtremesUint8': WHATEVER THE INPUT: true; the input reads as it did. -/
def fnExtremesUint8Spec : ChangeSpec := { name := "fnExtremesUint8", fn := fun _ => fun
  | [d] => { results := [.lit (.bool true)], args := [d] }
  | _ => none }
def fnExtremesUint8Row : OpenClaim := { program := "ytnjniacohbeonaa", sum := "6a765bfe1a71b49a31f3fe8699e1e426d23645d4a8daf6d66f6f9f7e3e91d063", func := "given.example/pub-arrowroot/laws.FnExtremesUint8", spec := "fnExtremesUint8", apart := false }
def FnExtremesUint8Said : Prop := fnExtremesUint8Row.holds Try.pinned (OpenSpec.ofChange fnExtremesUint8Spec)

/-- ITS FALSE NEIGHBOUR: 'it returns false'. Refute it at one input. -/
def fnExtremesUint8Wrong : ChangeSpec := { name := "fnExtremesUint8", fn := fun _ => fun
  | [d] => { results := [.lit (.bool false)], args := [d] }
  | _ => none }
def FnExtremesUint8WrongFalsely : Prop := fnExtremesUint8Row.holds Try.pinned (OpenSpec.ofChange fnExtremesUint8Wrong)

/-- 'laws.FnAddInt32': WHATEVER THE INPUT: true; the input reads as it did. -/
def fnAddInt32Spec : ChangeSpec := { name := "fnAddInt32", fn := fun _ => fun
  | [d1, d2] => { results := [.lit (.bool true)], args := [d1, d2] }
  | _ => none }
def fnAddInt32Row : OpenClaim := { program := "ytnjniacohbeonaa", sum := "6a765bfe1a71b49a31f3fe8699e1e426d23645d4a8daf6d66f6f9f7e3e91d063", func := "given.example/pub-arrowroot/laws.FnAddInt32", spec := "fnAddInt32", apart := false }
def FnAddInt32Said : Prop := fnAddInt32Row.holds Try.pinned (OpenSpec.ofChange fnAddInt32Spec)

/-- ITS FALSE NEIGHBOUR: 'it returns false'. Refute it at one input. -/
def fnAddInt32Wrong : ChangeSpec := { name := "fnAddInt32", fn := fun _ => fun
  | [d1, d2] => { results := [.lit (.bool false)], args := [d1, d2] }
  | _ => none }
def FnAddInt32WrongFalsely : Prop := fnAddInt32Row.holds Try.pinned (OpenSpec.ofChange fnAddInt32Wrong)

/-- 'laws.FnAddInt8': WHATEVER THE INPUT: true; the input reads as it did. -/
def fnAddInt8Spec : ChangeSpec := { name := "fnAddInt8", fn := fun _ => fun
  | [d1, d2] => { results := [.lit (.bool true)], args := [d1, d2] }
  | _ => none }
def fnAddInt8Row : OpenClaim := { program := "ytnjniacohbeonaa", sum := "6a765bfe1a71b49a31f3fe8699e1e426d23645d4a8daf6d66f6f9f7e3e91d063", func := "given.example/pub-arrowroot/laws.FnAddInt8", spec := "fnAddInt8", apart := false }
def FnAddInt8Said : Prop := fnAddInt8Row.holds Try.pinned (OpenSpec.ofChange fnAddInt8Spec)

/-- ITS FALSE NEIGHBOUR: 'it returns false'. Refute it at one input. -/
def fnAddInt8Wrong : ChangeSpec := { name := "fnAddInt8", fn := fun _ => fun
  | [d1, d2] => { results := [.lit (.bool false)], args := [d1, d2] }
  | _ => none }
def FnAddInt8WrongFalsely : Prop := fnAddInt8Row.holds Try.pinned (OpenSpec.ofChange fnAddInt8Wrong)

/-- 'laws.FnMulUint16': WHATEVER THE INPUT: true; the input reads as it did. -/
def fnMulUint16Spec : ChangeSpec := { name := "fnMulUint16", fn := fun _ => fun
  | [d1, d2] => { results := [.lit (.bool true)], args := [d1, d2] }
  | _ => none }
def fnMulUint16Row : OpenClaim := { program := "ytnjniacohbeonaa", sum := "6a765bfe1a71b49a31f3fe8699e1e426d23645d4a8daf6d66f6f9f7e3e91d063", func := "given.example/pub-arrowroot/laws.FnMulUint16", spec := "fnMulUint16", apart := false }
def FnMulUint16Said : Prop := fnMulUint16Row.holds Try.pinned (OpenSpec.ofChange fnMulUint16Spec)

/-- ITS FALSE NEIGHBOUR: 'it returns false'. Refute it at one input. -/
def fnMulUint16Wrong : ChangeSpec := { name := "fnMulUint16", fn := fun _ => fun
  | [d1, d2] => { results := [.lit (.bool false)], args := [d1, d2] }
  | _ => none }
def FnMulUint16WrongFalsely : Prop := fnMulUint16Row.holds Try.pinned (OpenSpec.ofChange fnMulUint16Wrong)

/-- 'laws.FnMulUint64': WHATEVER THE INPUT: true; the input reads as it did. -/
def fnMulUint64Spec : ChangeSpec := { name := "fnMulUint64", fn := fun _ => fun
  | [d1, d2] => { results := [.lit (.bool true)], args := [d1, d2] }
  | _ => none }
def fnMulUint64Row : OpenClaim := { program := "ytnjniacohbeonaa", sum := "6a765bfe1a71b49a31f3fe8699e1e426d23645d4a8daf6d66f6f9f7e3e91d063", func := "given.example/pub-arrowroot/laws.FnMulUint64", spec := "fnMulUint64", apart := false }
def FnMulUint64Said : Prop := fnMulUint64Row.holds Try.pinned (OpenSpec.ofChange fnMulUint64Spec)

/-- ITS FALSE NEIGHBOUR: 'it returns false'. Refute it at one input. -/
def fnMulUint64Wrong : ChangeSpec := { name := "fnMulUint64", fn := fun _ => fun
  | [d1, d2] => { results := [.lit (.bool false)], args := [d1, d2] }
  | _ => none }
def FnMulUint64WrongFalsely : Prop := fnMulUint64Row.holds Try.pinned (OpenSpec.ofChange fnMulUint64Wrong)

/-- 'laws.FnSplit': WHATEVER THE INPUT: true; the input reads as it did. -/
def fnSplitSpec : ChangeSpec := { name := "fnSplit", fn := fun _ => fun
  | [d1, d2] => { results := [.lit (.bool true)], args := [d1, d2] }
  | _ => none }
def fnSplitRow : OpenClaim := { program := "ytnjniacohbeonaa", sum := "6a765bfe1a71b49a31f3fe8699e1e426d23645d4a8daf6d66f6f9f7e3e91d063", func := "given.example/pub-arrowroot/laws.FnSplit", spec := "fnSplit", apart := false }
def FnSplitSaid : Prop := fnSplitRow.holds Try.pinned (OpenSpec.ofChange fnSplitSpec)

/-- ITS FALSE NEIGHBOUR: 'it returns false'. Refute it at one input. -/
def fnSplitWrong : ChangeSpec := { name := "fnSplit", fn := fun _ => fun
  | [d1, d2] => { results := [.lit (.bool false)], args := [d1, d2] }
  | _ => none }
def FnSplitWrongFalsely : Prop := fnSplitRow.holds Try.pinned (OpenSpec.ofChange fnSplitWrong)

/- THE SECOND FORM. 'bulk': how many values and letters a reading holds, each counted each time it is reached (what is shared counts as often as it is met; a slice's spare places count too). A statement '..UptoSaid' is the law's where the arguments, and the package variables that the reading takes, are together of bulk at most 1048576: NARROWER than '..Said'. Prove '..Said' where nothing that the law and all that it calls make is longer than what came in: it says more and counts as full. Else prove '..UptoSaid'. A law counts once. -/
mutual
def uptoBulk {H : Type} : DataW H → Nat
  | .lit (.string bytes) => bytes.length + 1
  | .lit _ => 1
  | .nil => 1
  | .ptr d => uptoBulk d + 1
  | .slice elems spare => uptoBulkAll elems + uptoBulkAll spare + 1
  | .agg parts => uptoBulkAll parts + 1
  | .iface _ d => uptoBulk d + 1
  | .map entries => uptoBulkEntries entries + 1
  | .held _ => 1
def uptoBulkAll {H : Type} : List (DataW H) → Nat
  | [] => 0
  | d :: r => uptoBulk d + uptoBulkAll r
def uptoBulkEntries {H : Type} : List (Lit × DataW H) → Nat
  | [] => 0
  | x :: r => uptoBulkEntry x + uptoBulkEntries r
def uptoBulkEntry {H : Type} : Lit × DataW H → Nat
  | (.string bytes, d) => bytes.length + uptoBulk d + 1
  | (_, d) => uptoBulk d + 1
 end
def uptoSmall : (H : Type) → List (DataW H) → Bool := fun _ ds => decide (uptoBulkAll ds ≤ 1048576)
def OpenSpec.upto (s : _root_.Go.ChangeSpec) : _root_.Go.OpenSpec := { _root_.Go.OpenSpec.ofChange s with cond := some uptoSmall }

/-- 'laws.FnAddChecked', WHERE WHAT IT READS IS OF BULK AT MOST 1048576: true; the input reads as it did. -/
def fnAddCheckedUptoRow : OpenClaim := { program := "ytnjniacohbeonaa", sum := "6a765bfe1a71b49a31f3fe8699e1e426d23645d4a8daf6d66f6f9f7e3e91d063", func := "given.example/pub-arrowroot/laws.FnAddChecked", spec := "fnAddChecked", apart := false, narrowed := true }
def FnAddCheckedUptoSaid : Prop := fnAddCheckedUptoRow.holds Try.pinned (OpenSpec.upto fnAddCheckedSpec)

/-- 'laws.FnGreaterBits', WHERE WHAT IT READS IS OF BULK AT MOST 1048576: true; the input reads as it did. -/
def fnGreaterBitsUptoRow : OpenClaim := { program := "ytnjniacohbeonaa", sum := "6a765bfe1a71b49a31f3fe8699e1e426d23645d4a8daf6d66f6f9f7e3e91d063", func := "given.example/pub-arrowroot/laws.FnGreaterBits", spec := "fnGreaterBits", apart := false, narrowed := true }
def FnGreaterBitsUptoSaid : Prop := fnGreaterBitsUptoRow.holds Try.pinned (OpenSpec.upto fnGreaterBitsSpec)

/-- 'laws.FnTransposeInt32Int32', WHERE WHAT IT READS IS OF BULK AT MOST 1048576: true; the input reads as it did. -/
def fnTransposeInt32Int32UptoRow : OpenClaim := { program := "ytnjniacohbeonaa", sum := "6a765bfe1a71b49a31f3fe8699e1e426d23645d4a8daf6d66f6f9f7e3e91d063", func := "given.example/pub-arrowroot/laws.FnTransposeInt32Int32", spec := "fnTransposeInt32Int32", apart := false, narrowed := true }
def FnTransposeInt32Int32UptoSaid : Prop := fnTransposeInt32Int32UptoRow.holds Try.pinned (OpenSpec.upto fnTransposeInt32Int32Spec)

/-- 'laws.FnTransposeUint64Uint32', WHERE WHAT IT READS IS OF BULK AT MOST 1048576: true; the input reads as it did. -/
def fnTransposeUint64Uint32UptoRow : OpenClaim := { program := "ytnjniacohbeonaa", sum := "6a765bfe1a71b49a31f3fe8699e1e426d23645d4a8daf6d66f6f9f7e3e91d063", func := "given.example/pub-arrowroot/laws.FnTransposeUint64Uint32", spec := "fnTransposeUint64Uint32", apart := false, narrowed := true }
def FnTransposeUint64Uint32UptoSaid : Prop := fnTransposeUint64Uint32UptoRow.holds Try.pinned (OpenSpec.upto fnTransposeUint64Uint32Spec)

/-- 'laws.FnTransposeUint8Int16', WHERE WHAT IT READS IS OF BULK AT MOST 1048576: true; the input reads as it did. -/
def fnTransposeUint8Int16UptoRow : OpenClaim := { program := "ytnjniacohbeonaa", sum := "6a765bfe1a71b49a31f3fe8699e1e426d23645d4a8daf6d66f6f9f7e3e91d063", func := "given.example/pub-arrowroot/laws.FnTransposeUint8Int16", spec := "fnTransposeUint8Int16", apart := false, narrowed := true }
def FnTransposeUint8Int16UptoSaid : Prop := fnTransposeUint8Int16UptoRow.holds Try.pinned (OpenSpec.upto fnTransposeUint8Int16Spec)

/-- 'laws.FnExtremesUint32', WHERE WHAT IT READS IS OF BULK AT MOST 1048576: true; the input reads as it did. -/
def fnExtremesUint32UptoRow : OpenClaim := { program := "ytnjniacohbeonaa", sum := "6a765bfe1a71b49a31f3fe8699e1e426d23645d4a8daf6d66f6f9f7e3e91d063", func := "given.example/pub-arrowroot/laws.FnExtremesUint32", spec := "fnExtremesUint32", apart := false, narrowed := true }
def FnExtremesUint32UptoSaid : Prop := fnExtremesUint32UptoRow.holds Try.pinned (OpenSpec.upto fnExtremesUint32Spec)

/-- 'laws.FnExtremesUint8', WHERE WHAT IT READS IS OF BULK AT MOST 1048576: true; the input reads as it did. -/
def fnExtremesUint8UptoRow : OpenClaim := { program := "ytnjniacohbeonaa", sum := "6a765bfe1a71b49a31f3fe8699e1e426d23645d4a8daf6d66f6f9f7e3e91d063", func := "given.example/pub-arrowroot/laws.FnExtremesUint8", spec := "fnExtremesUint8", apart := false, narrowed := true }
def FnExtremesUint8UptoSaid : Prop := fnExtremesUint8UptoRow.holds Try.pinned (OpenSpec.upto fnExtremesUint8Spec)

/-- 'laws.FnAddInt32', WHERE WHAT IT READS IS OF BULK AT MOST 1048576: true; the input reads as it did. -/
def fnAddInt32UptoRow : OpenClaim := { program := "ytnjniacohbeonaa", sum := "6a765bfe1a71b49a31f3fe8699e1e426d23645d4a8daf6d66f6f9f7e3e91d063", func := "given.example/pub-arrowroot/laws.FnAddInt32", spec := "fnAddInt32", apart := false, narrowed := true }
def FnAddInt32UptoSaid : Prop := fnAddInt32UptoRow.holds Try.pinned (OpenSpec.upto fnAddInt32Spec)

/-- 'laws.FnAddInt8', WHERE WHAT IT READS IS OF BULK AT MOST 1048576: true; the input reads as it did. -/
def fnAddInt8UptoRow : OpenClaim := { program := "ytnjniacohbeonaa", sum := "6a765bfe1a71b49a31f3fe8699e1e426d23645d4a8daf6d66f6f9f7e3e91d063", func := "given.example/pub-arrowroot/laws.FnAddInt8", spec := "fnAddInt8", apart := false, narrowed := true }
def FnAddInt8UptoSaid : Prop := fnAddInt8UptoRow.holds Try.pinned (OpenSpec.upto fnAddInt8Spec)

/-- 'laws.FnMulUint16', WHERE WHAT IT READS IS OF BULK AT MOST 1048576: true; the input reads as it did. -/
def fnMulUint16UptoRow : OpenClaim := { program := "ytnjniacohbeonaa", sum := "6a765bfe1a71b49a31f3fe8699e1e426d23645d4a8daf6d66f6f9f7e3e91d063", func := "given.example/pub-arrowroot/laws.FnMulUint16", spec := "fnMulUint16", apart := false, narrowed := true }
def FnMulUint16UptoSaid : Prop := fnMulUint16UptoRow.holds Try.pinned (OpenSpec.upto fnMulUint16Spec)

/-- 'laws.FnMulUint64', WHERE WHAT IT READS IS OF BULK AT MOST 1048576: true; the input reads as it did. -/
def fnMulUint64UptoRow : OpenClaim := { program := "ytnjniacohbeonaa", sum := "6a765bfe1a71b49a31f3fe8699e1e426d23645d4a8daf6d66f6f9f7e3e91d063", func := "given.example/pub-arrowroot/laws.FnMulUint64", spec := "fnMulUint64", apart := false, narrowed := true }
def FnMulUint64UptoSaid : Prop := fnMulUint64UptoRow.holds Try.pinned (OpenSpec.upto fnMulUint64Spec)

/-- 'laws.FnSplit', WHERE WHAT IT READS IS OF BULK AT MOST 1048576: true; the input reads as it did. -/
def fnSplitUptoRow : OpenClaim := { program := "ytnjniacohbeonaa", sum := "6a765bfe1a71b49a31f3fe8699e1e426d23645d4a8daf6d66f6f9f7e3e91d063", func := "given.example/pub-arrowroot/laws.FnSplit", spec := "fnSplit", apart := false, narrowed := true }
def FnSplitUptoSaid : Prop := fnSplitUptoRow.holds Try.pinned (OpenSpec.upto fnSplitSpec)

end Rows
end Go.Proofs.Ytnjniacohbeonaa
