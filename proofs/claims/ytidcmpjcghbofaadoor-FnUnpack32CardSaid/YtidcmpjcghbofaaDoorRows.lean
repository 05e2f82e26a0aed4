/-
  NARROWER THAN 'FOR EVERY INPUT', by the rows' own cells (each row's printed sentence says how): FnUnpack32: laid · FnUnpack16: laid · FnUnpack24: laid · FnUnpack4: laid · FnUnpack28: laid · FnUnpack8: laid · FnUnpack12: laid · FnUnpack20: laid.
  DERIVED. THE GIVEN ROWS OF THIS SEAT. 8 by the template 'for every input the law returns true; each argument reads behind the call as it read before'; 0 by the template 'total and deterministic' (their statements: YtidcmpjcghbofaaDoorTotals.lean).
  GIVEN WITH THE SEED: the statements are not yours to turn. If you find one false, say at which input.
  Laid BY PROGRAM, IN A SANDBOX (cutbox-rows.mjs): the forced cells as the released guide's own fill.sh prints them over the translation 04f27305637166ea… (all of the seat's roots in one cut). By AI agents, Wed Nov 11 2026. No macro, syntax, notation, axiom, sorry.
-/
import Derived.Test.YtidcmpjcghbofaaDoorChecked
import GoSem.Claim
import GoSem.ClaimJoined
import GoSem.ClaimMapViews
import Derived.JoinedTies
import Derived.KernelRfl
namespace Go.Proofs.YtidcmpjcghbofaaDoor
/- THE CELL 'sum', in the pinned program and in every row, IS THE sha256 OF THE DUMP (.gsa) THAT YtidcmpjcghbofaaDoorProg.lean LOADS. Nothing in Lean hashes anything: it is a label: what it is worth is what the hold of that sum in a sandbox is worth. -/
noncomputable def Tryd.pinned : Pinned := { name := "ytidcmpjcghbofaadoor", sum := "04f27305637166eaeb43347a8f1cc8f08127f817b33dabe00701d2f5258113ae", checked := Tryd.checked }
namespace Rows
def none {H : Type} : Left H := { results := [], args := [] }

/- WHAT THE LISTED PACKAGE-LEVEL VARIABLES READ AS WHEN THE CALL BEGINS. Each datum BY PROGRAM (the guide's laid-datum.mjs) off the statement by which the dump's own 'gosem.cut.vars' lays the variable. In a bare row this is a premise. The card (YtidcmpjcghbofaaDoorCards.lean) ties it to the program's text. -/
def laid_io_ErrShortBuffer {H : Type} : DataW H := .iface "*errors.errorString" (.ptr (.agg [.lit (.string [115, 104, 111, 114, 116, 32, 98, 117, 102, 102, 101, 114])]))
def laid_io_EOF {H : Type} : DataW H := .iface "*errors.errorString" (.ptr (.agg [.lit (.string [69, 79, 70])]))
def laid_io_ErrUnexpectedEOF {H : Type} : DataW H := .iface "*errors.errorString" (.ptr (.agg [.lit (.string [117, 110, 101, 120, 112, 101, 99, 116, 101, 100, 32, 69, 79, 70])]))

/-- 'laws.FnUnpack32': WHATEVER THE INPUT: true; the input reads as it did. -/
def fnUnpack32Spec : ChangeSpec := { name := "fnUnpack32", fn := fun _ => fun
  | [d] => { results := [.lit (.bool true)], args := [d] }
  | _ => none }
def fnUnpack32Row : OpenClaim := { program := "ytidcmpjcghbofaadoor", sum := "04f27305637166eaeb43347a8f1cc8f08127f817b33dabe00701d2f5258113ae", func := "given.example/pub-arrowroot/laws.FnUnpack32", spec := "fnUnpack32", unfollowed := true, recurses := true, named := ["encoding/binary.LittleEndian", "io.ErrShortBuffer", "io.EOF", "io.ErrUnexpectedEOF"], apart := false, laid := [("io.ErrShortBuffer", laid_io_ErrShortBuffer), ("io.EOF", laid_io_EOF), ("io.ErrUnexpectedEOF", laid_io_ErrUnexpectedEOF)] }
def FnUnpack32Said : Prop := fnUnpack32Row.holds Tryd.pinned (OpenSpec.ofChange fnUnpack32Spec)

/-- ITS FALSE NEIGHBOUR: 'it returns false'. Refute it at one input. -/
def fnUnpack32Wrong : ChangeSpec := { name := "fnUnpack32", fn := fun _ => fun
  | [d] => { results := [.lit (.bool false)], args := [d] }
  | _ => none }
def FnUnpack32WrongFalsely : Prop := fnUnpack32Row.holds Tryd.pinned (OpenSpec.ofChange fnUnpack32Wrong)

/-- 'laws.FnUnpack16': WHATEVER THE INPUT: true; the input reads as it did. -/
def fnUnpack16Spec : ChangeSpec := { name := "fnUnpack16", fn := fun _ => fun
  | [d] => { results := [.lit (.bool true)], args := [d] }
  | _ => none }
def fnUnpack16Row : OpenClaim := { program := "ytidcmpjcghbofaadoor", sum := "04f27305637166eaeb43347a8f1cc8f08127f817b33dabe00701d2f5258113ae", func := "given.example/pub-arrowroot/laws.FnUnpack16", spec := "fnUnpack16", unfollowed := true, recurses := true, named := ["encoding/binary.LittleEndian", "io.ErrShortBuffer", "io.EOF", "io.ErrUnexpectedEOF"], apart := false, laid := [("io.ErrShortBuffer", laid_io_ErrShortBuffer), ("io.EOF", laid_io_EOF), ("io.ErrUnexpectedEOF", laid_io_ErrUnexpectedEOF)] }
def FnUnpack16Said : Prop := fnUnpack16Row.holds Tryd.pinned (OpenSpec.ofChange fnUnpack16Spec)

/-- ITS FALSE NEIGHBOUR: 'it returns false'. Refute it at one input. -/
def fnUnpack16Wrong : ChangeSpec := { name := "fnUnpack16", fn := fun _ => fun
  | [d] => { results := [.lit (.bool false)], args := [d] }
  | _ => none }
def FnUnpack16WrongFalsely : Prop := fnUnpack16Row.holds Tryd.pinned (OpenSpec.ofChange fnUnpack16Wrong)

/-- 'laws.FnUnpack24': WHATEVER THE INPUT: true; the input reads as it did. -/
def fnUnpack24Spec : ChangeSpec := { name := "fnUnpack24", fn := fun _ => fun
  | [d] => { results := [.lit (.bool true)], args := [d] }
  | _ => none }
def fnUnpack24Row : OpenClaim := { program := "ytidcmpjcghbofaadoor", sum := "04f27305637166eaeb43347a8f1cc8f08127f817b33dabe00701d2f5258113ae", func := "given.example/pub-arrowroot/laws.FnUnpack24", spec := "fnUnpack24", unfollowed := true, recurses := true, named := ["encoding/binary.LittleEndian", "io.ErrShortBuffer", "io.EOF", "io.ErrUnexpectedEOF"], apart := false, laid := [("io.ErrShortBuffer", laid_io_ErrShortBuffer), ("io.EOF", laid_io_EOF), ("io.ErrUnexpectedEOF", laid_io_ErrUnexpectedEOF)] }
def FnUnpack24Said : Prop := fnUnpack24Row.holds Tryd.pinned (OpenSpec.ofChange fnUnpack24Spec)

/-- ITS FALSE NEIGHBOUR: 'it returns false'. Refute it at one input. -/
def fnUnpack24Wrong : ChangeSpec := { name := "fnUnpack24", fn := fun _ => fun
  | [d] => { results := [.lit (.bool false)], args := [d] }
  | _ => none }
def FnUnpack24WrongFalsely : Prop := fnUnpack24Row.holds Tryd.pinned (OpenSpec.ofChange fnUnpack24Wrong)

/-- 'laws.FnUnpack4': WHATEVER THE INPUT: true; the input reads as it did. -/
def fnUnpack4Spec : ChangeSpec := { name := "fnUnpack4", fn := fun _ => fun
  | [d] => { results := [.lit (.bool true)], args := [d] }
  | _ => none }
def fnUnpack4Row : OpenClaim := { program := "ytidcmpjcghbofaadoor", sum := "04f27305637166eaeb43347a8f1cc8f08127f817b33dabe00701d2f5258113ae", func := "given.example/pub-arrowroot/laws.FnUnpack4", spec := "fnUnpack4", unfollowed := true, recurses := true, named := ["encoding/binary.LittleEndian", "io.ErrShortBuffer", "io.EOF", "io.ErrUnexpectedEOF"], apart := false, laid := [("io.ErrShortBuffer", laid_io_ErrShortBuffer), ("io.EOF", laid_io_EOF), ("io.ErrUnexpectedEOF", laid_io_ErrUnexpectedEOF)] }
def FnUnpack4Said : Prop := fnUnpack4Row.holds Tryd.pinned (OpenSpec.ofChange fnUnpack4Spec)

/-- ITS FALSE NEIGHBOUR: 'it returns false'. Refute it at one input. -/
def fnUnpack4Wrong : ChangeSpec := { name := "fnUnpack4", fn := fun _ => fun
  | [d] => { results := [.lit (.bool false)], args := [d] }
  | _ => none }
def FnUnpack4WrongFalsely : Prop := fnUnpack4Row.holds Tryd.pinned (OpenSpec.ofChange fnUnpack4Wrong)

/-- 'laws.FnUnpack28': WHATEVER THE INPUT: true; the input reads as it did. -/
def fnUnpack28Spec : ChangeSpec := { name := "fnUnpack28", fn := fun _ => fun
  | [d] => { results := [.lit (.bool true)], args := [d] }
  | _ => none }
def fnUnpack28Row : OpenClaim := { program := "ytidcmpjcghbofaadoor", sum := "04f27305637166eaeb43347a8f1cc8f08127f817b33dabe00701d2f5258113ae", func := "given.example/pub-arrowroot/laws.FnUnpack28", spec := "fnUnpack28", unfollowed := true, recurses := true, named := ["encoding/binary.LittleEndian", "io.ErrShortBuffer", "io.EOF", "io.ErrUnexpectedEOF"], apart := false, laid := [("io.ErrShortBuffer", laid_io_ErrShortBuffer), ("io.EOF", laid_io_EOF), ("io.ErrUnexpectedEOF", laid_io_ErrUnexpectedEOF)] }
def FnUnpack28Said : Prop := fnUnpack28Row.holds Tryd.pinned (OpenSpec.ofChange fnUnpack28Spec)

/-- ITS FALSE NEIGHBOUR: 'it returns false'. Refute it at one input. -/
def fnUnpack28Wrong : ChangeSpec := { name := "fnUnpack28", fn := fun _ => fun
  | [d] => { results := [.lit (.bool false)], args := [d] }
  | _ => none }
def FnUnpack28WrongFalsely : Prop := fnUnpack28Row.holds Tryd.pinned (OpenSpec.ofChange fnUnpack28Wrong)

/-- 'laws.FnUnpack8': WHATEVER THE INPUT: true; the input reads as it did. -/
def fnUnpack8Spec : ChangeSpec := { name := "fnUnpack8", fn := fun _ => fun
  | [d] => { results := [.lit (.bool true)], args := [d] }
  | _ => none }
def fnUnpack8Row : OpenClaim := { program := "ytidcmpjcghbofaadoor", sum := "04f27305637166eaeb43347a8f1cc8f08127f817b33dabe00701d2f5258113ae", func := "given.example/pub-arrowroot/laws.FnUnpack8", spec := "fnUnpack8", unfollowed := true, recurses := true, named := ["encoding/binary.LittleEndian", "io.ErrShortBuffer", "io.EOF", "io.ErrUnexpectedEOF"], apart := false, laid := [("io.ErrShortBuffer", laid_io_ErrShortBuffer), ("io.EOF", laid_io_EOF), ("io.ErrUnexpectedEOF", laid_io_ErrUnexpectedEOF)] }
def FnUnpack8Said : Prop := fnUnpack8Row.holds Tryd.pinned (OpenSpec.ofChange fnUnpack8Spec)

/-- ITS FALSE NEIGHBOUR: 'it returns false'. Refute it at one input. -/
def fnUnpack8Wrong : ChangeSpec := { name := "fnUnpack8", fn := fun _ => fun
  | [d] => { results := [.lit (.bool false)], args := [d] }
  | _ => none }
def FnUnpack8WrongFalsely : Prop := fnUnpack8Row.holds Tryd.pinned (OpenSpec.ofChange fnUnpack8Wrong)

/-- 'laws.FnUnpack12': WHATEVER THE INPUT: true; the input reads as it did. -/
def fnUnpack12Spec : ChangeSpec := { name := "fnUnpack12", fn := fun _ => fun
  | [d] => { results := [.lit (.bool true)], args := [d] }
  | _ => none }
def fnUnpack12Row : OpenClaim := { program := "ytidcmpjcghbofaadoor", sum := "04f27305637166eaeb43347a8f1cc8f08127f817b33dabe00701d2f5258113ae", func := "given.example/pub-arrowroot/laws.FnUnpack12", spec := "fnUnpack12", unfollowed := true, recurses := true, named := ["encoding/binary.LittleEndian", "io.ErrShortBuffer", "io.EOF", "io.ErrUnexpectedEOF"], apart := false, laid := [("io.ErrShortBuffer", laid_io_ErrShortBuffer), ("io.EOF", laid_io_EOF), ("io.ErrUnexpectedEOF", laid_io_ErrUnexpectedEOF)] }
def FnUnpack12Said : Prop := fnUnpack12Row.holds Tryd.pinned (OpenSpec.ofChange fnUnpack12Spec)

/-- ITS FALSE NEIGHBOUR: 'it returns false'. Refute it at one input. -/
def fnUnpack12Wrong : ChangeSpec := { name := "fnUnpack12", fn := fun _ => fun
  | [d] => { results := [.lit (.bool false)], args := [d] }
  | _ => none }
def FnUnpack12WrongFalsely : Prop := fnUnpack12Row.holds Tryd.pinned (OpenSpec.ofChange fnUnpack12Wrong)

/-- 'laws.FnUnpack20': WHATEVER THE INPUT: true; the input reads as it did. -/
def fnUnpack20Spec : ChangeSpec := { name := "fnUnpack20", fn := fun _ => fun
  | [d] => { results := [.lit (.bool true)], args := [d] }
  | _ => none }
def fnUnpack20Row : OpenClaim := { program := "ytidcmpjcghbofaadoor", sum := "04f27305637166eaeb43347a8f1cc8f08127f817b33dabe00701d2f5258113ae", func := "given.example/pub-arrowroot/laws.FnUnpack20", spec := "fnUnpack20", unfollowed := true, recurses := true, named := ["encoding/binary.LittleEndian", "io.ErrShortBuffer", "io.EOF", "io.ErrUnexpectedEOF"], apart := false, laid := [("io.ErrShortBuffer", laid_io_ErrShortBuffer), ("io.EOF", laid_io_EOF), ("io.ErrUnexpectedEOF", laid_io_ErrUnexpectedEOF)] }
def FnUnpack20Said : Prop := fnUnpack20Row.holds Tryd.pinned (OpenSpec.ofChange fnUnpack20Spec)

/-- ITS FALSE NEIGHBOUR: 'it returns false'. Refute it at one input. -/
def fnUnpack20Wrong : ChangeSpec := { name := "fnUnpack20", fn := fun _ => fun
  | [d] => { results := [.lit (.bool false)], args := [d] }
  | _ => none }
def FnUnpack20WrongFalsely : Prop := fnUnpack20Row.holds Tryd.pinned (OpenSpec.ofChange fnUnpack20Wrong)

/- THE SECOND FORM. 'bulk': how many values and letters a reading holds, each counted each time it is reached (what is shared counts as often as it is met; a slice's spare places count too). A statement '..UptoSaid' is the law's where the arguments, and the package variables that the reading takes, are together of bulk at most 1048576: NARROWER than '..Said'. Prove '..Said' where nothing that the law and all that it calls make is longer than what came in: it says more and counts as full. Else prove '..UptoSaid'. A law counts once. -/
mutual
def uptoBulk {H : Type} : DataW H → Nat
  | .lit (.string bytes) => bytes.length + 1
  | .lit _ => 1
  | .nil => 1
  | .ptr d => uptoBulk d + 1
  | .slice elems spare => uptoBulkAll elems + uptoBulkAll spare + 1
  | .agg parts => uptoBulkAll parts + 1
  | .iface _ d => uptoBulk d + 1
  | .map entries => uptoBulkEntries entries + 1
  | .held _ => 1
def uptoBulkAll {H : Type} : List (DataW H) → Nat
  | [] => 0
  | d :: r => uptoBulk d + uptoBulkAll r
def uptoBulkEntries {H : Type} : List (Lit × DataW H) → Nat
  | [] => 0
  | x :: r => uptoBulkEntry x + uptoBulkEntries r
def uptoBulkEntry {H : Type} : Lit × DataW H → Nat
  | (.string bytes, d) => bytes.length + uptoBulk d + 1
  | (_, d) => uptoBulk d + 1
 end
def uptoSmall : (H : Type) → List (DataW H) → Bool := fun _ ds => decide (uptoBulkAll ds ≤ 1048576)
def OpenSpec.upto (s : _root_.Go.ChangeSpec) : _root_.Go.OpenSpec := { _root_.Go.OpenSpec.ofChange s with cond := some uptoSmall }

/-- 'laws.FnUnpack32', WHERE WHAT IT READS IS OF BULK AT MOST 1048576: true; the input reads as it did. -/
def fnUnpack32UptoRow : OpenClaim := { program := "ytidcmpjcghbofaadoor", sum := "04f27305637166eaeb43347a8f1cc8f08127f817b33dabe00701d2f5258113ae", func := "given.example/pub-arrowroot/laws.FnUnpack32", spec := "fnUnpack32", unfollowed := true, recurses := true, named := ["encoding/binary.LittleEndian", "io.ErrShortBuffer", "io.EOF", "io.ErrUnexpectedEOF"], apart := false, laid := [("io.ErrShortBuffer", laid_io_ErrShortBuffer), ("io.EOF", laid_io_EOF), ("io.ErrUnexpectedEOF", laid_io_ErrUnexpectedEOF)], narrowed := true }
def FnUnpack32UptoSaid : Prop := fnUnpack32UptoRow.holds Tryd.pinned (OpenSpec.upto fnUnpack32Spec)

/-- 'laws.FnUnpack16', WHERE WHAT IT READS IS OF BULK AT MOST 1048576: true; the input reads as it did. -/
def fnUnpack16UptoRow : OpenClaim := { program := "ytidcmpjcghbofaadoor", sum := "04f27305637166eaeb43347a8f1cc8f08127f817b33dabe00701d2f5258113ae", func := "given.example/pub-arrowroot/laws.FnUnpack16", spec := "fnUnpack16", unfollowed := true, recurses := true, named := ["encoding/binary.LittleEndian", "io.ErrShortBuffer", "io.EOF", "io.ErrUnexpectedEOF"], apart := false, laid := [("io.ErrShortBuffer", laid_io_ErrShortBuffer), ("io.EOF", laid_io_EOF), ("io.ErrUnexpectedEOF", laid_io_ErrUnexpectedEOF)], narrowed := true }
def FnUnpack16UptoSaid : Prop := fnUnpack16UptoRow.holds Tryd.pinned (OpenSpec.upto fnUnpack16Spec)

/-- 'laws.FnUnpack24', WHERE WHAT IT READS IS OF BULK AT MOST 1048576: true; the input reads as it did. -/
def fnUnpack24UptoRow : OpenClaim := { program := "ytidcmpjcghbofaadoor", sum := "04f27305637166eaeb43347a8f1cc8f08127f817b33dabe00701d2f5258113ae", func := "given.example/pub-arrowroot/laws.FnUnpack24", spec := "fnUnpack24", unfollowed := true, recurses := true, named := ["encoding/binary.LittleEndian", "io.ErrShortBuffer", "io.EOF", "io.ErrUnexpectedEOF"], apart := false, laid := [("io.ErrShortBuffer", laid_io_ErrShortBuffer), ("io.EOF", laid_io_EOF), ("io.ErrUnexpectedEOF", laid_io_ErrUnexpectedEOF)], narrowed := true }
def FnUnpack24UptoSaid : Prop := fnUnpack24UptoRow.holds Tryd.pinned (OpenSpec.upto fnUnpack24Spec)

/-- 'laws.FnUnpack4', WHERE WHAT IT READS IS OF BULK AT MOST 1048576: true; the input reads as it did. -/
def fnUnpack4UptoRow : OpenClaim := { program := "ytidcmpjcghbofaadoor", sum := "04f27305637166eaeb43347a8f1cc8f08127f817b33dabe00701d2f5258113ae", func := "given.example/pub-arrowroot/laws.FnUnpack4", spec := "fnUnpack4", unfollowed := true, recurses := true, named := ["encoding/binary.LittleEndian", "io.ErrShortBuffer", "io.EOF", "io.ErrUnexpectedEOF"], apart := false, laid := [("io.ErrShortBuffer", laid_io_ErrShortBuffer), ("io.EOF", laid_io_EOF), ("io.ErrUnexpectedEOF", laid_io_ErrUnexpectedEOF)], narrowed := true }
def FnUnpack4UptoSaid : Prop := fnUnpack4UptoRow.holds Tryd.pinned (OpenSpec.upto fnUnpack4Spec)

/-- 'laws.FnUnpack28', WHERE WHAT IT READS IS OF BULK AT MOST 1048576: true; the input reads as it did. -/
def fnUnpack28UptoRow : OpenClaim := { program := "ytidcmpjcghbofaadoor", sum := "04f27305637166eaeb43347a8f1cc8f08127f817b33dabe00701d2f5258113ae", func := "given.example/pub-arrowroot/laws.FnUnpack28", spec := "fnUnpack28", unfollowed := true, recurses := true, named := ["encoding/binary.LittleEndian", "io.ErrShortBuffer", "io.EOF", "io.ErrUnexpectedEOF"], apart := false, laid := [("io.ErrShortBuffer", laid_io_ErrShortBuffer), ("io.EOF", laid_io_EOF), ("io.ErrUnexpectedEOF", laid_io_ErrUnexpectedEOF)], narrowed := true }
def FnUnpack28UptoSaid : Prop := fnUnpack28UptoRow.holds Tryd.pinned (OpenSpec.upto fnUnpack28Spec)

/-- 'laws.FnUnpack8', WHERE WHAT IT READS IS OF BULK AT MOST 1048576: true; the input reads as it did. -/
def fnUnpack8UptoRow : OpenClaim := { program := "ytidcmpjcghbofaadoor", sum := "04f27305637166eaeb43347a8f1cc8f08127f817b33dabe00701d2f5258113ae", func := "given.example/pub-arrowroot/laws.FnUnpack8", spec := "fnUnpack8", unfollowed := true, recurses := true, named := ["encoding/binary.LittleEndian", "io.ErrShortBuffer", "io.EOF", "io.ErrUnexpectedEOF"], apart := false, laid := [("io.ErrShortBuffer", laid_io_ErrShortBuffer), ("io.EOF", laid_io_EOF), ("io.ErrUnexpectedEOF", laid_io_ErrUnexpectedEOF)], narrowed := true }
def FnUnpack8UptoSaid : Prop := fnUnpack8UptoRow.holds Tryd.pinned (OpenSpec.upto fnUnpack8Spec)

/-- 'laws.FnUnpack12', WHERE WHAT IT READS IS OF BULK AT MOST 1048576: true; the input reads as it did. -/
def fnUnpack12UptoRow : OpenClaim := { program := "ytidcmpjcghbofaadoor", sum := "04f27305637166eaeb43347a8f1cc8f08127f817b33dabe00701d2f5258113ae", func := "given.example/pub-arrowroot/laws.FnUnpack12", spec := "fnUnpack12", unfollowed := true, recurses := true, named := ["encoding/binary.LittleEndian", "io.ErrShortBuffer", "io.EOF", "io.ErrUnexpectedEOF"], apart := false, laid := [("io.ErrShortBuffer", laid_io_ErrShortBuffer), ("io.EOF", laid_io_EOF), ("io.ErrUnexpectedEOF", laid_io_ErrUnexpectedEOF)], narrowed := true }
def FnUnpack12UptoSaid : Prop := fnUnpack12UptoRow.holds Tryd.pinned (OpenSpec.upto fnUnpack12Spec)

/-- 'laws.FnUnpack20', WHERE WHAT IT READS IS OF BULK AT MOST 1048576: true; the input reads as it did. -/
def fnUnpack20UptoRow : OpenClaim := { program := "ytidcmpjcghbofaadoor", sum := "04f27305637166eaeb43347a8f1cc8f08127f817b33dabe00701d2f5258113ae", func := "given.example/pub-arrowroot/laws.FnUnpack20", spec := "fnUnpack20", unfollowed := true, recurses := true, named := ["encoding/binary.LittleEndian", "io.ErrShortBuffer", "io.EOF", "io.ErrUnexpectedEOF"], apart := false, laid := [("io.ErrShortBuffer", laid_io_ErrShortBuffer), ("io.EOF", laid_io_EOF), ("io.ErrUnexpectedEOF", laid_io_ErrUnexpectedEOF)], narrowed := true }
def FnUnpack20UptoSaid : Prop := fnUnpack20UptoRow.holds Tryd.pinned (OpenSpec.upto fnUnpack20Spec)

end Rows
end Go.Proofs.YtidcmpjcghbofaaDoor
