/-
  DERIVED. GIVEN WITH THE SEED: THE CARDS: each row of YtidcmpjcghbofaaDoorRows.lean that lists a variable, with what it lists TIED to the program's text (the seventh form; the later family's looks); each row that meets fmt, with fmt's text TOLD by the authors' own Lean function (tested against real Go, not proved from fmt's source: count such statements apart). THE CARD IS WHAT COUNTS. Prove the row's statement (the work); the ties are given (YtidcmpjcghbofaaDoorTie.lean); close each card by the builder's one call (the guide's Derived/Test/ToyasCard.lean, 'card_holds'). Laid BY PROGRAM, IN A SANDBOX (cutbox-door.mjs). By AI agents, Wed Nov 11 2026. No macro, syntax, notation, axiom, sorry.
-/
import Derived.Test.YtidcmpjcghbofaaDoorRows
import GoSem.ClaimSeven
namespace Go.Proofs.YtidcmpjcghbofaaDoor
namespace Rows

/-- THE TIED CARD OF 'laws.FnUnpack32'. -/
def fnUnpack32Card : Claim7 := { stood := { row := fnUnpack32Row, standIns := [], harness := (true, "224afeef2aea16010946346a22342af66475e2098b082fb4498c8c78f929dce3"), looks := true }, kinds := [], alts := [], laidByText := true, laidKinds := [.sentinel, .sentinel, .sentinel], laidTests := true, laidLooks := .later }
def FnUnpack32CardSaid : Prop := Claim7.holds Tryd.pinned (.plain (OpenSpec.ofChange fnUnpack32Spec)) fnUnpack32Card

/-- THE TIED CARD OF 'laws.FnUnpack16'. -/
def fnUnpack16Card : Claim7 := { stood := { row := fnUnpack16Row, standIns := [], harness := (true, "224afeef2aea16010946346a22342af66475e2098b082fb4498c8c78f929dce3"), looks := true }, kinds := [], alts := [], laidByText := true, laidKinds := [.sentinel, .sentinel, .sentinel], laidTests := true, laidLooks := .later }
def FnUnpack16CardSaid : Prop := Claim7.holds Tryd.pinned (.plain (OpenSpec.ofChange fnUnpack16Spec)) fnUnpack16Card

/-- THE TIED CARD OF 'laws.FnUnpack24'. -/
def fnUnpack24Card : Claim7 := { stood := { row := fnUnpack24Row, standIns := [], harness := (true, "224afeef2aea16010946346a22342af66475e2098b082fb4498c8c78f929dce3"), looks := true }, kinds := [], alts := [], laidByText := true, laidKinds := [.sentinel, .sentinel, .sentinel], laidTests := true, laidLooks := .later }
def FnUnpack24CardSaid : Prop := Claim7.holds Tryd.pinned (.plain (OpenSpec.ofChange fnUnpack24Spec)) fnUnpack24Card

/-- THE TIED CARD OF 'laws.FnUnpack4'. -/
def fnUnpack4Card : Claim7 := { stood := { row := fnUnpack4Row, standIns := [], harness := (true, "224afeef2aea16010946346a22342af66475e2098b082fb4498c8c78f929dce3"), looks := true }, kinds := [], alts := [], laidByText := true, laidKinds := [.sentinel, .sentinel, .sentinel], laidTests := true, laidLooks := .later }
def FnUnpack4CardSaid : Prop := Claim7.holds Tryd.pinned (.plain (OpenSpec.ofChange fnUnpack4Spec)) fnUnpack4Card

/-- THE TIED CARD OF 'laws.FnUnpack28'. -/
def fnUnpack28Card : Claim7 := { stood := { row := fnUnpack28Row, standIns := [], harness := (true, "224afeef2aea16010946346a22342af66475e2098b082fb4498c8c78f929dce3"), looks := true }, kinds := [], alts := [], laidByText := true, laidKinds := [.sentinel, .sentinel, .sentinel], laidTests := true, laidLooks := .later }
def FnUnpack28CardSaid : Prop := Claim7.holds Tryd.pinned (.plain (OpenSpec.ofChange fnUnpack28Spec)) fnUnpack28Card

/-- THE TIED CARD OF 'laws.FnUnpack8'. -/
def fnUnpack8Card : Claim7 := { stood := { row := fnUnpack8Row, standIns := [], harness := (true, "224afeef2aea16010946346a22342af66475e2098b082fb4498c8c78f929dce3"), looks := true }, kinds := [], alts := [], laidByText := true, laidKinds := [.sentinel, .sentinel, .sentinel], laidTests := true, laidLooks := .later }
def FnUnpack8CardSaid : Prop := Claim7.holds Tryd.pinned (.plain (OpenSpec.ofChange fnUnpack8Spec)) fnUnpack8Card

/-- THE TIED CARD OF 'laws.FnUnpack12'. -/
def fnUnpack12Card : Claim7 := { stood := { row := fnUnpack12Row, standIns := [], harness := (true, "224afeef2aea16010946346a22342af66475e2098b082fb4498c8c78f929dce3"), looks := true }, kinds := [], alts := [], laidByText := true, laidKinds := [.sentinel, .sentinel, .sentinel], laidTests := true, laidLooks := .later }
def FnUnpack12CardSaid : Prop := Claim7.holds Tryd.pinned (.plain (OpenSpec.ofChange fnUnpack12Spec)) fnUnpack12Card

/-- THE TIED CARD OF 'laws.FnUnpack20'. -/
def fnUnpack20Card : Claim7 := { stood := { row := fnUnpack20Row, standIns := [], harness := (true, "224afeef2aea16010946346a22342af66475e2098b082fb4498c8c78f929dce3"), looks := true }, kinds := [], alts := [], laidByText := true, laidKinds := [.sentinel, .sentinel, .sentinel], laidTests := true, laidLooks := .later }
def FnUnpack20CardSaid : Prop := Claim7.holds Tryd.pinned (.plain (OpenSpec.ofChange fnUnpack20Spec)) fnUnpack20Card

/-- THE SECOND FORM's CARD OF 'laws.FnUnpack32'. -/
def fnUnpack32UptoCard : Claim7 := { stood := { row := fnUnpack32UptoRow, standIns := [], harness := (true, "224afeef2aea16010946346a22342af66475e2098b082fb4498c8c78f929dce3"), looks := true }, kinds := [], alts := [], laidByText := true, laidKinds := [.sentinel, .sentinel, .sentinel], laidTests := true, laidLooks := .later }
def FnUnpack32UptoCardSaid : Prop := Claim7.holds Tryd.pinned (.plain (OpenSpec.upto fnUnpack32Spec)) fnUnpack32UptoCard

/-- THE SECOND FORM's CARD OF 'laws.FnUnpack16'. -/
def fnUnpack16UptoCard : Claim7 := { stood := { row := fnUnpack16UptoRow, standIns := [], harness := (true, "224afeef2aea16010946346a22342af66475e2098b082fb4498c8c78f929dce3"), looks := true }, kinds := [], alts := [], laidByText := true, laidKinds := [.sentinel, .sentinel, .sentinel], laidTests := true, laidLooks := .later }
def FnUnpack16UptoCardSaid : Prop := Claim7.holds Tryd.pinned (.plain (OpenSpec.upto fnUnpack16Spec)) fnUnpack16UptoCard

/-- THE SECOND FORM's CARD OF 'laws.FnUnpack24'. -/
def fnUnpack24UptoCard : Claim7 := { stood := { row := fnUnpack24UptoRow, standIns := [], harness := (true, "224afeef2aea16010946346a22342af66475e2098b082fb4498c8c78f929dce3"), looks := true }, kinds := [], alts := [], laidByText := true, laidKinds := [.sentinel, .sentinel, .sentinel], laidTests := true, laidLooks := .later }
def FnUnpack24UptoCardSaid : Prop := Claim7.holds Tryd.pinned (.plain (OpenSpec.upto fnUnpack24Spec)) fnUnpack24UptoCard

/-- THE SECOND FORM's CARD OF 'laws.FnUnpack4'. -/
def fnUnpack4UptoCard : Claim7 := { stood := { row := fnUnpack4UptoRow, standIns := [], harness := (true, "224afeef2aea16010946346a22342af66475e2098b082fb4498c8c78f929dce3"), looks := true }, kinds := [], alts := [], laidByText := true, laidKinds := [.sentinel, .sentinel, .sentinel], laidTests := true, laidLooks := .later }
def FnUnpack4UptoCardSaid : Prop := Claim7.holds Tryd.pinned (.plain (OpenSpec.upto fnUnpack4Spec)) fnUnpack4UptoCard

/-- THE SECOND FORM's CARD OF 'laws.FnUnpack28'. -/
def fnUnpack28UptoCard : Claim7 := { stood := { row := fnUnpack28UptoRow, standIns := [], harness := (true, "224afeef2aea16010946346a22342af66475e2098b082fb4498c8c78f929dce3"), looks := true }, kinds := [], alts := [], laidByText := true, laidKinds := [.sentinel, .sentinel, .sentinel], laidTests := true, laidLooks := .later }
def FnUnpack28UptoCardSaid : Prop := Claim7.holds Tryd.pinned (.plain (OpenSpec.upto fnUnpack28Spec)) fnUnpack28UptoCard

/-- THE SECOND FORM's CARD OF 'laws.FnUnpack8'. -/
def fnUnpack8UptoCard : Claim7 := { stood := { row := fnUnpack8UptoRow, standIns := [], harness := (true, "224afeef2aea16010946346a22342af66475e2098b082fb4498c8c78f929dce3"), looks := true }, kinds := [], alts := [], laidByText := true, laidKinds := [.sentinel, .sentinel, .sentinel], laidTests := true, laidLooks := .later }
def FnUnpack8UptoCardSaid : Prop := Claim7.holds Tryd.pinned (.plain (OpenSpec.upto fnUnpack8Spec)) fnUnpack8UptoCard

/-- THE SECOND FORM's CARD OF 'laws.FnUnpack12'. -/
def fnUnpack12UptoCard : Claim7 := { stood := { row := fnUnpack12UptoRow, standIns := [], harness := (true, "224afeef2aea16010946346a22342af66475e2098b082fb4498c8c78f929dce3"), looks := true }, kinds := [], alts := [], laidByText := true, laidKinds := [.sentinel, .sentinel, .sentinel], laidTests := true, laidLooks := .later }
def FnUnpack12UptoCardSaid : Prop := Claim7.holds Tryd.pinned (.plain (OpenSpec.upto fnUnpack12Spec)) fnUnpack12UptoCard

/-- THE SECOND FORM's CARD OF 'laws.FnUnpack20'. -/
def fnUnpack20UptoCard : Claim7 := { stood := { row := fnUnpack20UptoRow, standIns := [], harness := (true, "224afeef2aea16010946346a22342af66475e2098b082fb4498c8c78f929dce3"), looks := true }, kinds := [], alts := [], laidByText := true, laidKinds := [.sentinel, .sentinel, .sentinel], laidTests := true, laidLooks := .later }
def FnUnpack20UptoCardSaid : Prop := Claim7.holds Tryd.pinned (.plain (OpenSpec.upto fnUnpack20Spec)) fnUnpack20UptoCard
end Rows
end Go.Proofs.YtidcmpjcghbofaaDoor
