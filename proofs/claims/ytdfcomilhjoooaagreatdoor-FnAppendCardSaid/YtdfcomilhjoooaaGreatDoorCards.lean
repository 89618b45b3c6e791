/-
  DERIVED. GIVEN WITH THE SEED: THE CARDS: each row of YtdfcomilhjoooaaGreatDoorRows.lean that lists a variable, with what it lists TIED to the program's text (the seventh form; the later family's looks); each row that meets fmt, with fmt's text TOLD by the authors' own Lean function (tested against real Go, not proved from fmt's source: count such statements apart). THE CARD IS WHAT COUNTS. Prove the row's statement (the work); the ties are given (YtdfcomilhjoooaaGreatDoorTie.lean); close each card by the builder's one call (the guide's Derived/Test/ToyasCard.lean, 'card_holds'). Laid BY PROGRAM, IN A SANDBOX (cutbox-door.mjs). By AI agents, Wed Nov 11 2026. No macro, syntax, notation, axiom, sorry.
-/
import Derived.Test.YtdfcomilhjoooaaGreatDoorRows
import GoSem.ClaimSeven
namespace Go.Proofs.YtdfcomilhjoooaaGreatDoor
namespace Rows

/-- THE TIED CARD OF 'laws.FnAppend'. -/
def fnAppendCard : Claim7 := { stood := { row := fnAppendRow, standIns := [], harness := (true, "39017a8941516d468eccf0a46099b5d2b54de16aedf4f8ed966e03f83167d0aa"), looks := false }, kinds := [], alts := [], laidByText := true, laidKinds := [.data, .data, .data, .data, .data, .data, .data, .data], laidTests := true, laidLooks := .later }
def FnAppendCardSaid : Prop := Claim7.holds Tryz.pinned (.plain (OpenSpec.ofChange fnAppendSpec)) fnAppendCard

/-- THE TIED CARD OF 'laws.FnCompareInf'. -/
def fnCompareInfCard : Claim7 := { stood := { row := fnCompareInfRow, standIns := [], harness := (true, "39017a8941516d468eccf0a46099b5d2b54de16aedf4f8ed966e03f83167d0aa"), looks := false }, kinds := [], alts := [], laidByText := true, laidKinds := [.data, .data, .data, .data, .data, .data, .data], laidTests := true, laidLooks := .later }
def FnCompareInfCardSaid : Prop := Claim7.holds Tryz.pinned (.plain (OpenSpec.ofChange fnCompareInfSpec)) fnCompareInfCard

/-- THE SECOND FORM's CARD OF 'laws.FnAppend'. -/
def fnAppendUptoCard : Claim7 := { stood := { row := fnAppendUptoRow, standIns := [], harness := (true, "39017a8941516d468eccf0a46099b5d2b54de16aedf4f8ed966e03f83167d0aa"), looks := false }, kinds := [], alts := [], laidByText := true, laidKinds := [.data, .data, .data, .data, .data, .data, .data, .data], laidTests := true, laidLooks := .later }
def FnAppendUptoCardSaid : Prop := Claim7.holds Tryz.pinned (.plain (OpenSpec.upto fnAppendSpec)) fnAppendUptoCard

/-- THE SECOND FORM's CARD OF 'laws.FnCompareInf'. -/
def fnCompareInfUptoCard : Claim7 := { stood := { row := fnCompareInfUptoRow, standIns := [], harness := (true, "39017a8941516d468eccf0a46099b5d2b54de16aedf4f8ed966e03f83167d0aa"), looks := false }, kinds := [], alts := [], laidByText := true, laidKinds := [.data, .data, .data, .data, .data, .data, .data], laidTests := true, laidLooks := .later }
def FnCompareInfUptoCardSaid : Prop := Claim7.holds Tryz.pinned (.plain (OpenSpec.upto fnCompareInfSpec)) fnCompareInfUptoCard
end Rows
end Go.Proofs.YtdfcomilhjoooaaGreatDoor
