/-
  DERIVED. GIVEN WITH THE SEED: THE CARDS: each row of YtdobblddnfalcaaDoorRows.lean that lists a variable, with what it lists TIED to the program's text (the seventh form; the later family's looks); each row that meets fmt, with fmt's text TOLD by the authors' own Lean function (tested against real Go, not proved from fmt's source: count such statements apart). THE CARD IS WHAT COUNTS. Prove the row's statement (the work); the ties are given (YtdobblddnfalcaaDoorTie.lean); close each card by the builder's one call (the guide's Derived/Test/ToyasCard.lean, 'card_holds'). Laid BY PROGRAM, IN A SANDBOX (cutbox-door.mjs). By AI agents, Wed Nov 11 2026. No macro, syntax, notation, axiom, sorry.
-/
import Derived.Test.YtdobblddnfalcaaDoorRows
import GoSem.ClaimSeven
namespace Go.Proofs.YtdobblddnfalcaaDoor
namespace Rows

/-- THE TIED CARD OF 'laws.FnCapsWritten'. -/
def fnCapsWrittenCard : Claim7 := { stood := { row := fnCapsWrittenRow, standIns := [], harness := (true, "9c4954d7dc058f9d3863779b83ab6410b1208d6bc91d9d4f864e5ed16e1528c7"), looks := true }, kinds := [], alts := [], laidByText := true, laidKinds := [.data, .sentinel, .sentinel, .sentinel, .listed, .data, .sentinel, .sentinel, .sentinel, .sentinel, .sentinel, .pinned], laidTests := true, laidLooks := .later }
def FnCapsWrittenCardSaid : Prop := Claim7.holds Tryd.pinned (.plain (OpenSpec.ofChange fnCapsWrittenSpec)) fnCapsWrittenCard

/-- THE TIED CARD OF 'laws.FnCapsSet'. -/
def fnCapsSetCard : Claim7 := { stood := { row := fnCapsSetRow, standIns := [], harness := (true, "9c4954d7dc058f9d3863779b83ab6410b1208d6bc91d9d4f864e5ed16e1528c7"), looks := true }, kinds := [], alts := [], laidByText := true, laidKinds := [.data, .sentinel, .sentinel, .sentinel, .listed, .data, .data, .sentinel, .sentinel, .sentinel, .sentinel, .sentinel, .pinned], laidTests := true, laidLooks := .later }
def FnCapsSetCardSaid : Prop := Claim7.holds Tryd.pinned (.plain (OpenSpec.ofChange fnCapsSetSpec)) fnCapsSetCard

/-- THE SECOND FORM's CARD OF 'laws.FnCapsWritten'. -/
def fnCapsWrittenUptoCard : Claim7 := { stood := { row := fnCapsWrittenUptoRow, standIns := [], harness := (true, "9c4954d7dc058f9d3863779b83ab6410b1208d6bc91d9d4f864e5ed16e1528c7"), looks := true }, kinds := [], alts := [], laidByText := true, laidKinds := [.data, .sentinel, .sentinel, .sentinel, .listed, .data, .sentinel, .sentinel, .sentinel, .sentinel, .sentinel, .pinned], laidTests := true, laidLooks := .later }
def FnCapsWrittenUptoCardSaid : Prop := Claim7.holds Tryd.pinned (.plain (OpenSpec.upto fnCapsWrittenSpec)) fnCapsWrittenUptoCard

/-- THE SECOND FORM's CARD OF 'laws.FnCapsSet'. -/
def fnCapsSetUptoCard : Claim7 := { stood := { row := fnCapsSetUptoRow, standIns := [], harness := (true, "9c4954d7dc058f9d3863779b83ab6410b1208d6bc91d9d4f864e5ed16e1528c7"), looks := true }, kinds := [], alts := [], laidByText := true, laidKinds := [.data, .sentinel, .sentinel, .sentinel, .listed, .data, .data, .sentinel, .sentinel, .sentinel, .sentinel, .sentinel, .pinned], laidTests := true, laidLooks := .later }
def FnCapsSetUptoCardSaid : Prop := Claim7.holds Tryd.pinned (.plain (OpenSpec.upto fnCapsSetSpec)) fnCapsSetUptoCard
end Rows
end Go.Proofs.YtdobblddnfalcaaDoor
