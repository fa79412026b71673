/-
  DERIVED. GIVEN WITH THE SEED: THE CARDS: each row of YthjeihbnlfnkcaaDoorRows.lean that lists a variable, with what it lists TIED to the program's text (the seventh form; the later family's looks); each row that meets fmt, with fmt's text TOLD by the authors' own Lean function (tested against real Go, not proved from fmt's source: count such statements apart). THE CARD IS WHAT COUNTS. Prove the row's statement (the work); the ties are given (YthjeihbnlfnkcaaDoorTie.lean); close each card by the builder's one call (the guide's Derived/Test/ToyasCard.lean, 'card_holds'). Laid BY PROGRAM, IN A SANDBOX (cutbox-door.mjs). By AI agents, Wed Nov 11 2026. No macro, syntax, notation, axiom, sorry.
-/
import Derived.Test.YthjeihbnlfnkcaaDoorRows
import GoSem.ClaimSeven
namespace Go.Proofs.YthjeihbnlfnkcaaDoor
namespace Rows

/-- THE TIED CARD OF 'laws.FnCapsWritten'. -/
def fnCapsWrittenCard : Claim7 := { stood := { row := fnCapsWrittenRow, standIns := [], harness := (true, "1a93d52d4fe1b2ca0eeebcd343eb223b4a4d2c807bd840b06ee3b2fd177c7d6b"), looks := true }, kinds := [], alts := [], laidByText := true, laidKinds := [.data, .sentinel, .sentinel, .sentinel, .listed, .data, .sentinel, .sentinel, .sentinel, .sentinel, .sentinel, .pinned], laidTests := true, laidLooks := .later }
def FnCapsWrittenCardSaid : Prop := Claim7.holds Tryd.pinned (.plain (OpenSpec.ofChange fnCapsWrittenSpec)) fnCapsWrittenCard

/-- THE TIED CARD OF 'laws.FnProtoShallowRead'. -/
def fnProtoShallowReadCard : Claim7 := { stood := { row := fnProtoShallowReadRow, standIns := [], harness := (true, "1a93d52d4fe1b2ca0eeebcd343eb223b4a4d2c807bd840b06ee3b2fd177c7d6b"), looks := true }, kinds := [], alts := [], laidByText := true, laidKinds := [.data, .sentinel, .sentinel, .sentinel, .listed, .data, .data, .sentinel, .sentinel, .pinned], laidTests := true, laidLooks := .later }
def FnProtoShallowReadCardSaid : Prop := Claim7.holds Tryd.pinned (.plain (OpenSpec.ofChange fnProtoShallowReadSpec)) fnProtoShallowReadCard

/-- THE TIED CARD OF 'laws.FnCapsSet'. -/
def fnCapsSetCard : Claim7 := { stood := { row := fnCapsSetRow, standIns := [], harness := (true, "1a93d52d4fe1b2ca0eeebcd343eb223b4a4d2c807bd840b06ee3b2fd177c7d6b"), looks := true }, kinds := [], alts := [], laidByText := true, laidKinds := [.data, .sentinel, .sentinel, .sentinel, .listed, .data, .data, .sentinel, .sentinel, .sentinel, .sentinel, .sentinel, .pinned], laidTests := true, laidLooks := .later }
def FnCapsSetCardSaid : Prop := Claim7.holds Tryd.pinned (.plain (OpenSpec.ofChange fnCapsSetSpec)) fnCapsSetCard

/-- THE SECOND FORM's CARD OF 'laws.FnCapsWritten'. -/
def fnCapsWrittenUptoCard : Claim7 := { stood := { row := fnCapsWrittenUptoRow, standIns := [], harness := (true, "1a93d52d4fe1b2ca0eeebcd343eb223b4a4d2c807bd840b06ee3b2fd177c7d6b"), looks := true }, kinds := [], alts := [], laidByText := true, laidKinds := [.data, .sentinel, .sentinel, .sentinel, .listed, .data, .sentinel, .sentinel, .sentinel, .sentinel, .sentinel, .pinned], laidTests := true, laidLooks := .later }
def FnCapsWrittenUptoCardSaid : Prop := Claim7.holds Tryd.pinned (.plain (OpenSpec.upto fnCapsWrittenSpec)) fnCapsWrittenUptoCard

/-- THE SECOND FORM's CARD OF 'laws.FnProtoShallowRead'. -/
def fnProtoShallowReadUptoCard : Claim7 := { stood := { row := fnProtoShallowReadUptoRow, standIns := [], harness := (true, "1a93d52d4fe1b2ca0eeebcd343eb223b4a4d2c807bd840b06ee3b2fd177c7d6b"), looks := true }, kinds := [], alts := [], laidByText := true, laidKinds := [.data, .sentinel, .sentinel, .sentinel, .listed, .data, .data, .sentinel, .sentinel, .pinned], laidTests := true, laidLooks := .later }
def FnProtoShallowReadUptoCardSaid : Prop := Claim7.holds Tryd.pinned (.plain (OpenSpec.upto fnProtoShallowReadSpec)) fnProtoShallowReadUptoCard

/-- THE SECOND FORM's CARD OF 'laws.FnCapsSet'. -/
def fnCapsSetUptoCard : Claim7 := { stood := { row := fnCapsSetUptoRow, standIns := [], harness := (true, "1a93d52d4fe1b2ca0eeebcd343eb223b4a4d2c807bd840b06ee3b2fd177c7d6b"), looks := true }, kinds := [], alts := [], laidByText := true, laidKinds := [.data, .sentinel, .sentinel, .sentinel, .listed, .data, .data, .sentinel, .sentinel, .sentinel, .sentinel, .sentinel, .pinned], laidTests := true, laidLooks := .later }
def FnCapsSetUptoCardSaid : Prop := Claim7.holds Tryd.pinned (.plain (OpenSpec.upto fnCapsSetSpec)) fnCapsSetUptoCard
end Rows
end Go.Proofs.YthjeihbnlfnkcaaDoor
