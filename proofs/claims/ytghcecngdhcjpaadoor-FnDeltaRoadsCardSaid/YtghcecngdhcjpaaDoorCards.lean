/-
  DERIVED. GIVEN WITH THE SEED: THE CARDS: each row of YtghcecngdhcjpaaDoorRows.lean that lists a variable, with what it lists TIED to the program's text (the seventh form; the later family's looks); each row that meets fmt, with fmt's text TOLD by the authors' own Lean function (tested against real Go, not proved from fmt's source: count such statements apart). THE CARD IS WHAT COUNTS. Prove the row's statement (the work); the ties are given (YtghcecngdhcjpaaDoorTie.lean); close each card by the builder's one call (the guide's Derived/Test/ToyasCard.lean, 'card_holds'). Laid BY PROGRAM, IN A SANDBOX (cutbox-door.mjs). By AI agents, Wed Nov 11 2026. No macro, syntax, notation, axiom, sorry.
-/
import Derived.Test.YtghcecngdhcjpaaDoorRows
import GoSem.ClaimSeven
namespace Go.Proofs.YtghcecngdhcjpaaDoor
namespace Rows

/-- THE TIED CARD OF 'laws.FnSideBack'. -/
def fnSideBackCard : Claim7 := { stood := { row := fnSideBackRow, standIns := [], harness := (true, "72e75f488eae954726e2ae4f5f4a4960151bf165516686b355d8f26e6f9b766a"), looks := true }, kinds := [], alts := [], laidByText := true, laidKinds := [.data, .sentinel, .sentinel, .sentinel, .listed, .sentinel, .data, .sentinel, .sentinel, .sentinel, .pinned], laidTests := true, laidLooks := .later }
def FnSideBackCardSaid : Prop := Claim7.holds Tryd.pinned (.plain (OpenSpec.ofChange fnSideBackSpec)) fnSideBackCard

/-- THE TIED CARD OF 'laws.FnDeltaRoads'. -/
def fnDeltaRoadsCard : Claim7 := { stood := { row := fnDeltaRoadsRow, standIns := [], harness := (true, "72e75f488eae954726e2ae4f5f4a4960151bf165516686b355d8f26e6f9b766a"), looks := true }, kinds := [], alts := [], laidByText := true, laidKinds := [.sentinel, .sentinel, .sentinel, .sentinel, .sentinel, .sentinel, .sentinel, .data, .data, .sentinel], laidTests := true, laidLooks := .later }
def FnDeltaRoadsCardSaid : Prop := Claim7.holds Tryd.pinned (.plain (OpenSpec.ofChange fnDeltaRoadsSpec)) fnDeltaRoadsCard

/-- THE SECOND FORM's CARD OF 'laws.FnSideBack'. -/
def fnSideBackUptoCard : Claim7 := { stood := { row := fnSideBackUptoRow, standIns := [], harness := (true, "72e75f488eae954726e2ae4f5f4a4960151bf165516686b355d8f26e6f9b766a"), looks := true }, kinds := [], alts := [], laidByText := true, laidKinds := [.data, .sentinel, .sentinel, .sentinel, .listed, .sentinel, .data, .sentinel, .sentinel, .sentinel, .pinned], laidTests := true, laidLooks := .later }
def FnSideBackUptoCardSaid : Prop := Claim7.holds Tryd.pinned (.plain (OpenSpec.upto fnSideBackSpec)) fnSideBackUptoCard

/-- THE SECOND FORM's CARD OF 'laws.FnDeltaRoads'. -/
def fnDeltaRoadsUptoCard : Claim7 := { stood := { row := fnDeltaRoadsUptoRow, standIns := [], harness := (true, "72e75f488eae954726e2ae4f5f4a4960151bf165516686b355d8f26e6f9b766a"), looks := true }, kinds := [], alts := [], laidByText := true, laidKinds := [.sentinel, .sentinel, .sentinel, .sentinel, .sentinel, .sentinel, .sentinel, .data, .data, .sentinel], laidTests := true, laidLooks := .later }
def FnDeltaRoadsUptoCardSaid : Prop := Claim7.holds Tryd.pinned (.plain (OpenSpec.upto fnDeltaRoadsSpec)) fnDeltaRoadsUptoCard
end Rows
end Go.Proofs.YtghcecngdhcjpaaDoor
