/-
  DERIVED. GIVEN WITH THE SEED: THE CARDS: each row of YtdobblddnfalcaaGreatDoorRows.lean that lists a variable, with what it lists TIED to the program's text (the seventh form; the later family's looks); each row that meets fmt, with fmt's text TOLD by the authors' own Lean function (tested against real Go, not proved from fmt's source: count such statements apart). THE CARD IS WHAT COUNTS. Prove the row's statement (the work); the ties are given (YtdobblddnfalcaaGreatDoorTie.lean); close each card by the builder's one call (the guide's Derived/Test/ToyasCard.lean, 'card_holds'). Laid BY PROGRAM, IN A SANDBOX (cutbox-door.mjs). By AI agents, Wed Nov 11 2026. No macro, syntax, notation, axiom, sorry.
-/
import Derived.Test.YtdobblddnfalcaaGreatDoorRows
import GoSem.ClaimSeven
namespace Go.Proofs.YtdobblddnfalcaaGreatDoor
namespace Rows

/-- THE TIED CARD OF 'laws.FnProtoAdvRead'. -/
def fnProtoAdvReadCard : Claim7 := { stood := { row := fnProtoAdvReadRow, standIns := [], harness := (true, "e53836fbefe85e50672b18ed811470a304e4340614d63d2cea4fb09f597635bd"), looks := true }, kinds := [], alts := [], laidByText := true, laidKinds := [.data, .sentinel, .sentinel, .sentinel, .listed, .data, .data, .sentinel, .sentinel, .sentinel, .sentinel, .sentinel, .sentinel, .sentinel, .sentinel, .pinned], laidTests := true, laidLooks := .later }
def FnProtoAdvReadCardSaid : Prop := Claim7.holds Tryz.pinned (.plain (OpenSpec.ofChange fnProtoAdvReadSpec)) fnProtoAdvReadCard

/-- THE TIED CARD OF 'laws.FnProtoHaves'. -/
def fnProtoHavesCard : Claim7 := { stood := { row := fnProtoHavesRow, standIns := [], harness := (true, "e53836fbefe85e50672b18ed811470a304e4340614d63d2cea4fb09f597635bd"), looks := true }, kinds := [], alts := [], laidByText := true, laidKinds := [.data, .sentinel, .sentinel, .sentinel, .listed, .data, .sentinel, .sentinel, .sentinel, .pinned], laidTests := true, laidLooks := .later }
def FnProtoHavesCardSaid : Prop := Claim7.holds Tryz.pinned (.plain (OpenSpec.ofChange fnProtoHavesSpec)) fnProtoHavesCard

/-- THE TIED CARD OF 'laws.FnProtoWantSorted'. -/
def fnProtoWantSortedCard : Claim7 := { stood := { row := fnProtoWantSortedRow, standIns := [], harness := (true, "e53836fbefe85e50672b18ed811470a304e4340614d63d2cea4fb09f597635bd"), looks := true }, kinds := [], alts := [], laidByText := true, laidKinds := [.data, .data, .data, .data, .sentinel, .sentinel, .sentinel, .listed, .data, .sentinel, .sentinel, .sentinel, .sentinel, .sentinel, .sentinel, .sentinel, .pinned], laidTests := true, laidLooks := .later }
def FnProtoWantSortedCardSaid : Prop := Claim7.holds Tryz.pinned (.plain (OpenSpec.ofChange fnProtoWantSortedSpec)) fnProtoWantSortedCard

/-- THE SECOND FORM's CARD OF 'laws.FnProtoAdvRead'. -/
def fnProtoAdvReadUptoCard : Claim7 := { stood := { row := fnProtoAdvReadUptoRow, standIns := [], harness := (true, "e53836fbefe85e50672b18ed811470a304e4340614d63d2cea4fb09f597635bd"), looks := true }, kinds := [], alts := [], laidByText := true, laidKinds := [.data, .sentinel, .sentinel, .sentinel, .listed, .data, .data, .sentinel, .sentinel, .sentinel, .sentinel, .sentinel, .sentinel, .sentinel, .sentinel, .pinned], laidTests := true, laidLooks := .later }
def FnProtoAdvReadUptoCardSaid : Prop := Claim7.holds Tryz.pinned (.plain (OpenSpec.upto fnProtoAdvReadSpec)) fnProtoAdvReadUptoCard

/-- THE SECOND FORM's CARD OF 'laws.FnProtoHaves'. -/
def fnProtoHavesUptoCard : Claim7 := { stood := { row := fnProtoHavesUptoRow, standIns := [], harness := (true, "e53836fbefe85e50672b18ed811470a304e4340614d63d2cea4fb09f597635bd"), looks := true }, kinds := [], alts := [], laidByText := true, laidKinds := [.data, .sentinel, .sentinel, .sentinel, .listed, .data, .sentinel, .sentinel, .sentinel, .pinned], laidTests := true, laidLooks := .later }
def FnProtoHavesUptoCardSaid : Prop := Claim7.holds Tryz.pinned (.plain (OpenSpec.upto fnProtoHavesSpec)) fnProtoHavesUptoCard

/-- THE SECOND FORM's CARD OF 'laws.FnProtoWantSorted'. -/
def fnProtoWantSortedUptoCard : Claim7 := { stood := { row := fnProtoWantSortedUptoRow, standIns := [], harness := (true, "e53836fbefe85e50672b18ed811470a304e4340614d63d2cea4fb09f597635bd"), looks := true }, kinds := [], alts := [], laidByText := true, laidKinds := [.data, .data, .data, .data, .sentinel, .sentinel, .sentinel, .listed, .data, .sentinel, .sentinel, .sentinel, .sentinel, .sentinel, .sentinel, .sentinel, .pinned], laidTests := true, laidLooks := .later }
def FnProtoWantSortedUptoCardSaid : Prop := Claim7.holds Tryz.pinned (.plain (OpenSpec.upto fnProtoWantSortedSpec)) fnProtoWantSortedUptoCard
end Rows
end Go.Proofs.YtdobblddnfalcaaGreatDoor
