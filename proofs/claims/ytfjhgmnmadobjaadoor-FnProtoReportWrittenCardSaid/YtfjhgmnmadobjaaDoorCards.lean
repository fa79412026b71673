/-
  DERIVED. GIVEN WITH THE SEED: THE CARDS: each row of YtfjhgmnmadobjaaDoorRows.lean that lists a variable, with what it lists TIED to the program's text (the seventh form; the later family's looks); each row that meets fmt, with fmt's text TOLD by the authors' own Lean function (tested against real Go, not proved from fmt's source: count such statements apart). THE CARD IS WHAT COUNTS. Prove the row's statement (the work); the ties are given (YtfjhgmnmadobjaaDoorTie.lean); close each card by the builder's one call (the guide's Derived/Test/ToyasCard.lean, 'card_holds'). Laid BY PROGRAM, IN A SANDBOX (cutbox-door.mjs). By AI agents, Wed Nov 11 2026. No macro, syntax, notation, axiom, sorry.
-/
import Derived.Test.YtfjhgmnmadobjaaDoorRows
import GoSem.ClaimSeven
namespace Go.Proofs.YtfjhgmnmadobjaaDoor
namespace Rows

/-- THE TIED CARD OF 'laws.FnProtoFirstWritten'. -/
def fnProtoFirstWrittenCard : Claim7 := { stood := { row := fnProtoFirstWrittenRow, standIns := [], harness := (true, "c77a3f28adf9e9776863cf1f4c3d3f7e9fcae12ebd7ba40c0e0abd68abf88ae6"), looks := true }, kinds := [], alts := [], laidByText := true, laidKinds := [.data, .sentinel, .sentinel, .sentinel, .listed, .data, .sentinel, .sentinel, .sentinel, .sentinel, .pinned], laidTests := true, laidLooks := .later }
def FnProtoFirstWrittenCardSaid : Prop := Claim7.holds Tryd.pinned (.plain (OpenSpec.ofChange fnProtoFirstWrittenSpec)) fnProtoFirstWrittenCard

/-- THE TIED CARD OF 'laws.FnProtoReportWritten'. -/
def fnProtoReportWrittenCard : Claim7 := { stood := { row := fnProtoReportWrittenRow, standIns := [], harness := (true, "c77a3f28adf9e9776863cf1f4c3d3f7e9fcae12ebd7ba40c0e0abd68abf88ae6"), looks := true }, kinds := [], alts := [], laidByText := true, laidKinds := [.data, .sentinel, .sentinel, .sentinel, .listed, .data, .sentinel, .sentinel, .pinned], laidTests := true, laidLooks := .later }
def FnProtoReportWrittenCardSaid : Prop := Claim7.holds Tryd.pinned (.plain (OpenSpec.ofChange fnProtoReportWrittenSpec)) fnProtoReportWrittenCard

/-- THE SECOND FORM's CARD OF 'laws.FnProtoFirstWritten'. -/
def fnProtoFirstWrittenUptoCard : Claim7 := { stood := { row := fnProtoFirstWrittenUptoRow, standIns := [], harness := (true, "c77a3f28adf9e9776863cf1f4c3d3f7e9fcae12ebd7ba40c0e0abd68abf88ae6"), looks := true }, kinds := [], alts := [], laidByText := true, laidKinds := [.data, .sentinel, .sentinel, .sentinel, .listed, .data, .sentinel, .sentinel, .sentinel, .sentinel, .pinned], laidTests := true, laidLooks := .later }
def FnProtoFirstWrittenUptoCardSaid : Prop := Claim7.holds Tryd.pinned (.plain (OpenSpec.upto fnProtoFirstWrittenSpec)) fnProtoFirstWrittenUptoCard

/-- THE SECOND FORM's CARD OF 'laws.FnProtoReportWritten'. -/
def fnProtoReportWrittenUptoCard : Claim7 := { stood := { row := fnProtoReportWrittenUptoRow, standIns := [], harness := (true, "c77a3f28adf9e9776863cf1f4c3d3f7e9fcae12ebd7ba40c0e0abd68abf88ae6"), looks := true }, kinds := [], alts := [], laidByText := true, laidKinds := [.data, .sentinel, .sentinel, .sentinel, .listed, .data, .sentinel, .sentinel, .pinned], laidTests := true, laidLooks := .later }
def FnProtoReportWrittenUptoCardSaid : Prop := Claim7.holds Tryd.pinned (.plain (OpenSpec.upto fnProtoReportWrittenSpec)) fnProtoReportWrittenUptoCard
end Rows
end Go.Proofs.YtfjhgmnmadobjaaDoor
