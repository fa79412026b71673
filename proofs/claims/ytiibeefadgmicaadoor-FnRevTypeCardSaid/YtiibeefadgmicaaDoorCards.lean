/-
  DERIVED. GIVEN WITH THE SEED: THE CARDS: each row of YtiibeefadgmicaaDoorRows.lean that lists a variable, with what it lists TIED to the program's text (the seventh form; the later family's looks); each row that meets fmt, with fmt's text TOLD by the authors' own Lean function (tested against real Go, not proved from fmt's source: count such statements apart). THE CARD IS WHAT COUNTS. Prove the row's statement (the work); the ties are given (YtiibeefadgmicaaDoorTie.lean); close each card by the builder's one call (the guide's Derived/Test/ToyasCard.lean, 'card_holds'). Laid BY PROGRAM, IN A SANDBOX (cutbox-door.mjs). By AI agents, Wed Nov 11 2026. No macro, syntax, notation, axiom, sorry.
-/
import Derived.Test.YtiibeefadgmicaaDoorRows
import GoSem.ClaimSeven
namespace Go.Proofs.YtiibeefadgmicaaDoor
namespace Rows

/-- THE TIED CARD OF 'laws.FnRevOpen'. -/
def fnRevOpenCard : Claim7 := { stood := { row := fnRevOpenRow, standIns := [], harness := (true, "b05a1858409cf4204b8cb84281e71d847f866e249f8275bc5cb37ea1347ce98f"), looks := true }, kinds := [], alts := [], laidByText := true, laidKinds := [.data, .data, .data, .data, .sentinel, .sentinel, .sentinel, .sentinel, .listed, .data, .sentinel, .sentinel, .pinned, .pinned, .pinned], laidTests := true, laidLooks := .later }
def FnRevOpenCardSaid : Prop := Claim7.holds Tryd.pinned (.plain (OpenSpec.ofChange fnRevOpenSpec)) fnRevOpenCard

/-- THE TIED CARD OF 'laws.FnRevSteps'. -/
def fnRevStepsCard : Claim7 := { stood := { row := fnRevStepsRow, standIns := [], harness := (true, "b05a1858409cf4204b8cb84281e71d847f866e249f8275bc5cb37ea1347ce98f"), looks := true }, kinds := [], alts := [], laidByText := true, laidKinds := [.data, .data, .data, .data, .sentinel, .sentinel, .sentinel, .sentinel, .listed, .data, .sentinel, .sentinel, .pinned, .pinned, .pinned], laidTests := true, laidLooks := .later }
def FnRevStepsCardSaid : Prop := Claim7.holds Tryd.pinned (.plain (OpenSpec.ofChange fnRevStepsSpec)) fnRevStepsCard

/-- THE TIED CARD OF 'laws.FnRevType'. -/
def fnRevTypeCard : Claim7 := { stood := { row := fnRevTypeRow, standIns := [], harness := (true, "b05a1858409cf4204b8cb84281e71d847f866e249f8275bc5cb37ea1347ce98f"), looks := true }, kinds := [], alts := [], laidByText := true, laidKinds := [.data, .data, .data, .data, .sentinel, .sentinel, .sentinel, .sentinel, .listed, .data, .sentinel, .sentinel, .pinned, .pinned, .pinned], laidTests := true, laidLooks := .later }
def FnRevTypeCardSaid : Prop := Claim7.holds Tryd.pinned (.plain (OpenSpec.ofChange fnRevTypeSpec)) fnRevTypeCard

/-- THE TIED CARD OF 'laws.FnRevUpstream'. -/
def fnRevUpstreamCard : Claim7 := { stood := { row := fnRevUpstreamRow, standIns := [], harness := (true, "b05a1858409cf4204b8cb84281e71d847f866e249f8275bc5cb37ea1347ce98f"), looks := true }, kinds := [], alts := [], laidByText := true, laidKinds := [.data, .data, .data, .data, .sentinel, .sentinel, .sentinel, .sentinel, .listed, .data, .sentinel, .sentinel, .pinned, .pinned, .pinned], laidTests := true, laidLooks := .later }
def FnRevUpstreamCardSaid : Prop := Claim7.holds Tryd.pinned (.plain (OpenSpec.ofChange fnRevUpstreamSpec)) fnRevUpstreamCard

/-- THE SECOND FORM's CARD OF 'laws.FnRevOpen'. -/
def fnRevOpenUptoCard : Claim7 := { stood := { row := fnRevOpenUptoRow, standIns := [], harness := (true, "b05a1858409cf4204b8cb84281e71d847f866e249f8275bc5cb37ea1347ce98f"), looks := true }, kinds := [], alts := [], laidByText := true, laidKinds := [.data, .data, .data, .data, .sentinel, .sentinel, .sentinel, .sentinel, .listed, .data, .sentinel, .sentinel, .pinned, .pinned, .pinned], laidTests := true, laidLooks := .later }
def FnRevOpenUptoCardSaid : Prop := Claim7.holds Tryd.pinned (.plain (OpenSpec.upto fnRevOpenSpec)) fnRevOpenUptoCard

/-- THE SECOND FORM's CARD OF 'laws.FnRevSteps'. -/
def fnRevStepsUptoCard : Claim7 := { stood := { row := fnRevStepsUptoRow, standIns := [], harness := (true, "b05a1858409cf4204b8cb84281e71d847f866e249f8275bc5cb37ea1347ce98f"), looks := true }, kinds := [], alts := [], laidByText := true, laidKinds := [.data, .data, .data, .data, .sentinel, .sentinel, .sentinel, .sentinel, .listed, .data, .sentinel, .sentinel, .pinned, .pinned, .pinned], laidTests := true, laidLooks := .later }
def FnRevStepsUptoCardSaid : Prop := Claim7.holds Tryd.pinned (.plain (OpenSpec.upto fnRevStepsSpec)) fnRevStepsUptoCard

/-- THE SECOND FORM's CARD OF 'laws.FnRevType'. -/
def fnRevTypeUptoCard : Claim7 := { stood := { row := fnRevTypeUptoRow, standIns := [], harness := (true, "b05a1858409cf4204b8cb84281e71d847f866e249f8275bc5cb37ea1347ce98f"), looks := true }, kinds := [], alts := [], laidByText := true, laidKinds := [.data, .data, .data, .data, .sentinel, .sentinel, .sentinel, .sentinel, .listed, .data, .sentinel, .sentinel, .pinned, .pinned, .pinned], laidTests := true, laidLooks := .later }
def FnRevTypeUptoCardSaid : Prop := Claim7.holds Tryd.pinned (.plain (OpenSpec.upto fnRevTypeSpec)) fnRevTypeUptoCard

/-- THE SECOND FORM's CARD OF 'laws.FnRevUpstream'. -/
def fnRevUpstreamUptoCard : Claim7 := { stood := { row := fnRevUpstreamUptoRow, standIns := [], harness := (true, "b05a1858409cf4204b8cb84281e71d847f866e249f8275bc5cb37ea1347ce98f"), looks := true }, kinds := [], alts := [], laidByText := true, laidKinds := [.data, .data, .data, .data, .sentinel, .sentinel, .sentinel, .sentinel, .listed, .data, .sentinel, .sentinel, .pinned, .pinned, .pinned], laidTests := true, laidLooks := .later }
def FnRevUpstreamUptoCardSaid : Prop := Claim7.holds Tryd.pinned (.plain (OpenSpec.upto fnRevUpstreamSpec)) fnRevUpstreamUptoCard
end Rows
end Go.Proofs.YtiibeefadgmicaaDoor
