/-
  DERIVED. GIVEN WITH THE SEED: THE CARDS: each row of YtmdffoplfiamlaaDoorRows.lean that lists a variable, with what it lists TIED to the program's text (the seventh form; the later family's looks); each row that meets fmt, with fmt's text TOLD by the authors' own Lean function (tested against real Go, not proved from fmt's source: count such statements apart). THE CARD IS WHAT COUNTS. Prove the row's statement (the work); the ties are given (YtmdffoplfiamlaaDoorTie.lean); close each card by the builder's one call (the guide's Derived/Test/ToyasCard.lean, 'card_holds'). Laid BY PROGRAM, IN A SANDBOX (cutbox-door.mjs). By AI agents, Wed Nov 11 2026. No macro, syntax, notation, axiom, sorry.
-/
import Derived.Test.YtmdffoplfiamlaaDoorRows
import GoSem.ClaimSeven
namespace Go.Proofs.YtmdffoplfiamlaaDoor
namespace Rows

/-- THE TIED CARD OF 'laws.FnFindEach'. -/
def fnFindEachCard : Claim7 := { stood := { row := fnFindEachRow, standIns := [], harness := (true, "f1db90a4696de7cd2fe5a0ea8c54b4d8a19bdabdeb2837aa172452a76e04499d"), looks := true }, kinds := [], alts := [], laidByText := true, laidKinds := [.sentinel, .sentinel, .sentinel, .sentinel, .sentinel, .sentinel, .sentinel], laidTests := true, laidLooks := .later }
def FnFindEachCardSaid : Prop := Claim7.holds Tryd.pinned (.plain (OpenSpec.ofChange fnFindEachSpec)) fnFindEachCard

/-- THE TIED CARD OF 'laws.FnWhoRead'. -/
def fnWhoReadCard : Claim7 := { stood := { row := fnWhoReadRow, standIns := [], harness := (true, "f1db90a4696de7cd2fe5a0ea8c54b4d8a19bdabdeb2837aa172452a76e04499d"), looks := true }, kinds := [], alts := [], laidByText := true, laidKinds := [.data, .data, .data, .data, .sentinel, .sentinel, .pinned], laidTests := true, laidLooks := .later }
def FnWhoReadCardSaid : Prop := Claim7.holds Tryd.pinned (.plain (OpenSpec.ofChange fnWhoReadSpec)) fnWhoReadCard

/-- THE SECOND FORM's CARD OF 'laws.FnFindEach'. -/
def fnFindEachUptoCard : Claim7 := { stood := { row := fnFindEachUptoRow, standIns := [], harness := (true, "f1db90a4696de7cd2fe5a0ea8c54b4d8a19bdabdeb2837aa172452a76e04499d"), looks := true }, kinds := [], alts := [], laidByText := true, laidKinds := [.sentinel, .sentinel, .sentinel, .sentinel, .sentinel, .sentinel, .sentinel], laidTests := true, laidLooks := .later }
def FnFindEachUptoCardSaid : Prop := Claim7.holds Tryd.pinned (.plain (OpenSpec.upto fnFindEachSpec)) fnFindEachUptoCard

/-- THE SECOND FORM's CARD OF 'laws.FnWhoRead'. -/
def fnWhoReadUptoCard : Claim7 := { stood := { row := fnWhoReadUptoRow, standIns := [], harness := (true, "f1db90a4696de7cd2fe5a0ea8c54b4d8a19bdabdeb2837aa172452a76e04499d"), looks := true }, kinds := [], alts := [], laidByText := true, laidKinds := [.data, .data, .data, .data, .sentinel, .sentinel, .pinned], laidTests := true, laidLooks := .later }
def FnWhoReadUptoCardSaid : Prop := Claim7.holds Tryd.pinned (.plain (OpenSpec.upto fnWhoReadSpec)) fnWhoReadUptoCard
end Rows
end Go.Proofs.YtmdffoplfiamlaaDoor
