/-
  DERIVED. GIVEN WITH THE SEED: THE CARDS: each row of YtdelomacpmpgoaaDoorRows.lean that lists a variable, with what it lists TIED to the program's text (the seventh form; the later family's looks); each row that meets fmt, with fmt's text TOLD by the authors' own Lean function (tested against real Go, not proved from fmt's source: count such statements apart). THE CARD IS WHAT COUNTS. Prove the row's statement (the work); the ties are given (YtdelomacpmpgoaaDoorTie.lean); close each card by the builder's one call (the guide's Derived/Test/ToyasCard.lean, 'card_holds'). Laid BY PROGRAM, IN A SANDBOX (cutbox-door.mjs). By AI agents, Wed Nov 11 2026. No macro, syntax, notation, axiom, sorry.
-/
import Derived.Test.YtdelomacpmpgoaaDoorRows
import GoSem.ClaimSeven
namespace Go.Proofs.YtdelomacpmpgoaaDoor
namespace Rows

/-- THE TIED CARD OF 'laws.FnTreeUnsorted'. -/
def fnTreeUnsortedCard : Claim7 := { stood := { row := fnTreeUnsortedRow, standIns := [], harness := (true, "53a1ac26a02d8f7ce025aa21a24b56a74909d7c6838e6b90996f4e329c512049"), looks := true }, kinds := [], alts := [], laidByText := true, laidKinds := [.data, .data, .data, .sentinel, .sentinel, .sentinel], laidTests := true, laidLooks := .later }
def FnTreeUnsortedCardSaid : Prop := Claim7.holds Tryd.pinned (.plain (OpenSpec.ofChange fnTreeUnsortedSpec)) fnTreeUnsortedCard

/-- THE SECOND FORM's CARD OF 'laws.FnTreeUnsorted'. -/
def fnTreeUnsortedUptoCard : Claim7 := { stood := { row := fnTreeUnsortedUptoRow, standIns := [], harness := (true, "53a1ac26a02d8f7ce025aa21a24b56a74909d7c6838e6b90996f4e329c512049"), looks := true }, kinds := [], alts := [], laidByText := true, laidKinds := [.data, .data, .data, .sentinel, .sentinel, .sentinel], laidTests := true, laidLooks := .later }
def FnTreeUnsortedUptoCardSaid : Prop := Claim7.holds Tryd.pinned (.plain (OpenSpec.upto fnTreeUnsortedSpec)) fnTreeUnsortedUptoCard
end Rows
end Go.Proofs.YtdelomacpmpgoaaDoor
