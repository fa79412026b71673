/-
  DERIVED. GIVEN WITH THE SEED: THE CARDS: each row of YtjbnhigabhembaaDoorRows.lean that lists a variable, with what it lists TIED to the program's text (the seventh form; the later family's looks); each row that meets fmt, with fmt's text TOLD by the authors' own Lean function (tested against real Go, not proved from fmt's source: count such statements apart). THE CARD IS WHAT COUNTS. Prove the row's statement (the work); the ties are given (YtjbnhigabhembaaDoorTie.lean); close each card by the builder's one call (the guide's Derived/Test/ToyasCard.lean, 'card_holds'). Laid BY PROGRAM, IN A SANDBOX (cutbox-door.mjs). By AI agents, Wed Nov 11 2026. No macro, syntax, notation, axiom, sorry.
-/
import Derived.Test.YtjbnhigabhembaaDoorRows
import GoSem.ClaimSeven
namespace Go.Proofs.YtjbnhigabhembaaDoor
namespace Rows

/-- THE TIED CARD OF 'laws.FnPktFlush'. -/
def fnPktFlushCard : Claim7 := { stood := { row := fnPktFlushRow, standIns := [], harness := (true, "e90d33d8da8df8f7375db47f98abb6fa0d2c333f9f6348e9b6cdc313a7e72286"), looks := true }, kinds := [], alts := [], laidByText := true, laidKinds := [.data, .sentinel, .sentinel, .sentinel, .listed, .data, .sentinel, .pinned], laidTests := true, laidLooks := .later }
def FnPktFlushCardSaid : Prop := Claim7.holds Tryd.pinned (.plain (OpenSpec.ofChange fnPktFlushSpec)) fnPktFlushCard

/-- THE SECOND FORM's CARD OF 'laws.FnPktFlush'. -/
def fnPktFlushUptoCard : Claim7 := { stood := { row := fnPktFlushUptoRow, standIns := [], harness := (true, "e90d33d8da8df8f7375db47f98abb6fa0d2c333f9f6348e9b6cdc313a7e72286"), looks := true }, kinds := [], alts := [], laidByText := true, laidKinds := [.data, .sentinel, .sentinel, .sentinel, .listed, .data, .sentinel, .pinned], laidTests := true, laidLooks := .later }
def FnPktFlushUptoCardSaid : Prop := Claim7.holds Tryd.pinned (.plain (OpenSpec.upto fnPktFlushSpec)) fnPktFlushUptoCard
end Rows
end Go.Proofs.YtjbnhigabhembaaDoor
