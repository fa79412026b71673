/-
  DERIVED. GIVEN WITH THE SEED: THE CARDS: each row of YtmpinpndfllcdaaDoorRows.lean that lists a variable, with what it lists TIED to the program's text (the seventh form; the later family's looks); each row that meets fmt, with fmt's text TOLD by the authors' own Lean function (tested against real Go, not proved from fmt's source: count such statements apart). THE CARD IS WHAT COUNTS. Prove the row's statement (the work); the ties are given (YtmpinpndfllcdaaDoorTie.lean); close each card by the builder's one call (the guide's Derived/Test/ToyasCard.lean, 'card_holds'). Laid BY PROGRAM, IN A SANDBOX (cutbox-door.mjs). By AI agents, Wed Nov 11 2026. No macro, syntax, notation, axiom, sorry.
-/
import Derived.Test.YtmpinpndfllcdaaDoorRows
import GoSem.ClaimSeven
namespace Go.Proofs.YtmpinpndfllcdaaDoor
namespace Rows

/-- THE TIED CARD OF 'laws.FnPktAny'. -/
def fnPktAnyCard : Claim7 := { stood := { row := fnPktAnyRow, standIns := [], harness := (true, "fe4e7c1563105c1745f8d8438e3cd643ec21f18e03ea8f53f1d817e9844f46fa"), looks := true }, kinds := [], alts := [], laidByText := true, laidKinds := [.data, .sentinel, .sentinel, .sentinel, .listed, .data, .sentinel, .pinned], laidTests := true, laidLooks := .later }
def FnPktAnyCardSaid : Prop := Claim7.holds Tryd.pinned (.plain (OpenSpec.ofChange fnPktAnySpec)) fnPktAnyCard

/-- THE TIED CARD OF 'laws.FnPktRead'. -/
def fnPktReadCard : Claim7 := { stood := { row := fnPktReadRow, standIns := [], harness := (true, "fe4e7c1563105c1745f8d8438e3cd643ec21f18e03ea8f53f1d817e9844f46fa"), looks := true }, kinds := [], alts := [], laidByText := true, laidKinds := [.data, .sentinel, .sentinel, .sentinel, .listed, .data, .sentinel, .pinned], laidTests := true, laidLooks := .later }
def FnPktReadCardSaid : Prop := Claim7.holds Tryd.pinned (.plain (OpenSpec.ofChange fnPktReadSpec)) fnPktReadCard

/-- THE SECOND FORM's CARD OF 'laws.FnPktAny'. -/
def fnPktAnyUptoCard : Claim7 := { stood := { row := fnPktAnyUptoRow, standIns := [], harness := (true, "fe4e7c1563105c1745f8d8438e3cd643ec21f18e03ea8f53f1d817e9844f46fa"), looks := true }, kinds := [], alts := [], laidByText := true, laidKinds := [.data, .sentinel, .sentinel, .sentinel, .listed, .data, .sentinel, .pinned], laidTests := true, laidLooks := .later }
def FnPktAnyUptoCardSaid : Prop := Claim7.holds Tryd.pinned (.plain (OpenSpec.upto fnPktAnySpec)) fnPktAnyUptoCard

/-- THE SECOND FORM's CARD OF 'laws.FnPktRead'. -/
def fnPktReadUptoCard : Claim7 := { stood := { row := fnPktReadUptoRow, standIns := [], harness := (true, "fe4e7c1563105c1745f8d8438e3cd643ec21f18e03ea8f53f1d817e9844f46fa"), looks := true }, kinds := [], alts := [], laidByText := true, laidKinds := [.data, .sentinel, .sentinel, .sentinel, .listed, .data, .sentinel, .pinned], laidTests := true, laidLooks := .later }
def FnPktReadUptoCardSaid : Prop := Claim7.holds Tryd.pinned (.plain (OpenSpec.upto fnPktReadSpec)) fnPktReadUptoCard
end Rows
end Go.Proofs.YtmpinpndfllcdaaDoor
