/-
  DERIVED. GIVEN WITH THE SEED: THE CARDS: each row of YtoofbppfbbhliaaDoorRows.lean that lists a variable, with what it lists TIED to the program's text (the seventh form; the later family's looks); each row that meets fmt, with fmt's text TOLD by the authors' own Lean function (tested against real Go, not proved from fmt's source: count such statements apart). THE CARD IS WHAT COUNTS. Prove the row's statement (the work); the ties are given (YtoofbppfbbhliaaDoorTie.lean); close each card by the builder's one call (the guide's Derived/Test/ToyasCard.lean, 'card_holds'). Laid BY PROGRAM, IN A SANDBOX (cutbox-door.mjs). By AI agents, Wed Nov 11 2026. No macro, syntax, notation, axiom, sorry.
-/
import Derived.Test.YtoofbppfbbhliaaDoorRows
import GoSem.ClaimSeven
namespace Go.Proofs.YtoofbppfbbhliaaDoor
namespace Rows

/-- THE TIED CARD OF 'laws.FnObjKinds'. -/
def fnObjKindsCard : Claim7 := { stood := { row := fnObjKindsRow, standIns := [], harness := (true, "b18f3592522eaed922053d65a887dda4b7dfd1d02c1dc60cea427631a7f8598b"), looks := false }, kinds := [], alts := [], laidByText := true, laidKinds := [.sentinel], laidTests := true, laidLooks := .later }
def FnObjKindsCardSaid : Prop := Claim7.holds Tryd.pinned (.plain (OpenSpec.ofChange fnObjKindsSpec)) fnObjKindsCard

/-- THE TIED CARD OF 'laws.FnObjNewHash'. -/
def fnObjNewHashCard : Claim7 := { stood := { row := fnObjNewHashRow, standIns := [], harness := (true, "b18f3592522eaed922053d65a887dda4b7dfd1d02c1dc60cea427631a7f8598b"), looks := false }, kinds := [], alts := [], laidByText := true, laidKinds := [.sentinel], laidTests := true, laidLooks := .later }
def FnObjNewHashCardSaid : Prop := Claim7.holds Tryd.pinned (.plain (OpenSpec.ofChange fnObjNewHashSpec)) fnObjNewHashCard

/-- THE TIED CARD OF 'laws.FnIdxDrop'. -/
def fnIdxDropCard : Claim7 := { stood := { row := fnIdxDropRow, standIns := [], harness := (true, "b18f3592522eaed922053d65a887dda4b7dfd1d02c1dc60cea427631a7f8598b"), looks := false }, kinds := [], alts := [], laidByText := true, laidKinds := [.sentinel, .sentinel], laidTests := true, laidLooks := .later }
def FnIdxDropCardSaid : Prop := Claim7.holds Tryd.pinned (.plain (OpenSpec.ofChange fnIdxDropSpec)) fnIdxDropCard

/-- THE TIED CARD OF 'laws.FnRefStrings'. -/
def fnRefStringsCard : Claim7 := { stood := { row := fnRefStringsRow, standIns := [], harness := (true, "b18f3592522eaed922053d65a887dda4b7dfd1d02c1dc60cea427631a7f8598b"), looks := false }, kinds := [], alts := [], laidByText := true, laidKinds := [.sentinel], laidTests := true, laidLooks := .later }
def FnRefStringsCardSaid : Prop := Claim7.holds Tryd.pinned (.plain (OpenSpec.ofChange fnRefStringsSpec)) fnRefStringsCard

/-- THE TIED CARD OF 'laws.FnDeltaCut'. -/
def fnDeltaCutCard : Claim7 := { stood := { row := fnDeltaCutRow, standIns := [], harness := (true, "b18f3592522eaed922053d65a887dda4b7dfd1d02c1dc60cea427631a7f8598b"), looks := false }, kinds := [], alts := [], laidByText := true, laidKinds := [.sentinel, .sentinel, .sentinel, .data, .data, .sentinel], laidTests := true, laidLooks := .later }
def FnDeltaCutCardSaid : Prop := Claim7.holds Tryd.pinned (.plain (OpenSpec.ofChange fnDeltaCutSpec)) fnDeltaCutCard

/-- THE TIED CARD OF 'laws.FnDeltaInsert'. -/
def fnDeltaInsertCard : Claim7 := { stood := { row := fnDeltaInsertRow, standIns := [], harness := (true, "b18f3592522eaed922053d65a887dda4b7dfd1d02c1dc60cea427631a7f8598b"), looks := false }, kinds := [], alts := [], laidByText := true, laidKinds := [.sentinel, .sentinel, .sentinel, .data, .data, .sentinel], laidTests := true, laidLooks := .later }
def FnDeltaInsertCardSaid : Prop := Claim7.holds Tryd.pinned (.plain (OpenSpec.ofChange fnDeltaInsertSpec)) fnDeltaInsertCard

/-- THE TIED CARD OF 'laws.FnDeltaNothing'. -/
def fnDeltaNothingCard : Claim7 := { stood := { row := fnDeltaNothingRow, standIns := [], harness := (true, "b18f3592522eaed922053d65a887dda4b7dfd1d02c1dc60cea427631a7f8598b"), looks := false }, kinds := [], alts := [], laidByText := true, laidKinds := [.sentinel, .sentinel, .sentinel, .data, .data, .sentinel], laidTests := true, laidLooks := .later }
def FnDeltaNothingCardSaid : Prop := Claim7.holds Tryd.pinned (.plain (OpenSpec.ofChange fnDeltaNothingSpec)) fnDeltaNothingCard

/-- THE TIED CARD OF 'laws.FnConfGet'. -/
def fnConfGetCard : Claim7 := { stood := { row := fnConfGetRow, standIns := [], harness := (true, "b18f3592522eaed922053d65a887dda4b7dfd1d02c1dc60cea427631a7f8598b"), looks := false }, kinds := [], alts := [], laidByText := true, laidKinds := [.data, .data, .data, .pinned, .pinned], laidTests := true, laidLooks := .later }
def FnConfGetCardSaid : Prop := Claim7.holds Tryd.pinned (.plain (OpenSpec.ofChange fnConfGetSpec)) fnConfGetCard

/-- THE TIED CARD OF 'laws.FnConfDrop'. -/
def fnConfDropCard : Claim7 := { stood := { row := fnConfDropRow, standIns := [], harness := (true, "b18f3592522eaed922053d65a887dda4b7dfd1d02c1dc60cea427631a7f8598b"), looks := false }, kinds := [], alts := [], laidByText := true, laidKinds := [.data, .data, .data, .pinned, .pinned], laidTests := true, laidLooks := .later }
def FnConfDropCardSaid : Prop := Claim7.holds Tryd.pinned (.plain (OpenSpec.ofChange fnConfDropSpec)) fnConfDropCard

/-- THE TIED CARD OF 'laws.FnConfAdd'. -/
def fnConfAddCard : Claim7 := { stood := { row := fnConfAddRow, standIns := [], harness := (true, "b18f3592522eaed922053d65a887dda4b7dfd1d02c1dc60cea427631a7f8598b"), looks := false }, kinds := [], alts := [], laidByText := true, laidKinds := [.data, .data, .data, .pinned, .pinned], laidTests := true, laidLooks := .later }
def FnConfAddCardSaid : Prop := Claim7.holds Tryd.pinned (.plain (OpenSpec.ofChange fnConfAddSpec)) fnConfAddCard

/-- THE SECOND FORM's CARD OF 'laws.FnObjKinds'. -/
def fnObjKindsUptoCard : Claim7 := { stood := { row := fnObjKindsUptoRow, standIns := [], harness := (true, "b18f3592522eaed922053d65a887dda4b7dfd1d02c1dc60cea427631a7f8598b"), looks := false }, kinds := [], alts := [], laidByText := true, laidKinds := [.sentinel], laidTests := true, laidLooks := .later }
def FnObjKindsUptoCardSaid : Prop := Claim7.holds Tryd.pinned (.plain (OpenSpec.upto fnObjKindsSpec)) fnObjKindsUptoCard

/-- THE SECOND FORM's CARD OF 'laws.FnObjNewHash'. -/
def fnObjNewHashUptoCard : Claim7 := { stood := { row := fnObjNewHashUptoRow, standIns := [], harness := (true, "b18f3592522eaed922053d65a887dda4b7dfd1d02c1dc60cea427631a7f8598b"), looks := false }, kinds := [], alts := [], laidByText := true, laidKinds := [.sentinel], laidTests := true, laidLooks := .later }
def FnObjNewHashUptoCardSaid : Prop := Claim7.holds Tryd.pinned (.plain (OpenSpec.upto fnObjNewHashSpec)) fnObjNewHashUptoCard

/-- THE SECOND FORM's CARD OF 'laws.FnIdxDrop'. -/
def fnIdxDropUptoCard : Claim7 := { stood := { row := fnIdxDropUptoRow, standIns := [], harness := (true, "b18f3592522eaed922053d65a887dda4b7dfd1d02c1dc60cea427631a7f8598b"), looks := false }, kinds := [], alts := [], laidByText := true, laidKinds := [.sentinel, .sentinel], laidTests := true, laidLooks := .later }
def FnIdxDropUptoCardSaid : Prop := Claim7.holds Tryd.pinned (.plain (OpenSpec.upto fnIdxDropSpec)) fnIdxDropUptoCard

/-- THE SECOND FORM's CARD OF 'laws.FnRefStrings'. -/
def fnRefStringsUptoCard : Claim7 := { stood := { row := fnRefStringsUptoRow, standIns := [], harness := (true, "b18f3592522eaed922053d65a887dda4b7dfd1d02c1dc60cea427631a7f8598b"), looks := false }, kinds := [], alts := [], laidByText := true, laidKinds := [.sentinel], laidTests := true, laidLooks := .later }
def FnRefStringsUptoCardSaid : Prop := Claim7.holds Tryd.pinned (.plain (OpenSpec.upto fnRefStringsSpec)) fnRefStringsUptoCard

/-- THE SECOND FORM's CARD OF 'laws.FnDeltaCut'. -/
def fnDeltaCutUptoCard : Claim7 := { stood := { row := fnDeltaCutUptoRow, standIns := [], harness := (true, "b18f3592522eaed922053d65a887dda4b7dfd1d02c1dc60cea427631a7f8598b"), looks := false }, kinds := [], alts := [], laidByText := true, laidKinds := [.sentinel, .sentinel, .sentinel, .data, .data, .sentinel], laidTests := true, laidLooks := .later }
def FnDeltaCutUptoCardSaid : Prop := Claim7.holds Tryd.pinned (.plain (OpenSpec.upto fnDeltaCutSpec)) fnDeltaCutUptoCard

/-- THE SECOND FORM's CARD OF 'laws.FnDeltaInsert'. -/
def fnDeltaInsertUptoCard : Claim7 := { stood := { row := fnDeltaInsertUptoRow, standIns := [], harness := (true, "b18f3592522eaed922053d65a887dda4b7dfd1d02c1dc60cea427631a7f8598b"), looks := false }, kinds := [], alts := [], laidByText := true, laidKinds := [.sentinel, .sentinel, .sentinel, .data, .data, .sentinel], laidTests := true, laidLooks := .later }
def FnDeltaInsertUptoCardSaid : Prop := Claim7.holds Tryd.pinned (.plain (OpenSpec.upto fnDeltaInsertSpec)) fnDeltaInsertUptoCard

/-- THE SECOND FORM's CARD OF 'laws.FnDeltaNothing'. -/
def fnDeltaNothingUptoCard : Claim7 := { stood := { row := fnDeltaNothingUptoRow, standIns := [], harness := (true, "b18f3592522eaed922053d65a887dda4b7dfd1d02c1dc60cea427631a7f8598b"), looks := false }, kinds := [], alts := [], laidByText := true, laidKinds := [.sentinel, .sentinel, .sentinel, .data, .data, .sentinel], laidTests := true, laidLooks := .later }
def FnDeltaNothingUptoCardSaid : Prop := Claim7.holds Tryd.pinned (.plain (OpenSpec.upto fnDeltaNothingSpec)) fnDeltaNothingUptoCard

/-- THE SECOND FORM's CARD OF 'laws.FnConfGet'. -/
def fnConfGetUptoCard : Claim7 := { stood := { row := fnConfGetUptoRow, standIns := [], harness := (true, "b18f3592522eaed922053d65a887dda4b7dfd1d02c1dc60cea427631a7f8598b"), looks := false }, kinds := [], alts := [], laidByText := true, laidKinds := [.data, .data, .data, .pinned, .pinned], laidTests := true, laidLooks := .later }
def FnConfGetUptoCardSaid : Prop := Claim7.holds Tryd.pinned (.plain (OpenSpec.upto fnConfGetSpec)) fnConfGetUptoCard

/-- THE SECOND FORM's CARD OF 'laws.FnConfDrop'. -/
def fnConfDropUptoCard : Claim7 := { stood := { row := fnConfDropUptoRow, standIns := [], harness := (true, "b18f3592522eaed922053d65a887dda4b7dfd1d02c1dc60cea427631a7f8598b"), looks := false }, kinds := [], alts := [], laidByText := true, laidKinds := [.data, .data, .data, .pinned, .pinned], laidTests := true, laidLooks := .later }
def FnConfDropUptoCardSaid : Prop := Claim7.holds Tryd.pinned (.plain (OpenSpec.upto fnConfDropSpec)) fnConfDropUptoCard

/-- THE SECOND FORM's CARD OF 'laws.FnConfAdd'. -/
def fnConfAddUptoCard : Claim7 := { stood := { row := fnConfAddUptoRow, standIns := [], harness := (true, "b18f3592522eaed922053d65a887dda4b7dfd1d02c1dc60cea427631a7f8598b"), looks := false }, kinds := [], alts := [], laidByText := true, laidKinds := [.data, .data, .data, .pinned, .pinned], laidTests := true, laidLooks := .later }
def FnConfAddUptoCardSaid : Prop := Claim7.holds Tryd.pinned (.plain (OpenSpec.upto fnConfAddSpec)) fnConfAddUptoCard
end Rows
end Go.Proofs.YtoofbppfbbhliaaDoor
