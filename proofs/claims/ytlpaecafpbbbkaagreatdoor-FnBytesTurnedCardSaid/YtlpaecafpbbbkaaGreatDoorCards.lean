/-
  DERIVED. GIVEN WITH THE SEED: THE CARDS: each row of YtlpaecafpbbbkaaGreatDoorRows.lean that lists a variable, with what it lists TIED to the program's text (the seventh form; the later family's looks); each row that meets fmt, with fmt's text TOLD by the authors' own Lean function (tested against real Go, not proved from fmt's source: count such statements apart). THE CARD IS WHAT COUNTS. Prove the row's statement (the work); the ties are given (YtlpaecafpbbbkaaGreatDoorTie.lean); close each card by the builder's one call (the guide's Derived/Test/ToyasCard.lean, 'card_holds'). Laid BY PROGRAM, IN A SANDBOX (cutbox-door.mjs). By AI agents, Wed Nov 11 2026. No macro, syntax, notation, axiom, sorry.
-/
import Derived.Test.YtlpaecafpbbbkaaGreatDoorRows
import GoSem.ClaimSeven
namespace Go.Proofs.YtlpaecafpbbbkaaGreatDoor
namespace Rows

/-- THE TIED CARD OF 'laws.FnSimplifyPoints'. -/
def fnSimplifyPointsCard : Claim7 := { stood := { row := fnSimplifyPointsRow, standIns := [], harness := (true, "f6c3c9077dfb46c49ae944910e15568bf03937d9d4023d2c08604dc0b0ef09f0"), looks := true }, kinds := [], alts := [], laidByText := true, laidKinds := [.sentinel], laidTests := true, laidLooks := .later }
def FnSimplifyPointsCardSaid : Prop := Claim7.holds Tryz.pinned (.plain (OpenSpec.ofChange fnSimplifyPointsSpec)) fnSimplifyPointsCard

/-- THE TIED CARD OF 'laws.FnBytesReads'. -/
def fnBytesReadsCard : Claim7 := { stood := { row := fnBytesReadsRow, standIns := [], harness := (true, "f6c3c9077dfb46c49ae944910e15568bf03937d9d4023d2c08604dc0b0ef09f0"), looks := true }, kinds := [], alts := [], laidByText := true, laidKinds := [.sentinel], laidTests := true, laidLooks := .later }
def FnBytesReadsCardSaid : Prop := Claim7.holds Tryz.pinned (.plain (OpenSpec.ofChange fnBytesReadsSpec)) fnBytesReadsCard

/-- THE TIED CARD OF 'laws.FnBytesTurned'. -/
def fnBytesTurnedCard : Claim7 := { stood := { row := fnBytesTurnedRow, standIns := [], harness := (true, "f6c3c9077dfb46c49ae944910e15568bf03937d9d4023d2c08604dc0b0ef09f0"), looks := true }, kinds := [], alts := [], laidByText := true, laidKinds := [.sentinel], laidTests := true, laidLooks := .later }
def FnBytesTurnedCardSaid : Prop := Claim7.holds Tryz.pinned (.plain (OpenSpec.ofChange fnBytesTurnedSpec)) fnBytesTurnedCard

/-- THE TIED CARD OF 'laws.FnBytesCut'. -/
def fnBytesCutCard : Claim7 := { stood := { row := fnBytesCutRow, standIns := [], harness := (true, "f6c3c9077dfb46c49ae944910e15568bf03937d9d4023d2c08604dc0b0ef09f0"), looks := true }, kinds := [], alts := [], laidByText := true, laidKinds := [.sentinel], laidTests := true, laidLooks := .later }
def FnBytesCutCardSaid : Prop := Claim7.holds Tryz.pinned (.plain (OpenSpec.ofChange fnBytesCutSpec)) fnBytesCutCard

/-- THE TIED CARD OF 'laws.FnRectangleEmpty'. -/
def fnRectangleEmptyCard : Claim7 := { stood := { row := fnRectangleEmptyRow, standIns := [], harness := (true, "f6c3c9077dfb46c49ae944910e15568bf03937d9d4023d2c08604dc0b0ef09f0"), looks := true }, kinds := [], alts := [], laidByText := true, laidKinds := [.sentinel], laidTests := true, laidLooks := .later }
def FnRectangleEmptyCardSaid : Prop := Claim7.holds Tryz.pinned (.plain (OpenSpec.ofChange fnRectangleEmptySpec)) fnRectangleEmptyCard

/-- THE SECOND FORM's CARD OF 'laws.FnSimplifyPoints'. -/
def fnSimplifyPointsUptoCard : Claim7 := { stood := { row := fnSimplifyPointsUptoRow, standIns := [], harness := (true, "f6c3c9077dfb46c49ae944910e15568bf03937d9d4023d2c08604dc0b0ef09f0"), looks := true }, kinds := [], alts := [], laidByText := true, laidKinds := [.sentinel], laidTests := true, laidLooks := .later }
def FnSimplifyPointsUptoCardSaid : Prop := Claim7.holds Tryz.pinned (.plain (OpenSpec.upto fnSimplifyPointsSpec)) fnSimplifyPointsUptoCard

/-- THE SECOND FORM's CARD OF 'laws.FnBytesReads'. -/
def fnBytesReadsUptoCard : Claim7 := { stood := { row := fnBytesReadsUptoRow, standIns := [], harness := (true, "f6c3c9077dfb46c49ae944910e15568bf03937d9d4023d2c08604dc0b0ef09f0"), looks := true }, kinds := [], alts := [], laidByText := true, laidKinds := [.sentinel], laidTests := true, laidLooks := .later }
def FnBytesReadsUptoCardSaid : Prop := Claim7.holds Tryz.pinned (.plain (OpenSpec.upto fnBytesReadsSpec)) fnBytesReadsUptoCard

/-- THE SECOND FORM's CARD OF 'laws.FnBytesTurned'. -/
def fnBytesTurnedUptoCard : Claim7 := { stood := { row := fnBytesTurnedUptoRow, standIns := [], harness := (true, "f6c3c9077dfb46c49ae944910e15568bf03937d9d4023d2c08604dc0b0ef09f0"), looks := true }, kinds := [], alts := [], laidByText := true, laidKinds := [.sentinel], laidTests := true, laidLooks := .later }
def FnBytesTurnedUptoCardSaid : Prop := Claim7.holds Tryz.pinned (.plain (OpenSpec.upto fnBytesTurnedSpec)) fnBytesTurnedUptoCard

/-- THE SECOND FORM's CARD OF 'laws.FnBytesCut'. -/
def fnBytesCutUptoCard : Claim7 := { stood := { row := fnBytesCutUptoRow, standIns := [], harness := (true, "f6c3c9077dfb46c49ae944910e15568bf03937d9d4023d2c08604dc0b0ef09f0"), looks := true }, kinds := [], alts := [], laidByText := true, laidKinds := [.sentinel], laidTests := true, laidLooks := .later }
def FnBytesCutUptoCardSaid : Prop := Claim7.holds Tryz.pinned (.plain (OpenSpec.upto fnBytesCutSpec)) fnBytesCutUptoCard

/-- THE SECOND FORM's CARD OF 'laws.FnRectangleEmpty'. -/
def fnRectangleEmptyUptoCard : Claim7 := { stood := { row := fnRectangleEmptyUptoRow, standIns := [], harness := (true, "f6c3c9077dfb46c49ae944910e15568bf03937d9d4023d2c08604dc0b0ef09f0"), looks := true }, kinds := [], alts := [], laidByText := true, laidKinds := [.sentinel], laidTests := true, laidLooks := .later }
def FnRectangleEmptyUptoCardSaid : Prop := Claim7.holds Tryz.pinned (.plain (OpenSpec.upto fnRectangleEmptySpec)) fnRectangleEmptyUptoCard
end Rows
end Go.Proofs.YtlpaecafpbbbkaaGreatDoor
