/-
  DERIVED. GIVEN WITH THE SEED: THE CARDS: each row of YthcjnadceambgaaGreatDoorRows.lean that lists a variable, with what it lists TIED to the program's text (the seventh form; the later family's looks); each row that meets fmt, with fmt's text TOLD by the authors' own Lean function (tested against real Go, not proved from fmt's source: count such statements apart). THE CARD IS WHAT COUNTS. Prove the row's statement (the work); the ties are given (YthcjnadceambgaaGreatDoorTie.lean); close each card by the builder's one call (the guide's Derived/Test/ToyasCard.lean, 'card_holds'). Laid BY PROGRAM, IN A SANDBOX (cutbox-door.mjs). By AI agents, Wed Nov 11 2026. No macro, syntax, notation, axiom, sorry.
-/
import Derived.Test.YthcjnadceambgaaGreatDoorRows
import GoSem.ClaimSeven
namespace Go.Proofs.YthcjnadceambgaaGreatDoor
namespace Rows

/-- THE TIED CARD OF 'laws.FnLineText'. -/
def fnLineTextCard : Claim7 := { stood := { row := fnLineTextRow, standIns := [], harness := (true, "d425981a8f38532cc89d9b492ade8dab928ae5bfb273b686c3e855ec374b9f0c"), looks := true }, kinds := [], alts := [], laidByText := true, laidKinds := [.data, .data, .data, .data, .pinned, .pinned], laidTests := true, laidLooks := .later }
def FnLineTextCardSaid : Prop := Claim7.holds Tryz.pinned (.plain (OpenSpec.ofChange fnLineTextSpec)) fnLineTextCard

/-- THE TIED CARD OF 'laws.FnMultiPointText'. -/
def fnMultiPointTextCard : Claim7 := { stood := { row := fnMultiPointTextRow, standIns := [], harness := (true, "d425981a8f38532cc89d9b492ade8dab928ae5bfb273b686c3e855ec374b9f0c"), looks := true }, kinds := [], alts := [], laidByText := true, laidKinds := [.data, .data, .data, .data, .pinned, .pinned], laidTests := true, laidLooks := .later }
def FnMultiPointTextCardSaid : Prop := Claim7.holds Tryz.pinned (.plain (OpenSpec.ofChange fnMultiPointTextSpec)) fnMultiPointTextCard

/-- THE TIED CARD OF 'laws.FnMultiPolygonText'. -/
def fnMultiPolygonTextCard : Claim7 := { stood := { row := fnMultiPolygonTextRow, standIns := [], harness := (true, "d425981a8f38532cc89d9b492ade8dab928ae5bfb273b686c3e855ec374b9f0c"), looks := true }, kinds := [], alts := [], laidByText := true, laidKinds := [.data, .data, .data, .data, .pinned, .pinned], laidTests := true, laidLooks := .later }
def FnMultiPolygonTextCardSaid : Prop := Claim7.holds Tryz.pinned (.plain (OpenSpec.ofChange fnMultiPolygonTextSpec)) fnMultiPolygonTextCard

/-- THE TIED CARD OF 'laws.FnJSONSame'. -/
def fnJSONSameCard : Claim7 := { stood := { row := fnJSONSameRow, standIns := [], harness := (true, "d425981a8f38532cc89d9b492ade8dab928ae5bfb273b686c3e855ec374b9f0c"), looks := true }, kinds := [], alts := [], laidByText := true, laidKinds := [.data, .data, .data, .data, .pinned, .pinned], laidTests := true, laidLooks := .later }
def FnJSONSameCardSaid : Prop := Claim7.holds Tryz.pinned (.plain (OpenSpec.ofChange fnJSONSameSpec)) fnJSONSameCard

/-- THE TIED CARD OF 'laws.FnTextParts'. -/
def fnTextPartsCard : Claim7 := { stood := { row := fnTextPartsRow, standIns := [], harness := (true, "d425981a8f38532cc89d9b492ade8dab928ae5bfb273b686c3e855ec374b9f0c"), looks := true }, kinds := [], alts := [], laidByText := true, laidKinds := [.data, .data, .data, .data, .pinned, .pinned], laidTests := true, laidLooks := .later }
def FnTextPartsCardSaid : Prop := Claim7.holds Tryz.pinned (.plain (OpenSpec.ofChange fnTextPartsSpec)) fnTextPartsCard

/-- THE SECOND FORM's CARD OF 'laws.FnLineText'. -/
def fnLineTextUptoCard : Claim7 := { stood := { row := fnLineTextUptoRow, standIns := [], harness := (true, "d425981a8f38532cc89d9b492ade8dab928ae5bfb273b686c3e855ec374b9f0c"), looks := true }, kinds := [], alts := [], laidByText := true, laidKinds := [.data, .data, .data, .data, .pinned, .pinned], laidTests := true, laidLooks := .later }
def FnLineTextUptoCardSaid : Prop := Claim7.holds Tryz.pinned (.plain (OpenSpec.upto fnLineTextSpec)) fnLineTextUptoCard

/-- THE SECOND FORM's CARD OF 'laws.FnMultiPointText'. -/
def fnMultiPointTextUptoCard : Claim7 := { stood := { row := fnMultiPointTextUptoRow, standIns := [], harness := (true, "d425981a8f38532cc89d9b492ade8dab928ae5bfb273b686c3e855ec374b9f0c"), looks := true }, kinds := [], alts := [], laidByText := true, laidKinds := [.data, .data, .data, .data, .pinned, .pinned], laidTests := true, laidLooks := .later }
def FnMultiPointTextUptoCardSaid : Prop := Claim7.holds Tryz.pinned (.plain (OpenSpec.upto fnMultiPointTextSpec)) fnMultiPointTextUptoCard

/-- THE SECOND FORM's CARD OF 'laws.FnMultiPolygonText'. -/
def fnMultiPolygonTextUptoCard : Claim7 := { stood := { row := fnMultiPolygonTextUptoRow, standIns := [], harness := (true, "d425981a8f38532cc89d9b492ade8dab928ae5bfb273b686c3e855ec374b9f0c"), looks := true }, kinds := [], alts := [], laidByText := true, laidKinds := [.data, .data, .data, .data, .pinned, .pinned], laidTests := true, laidLooks := .later }
def FnMultiPolygonTextUptoCardSaid : Prop := Claim7.holds Tryz.pinned (.plain (OpenSpec.upto fnMultiPolygonTextSpec)) fnMultiPolygonTextUptoCard

/-- THE SECOND FORM's CARD OF 'laws.FnJSONSame'. -/
def fnJSONSameUptoCard : Claim7 := { stood := { row := fnJSONSameUptoRow, standIns := [], harness := (true, "d425981a8f38532cc89d9b492ade8dab928ae5bfb273b686c3e855ec374b9f0c"), looks := true }, kinds := [], alts := [], laidByText := true, laidKinds := [.data, .data, .data, .data, .pinned, .pinned], laidTests := true, laidLooks := .later }
def FnJSONSameUptoCardSaid : Prop := Claim7.holds Tryz.pinned (.plain (OpenSpec.upto fnJSONSameSpec)) fnJSONSameUptoCard

/-- THE SECOND FORM's CARD OF 'laws.FnTextParts'. -/
def fnTextPartsUptoCard : Claim7 := { stood := { row := fnTextPartsUptoRow, standIns := [], harness := (true, "d425981a8f38532cc89d9b492ade8dab928ae5bfb273b686c3e855ec374b9f0c"), looks := true }, kinds := [], alts := [], laidByText := true, laidKinds := [.data, .data, .data, .data, .pinned, .pinned], laidTests := true, laidLooks := .later }
def FnTextPartsUptoCardSaid : Prop := Claim7.holds Tryz.pinned (.plain (OpenSpec.upto fnTextPartsSpec)) fnTextPartsUptoCard
end Rows
end Go.Proofs.YthcjnadceambgaaGreatDoor
