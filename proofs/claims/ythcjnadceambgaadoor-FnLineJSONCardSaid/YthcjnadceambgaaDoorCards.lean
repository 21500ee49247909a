/-
  DERIVED. GIVEN WITH THE SEED: THE CARDS: each row of YthcjnadceambgaaDoorRows.lean that lists a variable, with what it lists TIED to the program's text (the seventh form; the later family's looks); each row that meets fmt, with fmt's text TOLD by the authors' own Lean function (tested against real Go, not proved from fmt's source: count such statements apart). THE CARD IS WHAT COUNTS. Prove the row's statement (the work); the ties are given (YthcjnadceambgaaDoorTie.lean); close each card by the builder's one call (the guide's Derived/Test/ToyasCard.lean, 'card_holds'). Laid BY PROGRAM, IN A SANDBOX (cutbox-door.mjs). By AI agents, Wed Nov 11 2026. No macro, syntax, notation, axiom, sorry.
-/
import Derived.Test.YthcjnadceambgaaDoorRows
import GoSem.ClaimSeven
namespace Go.Proofs.YthcjnadceambgaaDoor
namespace Rows

/-- THE TIED CARD OF 'laws.FnJSONPlace'. -/
def fnJSONPlaceCard : Claim7 := { stood := { row := fnJSONPlaceRow, standIns := [], harness := (true, "b4a20e176a97f05b2df26c9d8e31ba397a72cf6c248db676673ee751a7bb962c"), looks := false }, kinds := [], alts := [], laidByText := true, laidKinds := [.data, .data, .data, .data, .pinned, .pinned], laidTests := true, laidLooks := .later }
def FnJSONPlaceCardSaid : Prop := Claim7.holds Tryd.pinned (.plain (OpenSpec.ofChange fnJSONPlaceSpec)) fnJSONPlaceCard

/-- THE TIED CARD OF 'laws.FnLineJSON'. -/
def fnLineJSONCard : Claim7 := { stood := { row := fnLineJSONRow, standIns := [], harness := (true, "b4a20e176a97f05b2df26c9d8e31ba397a72cf6c248db676673ee751a7bb962c"), looks := false }, kinds := [], alts := [], laidByText := true, laidKinds := [.data, .data, .data, .data, .pinned, .pinned], laidTests := true, laidLooks := .later }
def FnLineJSONCardSaid : Prop := Claim7.holds Tryd.pinned (.plain (OpenSpec.ofChange fnLineJSONSpec)) fnLineJSONCard

/-- THE SECOND FORM's CARD OF 'laws.FnJSONPlace'. -/
def fnJSONPlaceUptoCard : Claim7 := { stood := { row := fnJSONPlaceUptoRow, standIns := [], harness := (true, "b4a20e176a97f05b2df26c9d8e31ba397a72cf6c248db676673ee751a7bb962c"), looks := false }, kinds := [], alts := [], laidByText := true, laidKinds := [.data, .data, .data, .data, .pinned, .pinned], laidTests := true, laidLooks := .later }
def FnJSONPlaceUptoCardSaid : Prop := Claim7.holds Tryd.pinned (.plain (OpenSpec.upto fnJSONPlaceSpec)) fnJSONPlaceUptoCard

/-- THE SECOND FORM's CARD OF 'laws.FnLineJSON'. -/
def fnLineJSONUptoCard : Claim7 := { stood := { row := fnLineJSONUptoRow, standIns := [], harness := (true, "b4a20e176a97f05b2df26c9d8e31ba397a72cf6c248db676673ee751a7bb962c"), looks := false }, kinds := [], alts := [], laidByText := true, laidKinds := [.data, .data, .data, .data, .pinned, .pinned], laidTests := true, laidLooks := .later }
def FnLineJSONUptoCardSaid : Prop := Claim7.holds Tryd.pinned (.plain (OpenSpec.upto fnLineJSONSpec)) fnLineJSONUptoCard
end Rows
end Go.Proofs.YthcjnadceambgaaDoor
