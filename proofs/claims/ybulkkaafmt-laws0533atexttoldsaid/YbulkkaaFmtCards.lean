/-
  DERIVED. GIVEN WITH THE SEED: THE CARDS: each row of YbulkkaaFmtRows.lean that lists a variable, with what it lists TIED to the program's text (the seventh form; the later family's looks); each row that meets fmt, with fmt's text TOLD by the authors' own Lean function (tested against real Go, not proved from fmt's source: count such statements apart). THE CARD IS WHAT COUNTS. Prove the row's statement (the work); the ties are given (YbulkkaaFmtTie.lean); close each card by the builder's one call (the guide's Derived/Test/ToyasCard.lean, 'card_holds'). Laid BY PROGRAM, IN A SANDBOX (cutbox-door.mjs). By AI agents, Wed Nov 11 2026. No macro, syntax, notation, axiom, sorry.
-/
import Derived.Test.YbulkkaaFmtRows
import GoSem.ClaimSeven
namespace Go.Proofs.YbulkkaaFmt
namespace Rows

/-- THE TOLD AND TIED CARD OF 'tagfold.LawS0533AKnown'. -/
def lawS0533AKnownCard : Claim7 := { stood := { row := lawS0533AKnownRow, standIns := [], harness := (true, "6c80e4075ce4881941259013cbf24741c4bc1f67dfade559f24934cc3e7791f6"), looks := false }, told := true, laidByText := true, laidKinds := [.widerDeep], laidTests := true, laidLooks := .later, goes := false }
def LawS0533AKnownToldSaid : Prop := Claim7.holds Ybaf.pinned (.plain (OpenSpec.ofChange lawS0533AKnownSpec)) lawS0533AKnownCard
/-- ITS FALSE NEIGHBOUR. Refute it at one input. -/
def LawS0533AKnownToldWrongFalsely : Prop := Claim7.holds Ybaf.pinned (.plain (OpenSpec.ofChange lawS0533AKnownWrong)) lawS0533AKnownCard

/-- THE TOLD AND TIED CARD OF 'tagfold.LawS0533AText'. -/
def lawS0533ATextCard : Claim7 := { stood := { row := lawS0533ATextRow, standIns := [], harness := (true, "6c80e4075ce4881941259013cbf24741c4bc1f67dfade559f24934cc3e7791f6"), looks := false }, told := true, laidByText := true, laidKinds := [.widerDeep], laidTests := true, laidLooks := .later, goes := false }
def LawS0533ATextToldSaid : Prop := Claim7.holds Ybaf.pinned (.plain (OpenSpec.ofChange lawS0533ATextSpec)) lawS0533ATextCard
/-- ITS FALSE NEIGHBOUR. Refute it at one input. -/
def LawS0533ATextToldWrongFalsely : Prop := Claim7.holds Ybaf.pinned (.plain (OpenSpec.ofChange lawS0533ATextWrong)) lawS0533ATextCard

/-- THE TOLD AND TIED CARD OF 'tagfold.LawS0533ARoundTrip'. -/
def lawS0533ARoundTripCard : Claim7 := { stood := { row := lawS0533ARoundTripRow, standIns := [], harness := (true, "6c80e4075ce4881941259013cbf24741c4bc1f67dfade559f24934cc3e7791f6"), looks := false }, told := true, laidByText := true, laidKinds := [.widerDeep], laidTests := true, laidLooks := .later, goes := false }
def LawS0533ARoundTripToldSaid : Prop := Claim7.holds Ybaf.pinned (.plain (OpenSpec.ofChange lawS0533ARoundTripSpec)) lawS0533ARoundTripCard
/-- ITS FALSE NEIGHBOUR. Refute it at one input. -/
def LawS0533ARoundTripToldWrongFalsely : Prop := Claim7.holds Ybaf.pinned (.plain (OpenSpec.ofChange lawS0533ARoundTripWrong)) lawS0533ARoundTripCard
end Rows
end Go.Proofs.YbulkkaaFmt
