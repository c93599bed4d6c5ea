/-
  DERIVED. GIVEN WITH THE SEED: THE CARDS: each row of YbulkkdgDoorRows.lean that lists a variable, with what it lists TIED to the program's text (the seventh form; the later family's looks); each row that meets fmt, with fmt's text TOLD by the authors' own Lean function (tested against real Go, not proved from fmt's source: count such statements apart). THE CARD IS WHAT COUNTS. Prove the row's statement (the work); the ties are given (YbulkkdgDoorTie.lean); close each card by the builder's one call (the guide's Derived/Test/ToyasCard.lean, 'card_holds'). Laid BY PROGRAM, IN A SANDBOX (cutbox-door.mjs). By AI agents, Wed Nov 11 2026. No macro, syntax, notation, axiom, sorry.
-/
import Derived.Test.YbulkkdgDoorRows
import GoSem.ClaimSeven
namespace Go.Proofs.YbulkkdgDoor
namespace Rows

/-- THE TIED CARD OF 'dumpvalue.LawS0539AModel'. -/
def lawS0539AModelCard : Claim7 := { stood := { row := lawS0539AModelRow, standIns := [], harness := (true, "15e5f17de44d7950b6a7fc7236e037f3d9ee2713d398fceb2643df3cdd1dfa45"), looks := false }, kinds := [], alts := [], laidByText := true, laidKinds := [.data], laidTests := true, laidLooks := .later }
def LawS0539AModelCardSaid : Prop := Claim7.holds Ybad.pinned (.plain (OpenSpec.ofChange lawS0539AModelSpec)) lawS0539AModelCard

/-- THE TIED CARD OF 'dumpvalue.LawS0539AFormat'. -/
def lawS0539AFormatCard : Claim7 := { stood := { row := lawS0539AFormatRow, standIns := [], harness := (true, "15e5f17de44d7950b6a7fc7236e037f3d9ee2713d398fceb2643df3cdd1dfa45"), looks := false }, kinds := [], alts := [], laidByText := true, laidKinds := [.data], laidTests := true, laidLooks := .later }
def LawS0539AFormatCardSaid : Prop := Claim7.holds Ybad.pinned (.plain (OpenSpec.ofChange lawS0539AFormatSpec)) lawS0539AFormatCard
end Rows
end Go.Proofs.YbulkkdgDoor
