/-
  NARROWER THAN 'FOR EVERY INPUT', by the rows' own cells (each row's printed sentence says how): LawS0539AModel: laid · LawS0539AFormat: laid.
  DERIVED. THE GIVEN ROWS OF THIS SEAT. 2 by the template 'for every input the law returns true; each argument reads behind the call as it read before'; 0 by the template 'total and deterministic' (their statements: YbulkkdgDoorTotals.lean).
  GIVEN WITH THE SEED: the statements are not yours to turn. If you find one false, say at which input.
  Laid BY PROGRAM, IN A SANDBOX (cutbox-rows.mjs): the forced cells as the released guide's own fill.sh prints them over the translation 5218f59a8009577f… (all of the seat's roots in one cut). By AI agents, Wed Nov 11 2026. No macro, syntax, notation, axiom, sorry.
-/
import Derived.Test.YbulkkdgDoorChecked
import GoSem.Claim
import GoSem.ClaimJoined
import GoSem.ClaimMapViews
import Derived.JoinedTies
import Derived.KernelRfl
namespace Go.Proofs.YbulkkdgDoor
/- THE CELL 'sum', in the pinned program and in every row, IS THE sha256 OF THE DUMP (.gsa) THAT YbulkkdgDoorProg.lean LOADS. Nothing in Lean hashes anything: it is a label: what it is worth is what the hold of that sum in a sandbox is worth. -/
noncomputable def Ybad.pinned : Pinned := { name := "ybulkkdgdoor", sum := "5218f59a8009577f8daabab327a4f4b81b74b6f154d5f625c735946d5144c145", checked := Ybad.checked }
namespace Rows
def none {H : Type} : Left H := { results := [], args := [] }

/- WHAT THE LISTED PACKAGE-LEVEL VARIABLES READ AS WHEN THE CALL BEGINS. Each datum BY PROGRAM (the guide's laid-datum.mjs) off the statement by which the dump's own 'gosem.cut.vars' lays the variable. In a bare row this is a premise. The card (YbulkkdgDoorCards.lean) ties it to the program's text. -/
def laid_example_com_stanzas_for_trust_stanzas_for_trust_internal_dumpvalue_escapes {H : Type} : DataW H := .agg [.lit (.string []), .lit (.string []), .lit (.string []), .lit (.string []), .lit (.string []), .lit (.string []), .lit (.string []), .lit (.string []), .lit (.string [92, 98]), .lit (.string [92, 116]), .lit (.string [92, 110]), .lit (.string []), .lit (.string []), .lit (.string []), .lit (.string []), .lit (.string []), .lit (.string []), .lit (.string []), .lit (.string []), .lit (.string []), .lit (.string []), .lit (.string []), .lit (.string []), .lit (.string []), .lit (.string []), .lit (.string []), .lit (.string []), .lit (.string []), .lit (.string []), .lit (.string []), .lit (.string []), .lit (.string []), .lit (.string []), .lit (.string []), .lit (.string [92, 34]), .lit (.string []), .lit (.string []), .lit (.string []), .lit (.string []), .lit (.string []), .lit (.string []), .lit (.string []), .lit (.string []), .lit (.string []), .lit (.string []), .lit (.string []), .lit (.string []), .lit (.string []), .lit (.string []), .lit (.string []), .lit (.string []), .lit (.string []), .lit (.string []), .lit (.string []), .lit (.string []), .lit (.string []), .lit (.string []), .lit (.string []), .lit (.string []), .lit (.string []), .lit (.string []), .lit (.string []), .lit (.string []), .lit (.string []), .lit (.string []), .lit (.string []), .lit (.string []), .lit (.string []), .lit (.string []), .lit (.string []), .lit (.string []), .lit (.string []), .lit (.string []), .lit (.string []), .lit (.string []), .lit (.string []), .lit (.string []), .lit (.string []), .lit (.string []), .lit (.string []), .lit (.string []), .lit (.string []), .lit (.string []), .lit (.string []), .lit (.string []), .lit (.string []), .lit (.string []), .lit (.string []), .lit (.string []), .lit (.string []), .lit (.string []), .lit (.string []), .lit (.string [92, 92]), .lit (.string []), .lit (.string []), .lit (.string []), .lit (.string []), .lit (.string []), .lit (.string []), .lit (.string []), .lit (.string []), .lit (.string []), .lit (.string []), .lit (.string []), .lit (.string []), .lit (.string []), .lit (.string []), .lit (.string []), .lit (.string []), .lit (.string []), .lit (.string []), .lit (.string []), .lit (.string []), .lit (.string []), .lit (.string []), .lit (.string []), .lit (.string []), .lit (.string []), .lit (.string []), .lit (.string []), .lit (.string []), .lit (.string []), .lit (.string []), .lit (.string []), .lit (.string []), .lit (.string []), .lit (.string []), .lit (.string []), .lit (.string []), .lit (.string []), .lit (.string []), .lit (.string []), .lit (.string []), .lit (.string []), .lit (.string []), .lit (.string []), .lit (.string []), .lit (.string []), .lit (.string []), .lit (.string []), .lit (.string []), .lit (.string []), .lit (.string []), .lit (.string []), .lit (.string []), .lit (.string []), .lit (.string []), .lit (.string []), .lit (.string []), .lit (.string []), .lit (.string []), .lit (.string []), .lit (.string []), .lit (.string []), .lit (.string []), .lit (.string []), .lit (.string []), .lit (.string []), .lit (.string []), .lit (.string []), .lit (.string []), .lit (.string []), .lit (.string []), .lit (.string []), .lit (.string []), .lit (.string []), .lit (.string []), .lit (.string []), .lit (.string []), .lit (.string []), .lit (.string []), .lit (.string []), .lit (.string []), .lit (.string []), .lit (.string []), .lit (.string []), .lit (.string []), .lit (.string []), .lit (.string []), .lit (.string []), .lit (.string []), .lit (.string []), .lit (.string []), .lit (.string []), .lit (.string []), .lit (.string []), .lit (.string []), .lit (.string []), .lit (.string []), .lit (.string []), .lit (.string []), .lit (.string []), .lit (.string []), .lit (.string []), .lit (.string []), .lit (.string []), .lit (.string []), .lit (.string []), .lit (.string []), .lit (.string []), .lit (.string []), .lit (.string []), .lit (.string []), .lit (.string []), .lit (.string []), .lit (.string []), .lit (.string []), .lit (.string []), .lit (.string []), .lit (.string []), .lit (.string []), .lit (.string []), .lit (.string []), .lit (.string []), .lit (.string []), .lit (.string []), .lit (.string []), .lit (.string []), .lit (.string []), .lit (.string []), .lit (.string []), .lit (.string []), .lit (.string []), .lit (.string []), .lit (.string []), .lit (.string []), .lit (.string []), .lit (.string []), .lit (.string []), .lit (.string []), .lit (.string []), .lit (.string []), .lit (.string []), .lit (.string []), .lit (.string []), .lit (.string []), .lit (.string []), .lit (.string []), .lit (.string []), .lit (.string []), .lit (.string []), .lit (.string []), .lit (.string []), .lit (.string []), .lit (.string []), .lit (.string []), .lit (.string []), .lit (.string []), .lit (.string []), .lit (.string []), .lit (.string []), .lit (.string []), .lit (.string []), .lit (.string []), .lit (.string []), .lit (.string [])]

/-- 'dumpvalue.LawS0539AModel': WHATEVER THE INPUT: true; the input reads as it did. -/
def lawS0539AModelSpec : ChangeSpec := { name := "lawS0539AModel", vars := ["example.com/stanzas-for-trust/stanzas-for-trust/internal/dumpvalue.escapes"], fn := fun _ => fun
  | [d1, d2, g1] => { results := [.lit (.bool true)], args := [d1, d2], vars := [g1] }
  | _ => none }
def lawS0539AModelRow : OpenClaim := { program := "ybulkkdgdoor", sum := "5218f59a8009577f8daabab327a4f4b81b74b6f154d5f625c735946d5144c145", func := "example.com/stanzas-for-trust/stanzas-for-trust/internal/dumpvalue.LawS0539AModel", spec := "lawS0539AModel", named := ["example.com/stanzas-for-trust/stanzas-for-trust/internal/dumpvalue.escapes"], apart := false, laid := [("example.com/stanzas-for-trust/stanzas-for-trust/internal/dumpvalue.escapes", laid_example_com_stanzas_for_trust_stanzas_for_trust_internal_dumpvalue_escapes)] }
def LawS0539AModelSaid : Prop := lawS0539AModelRow.holds Ybad.pinned (OpenSpec.ofChange lawS0539AModelSpec)

/-- ITS FALSE NEIGHBOUR: 'it returns false'. Refute it at one input. -/
def lawS0539AModelWrong : ChangeSpec := { name := "lawS0539AModel", vars := ["example.com/stanzas-for-trust/stanzas-for-trust/internal/dumpvalue.escapes"], fn := fun _ => fun
  | [d1, d2, g1] => { results := [.lit (.bool false)], args := [d1, d2], vars := [g1] }
  | _ => none }
def LawS0539AModelWrongFalsely : Prop := lawS0539AModelRow.holds Ybad.pinned (OpenSpec.ofChange lawS0539AModelWrong)

/-- 'dumpvalue.LawS0539AFormat': WHATEVER THE INPUT: true; the input reads as it did. -/
def lawS0539AFormatSpec : ChangeSpec := { name := "lawS0539AFormat", vars := ["example.com/stanzas-for-trust/stanzas-for-trust/internal/dumpvalue.escapes"], fn := fun _ => fun
  | [d, g1] => { results := [.lit (.bool true)], args := [d], vars := [g1] }
  | _ => none }
def lawS0539AFormatRow : OpenClaim := { program := "ybulkkdgdoor", sum := "5218f59a8009577f8daabab327a4f4b81b74b6f154d5f625c735946d5144c145", func := "example.com/stanzas-for-trust/stanzas-for-trust/internal/dumpvalue.LawS0539AFormat", spec := "lawS0539AFormat", named := ["example.com/stanzas-for-trust/stanzas-for-trust/internal/dumpvalue.escapes"], apart := false, laid := [("example.com/stanzas-for-trust/stanzas-for-trust/internal/dumpvalue.escapes", laid_example_com_stanzas_for_trust_stanzas_for_trust_internal_dumpvalue_escapes)] }
def LawS0539AFormatSaid : Prop := lawS0539AFormatRow.holds Ybad.pinned (OpenSpec.ofChange lawS0539AFormatSpec)

/-- ITS FALSE NEIGHBOUR: 'it returns false'. Refute it at one input. -/
def lawS0539AFormatWrong : ChangeSpec := { name := "lawS0539AFormat", vars := ["example.com/stanzas-for-trust/stanzas-for-trust/internal/dumpvalue.escapes"], fn := fun _ => fun
  | [d, g1] => { results := [.lit (.bool false)], args := [d], vars := [g1] }
  | _ => none }
def LawS0539AFormatWrongFalsely : Prop := lawS0539AFormatRow.holds Ybad.pinned (OpenSpec.ofChange lawS0539AFormatWrong)

end Rows
end Go.Proofs.YbulkkdgDoor
