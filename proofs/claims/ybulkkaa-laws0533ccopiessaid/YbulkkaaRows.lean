/-
  No cell of these rows narrows 'for every input' (looked for: loops, veiled, ifaces, maps, wideKeys, modest, calm, conditions, laid).
  DERIVED. THE GIVEN ROWS OF THIS SEAT. 2 by the template 'for every input the law returns true; each argument reads behind the call as it read before'; 0 by the template 'total and deterministic' (their statements: YbulkkaaTotals.lean).
  GIVEN WITH THE SEED: the statements are not yours to turn. If you find one false, say at which input.
  Laid BY PROGRAM, IN A SANDBOX (cutbox-rows.mjs): the forced cells as the released guide's own fill.sh prints them over the translation 1258dc92937cfd3b… (all of the seat's roots in one cut). By AI agents, Wed Nov 11 2026. No macro, syntax, notation, axiom, sorry.
-/
import Derived.Test.YbulkkaaChecked
import GoSem.Claim
import GoSem.ClaimJoined
import GoSem.ClaimMapViews
import Derived.JoinedTies
import Derived.KernelRfl
namespace Go.Proofs.Ybulkkaa
/- THE CELL 'sum', in the pinned program and in every row, IS THE sha256 OF THE DUMP (.gsa) THAT YbulkkaaProg.lean LOADS. Nothing in Lean hashes anything: it is a label: what it is worth is what the hold of that sum in a sandbox is worth. -/
noncomputable def Yba.pinned : Pinned := { name := "ybulkkaa", sum := "1258dc92937cfd3b5b69903941d9263dab332cedf44c2a94a88d90e61ee2a0ca", checked := Yba.checked }
namespace Rows
def none {H : Type} : Left H := { results := [], args := [] }

/-- 'tagfold.LawS0533CCopies': WHATEVER THE INPUT: true; the input reads as it did. -/
def lawS0533CCopiesSpec : ChangeSpec := { name := "lawS0533CCopies", fn := fun _ => fun
  | [d1, d2] => { results := [.lit (.bool true)], args := [d1, d2] }
  | _ => none }
def lawS0533CCopiesRow : OpenClaim := { program := "ybulkkaa", sum := "1258dc92937cfd3b5b69903941d9263dab332cedf44c2a94a88d90e61ee2a0ca", func := "example.com/tagfold/tagfold.LawS0533CCopies", spec := "lawS0533CCopies", apart := false }
def LawS0533CCopiesSaid : Prop := lawS0533CCopiesRow.holds Yba.pinned (OpenSpec.ofChange lawS0533CCopiesSpec)

/-- ITS FALSE NEIGHBOUR: 'it returns false'. Refute it at one input. -/
def lawS0533CCopiesWrong : ChangeSpec := { name := "lawS0533CCopies", fn := fun _ => fun
  | [d1, d2] => { results := [.lit (.bool false)], args := [d1, d2] }
  | _ => none }
def LawS0533CCopiesWrongFalsely : Prop := lawS0533CCopiesRow.holds Yba.pinned (OpenSpec.ofChange lawS0533CCopiesWrong)

/-- 'tagfold.LawS0533CFreshSlice': WHATEVER THE INPUT: true; the input reads as it did. -/
def lawS0533CFreshSliceSpec : ChangeSpec := { name := "lawS0533CFreshSlice", fn := fun _ => fun
  | [d] => { results := [.lit (.bool true)], args := [d] }
  | _ => none }
def lawS0533CFreshSliceRow : OpenClaim := { program := "ybulkkaa", sum := "1258dc92937cfd3b5b69903941d9263dab332cedf44c2a94a88d90e61ee2a0ca", func := "example.com/tagfold/tagfold.LawS0533CFreshSlice", spec := "lawS0533CFreshSlice", apart := false }
def LawS0533CFreshSliceSaid : Prop := lawS0533CFreshSliceRow.holds Yba.pinned (OpenSpec.ofChange lawS0533CFreshSliceSpec)

/-- ITS FALSE NEIGHBOUR: 'it returns false'. Refute it at one input. -/
def lawS0533CFreshSliceWrong : ChangeSpec := { name := "lawS0533CFreshSlice", fn := fun _ => fun
  | [d] => { results := [.lit (.bool false)], args := [d] }
  | _ => none }
def LawS0533CFreshSliceWrongFalsely : Prop := lawS0533CFreshSliceRow.holds Yba.pinned (OpenSpec.ofChange lawS0533CFreshSliceWrong)

end Rows
end Go.Proofs.Ybulkkaa
