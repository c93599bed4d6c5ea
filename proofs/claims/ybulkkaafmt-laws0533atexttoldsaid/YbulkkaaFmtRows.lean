/-
  NARROWER THAN 'FOR EVERY INPUT', by the rows' own cells (each row's printed sentence says how): LawS0533AKnown: laid · LawS0533AText: laid · LawS0533ARoundTrip: laid.
  DERIVED. THE GIVEN ROWS OF THIS SEAT. 3 by the template 'for every input the law returns true; each argument reads behind the call as it read before'; 0 by the template 'total and deterministic' (their statements: YbulkkaaFmtTotals.lean).
  GIVEN WITH THE SEED: the statements are not yours to turn. If you find one false, say at which input.
  Laid BY PROGRAM, IN A SANDBOX (cutbox-rows.mjs): the forced cells as the released guide's own fill.sh prints them over the translation 7defe7b7db48ac8d… (all of the seat's roots in one cut). By AI agents, Wed Nov 11 2026. No macro, syntax, notation, axiom, sorry.
-/
import Derived.Test.YbulkkaaFmtChecked
import GoSem.Claim
import GoSem.ClaimJoined
import GoSem.ClaimMapViews
import Derived.JoinedTies
import Derived.KernelRfl
namespace Go.Proofs.YbulkkaaFmt
/- THE CELL 'sum', in the pinned program and in every row, IS THE sha256 OF THE DUMP (.gsa) THAT YbulkkaaFmtProg.lean LOADS. Nothing in Lean hashes anything: it is a label: what it is worth is what the hold of that sum in a sandbox is worth. -/
noncomputable def Ybaf.pinned : Pinned := { name := "ybulkkaafmt", sum := "7defe7b7db48ac8d201f92ce9a389486b607600730f408005961c1334a84161f", checked := Ybaf.checked }
namespace Rows
def none {H : Type} : Left H := { results := [], args := [] }

/- WHAT THE LISTED PACKAGE-LEVEL VARIABLES READ AS WHEN THE CALL BEGINS. Each datum BY PROGRAM (the guide's laid-datum.mjs) off the statement by which the dump's own 'gosem.cut.vars' lays the variable. In a bare row this is a premise. The card (YbulkkaaFmtCards.lean) ties it to the program's text. -/
def laid_example_com_tagfold_tagfold_bucketFuncs {H : Type} : DataW H := .agg [.agg [.lit (.string [115, 117, 109]), .lit (.int .i64 0)], .agg [.lit (.string [97, 118, 103]), .lit (.int .i64 1)], .agg [.lit (.string [109, 105, 110]), .lit (.int .i64 2)], .agg [.lit (.string [109, 97, 120]), .lit (.int .i64 3)], .agg [.lit (.string [99, 111, 117, 110, 116]), .lit (.int .i64 4)], .agg [.lit (.string [108, 97, 115, 116]), .lit (.int .i64 4)], .agg [.lit (.string [100, 101, 108, 116, 97]), .lit (.int .i64 3)], .agg [.lit (.string [100, 101, 114, 105, 118, 101]), .lit (.int .i64 4)], .agg [.lit (.string [115, 116, 100, 101, 118]), .lit (.int .i64 4)], .agg [.lit (.string [112, 101, 114, 99, 101, 110, 116, 105, 108, 101, 115]), .lit (.int .i64 4)]]

/-- 'tagfold.LawS0533AKnown': WHATEVER THE INPUT: true; the input reads as it did. -/
def lawS0533AKnownSpec : ChangeSpec := { name := "lawS0533AKnown", vars := ["example.com/tagfold/tagfold.bucketFuncs"], fn := fun _ => fun
  | [d1, d2, g1] => { results := [.lit (.bool true)], args := [d1, d2], vars := [g1] }
  | _ => none }
def lawS0533AKnownRow : OpenClaim := { program := "ybulkkaafmt", sum := "7defe7b7db48ac8d201f92ce9a389486b607600730f408005961c1334a84161f", func := "example.com/tagfold/tagfold.LawS0533AKnown", spec := "lawS0533AKnown", stops := ["fmt.errorf, its operands' methods called", "fmt.Sprintf"], inPlace := ["internal/abi.NoEscape", "internal/bytealg.MakeNoZero", "fmt.errorf"], unfollowed := true, recurses := true, named := ["example.com/tagfold/tagfold.bucketFuncs"], apart := false, laid := [("example.com/tagfold/tagfold.bucketFuncs", laid_example_com_tagfold_tagfold_bucketFuncs)] }
/-- NO THEOREM (fmt's text is open here; it may be false): for the released tool's asking of the row's closed facts alone. THE STATEMENT IS 'LawS0533AKnownToldSaid' (YbulkkaaFmtCards.lean). -/
def LawS0533AKnownFormAsk : Prop := lawS0533AKnownRow.holds Ybaf.pinned (OpenSpec.ofChange lawS0533AKnownSpec)

/-- ITS FALSE NEIGHBOUR: 'it returns false'. Refute it at one input. -/
def lawS0533AKnownWrong : ChangeSpec := { name := "lawS0533AKnown", vars := ["example.com/tagfold/tagfold.bucketFuncs"], fn := fun _ => fun
  | [d1, d2, g1] => { results := [.lit (.bool false)], args := [d1, d2], vars := [g1] }
  | _ => none }
def LawS0533AKnownWrongFormAsk : Prop := lawS0533AKnownRow.holds Ybaf.pinned (OpenSpec.ofChange lawS0533AKnownWrong)

/-- 'tagfold.LawS0533AText': WHATEVER THE INPUT: true; the input reads as it did. -/
def lawS0533ATextSpec : ChangeSpec := { name := "lawS0533AText", vars := ["example.com/tagfold/tagfold.bucketFuncs"], fn := fun _ => fun
  | [d1, d2, g1] => { results := [.lit (.bool true)], args := [d1, d2], vars := [g1] }
  | _ => none }
def lawS0533ATextRow : OpenClaim := { program := "ybulkkaafmt", sum := "7defe7b7db48ac8d201f92ce9a389486b607600730f408005961c1334a84161f", func := "example.com/tagfold/tagfold.LawS0533AText", spec := "lawS0533AText", stops := ["fmt.errorf, its operands' methods called", "fmt.Sprintf"], inPlace := ["internal/abi.NoEscape", "internal/bytealg.MakeNoZero", "fmt.errorf"], unfollowed := true, recurses := true, named := ["example.com/tagfold/tagfold.bucketFuncs"], apart := false, laid := [("example.com/tagfold/tagfold.bucketFuncs", laid_example_com_tagfold_tagfold_bucketFuncs)] }
/-- NO THEOREM (fmt's text is open here; it may be false): for the released tool's asking of the row's closed facts alone. THE STATEMENT IS 'LawS0533ATextToldSaid' (YbulkkaaFmtCards.lean). -/
def LawS0533ATextFormAsk : Prop := lawS0533ATextRow.holds Ybaf.pinned (OpenSpec.ofChange lawS0533ATextSpec)

/-- ITS FALSE NEIGHBOUR: 'it returns false'. Refute it at one input. -/
def lawS0533ATextWrong : ChangeSpec := { name := "lawS0533AText", vars := ["example.com/tagfold/tagfold.bucketFuncs"], fn := fun _ => fun
  | [d1, d2, g1] => { results := [.lit (.bool false)], args := [d1, d2], vars := [g1] }
  | _ => none }
def LawS0533ATextWrongFormAsk : Prop := lawS0533ATextRow.holds Ybaf.pinned (OpenSpec.ofChange lawS0533ATextWrong)

/-- 'tagfold.LawS0533ARoundTrip': WHATEVER THE INPUT: true; the input reads as it did. -/
def lawS0533ARoundTripSpec : ChangeSpec := { name := "lawS0533ARoundTrip", vars := ["example.com/tagfold/tagfold.bucketFuncs"], fn := fun _ => fun
  | [d1, d2, g1] => { results := [.lit (.bool true)], args := [d1, d2], vars := [g1] }
  | _ => none }
def lawS0533ARoundTripRow : OpenClaim := { program := "ybulkkaafmt", sum := "7defe7b7db48ac8d201f92ce9a389486b607600730f408005961c1334a84161f", func := "example.com/tagfold/tagfold.LawS0533ARoundTrip", spec := "lawS0533ARoundTrip", stops := ["fmt.errorf, its operands' methods called", "fmt.Sprintf"], inPlace := ["fmt.errorf", "internal/abi.NoEscape", "internal/bytealg.MakeNoZero"], unfollowed := true, recurses := true, named := ["example.com/tagfold/tagfold.bucketFuncs"], apart := false, laid := [("example.com/tagfold/tagfold.bucketFuncs", laid_example_com_tagfold_tagfold_bucketFuncs)] }
/-- NO THEOREM (fmt's text is open here; it may be false): for the released tool's asking of the row's closed facts alone. THE STATEMENT IS 'LawS0533ARoundTripToldSaid' (YbulkkaaFmtCards.lean). -/
def LawS0533ARoundTripFormAsk : Prop := lawS0533ARoundTripRow.holds Ybaf.pinned (OpenSpec.ofChange lawS0533ARoundTripSpec)

/-- ITS FALSE NEIGHBOUR: 'it returns false'. Refute it at one input. -/
def lawS0533ARoundTripWrong : ChangeSpec := { name := "lawS0533ARoundTrip", vars := ["example.com/tagfold/tagfold.bucketFuncs"], fn := fun _ => fun
  | [d1, d2, g1] => { results := [.lit (.bool false)], args := [d1, d2], vars := [g1] }
  | _ => none }
def LawS0533ARoundTripWrongFormAsk : Prop := lawS0533ARoundTripRow.holds Ybaf.pinned (OpenSpec.ofChange lawS0533ARoundTripWrong)

end Rows
end Go.Proofs.YbulkkaaFmt
