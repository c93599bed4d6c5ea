/-
  No cell of these rows narrows 'for every input' (looked for: loops, veiled, ifaces, maps, wideKeys, modest, calm, conditions, laid).
  DERIVED. THE GIVEN ROWS OF THIS SEAT. 1 by the template 'for every input the law returns true; each argument reads behind the call as it read before'; 0 by the template 'total and deterministic' (their statements: YbulkkewTotals.lean).
  GIVEN WITH THE SEED: the statements are not yours to turn. If you find one false, say at which input.
  Laid BY PROGRAM, IN A SANDBOX (cutbox-rows.mjs): the forced cells as the released guide's own fill.sh prints them over the translation a2881fc98b7542b5… (all of the seat's roots in one cut). By AI agents, Wed Nov 11 2026. No macro, syntax, notation, axiom, sorry.
-/
import Derived.Test.YbulkkewChecked
import GoSem.Claim
import GoSem.ClaimJoined
import GoSem.ClaimMapViews
import Derived.JoinedTies
import Derived.KernelRfl
namespace Go.Proofs.Ybulkkew
/- THE CELL 'sum', in the pinned program and in every row, IS THE sha256 OF THE DUMP (.gsa) THAT YbulkkewProg.lean LOADS. Nothing in Lean hashes anything: it is a label: what it is worth is what the hold of that sum in a sandbox is worth. -/
noncomputable def Yba.pinned : Pinned := { name := "ybulkkew", sum := "a2881fc98b7542b5500d4cbea9bb639dd81f79d63bd8338cc49d86a2ecdb8a71", checked := Yba.checked }
namespace Rows
def none {H : Type} : Left H := { results := [], args := [] }

/-- 'clocklog.LawS0542CFirstMet': WHATEVER THE INPUT: true; the input reads as it did. -/
def lawS0542CFirstMetSpec : ChangeSpec := { name := "lawS0542CFirstMet", fn := fun _ => fun
  | [d1, d2] => { results := [.lit (.bool true)], args := [d1, d2] }
  | _ => none }
def lawS0542CFirstMetRow : OpenClaim := { program := "ybulkkew", sum := "a2881fc98b7542b5500d4cbea9bb639dd81f79d63bd8338cc49d86a2ecdb8a71", func := "example.com/antecedent/antecedent/internal/clocklog.LawS0542CFirstMet", spec := "lawS0542CFirstMet", unfollowed := true, recurses := true, named := ["encoding/binary.LittleEndian"], apart := false }
def LawS0542CFirstMetSaid : Prop := lawS0542CFirstMetRow.holds Yba.pinned (OpenSpec.ofChange lawS0542CFirstMetSpec)

/-- ITS FALSE NEIGHBOUR: 'it returns false'. Refute it at one input. -/
def lawS0542CFirstMetWrong : ChangeSpec := { name := "lawS0542CFirstMet", fn := fun _ => fun
  | [d1, d2] => { results := [.lit (.bool false)], args := [d1, d2] }
  | _ => none }
def LawS0542CFirstMetWrongFalsely : Prop := lawS0542CFirstMetRow.holds Yba.pinned (OpenSpec.ofChange lawS0542CFirstMetWrong)

end Rows
end Go.Proofs.Ybulkkew
