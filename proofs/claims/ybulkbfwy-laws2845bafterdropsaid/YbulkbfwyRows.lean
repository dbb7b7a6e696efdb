/-
  No cell of these rows narrows 'for every input' (looked for: loops, veiled, ifaces, maps, wideKeys, modest, calm, conditions, laid).
  DERIVED. THE GIVEN ROWS OF THIS SEAT. 2 by the template 'for every input the law returns true; each argument reads behind the call as it read before'; 0 by the template 'total and deterministic' (their statements: YbulkbfwyTotals.lean).
  GIVEN WITH THE SEED: the statements are not yours to turn. If you find one false, say at which input.
  Laid BY PROGRAM, IN A SANDBOX (cutbox-rows.mjs): the forced cells as the released guide's own fill.sh prints them over the translation 8cb85bc9715c9d6a… (all of the seat's roots in one cut). By AI agents, Wed Nov 11 2026. No macro, syntax, notation, axiom, sorry.
-/
import Derived.Test.YbulkbfwyChecked
import GoSem.Claim
import GoSem.ClaimJoined
import GoSem.ClaimMapViews
import Derived.JoinedTies
import Derived.KernelRfl
namespace Go.Proofs.Ybulkbfwy
/- THE CELL 'sum', in the pinned program and in every row, IS THE sha256 OF THE DUMP (.gsa) THAT YbulkbfwyProg.lean LOADS. Nothing in Lean hashes anything: it is a label: what it is worth is what the hold of that sum in a sandbox is worth. -/
noncomputable def Yba.pinned : Pinned := { name := "ybulkbfwy", sum := "8cb85bc9715c9d6af4d63a4ae1d4c4b3bf15f2a468b8e88c2ea91b7aa3688690", checked := Yba.checked }
namespace Rows
def none {H : Type} : Left H := { results := [], args := [] }

/-- 'score.LawS2845BFirstSeen': WHATEVER THE INPUT: true; the input reads as it did. -/
def lawS2845BFirstSeenSpec : ChangeSpec := { name := "lawS2845BFirstSeen", fn := fun _ => fun
  | [d] => { results := [.lit (.bool true)], args := [d] }
  | _ => none }
def lawS2845BFirstSeenRow : OpenClaim := { program := "ybulkbfwy", sum := "8cb85bc9715c9d6af4d63a4ae1d4c4b3bf15f2a468b8e88c2ea91b7aa3688690", func := "example.com/midline/midline/pkg/score.LawS2845BFirstSeen", spec := "lawS2845BFirstSeen", apart := false }
def LawS2845BFirstSeenSaid : Prop := lawS2845BFirstSeenRow.holds Yba.pinned (OpenSpec.ofChange lawS2845BFirstSeenSpec)

/-- ITS FALSE NEIGHBOUR: 'it returns false'. Refute it at one input. -/
def lawS2845BFirstSeenWrong : ChangeSpec := { name := "lawS2845BFirstSeen", fn := fun _ => fun
  | [d] => { results := [.lit (.bool false)], args := [d] }
  | _ => none }
def LawS2845BFirstSeenWrongFalsely : Prop := lawS2845BFirstSeenRow.holds Yba.pinned (OpenSpec.ofChange lawS2845BFirstSeenWrong)

/-- 'score.LawS2845BAfterDrop': WHATEVER THE INPUT: true; the input reads as it did. -/
def lawS2845BAfterDropSpec : ChangeSpec := { name := "lawS2845BAfterDrop", fn := fun _ => fun
  | [d] => { results := [.lit (.bool true)], args := [d] }
  | _ => none }
def lawS2845BAfterDropRow : OpenClaim := { program := "ybulkbfwy", sum := "8cb85bc9715c9d6af4d63a4ae1d4c4b3bf15f2a468b8e88c2ea91b7aa3688690", func := "example.com/midline/midline/pkg/score.LawS2845BAfterDrop", spec := "lawS2845BAfterDrop", apart := false }
def LawS2845BAfterDropSaid : Prop := lawS2845BAfterDropRow.holds Yba.pinned (OpenSpec.ofChange lawS2845BAfterDropSpec)

/-- ITS FALSE NEIGHBOUR: 'it returns false'. Refute it at one input. -/
def lawS2845BAfterDropWrong : ChangeSpec := { name := "lawS2845BAfterDrop", fn := fun _ => fun
  | [d] => { results := [.lit (.bool false)], args := [d] }
  | _ => none }
def LawS2845BAfterDropWrongFalsely : Prop := lawS2845BAfterDropRow.holds Yba.pinned (OpenSpec.ofChange lawS2845BAfterDropWrong)

end Rows
end Go.Proofs.Ybulkbfwy
