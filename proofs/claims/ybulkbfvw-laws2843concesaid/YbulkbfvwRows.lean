/-
  No cell of these rows narrows 'for every input' (looked for: loops, veiled, ifaces, maps, wideKeys, modest, calm, conditions, laid).
  DERIVED. THE GIVEN ROWS OF THIS SEAT. 2 by the template 'for every input the law returns true; each argument reads behind the call as it read before'; 0 by the template 'total and deterministic' (their statements: YbulkbfvwTotals.lean).
  GIVEN WITH THE SEED: the statements are not yours to turn. If you find one false, say at which input.
  Laid BY PROGRAM, IN A SANDBOX (cutbox-rows.mjs): the forced cells as the released guide's own fill.sh prints them over the translation 028a7a5478336376… (all of the seat's roots in one cut). By AI agents, Wed Nov 11 2026. No macro, syntax, notation, axiom, sorry.
-/
import Derived.Test.YbulkbfvwChecked
import GoSem.Claim
import GoSem.ClaimJoined
import GoSem.ClaimMapViews
import Derived.JoinedTies
import Derived.KernelRfl
namespace Go.Proofs.Ybulkbfvw
/- THE CELL 'sum', in the pinned program and in every row, IS THE sha256 OF THE DUMP (.gsa) THAT YbulkbfvwProg.lean LOADS. Nothing in Lean hashes anything: it is a label: what it is worth is what the hold of that sum in a sandbox is worth. -/
noncomputable def Yba.pinned : Pinned := { name := "ybulkbfvw", sum := "028a7a5478336376a1d101d9b7c268b0ef20137db3fbe8dd40c3a43357dd13be", checked := Yba.checked }
namespace Rows
def none {H : Type} : Left H := { results := [], args := [] }

/-- 'btree.LawS2843CGather': WHATEVER THE INPUT: true; the input reads as it did. -/
def lawS2843CGatherSpec : ChangeSpec := { name := "lawS2843CGather", fn := fun _ => fun
  | [d1, d2, d3, d4, d5] => { results := [.lit (.bool true)], args := [d1, d2, d3, d4, d5] }
  | _ => none }
def lawS2843CGatherRow : OpenClaim := { program := "ybulkbfvw", sum := "028a7a5478336376a1d101d9b7c268b0ef20137db3fbe8dd40c3a43357dd13be", func := "example.com/undolane/undolane/internal/btree.LawS2843CGather", spec := "lawS2843CGather", unfollowed := true, recurses := true, apart := false }
def LawS2843CGatherSaid : Prop := lawS2843CGatherRow.holds Yba.pinned (OpenSpec.ofChange lawS2843CGatherSpec)

/-- ITS FALSE NEIGHBOUR: 'it returns false'. Refute it at one input. -/
def lawS2843CGatherWrong : ChangeSpec := { name := "lawS2843CGather", fn := fun _ => fun
  | [d1, d2, d3, d4, d5] => { results := [.lit (.bool false)], args := [d1, d2, d3, d4, d5] }
  | _ => none }
def LawS2843CGatherWrongFalsely : Prop := lawS2843CGatherRow.holds Yba.pinned (OpenSpec.ofChange lawS2843CGatherWrong)

/-- 'btree.LawS2843COnce': WHATEVER THE INPUT: true; the input reads as it did. -/
def lawS2843COnceSpec : ChangeSpec := { name := "lawS2843COnce", fn := fun _ => fun
  | [d1, d2, d3, d4] => { results := [.lit (.bool true)], args := [d1, d2, d3, d4] }
  | _ => none }
def lawS2843COnceRow : OpenClaim := { program := "ybulkbfvw", sum := "028a7a5478336376a1d101d9b7c268b0ef20137db3fbe8dd40c3a43357dd13be", func := "example.com/undolane/undolane/internal/btree.LawS2843COnce", spec := "lawS2843COnce", unfollowed := true, recurses := true, apart := false }
def LawS2843COnceSaid : Prop := lawS2843COnceRow.holds Yba.pinned (OpenSpec.ofChange lawS2843COnceSpec)

/-- ITS FALSE NEIGHBOUR: 'it returns false'. Refute it at one input. -/
def lawS2843COnceWrong : ChangeSpec := { name := "lawS2843COnce", fn := fun _ => fun
  | [d1, d2, d3, d4] => { results := [.lit (.bool false)], args := [d1, d2, d3, d4] }
  | _ => none }
def LawS2843COnceWrongFalsely : Prop := lawS2843COnceRow.holds Yba.pinned (OpenSpec.ofChange lawS2843COnceWrong)

end Rows
end Go.Proofs.Ybulkbfvw
