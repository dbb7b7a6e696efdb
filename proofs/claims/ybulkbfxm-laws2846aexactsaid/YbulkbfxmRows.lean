/-
  No cell of these rows narrows 'for every input' (looked for: loops, veiled, ifaces, maps, wideKeys, modest, calm, conditions, laid).
  DERIVED. THE GIVEN ROWS OF THIS SEAT. 2 by the template 'for every input the law returns true; each argument reads behind the call as it read before'; 0 by the template 'total and deterministic' (their statements: YbulkbfxmTotals.lean).
  GIVEN WITH THE SEED: the statements are not yours to turn. If you find one false, say at which input.
  Laid BY PROGRAM, IN A SANDBOX (cutbox-rows.mjs): the forced cells as the released guide's own fill.sh prints them over the translation ee5ea1e46bcd467a… (all of the seat's roots in one cut). By AI agents, Wed Nov 11 2026. No macro, syntax, notation, axiom, sorry.
-/
import Derived.Test.YbulkbfxmChecked
import GoSem.Claim
import GoSem.ClaimJoined
import GoSem.ClaimMapViews
import Derived.JoinedTies
import Derived.KernelRfl
namespace Go.Proofs.Ybulkbfxm
/- THE CELL 'sum', in the pinned program and in every row, IS THE sha256 OF THE DUMP (.gsa) THAT YbulkbfxmProg.lean LOADS. Nothing in Lean hashes anything: it is a label: what it is worth is what the hold of that sum in a sandbox is worth. -/
noncomputable def Yba.pinned : Pinned := { name := "ybulkbfxm", sum := "ee5ea1e46bcd467a465e08fc6a6af64cee2712e9ce92f88fb068d955a815dc97", checked := Yba.checked }
namespace Rows
def none {H : Type} : Left H := { results := [], args := [] }

/-- 'pack.LawS2846AExact': WHATEVER THE INPUT: true; the input reads as it did. -/
def lawS2846AExactSpec : ChangeSpec := { name := "lawS2846AExact", fn := fun _ => fun
  | [d1, d2, d3] => { results := [.lit (.bool true)], args := [d1, d2, d3] }
  | _ => none }
def lawS2846AExactRow : OpenClaim := { program := "ybulkbfxm", sum := "ee5ea1e46bcd467a465e08fc6a6af64cee2712e9ce92f88fb068d955a815dc97", func := "example.com/fanout/fanout/pack.LawS2846AExact", spec := "lawS2846AExact", apart := false }
def LawS2846AExactSaid : Prop := lawS2846AExactRow.holds Yba.pinned (OpenSpec.ofChange lawS2846AExactSpec)

/-- ITS FALSE NEIGHBOUR: 'it returns false'. Refute it at one input. -/
def lawS2846AExactWrong : ChangeSpec := { name := "lawS2846AExact", fn := fun _ => fun
  | [d1, d2, d3] => { results := [.lit (.bool false)], args := [d1, d2, d3] }
  | _ => none }
def LawS2846AExactWrongFalsely : Prop := lawS2846AExactRow.holds Yba.pinned (OpenSpec.ofChange lawS2846AExactWrong)

/-- 'pack.LawS2846AClaimed': WHATEVER THE INPUT: true; the input reads as it did. -/
def lawS2846AClaimedSpec : ChangeSpec := { name := "lawS2846AClaimed", fn := fun _ => fun
  | [d1, d2] => { results := [.lit (.bool true)], args := [d1, d2] }
  | _ => none }
def lawS2846AClaimedRow : OpenClaim := { program := "ybulkbfxm", sum := "ee5ea1e46bcd467a465e08fc6a6af64cee2712e9ce92f88fb068d955a815dc97", func := "example.com/fanout/fanout/pack.LawS2846AClaimed", spec := "lawS2846AClaimed", apart := false }
def LawS2846AClaimedSaid : Prop := lawS2846AClaimedRow.holds Yba.pinned (OpenSpec.ofChange lawS2846AClaimedSpec)

/-- ITS FALSE NEIGHBOUR: 'it returns false'. Refute it at one input. -/
def lawS2846AClaimedWrong : ChangeSpec := { name := "lawS2846AClaimed", fn := fun _ => fun
  | [d1, d2] => { results := [.lit (.bool false)], args := [d1, d2] }
  | _ => none }
def LawS2846AClaimedWrongFalsely : Prop := lawS2846AClaimedRow.holds Yba.pinned (OpenSpec.ofChange lawS2846AClaimedWrong)

end Rows
end Go.Proofs.Ybulkbfxm
