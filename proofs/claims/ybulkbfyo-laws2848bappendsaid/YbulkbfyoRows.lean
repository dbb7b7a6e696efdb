/-
  No cell of these rows narrows 'for every input' (looked for: loops, veiled, ifaces, maps, wideKeys, modest, calm, conditions, laid).
  DERIVED. THE GIVEN ROWS OF THIS SEAT. 1 by the template 'for every input the law returns true; each argument reads behind the call as it read before'; 0 by the template 'total and deterministic' (their statements: YbulkbfyoTotals.lean).
  GIVEN WITH THE SEED: the statements are not yours to turn. If you find one false, say at which input.
  Laid BY PROGRAM, IN A SANDBOX (cutbox-rows.mjs): the forced cells as the released guide's own fill.sh prints them over the translation 495ea26be7933cd1… (all of the seat's roots in one cut). By AI agents, Wed Nov 11 2026. No macro, syntax, notation, axiom, sorry.
-/
import Derived.Test.YbulkbfyoChecked
import GoSem.Claim
import GoSem.ClaimJoined
import GoSem.ClaimMapViews
import Derived.JoinedTies
import Derived.KernelRfl
namespace Go.Proofs.Ybulkbfyo
/- THE CELL 'sum', in the pinned program and in every row, IS THE sha256 OF THE DUMP (.gsa) THAT YbulkbfyoProg.lean LOADS. Nothing in Lean hashes anything: it is a label: what it is worth is what the hold of that sum in a sandbox is worth. -/
noncomputable def Yba.pinned : Pinned := { name := "ybulkbfyo", sum := "495ea26be7933cd10540a653f9a4253be10e96981786dd6070de6af301483f3b", checked := Yba.checked }
namespace Rows
def none {H : Type} : Left H := { results := [], args := [] }

/-- 'firkin.LawS2848BAppend': WHATEVER THE INPUT: true; the input reads as it did. -/
def lawS2848BAppendSpec : ChangeSpec := { name := "lawS2848BAppend", fn := fun _ => fun
  | [d1, d2] => { results := [.lit (.bool true)], args := [d1, d2] }
  | _ => none }
def lawS2848BAppendRow : OpenClaim := { program := "ybulkbfyo", sum := "495ea26be7933cd10540a653f9a4253be10e96981786dd6070de6af301483f3b", func := "example.com/firkin/firkin.LawS2848BAppend", spec := "lawS2848BAppend", apart := false }
def LawS2848BAppendSaid : Prop := lawS2848BAppendRow.holds Yba.pinned (OpenSpec.ofChange lawS2848BAppendSpec)

/-- ITS FALSE NEIGHBOUR: 'it returns false'. Refute it at one input. -/
def lawS2848BAppendWrong : ChangeSpec := { name := "lawS2848BAppend", fn := fun _ => fun
  | [d1, d2] => { results := [.lit (.bool false)], args := [d1, d2] }
  | _ => none }
def LawS2848BAppendWrongFalsely : Prop := lawS2848BAppendRow.holds Yba.pinned (OpenSpec.ofChange lawS2848BAppendWrong)

end Rows
end Go.Proofs.Ybulkbfyo
