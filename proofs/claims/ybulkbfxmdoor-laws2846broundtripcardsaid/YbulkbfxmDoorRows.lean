/-
  NARROWER THAN 'FOR EVERY INPUT', by the rows' own cells (each row's printed sentence says how): LawS2846BModel: ifaces, laid · LawS2846BRoundTrip: ifaces, laid · LawS2846BSuffix: ifaces, laid.
  DERIVED. THE GIVEN ROWS OF THIS SEAT. 3 by the template 'for every input the law returns true; each argument reads behind the call as it read before'; 0 by the template 'total and deterministic' (their statements: YbulkbfxmDoorTotals.lean).
  GIVEN WITH THE SEED: the statements are not yours to turn. If you find one false, say at which input.
  Laid BY PROGRAM, IN A SANDBOX (cutbox-rows.mjs): the forced cells as the released guide's own fill.sh prints them over the translation cc3321c5a21725aa… (all of the seat's roots in one cut). By AI agents, Wed Nov 11 2026. No macro, syntax, notation, axiom, sorry.
-/
import Derived.Test.YbulkbfxmDoorChecked
import GoSem.Claim
import GoSem.ClaimJoined
import GoSem.ClaimMapViews
import Derived.JoinedTies
import Derived.KernelRfl
namespace Go.Proofs.YbulkbfxmDoor
/- THE CELL 'sum', in the pinned program and in every row, IS THE sha256 OF THE DUMP (.gsa) THAT YbulkbfxmDoorProg.lean LOADS. Nothing in Lean hashes anything: it is a label: what it is worth is what the hold of that sum in a sandbox is worth. -/
noncomputable def Ybad.pinned : Pinned := { name := "ybulkbfxmdoor", sum := "cc3321c5a21725aa9a1d22225a30ee037a34c42474d00003a7098ff20d373895", checked := Ybad.checked }
namespace Rows
def none {H : Type} : Left H := { results := [], args := [] }

/- WHAT THE LISTED PACKAGE-LEVEL VARIABLES READ AS WHEN THE CALL BEGINS. Each datum BY PROGRAM (the guide's laid-datum.mjs) off the statement by which the dump's own 'gosem.cut.vars' lays the variable. In a bare row this is a premise. The card (YbulkbfxmDoorCards.lean) ties it to the program's text. -/
def laid_example_com_fanout_fanout_varint_ErrTruncated {H : Type} : DataW H := .iface "*errors.errorString" (.ptr (.agg [.lit (.string [118, 97, 114, 105, 110, 116, 58, 32, 105, 110, 112, 117, 116, 32, 101, 110, 100, 115, 32, 105, 110, 115, 105, 100, 101, 32, 97, 32, 110, 117, 109, 98, 101, 114])]))
def laid_example_com_fanout_fanout_varint_ErrOverflow {H : Type} : DataW H := .iface "*errors.errorString" (.ptr (.agg [.lit (.string [118, 97, 114, 105, 110, 116, 58, 32, 110, 117, 109, 98, 101, 114, 32, 116, 111, 111, 32, 108, 97, 114, 103, 101, 32, 102, 111, 114, 32, 54, 52, 32, 98, 105, 116, 115])]))

/-- 'varint.LawS2846BModel': WHATEVER THE INPUT: true; the input reads as it did. -/
def lawS2846BModelSpec : ChangeSpec := { name := "lawS2846BModel", vars := ["example.com/fanout/fanout/varint.ErrTruncated", "example.com/fanout/fanout/varint.ErrOverflow"], fn := fun _ => fun
  | [d, g1, g2] => { results := [.lit (.bool true)], args := [d], vars := [g1, g2] }
  | _ => none }
def lawS2846BModelRow : OpenClaim := { program := "ybulkbfxmdoor", sum := "cc3321c5a21725aa9a1d22225a30ee037a34c42474d00003a7098ff20d373895", func := "example.com/fanout/fanout/varint.LawS2846BModel", spec := "lawS2846BModel", inPlace := ["math/bits.Add64"], named := ["example.com/fanout/fanout/varint.ErrTruncated", "example.com/fanout/fanout/varint.ErrOverflow"], ifaces := true, apart := false, laid := [("example.com/fanout/fanout/varint.ErrTruncated", laid_example_com_fanout_fanout_varint_ErrTruncated), ("example.com/fanout/fanout/varint.ErrOverflow", laid_example_com_fanout_fanout_varint_ErrOverflow)] }
def LawS2846BModelSaid : Prop := lawS2846BModelRow.holds Ybad.pinned (OpenSpec.ofChange lawS2846BModelSpec)

/-- ITS FALSE NEIGHBOUR: 'it returns false'. Refute it at one input. -/
def lawS2846BModelWrong : ChangeSpec := { name := "lawS2846BModel", vars := ["example.com/fanout/fanout/varint.ErrTruncated", "example.com/fanout/fanout/varint.ErrOverflow"], fn := fun _ => fun
  | [d, g1, g2] => { results := [.lit (.bool false)], args := [d], vars := [g1, g2] }
  | _ => none }
def LawS2846BModelWrongFalsely : Prop := lawS2846BModelRow.holds Ybad.pinned (OpenSpec.ofChange lawS2846BModelWrong)

/-- 'varint.LawS2846BRoundTrip': WHATEVER THE INPUT: true; the input reads as it did. -/
def lawS2846BRoundTripSpec : ChangeSpec := { name := "lawS2846BRoundTrip", vars := ["example.com/fanout/fanout/varint.ErrTruncated", "example.com/fanout/fanout/varint.ErrOverflow"], fn := fun _ => fun
  | [d1, d2, g1, g2] => { results := [.lit (.bool true)], args := [d1, d2], vars := [g1, g2] }
  | _ => none }
def lawS2846BRoundTripRow : OpenClaim := { program := "ybulkbfxmdoor", sum := "cc3321c5a21725aa9a1d22225a30ee037a34c42474d00003a7098ff20d373895", func := "example.com/fanout/fanout/varint.LawS2846BRoundTrip", spec := "lawS2846BRoundTrip", named := ["example.com/fanout/fanout/varint.ErrTruncated", "example.com/fanout/fanout/varint.ErrOverflow"], ifaces := true, apart := false, laid := [("example.com/fanout/fanout/varint.ErrTruncated", laid_example_com_fanout_fanout_varint_ErrTruncated), ("example.com/fanout/fanout/varint.ErrOverflow", laid_example_com_fanout_fanout_varint_ErrOverflow)] }
def LawS2846BRoundTripSaid : Prop := lawS2846BRoundTripRow.holds Ybad.pinned (OpenSpec.ofChange lawS2846BRoundTripSpec)

/-- ITS FALSE NEIGHBOUR: 'it returns false'. Refute it at one input. -/
def lawS2846BRoundTripWrong : ChangeSpec := { name := "lawS2846BRoundTrip", vars := ["example.com/fanout/fanout/varint.ErrTruncated", "example.com/fanout/fanout/varint.ErrOverflow"], fn := fun _ => fun
  | [d1, d2, g1, g2] => { results := [.lit (.bool false)], args := [d1, d2], vars := [g1, g2] }
  | _ => none }
def LawS2846BRoundTripWrongFalsely : Prop := lawS2846BRoundTripRow.holds Ybad.pinned (OpenSpec.ofChange lawS2846BRoundTripWrong)

/-- 'varint.LawS2846BSuffix': WHATEVER THE INPUT: true; the input reads as it did. -/
def lawS2846BSuffixSpec : ChangeSpec := { name := "lawS2846BSuffix", vars := ["example.com/fanout/fanout/varint.ErrTruncated", "example.com/fanout/fanout/varint.ErrOverflow"], fn := fun _ => fun
  | [d1, d2, g1, g2] => { results := [.lit (.bool true)], args := [d1, d2], vars := [g1, g2] }
  | _ => none }
def lawS2846BSuffixRow : OpenClaim := { program := "ybulkbfxmdoor", sum := "cc3321c5a21725aa9a1d22225a30ee037a34c42474d00003a7098ff20d373895", func := "example.com/fanout/fanout/varint.LawS2846BSuffix", spec := "lawS2846BSuffix", named := ["example.com/fanout/fanout/varint.ErrTruncated", "example.com/fanout/fanout/varint.ErrOverflow"], ifaces := true, apart := false, laid := [("example.com/fanout/fanout/varint.ErrTruncated", laid_example_com_fanout_fanout_varint_ErrTruncated), ("example.com/fanout/fanout/varint.ErrOverflow", laid_example_com_fanout_fanout_varint_ErrOverflow)] }
def LawS2846BSuffixSaid : Prop := lawS2846BSuffixRow.holds Ybad.pinned (OpenSpec.ofChange lawS2846BSuffixSpec)

/-- ITS FALSE NEIGHBOUR: 'it returns false'. Refute it at one input. -/
def lawS2846BSuffixWrong : ChangeSpec := { name := "lawS2846BSuffix", vars := ["example.com/fanout/fanout/varint.ErrTruncated", "example.com/fanout/fanout/varint.ErrOverflow"], fn := fun _ => fun
  | [d1, d2, g1, g2] => { results := [.lit (.bool false)], args := [d1, d2], vars := [g1, g2] }
  | _ => none }
def LawS2846BSuffixWrongFalsely : Prop := lawS2846BSuffixRow.holds Ybad.pinned (OpenSpec.ofChange lawS2846BSuffixWrong)

end Rows
end Go.Proofs.YbulkbfxmDoor
