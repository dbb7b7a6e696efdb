/-
  OWN WORK. LawS2845BAfterDrop: the row. (The row's step after the kit's own shells.)
-/
import Derived.Test.YbulkbfwyRows
import Derived.Test.YbulkbfwyWalkE
import Derived.ProofKit
import Derived.OpenShut
import Derived.ShutString
import Derived.ChangeOld
import Derived.Deep.SlicePairs
namespace Go.Proofs.Ybulkbfwy.lawS2845BAfterDrop
open Go.ChangeShapes Go.WideShapes Go.ChangeAt Go.RowKit
set_option linter.unusedVariables false

theorem own : ownKnob Yba.prog.godebug = none := by kernel_rfl
theorem laidOut : laidOutB Yba.prog = true := by kernel_rfl

theorem wf_u8 {n : Int} (h : (Lit.int .u8 n).wf = true) : 0 ≤ n ∧ n < 256 := by
  have h1 : IntKind.u8.min = 0 := rfl
  have h2 : IntKind.u8.max = 255 := rfl
  simp only [Lit.wf, Bool.and_eq_true, decide_eq_true_eq] at h
  omega
/-- The number in a cell. -/
def num8 : Value → Int | .int .u8 n => if 0 ≤ n ∧ n < 256 then n else 0 | _ => 0
theorem num8_bd (v : Value) : 0 ≤ num8 v ∧ num8 v < 256 := by
  unfold num8
  split
  · split
    · omega
    · decide
  · decide

/-- What the walk is told of the steps. -/
theorem reads_open {H : Type} {enc : TypeId × Value → H} {W : World} {a0 : Option Addr} {len0 cap0 : Nat} {d0 : DataW H} {p0 : List MemPlace} (h0 : DataW.Trod enc Yba.prog W 0 (fun _ => true) true 62 (.slice a0 len0 cap0) d0 p0) :
    ∃ fo fk : Nat → Int, ReadsP W a0 len0 fo fk ∧ ∀ j, 0 ≤ fo j ∧ fo j < 256 ∧ 0 ≤ fk j ∧ fk j < 256 := by
  obtain ⟨fuel, hf⟩ := h0
  rcases Go.Deep.open_slice_pairs Yba.underlying62 Yba.underlying64 (by kernel_rfl) rfl rfl (by kernel_rfl) (by kernel_rfl) hf with ⟨hcs, _⟩ | ⟨x, l, c, m, n, V0, V1, D0, D1, P0, P1, hcs, _, hl, hm, hmm, _, hx⟩
  · simp [Value.cells] at hcs
    obtain ⟨rfl, rfl, rfl⟩ := hcs
    exact ⟨fun _ => 0, fun _ => 0, fun j hj => by omega, fun j => by simp⟩
  · simp [Value.cells] at hcs
    obtain ⟨rfl, rfl, rfl⟩ := hcs
    simp only [if_true] at hmm
    refine ⟨fun j => num8 (V0 j), fun j => num8 (V1 j), fun j hj => ?_, fun j => ⟨(num8_bd _).1, (num8_bd _).2, (num8_bd _).1, (num8_bd _).2⟩⟩
    have h00 := (hx 0 (by omega)).1
    obtain ⟨b, off, spot⟩ := x
    have hspot : spot = none := by simpa [Addr.add] using World.cell?_spot h00
    subst hspot
    obtain ⟨q0, q1, t0, t1⟩ := hx j (by omega)
    obtain ⟨n0, e0, _, w0⟩ := DataW.trod_int Yba.underlying5 t0
    obtain ⟨n1, e1, _, w1⟩ := DataW.trod_int Yba.underlying5 t1
    simp at e0 e1
    rw [addr_add] at q0 q1
    have b0 := wf_u8 w0
    have b1 := wf_u8 w1
    refine ⟨b, off, rfl, ?_, ?_⟩
    · have h : num8 (V0 j) = n0 := by rw [e0]; simp [num8, b0]
      show _ = some (Value.int .u8 (num8 (V0 j)))
      rw [h, q0, e0]
    · have h : num8 (V1 j) = n1 := by rw [e1]; simp [num8, b1]
      show _ = some (Value.int .u8 (num8 (V1 j)))
      rw [h, Nat.add_assoc, q1, e1]

set_option maxRecDepth 100000 in
theorem lifted (os : Os) (started : os.Started) (H : Type) (enc : TypeId × Value → H) :
    ReturnsInHanded {} Yba.checked os 4 .any (Rows.lawS2845BAfterDropSpec.pre6 enc Yba.prog Yba.f4 Rows.lawS2845BAfterDropRow.domain false) (Rows.lawS2845BAfterDropSpec.post enc Yba.prog Yba.f4 false true false false) := by
  refine returnsInHanded_of_change (C := Yba.checked) own started (by kernel_rfl) Yba.func4
    (ChangeSpec.witness6 (enc := enc) (C := Yba.checked) false ⟨#[], #[.slice none 0 0], []⟩ 8 (by kernel_rfl) (by kernel_rfl) (by kernel_rfl) (by kernel_rfl)) ?_
  intro W base args ds gs before hval0 hW hcnd _
  have hval : ∀ (j : Nat) t v, Yba.f4.params[j]? = some t → args[j]? = some v → Value.okWide Yba.prog W .any base t v := hval0
  have hW' := hW
  obtain ⟨p, q, hA0, hV, rfl, hfz, hnd⟩ := hW
  have hA : DataW.TrodAll enc Yba.prog W 0 (fun _ => true) true Yba.f4.params.toList args.toList ds p := hA0
  rw [Yba.params4] at hA hval
  obtain ⟨v0, vs0, d0, ds0, p0, q0, hargs, rfl, rfl, h0, r0⟩ := trodAll_cons hA
  obtain ⟨rfl, rfl, rfl⟩ := trodAll_nil r0
  obtain rfl : args = #[v0] := by cases args; simp_all
  obtain ⟨rfl, rfl⟩ := trodVars_none hV
  obtain ⟨a0, len0, cap0, rfl⟩ := okWide_slice Yba.underlying62 (hval 0 62 v0 rfl rfl)
  have k0 := h0
  have lt0 : ∀ x ∈ p0, x.block < W.heap.size := by obtain ⟨m, hm⟩ := k0; exact DataW.trod_lt m _ _ _ hm
  obtain ⟨fo, fk, hr, hf⟩ := reads_open h0
  clear hA0 hval0
  refine (law4_any a0 len0 cap0 fo fk W hr hf).mono fun e W' ⟨he, bel⟩ => ?_
  subst he
  exact ⟨_, rfl, _, _, _, [], _, [], hW', trodAll_mk1 (shut_bool Yba.underlying4 _), (trodAll_cons_mk (Below.trod laidOut (by kernel_rfl) (of_decide_eq_true (by kernel_rfl)) k0 bel lt0) trodAll_mk0), rfl, bel.frame _, fun h => by cases h⟩

theorem over : Rows.lawS2845BAfterDropRow.holds Yba.pinned (OpenSpec.ofChange Rows.lawS2845BAfterDropSpec) :=
  OpenClaim.holds_of_wide 4 Yba.f4 rfl rfl rfl rfl rfl rfl rfl ⟨rfl, rfl, rfl, rfl, rfl⟩ rfl rfl rfl rfl rfl (by kernel_rfl) Yba.func4 (by kernel_rfl)
    (of_decide_eq_true (by kernel_rfl)) (by unfold Func.isWrapper; first | (rw [if_pos (by decide +kernel)]; kernel_rfl) | (rw [if_neg (by decide +kernel)]; exact ⟨rfl, rfl⟩))
    (fun os started H enc _ => lifted os started H enc)

theorem proved : Rows.LawS2845BAfterDropSaid := over
end Go.Proofs.Ybulkbfwy.lawS2845BAfterDrop
