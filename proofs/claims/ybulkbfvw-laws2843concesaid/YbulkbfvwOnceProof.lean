/-
  OWN WORK. LawS2843COnce: the walk joined, and the row. (The row's step after the kit's own shells.)
-/
import Derived.Test.YbulkbfvwRows
import Derived.Test.YbulkbfvwWalkJ
import Derived.ProofKit
import Derived.OpenShut
import Derived.ShutString
import Derived.ChangeOld
import Derived.Deep.Grids
namespace Go.Proofs.Ybulkbfvw
open Go.ChangeShapes Go.WideShapes Go.ChangeAt Go.RowKit
open Go.ChangeMaps (open_string shut_string)
set_option linter.unusedVariables false
namespace Once

theorem own : ownKnob Yba.prog.godebug = none := by kernel_rfl
theorem laidOut : laidOutB Yba.prog = true := by kernel_rfl

theorem wf_u64 {n : Int} (h : (Lit.int .u64 n).wf = true) : 0 ≤ n ∧ n < 18446744073709551616 := by
  have h1 : IntKind.u64.min = 0 := rfl
  have h2 : IntKind.u64.max = 18446744073709551615 := rfl
  simp only [Lit.wf, Bool.and_eq_true, decide_eq_true_eq] at h
  omega

/-- What the walk is told of nums. -/
theorem reads_open {H : Type} {enc : TypeId × Value → H} {W : World} {a0 : Option Addr} {len0 cap0 : Nat} {d0 : DataW H} {p0 : List MemPlace} (h0 : DataW.Trod enc Yba.prog W 0 (fun _ => true) true 22 (.slice a0 len0 cap0) d0 p0) :
    ∃ f : Nat → Int, Reads .u64 W a0 len0 f ∧ ∀ j, 0 ≤ f j ∧ f j < 18446744073709551616 := by
  obtain ⟨fuel, hf⟩ := h0
  rcases open_ints Yba.underlying22 Yba.underlying24 (by kernel_rfl) hf with ⟨hcs, _⟩ | ⟨x, l, c, zs, hcs, _, hl, hm, hz, _, hcell, hwz⟩
  · simp [Value.cells] at hcs
    obtain ⟨rfl, rfl, rfl⟩ := hcs
    exact ⟨fun _ => 0, fun j hj => by omega, fun j => by simp⟩
  · simp [Value.cells] at hcs
    obtain ⟨rfl, rfl, rfl⟩ := hcs
    simp only [if_true] at hz
    refine ⟨fun j => zs.getD j 0, fun j hj => ?_, fun j => ?_⟩
    · obtain ⟨b, off, rfl, hc⟩ := ints_at hcell (by omega)
      exact ⟨b, off, rfl, hc j (by omega)⟩
    · by_cases hj : j < zs.length
      · have := wf_u64 (hwz zs[j] (List.getElem_mem hj))
        simpa [List.getD, List.getElem?_eq_getElem hj] using this
      · simp [List.getD, hj]

theorem readsB_open {H : Type} {enc : TypeId × Value → H} {W : World} {a0 : Option Addr} {len0 cap0 : Nat} {d0 : DataW H} {p0 : List MemPlace} (h0 : DataW.Trod enc Yba.prog W 0 (fun _ => true) true 23 (.slice a0 len0 cap0) d0 p0) :
    ∃ p : Nat → Bool, ReadsB W a0 len0 p ∧ ∀ j, len0 ≤ j → p j = false := by
  obtain ⟨fuel, hf⟩ := h0
  rcases Go.Deep.open_bools Yba.underlying23 Yba.underlying4 (by kernel_rfl) hf with ⟨hcs, _⟩ | ⟨x, l, c, B, hcs, _, hl, hm, _, hcell⟩
  · simp [Value.cells] at hcs
    obtain ⟨rfl, rfl, rfl⟩ := hcs
    exact ⟨fun _ => false, fun j hj => by omega, fun j _ => rfl⟩
  · simp [Value.cells] at hcs
    obtain ⟨rfl, rfl, rfl⟩ := hcs
    refine ⟨fun j => if j < len0 then B j else false, fun j hj => ?_, fun j hj => by simp; omega⟩
    have h0 := hcell 0 (by omega)
    obtain ⟨b, off, spot⟩ := x
    have hspot : spot = none := by simpa [Addr.add] using World.cell?_spot h0
    subst hspot
    refine ⟨b, off, rfl, ?_⟩
    rw [← addr_add, hcell j (by omega)]
    simp [hj]

theorem bs_cases (bs0 : Int) (h : 0 ≤ bs0) : ∃ bs : Int, 1 ≤ bs ∧ (((bs0 == 0) = true ∧ bs = 1) ∨ ((bs0 == 0) = false ∧ bs = bs0)) := by
  by_cases e : bs0 = 0
  · exact ⟨1, by omega, .inl ⟨by simp [e], rfl⟩⟩
  · exact ⟨bs0, by omega, .inr ⟨by simp [e], rfl⟩⟩

namespace lawS2843COnce
theorem walk (a pa : Option Addr) (n cap pl pc : Nat) (bs0 last : Int) (f : Nat → Int) (pin : Nat → Bool) (w : World) (hr : Reads .u64 w a n f) (hf : ∀ j, 0 ≤ f j ∧ f j < 18446744073709551616)
    (hp : ReadsB w pa pl pin) (hpf : ∀ j, pl ≤ j → pin j = false) (hb : 0 ≤ bs0) :
    Calls Yba.prog 4 #[.slice a n cap, .slice pa pl pc, .int .u64 bs0, .int .u64 last] w fun e w' => e = .returned (.bool true) ∧ Below w.heap.size w w' := by
  by_cases hbig : 1024 < n ∨ 1024 < pl
  · exact law4_big a pa n cap pl pc bs0 last w hbig
  · obtain ⟨bs, h1, h2⟩ := bs_cases bs0 hb
    cases hs : spr f bs n 0 [] with
    | false => exact law4_no a pa n cap pl pc bs0 bs last f pin w (by omega) (by omega) hr hf hp hs h1 h2
    | true => exact law4_yes a pa n cap pl pc bs0 bs last f pin w (by omega) (by omega) hr hf hp hpf hs h1 h2

set_option maxRecDepth 100000 in
theorem lifted (os : Os) (started : os.Started) (H : Type) (enc : TypeId × Value → H) :
    ReturnsInHanded {} Yba.checked os 4 .any (Rows.lawS2843COnceSpec.pre6 enc Yba.prog Yba.f4 Rows.lawS2843COnceRow.domain false) (Rows.lawS2843COnceSpec.post enc Yba.prog Yba.f4 false true false false) := by
  refine returnsInHanded_of_change (C := Yba.checked) own started (by kernel_rfl) Yba.func4
    (ChangeSpec.witness6 (enc := enc) (C := Yba.checked) false ⟨#[], #[.slice none 0 0, .slice none 0 0, .int .u64 0, .int .u64 0], []⟩ 8 (by kernel_rfl) (by kernel_rfl) (by kernel_rfl) (by kernel_rfl)) ?_
  intro W base args ds gs before hval0 hW hcnd _
  have hval : ∀ (j : Nat) t v, Yba.f4.params[j]? = some t → args[j]? = some v → Value.okWide Yba.prog W .any base t v := hval0
  have hW' := hW
  obtain ⟨p, q, hA0, hV, rfl, hfz, hnd⟩ := hW
  have hA : DataW.TrodAll enc Yba.prog W 0 (fun _ => true) true Yba.f4.params.toList args.toList ds p := hA0
  rw [Yba.params4] at hA hval
  obtain ⟨v0, vs0, d0, ds0, p0, q0, hargs, rfl, rfl, h0, r0⟩ := trodAll_cons hA
  obtain ⟨v1, vs1, d1, ds1, p1, q1, rfl, rfl, rfl, h1, r1⟩ := trodAll_cons r0
  obtain ⟨v2, vs2, d2, ds2, p2, q2, rfl, rfl, rfl, h2, r2⟩ := trodAll_cons r1
  obtain ⟨v3, vs3, d3, ds3, p3, q3, rfl, rfl, rfl, h3, r3⟩ := trodAll_cons r2
  obtain ⟨rfl, rfl, rfl⟩ := trodAll_nil r3
  obtain rfl : args = #[v0, v1, v2, v3] := by cases args; simp_all
  obtain ⟨rfl, rfl⟩ := trodVars_none hV
  obtain ⟨a2, rfl, rfl, rfl, w2⟩ := open_int Yba.underlying24 (hval 2 24 v2 rfl rfl) h2
  obtain ⟨a3, rfl, rfl, rfl, w3⟩ := open_int Yba.underlying24 (hval 3 24 v3 rfl rfl) h3
  obtain ⟨a0, len0, cap0, rfl⟩ := okWide_slice Yba.underlying22 (hval 0 22 v0 rfl rfl)
  obtain ⟨a1, len1, cap1, rfl⟩ := okWide_slice Yba.underlying23 (hval 1 23 v1 rfl rfl)
  have k0 := h0
  have lt0 : ∀ x ∈ p0, x.block < W.heap.size := by obtain ⟨m, hm⟩ := k0; exact DataW.trod_lt m _ _ _ hm
  have k1 := h1
  have lt1 : ∀ x ∈ p1, x.block < W.heap.size := by obtain ⟨m, hm⟩ := k1; exact DataW.trod_lt m _ _ _ hm
  obtain ⟨f, hr, hf⟩ := reads_open h0
  obtain ⟨pin, hp, hpf⟩ := readsB_open h1
  clear hA0 hval0
  refine (walk a0 a1 len0 cap0 len1 cap1 a2 a3 f pin W hr hf hp hpf (wf_u64 w2).1).mono fun e W' ⟨he, bel⟩ => ?_
  subst he
  exact ⟨_, rfl, _, _, _, [], _, [], hW', trodAll_mk1 (shut_bool Yba.underlying4 _), (trodAll_cons_mk (Below.trod laidOut (by kernel_rfl) (of_decide_eq_true (by kernel_rfl)) k0 bel lt0) (trodAll_cons_mk (Below.trod laidOut (by kernel_rfl) (of_decide_eq_true (by kernel_rfl)) k1 bel lt1) (trodAll_cons_mk (shut_int Yba.underlying24 w2) (trodAll_cons_mk (shut_int Yba.underlying24 w3) trodAll_mk0)))), rfl, bel.frame _, fun h => by cases h⟩

theorem over : Rows.lawS2843COnceRow.holds Yba.pinned (OpenSpec.ofChange Rows.lawS2843COnceSpec) :=
  OpenClaim.holds_of_wide 4 Yba.f4 rfl rfl rfl rfl rfl rfl rfl ⟨rfl, rfl, rfl, rfl, rfl⟩ rfl rfl rfl rfl rfl (by kernel_rfl) Yba.func4 (by kernel_rfl)
    (of_decide_eq_true (by kernel_rfl)) (by unfold Func.isWrapper; first | (rw [if_pos (by decide +kernel)]; kernel_rfl) | (rw [if_neg (by decide +kernel)]; exact ⟨rfl, rfl⟩))
    (fun os started H enc _ => lifted os started H enc)

theorem proved : Rows.LawS2843COnceSaid := over
end lawS2843COnce
end Once
end Go.Proofs.Ybulkbfvw
