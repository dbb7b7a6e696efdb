/-
  OWN WORK. Loop 4 of the law.
-/
import Derived.Test.YbulkbfyoLoopE
namespace Go.Proofs.Ybulkbfyo
open Go.RowKit

/-- Loop 4's relation. -/
def Inv4 (w0 : World) (D m us : Nat) (cv v6 v7 : Value) (gs ls cs : Nat → Nat) (a : Act) (w : World) : Prop :=
  ∃ (j : Nat) (e : Nat → Value), j ≤ m ∧ Sys w0 w D v6 v7 cv m m m gs ls cs ls cs us ∧ a = ⟨frame4 (.pointer (some ⟨D, 0, none⟩)) v6 v7 (.int .i64 (j : Int)) e, []⟩
def mu4 (m : Nat) (a : Act) (_ : World) : Nat := m - (intOf (a.tmps.getD 23 undef)).toNat
set_option maxRecDepth 100000 in
theorem frame4_fn (s : Nat → Value) : ((List.range 250).map s).toArray = frame4 (s 5) (s 6) (s 7) (s 23) s := rfl
theorem Inv4.of {w0 w : World} {D m us : Nat} {cv v6 v7 : Value} {gs ls cs : Nat → Nat} (t : Array Value) (j : Nat) (ht : t.size = 250) (h5 : t.getD 5 undef = .pointer (some ⟨D, 0, none⟩)) (h6 : t.getD 6 undef = v6) (h7 : t.getD 7 undef = v7) (h23 : t.getD 23 undef = .int .i64 (j : Int)) (hj : j ≤ m)
    (hsys : Sys w0 w D v6 v7 cv m m m gs ls cs ls cs us) : Inv4 w0 D m us cv v6 v7 gs ls cs ⟨t, []⟩ w := by
  refine ⟨j, fun j => t.getD j undef, hj, hsys, ?_⟩
  subst h6 h7
  rw [← h5, ← h23, ← frame4_fn (fun j => t.getD j undef), ← self250 t ht]
/-- Loop 4 is left by its exit alone. -/
def Leave4 (R : Act → World → Prop) : Exit → Act → World → Prop
  | .exit 6, a, w => R a w
  | _, _, _ => False
/-- What loop 4 leaves. -/
def Out4 (w0 : World) (D : Nat) (a : Act) (w : World) : Prop := Below D w0 w ∧ ∃ (v5 v6 v7 v23 : Value) (e : Nat → Value), a = ⟨frame4 v5 v6 v7 v23 e, []⟩
theorem Out4.of {w0 w : World} {D : Nat} (t : Array Value) (ht : t.size = 250) (hb : Below D w0 w) : Out4 w0 D ⟨t, []⟩ w := by
  refine ⟨hb, t.getD 5 undef, t.getD 6 undef, t.getD 7 undef, t.getD 23 undef, fun j => t.getD j undef, ?_⟩
  rw [← frame4_fn (fun j => t.getD j undef), ← self250 t ht]

set_option maxHeartbeats 1000000 in
set_option maxRecDepth 100000 in
theorem exit4 (w wr : World) (D m : Nat) (cap6 : Nat) (a6 : Option Addr) (v5 v7 : Value) (e : Nat → Value) (G : Act → World → Prop) (hb : Below D w wr) :
    Code.wp Yba.prog body4 (Exit.then G (Leave4 (Out4 w D)))
      ⟨frame4 v5 (.slice a6 m cap6) v7 (.int .i64 (m : Int)) e, []⟩ wr := by
  generalize hR : Out4 w D = R
  have HR := hide hR
  clear hR
  conv => arg 2; whnf
  unfold frame4
  go_wp2
  show R _ _
  rw [← HR.out]
  exact Out4.of _ rfl hb

set_option maxHeartbeats 1000000 in
set_option maxRecDepth 100000 in
theorem round4 (w wr : World) (D m us j g6 c6 g7 c7 gr cap : Nat) (gs ls cs : Nat → Nat) (e : Nat → Value) (R : Act → World → Prop) (hm : m ≤ 512) (hlt : j < m) (hsys : Sys w wr D (.slice (some ⟨g6, 0, none⟩) m c6) (.slice (some ⟨g7, 0, none⟩) m c7) (.slice (some ⟨gr, 0, none⟩) m cap) m m m gs ls cs ls cs us) :
    Code.wp Yba.prog body4 (Exit.then (fun a' w' => Inv4 w D m us (.slice (some ⟨gr, 0, none⟩) m cap) (.slice (some ⟨g6, 0, none⟩) m c6) (.slice (some ⟨g7, 0, none⟩) m c7) gs ls cs a' w' ∧ mu4 m a' w' < mu4 m ⟨frame4 (.pointer (some ⟨D, 0, none⟩)) (.slice (some ⟨g6, 0, none⟩) m c6) (.slice (some ⟨g7, 0, none⟩) m c7) (.int .i64 (j : Int)) e, []⟩ wr) (Leave4 R))
      ⟨frame4 (.pointer (some ⟨D, 0, none⟩)) (.slice (some ⟨g6, 0, none⟩) m c6) (.slice (some ⟨g7, 0, none⟩) m c7) (.int .i64 (j : Int)) e, []⟩ wr := by
  obtain ⟨g', cap', he, hc6, -⟩ := Nums.at hsys.lens (by omega)
  obtain ⟨rfl, rfl⟩ : g6 = g' ∧ c6 = cap' := by simpa using he
  obtain ⟨g', cap', he', hc7, -⟩ := Nums.at hsys.caps (by omega)
  obtain ⟨rfl, rfl⟩ : g7 = g' ∧ c7 = cap' := by simpa using he'
  obtain ⟨g', cap', he, -, -, -, hcr⟩ := hsys.kd.row.cells (by omega)
  obtain ⟨rfl, rfl⟩ : gr = g' ∧ cap = cap' := by simpa using he
  have q6 := hc6 j hlt
  have q7 := hc7 j hlt
  have qr := hcr j hlt
  have d2 := hsys.kd.c2
  clear hc6 hc7 hcr he he'
  have HS := hide hsys
  clear hsys
  generalize ls j = l at q6 qr
  generalize cs j = c at q7 qr
  generalize gs j = g at qr
  have hlt' : (j : Int) < (m : Int) := by omega
  have i1 : ((l : Int) != (l : Int)) = false := by simp
  have i2 : ((c : Int) != (c : Int)) = false := by simp
  obtain ⟨m0, hm0⟩ : ∃ m0, mu4 m ⟨frame4 (.pointer (some ⟨D, 0, none⟩)) (.slice (some ⟨g6, 0, none⟩) m c6) (.slice (some ⟨g7, 0, none⟩) m c7) (.int .i64 (j : Int)) e, []⟩ wr = m0 := ⟨_, rfl⟩
  rw [hm0]
  have HM0 := hide hm0
  clear hm0
  generalize hG : (fun (a' : Act) (w' : World) => Inv4 w D m us (.slice (some ⟨gr, 0, none⟩) m cap) (.slice (some ⟨g6, 0, none⟩) m c6) (.slice (some ⟨g7, 0, none⟩) m c7) gs ls cs a' w' ∧ mu4 m a' w' < m0) = G
  have HG := hide hG
  clear hG
  conv => arg 2; whnf
  unfold frame4
  go_wp2
  go_quiet (fail)
  go_wp2
  rw [← HG.out]
  refine ⟨Inv4.of _ (j + 1) rfl rfl rfl rfl (by go_num) (by omega) (HS.out.drewN nq), ?_⟩
  rw [← HM0.out]
  show m - (intOf (.int .i64 ((j : Int) + 1))).toNat < m - (intOf (.int .i64 (j : Int))).toNat
  simp [intOf]; omega

theorem loop4 (w : World) (D M m us : Nat) (v6 v7 cv : Value) (gs ls cs : Nat → Nat) (hM : M ≤ 512) (hm : m ≤ M) (a : Act) (wr : World) (hI : Inv4 w D m us cv v6 v7 gs ls cs a wr) :
    Code.wp Yba.prog (.loop body4) (Leave4 (Out4 w D)) a wr := by
  refine wp_loop (Inv4 w D m us cv v6 v7 gs ls cs) (mu4 m) hI (fun a wr hI => ?_)
  obtain ⟨j, e, hj, hsys, rfl⟩ := hI
  by_cases hlt : j < m
  · obtain ⟨g6, c6, rfl, -⟩ := OwnF.cells hsys.lens (by omega)
    obtain ⟨g7, c7, rfl, -⟩ := OwnF.cells hsys.caps (by omega)
    obtain ⟨gr, cap, rfl, -⟩ := OwnF.cells hsys.kd.row (by omega)
    exact round4 w wr D m us j g6 c6 g7 c7 gr cap gs ls cs e _ (by omega) hlt hsys
  · obtain rfl : j = m := by omega
    obtain ⟨a6, c6, rfl⟩ := OwnF.form hsys.lens
    exact exit4 w wr D j c6 a6 _ v7 e _ hsys.bel
end Go.Proofs.Ybulkbfyo
