/-
  OWN WORK. Loops 1 and 2 of the law, each as one theorem.
-/
import Derived.Test.YbulkbfyoLoopC
import Derived.Test.YbulkbfyoLoopD
namespace Go.Proofs.Ybulkbfyo
open Go.RowKit

/-- What loop 1 leaves. -/
def Out1 (w0 : World) (D n0 : Nat) (v0 v1 : Value) (a : Act) (w : World) : Prop :=
  ∃ (v6 v7 v46 v47 v48 cv : Value) (us : Nat) (gs ls cs : Nat → Nat) (e : Nat → Value), us ≤ n0 * 70000 ∧ Sys w0 w D v6 v7 cv n0 n0 n0 gs ls cs ls cs 0 ∧ a = ⟨frame1 v0 v1 (.pointer (some ⟨D, 0, none⟩)) v6 v7 (.int .i64 (us : Int)) v46 v47 v48 e, []⟩
theorem Out1.of {w0 w : World} {D n0 us : Nat} {v0 v1 cv : Value} {gs ls cs : Nat → Nat} (t : Array Value) (ht : t.size = 250) (h0 : t.getD 0 undef = v0) (h1 : t.getD 1 undef = v1) (h5 : t.getD 5 undef = .pointer (some ⟨D, 0, none⟩)) (h8 : t.getD 8 undef = .int .i64 (us : Int)) (hus : us ≤ n0 * 70000)
    (hsys : Sys w0 w D (t.getD 6 undef) (t.getD 7 undef) cv n0 n0 n0 gs ls cs ls cs 0) : Out1 w0 D n0 v0 v1 ⟨t, []⟩ w := by
  refine ⟨_, _, t.getD 46 undef, t.getD 47 undef, t.getD 48 undef, cv, us, _, _, _, fun j => t.getD j undef, hus, hsys, ?_⟩
  subst h0 h1
  rw [← h5, ← h8, ← frame1_fn (fun j => t.getD j undef), ← self250 t ht]
/-- What loop 2 leaves. -/
def Out2 (w0 : World) (D M : Nat) (a : Act) (w : World) : Prop :=
  ∃ (v6 v7 v8 v90 v91 v92 cv : Value) (m us : Nat) (gs ls cs : Nat → Nat) (e : Nat → Value), m ≤ M ∧ Sys w0 w D v6 v7 cv m m m gs ls cs ls cs us ∧ a = ⟨frame2 (.pointer (some ⟨D, 0, none⟩)) v6 v7 v8 v90 v91 v92 e, []⟩
theorem Out2.of {w0 w : World} {D M m us : Nat} {cv : Value} {gs ls cs : Nat → Nat} (t : Array Value) (ht : t.size = 250) (h5 : t.getD 5 undef = .pointer (some ⟨D, 0, none⟩)) (hm : m ≤ M)
    (hsys : Sys w0 w D (t.getD 6 undef) (t.getD 7 undef) cv m m m gs ls cs ls cs us) : Out2 w0 D M ⟨t, []⟩ w := by
  refine ⟨_, _, t.getD 8 undef, t.getD 90 undef, t.getD 91 undef, t.getD 92 undef, cv, m, us, _, _, _, fun j => t.getD j undef, hm, hsys, ?_⟩
  rw [← h5, ← frame2_fn (fun j => t.getD j undef), ← self250 t ht]

set_option maxHeartbeats 1000000 in
set_option maxRecDepth 100000 in
theorem exit1 (w wr : World) (D n0 us : Nat) (v0 v1 v46 u6 u7 cv : Value) (gs ls cs : Nat → Nat) (e : Nat → Value) (G : Act → World → Prop)
    (hus : us ≤ n0 * 70000) (hsys : Sys w wr D u6 u7 cv n0 n0 n0 gs ls cs ls cs 0) :
    Code.wp Yba.prog body1 (Exit.then G (Leave (Out1 w D n0 v0 v1)))
      ⟨frame1 v0 v1 (.pointer (some ⟨D, 0, none⟩)) u6 u7 (.int .i64 (us : Int)) v46 (.int .i64 (n0 : Int)) (.int .i64 (n0 : Int)) e, []⟩ wr := by
  have HS := hide hsys
  clear hsys
  generalize hR : Out1 w D n0 v0 v1 = R
  have HR := hide hR
  clear hR
  conv => arg 2; whnf
  unfold frame1
  go_wp2
  show R _ _
  rw [← HR.out]
  exact Out1.of _ rfl rfl rfl rfl rfl hus HS.out

set_option maxHeartbeats 1000000 in
set_option maxRecDepth 100000 in
theorem exit2 (w wr : World) (D M m n1 us : Nat) (v90 u6 u7 u8 cv : Value) (gs ls cs : Nat → Nat) (e : Nat → Value) (G : Act → World → Prop)
    (hm : m ≤ M) (hsys : Sys w wr D u6 u7 cv m m m gs ls cs ls cs us) :
    Code.wp Yba.prog body2 (Exit.then G (Leave2 (Out2 w D M)))
      ⟨frame2 (.pointer (some ⟨D, 0, none⟩)) u6 u7 u8 v90 (.int .i64 (n1 : Int)) (.int .i64 (n1 : Int)) e, []⟩ wr := by
  have HS := hide hsys
  clear hsys
  generalize hR : Out2 w D M = R
  have HR := hide hR
  clear hR
  conv => arg 2; whnf
  unfold frame2
  go_wp2
  show R _ _
  rw [← HR.out]
  exact Out2.of _ rfl rfl hm HS.out

theorem loop1 (w : World) (D n0 n1 cap0 cap1 : Nat) (a0 a1 : Option Addr) (f : Nat → Nat) (hD : w.heap.size = D) (hn0 : n0 ≤ 256) (hf : ∀ j, f j < 4294967296) (hr : Reads .u32 w a0 n0 (fun j => ((f j : Nat) : Int))) (a : Act) (wr : World) (hI : Inv1 w D n0 (.slice a0 n0 cap0) (.slice a1 n1 cap1) (.slice a0 n0 cap0) a wr) :
    Code.wp Yba.prog (.loop body1) (Leave (Out1 w D n0 (.slice a0 n0 cap0) (.slice a1 n1 cap1))) a wr := by
  subst hD
  refine wp_loop (Inv1 w w.heap.size n0 (.slice a0 n0 cap0) (.slice a1 n1 cap1) (.slice a0 n0 cap0)) (mu1 n0) hI (fun a wr hI => ?_)
  obtain ⟨v6, v7, v8, v48, e, ⟨k, us, cv, gs, ls, cs, hk, rfl, rfl, hus, hsys⟩, rfl⟩ := hI
  by_cases hlt : k < n0
  · obtain ⟨gA, oA, rfl, hc⟩ := (hr.kept hsys.bel).split (by omega)
    exact round1 w wr _ n0 n1 cap0 cap1 gA oA k us (f k) a1 cv v6 v7 gs ls cs e _ hn0 hlt (hf k) (hc k hlt) hus hsys
  · obtain rfl : k = n0 := by omega
    exact exit1 w wr _ k us _ _ _ v6 v7 cv gs ls cs e _ hus hsys

theorem round2 (w wr : World) (D n0 n1 cap1 gB oB k us x m : Nat) (v6 v7 cv : Value) (gs ls cs : Nat → Nat) (e : Nat → Value) (R : Act → World → Prop) (hn0 : n0 ≤ 256) (hn1 : n1 ≤ 256) (hlt : k < n1) (hx : x < 4294967296)
    (q0 : wr.cell? ⟨gB, oB + k, none⟩ = some (.int .u32 ((x : Nat) : Int))) (hm : m ≤ n0 + k) (hus : us ≤ (n0 + k) * 70000) (hsys : Sys w wr D v6 v7 cv m m m gs ls cs ls cs us) :
    Code.wp Yba.prog body2 (Exit.then (fun a' w' => Inv2 w D n0 n1 (.slice (some ⟨gB, oB, none⟩) n1 cap1) a' w' ∧ mu2 n1 a' w' < mu2 n1 ⟨frame2 (.pointer (some ⟨D, 0, none⟩)) v6 v7 (.int .i64 (us : Int)) (.slice (some ⟨gB, oB, none⟩) n1 cap1) (.int .i64 (n1 : Int)) (.int .i64 (k : Int)) e, []⟩ wr) (Leave2 R)) ⟨frame2 (.pointer (some ⟨D, 0, none⟩)) v6 v7 (.int .i64 (us : Int)) (.slice (some ⟨gB, oB, none⟩) n1 cap1) (.int .i64 (n1 : Int)) (.int .i64 (k : Int)) e, []⟩ wr := by
  obtain ⟨n, hnx⟩ : ∃ n : Nat, (x : Int) % 70001 = (n : Int) := ⟨x % 70001, by simp⟩
  cases m with
  | zero =>
    obtain ⟨a6, c6, rfl⟩ := OwnF.form hsys.lens
    obtain ⟨a7, c7, rfl⟩ := OwnF.form hsys.caps
    obtain ⟨a, cap, rfl⟩ := OwnF.form hsys.kd.row
    by_cases hb : (65536 : Int) < (n : Int)
    · exact r2_new0b w wr D n0 n1 cap1 gB oB k us x cap c6 c7 n a a6 a7 gs ls cs e R hn0 hn1 hlt hx q0 hus hsys hnx hb
    · exact r2_new0s w wr D n0 n1 cap1 gB oB k us x cap c6 c7 n a a6 a7 gs ls cs e R hn0 hn1 hlt hx q0 hus hsys hnx hb
  | succ m =>
    obtain ⟨g6, c6, rfl, -⟩ := OwnF.cells hsys.lens (by omega)
    obtain ⟨g7, c7, rfl, -⟩ := OwnF.cells hsys.caps (by omega)
    obtain ⟨gr, cap, rfl, -⟩ := OwnF.cells hsys.kd.row (by omega)
    by_cases hfit : n ≤ cs m - ls m
    · exact r2_fit w wr D n0 n1 cap1 gB oB k us x m gr cap g6 c6 g7 c7 n gs ls cs e R hn0 hn1 hlt hx q0 hm hus hsys hnx hfit
    · by_cases hb : (65536 : Int) < (n : Int)
      · exact r2_newSb w wr D n0 n1 cap1 gB oB k us x m gr cap g6 c6 g7 c7 n gs ls cs e R hn0 hn1 hlt hx q0 hm hus hsys hnx (by omega) hb
      · exact r2_newSs w wr D n0 n1 cap1 gB oB k us x m gr cap g6 c6 g7 c7 n gs ls cs e R hn0 hn1 hlt hx q0 hm hus hsys hnx (by omega) hb

theorem loop2 (w : World) (D n0 n1 cap1 : Nat) (a1 : Option Addr) (f : Nat → Nat) (hD : w.heap.size = D) (hn0 : n0 ≤ 256) (hn1 : n1 ≤ 256) (hf : ∀ j, f j < 4294967296) (hr : Reads .u32 w a1 n1 (fun j => ((f j : Nat) : Int))) (a : Act) (wr : World) (hI : Inv2 w D n0 n1 (.slice a1 n1 cap1) a wr) :
    Code.wp Yba.prog (.loop body2) (Leave2 (Out2 w D (n0 + n1))) a wr := by
  subst hD
  refine wp_loop (Inv2 w w.heap.size n0 n1 (.slice a1 n1 cap1)) (mu2 n1) hI (fun a wr hI => ?_)
  obtain ⟨v6, v7, v8, v92, e, ⟨k, m, us, cv, gs, ls, cs, hk, rfl, rfl, hm, hus, hsys⟩, rfl⟩ := hI
  by_cases hlt : k < n1
  · obtain ⟨gB, oB, rfl, hc⟩ := (hr.kept hsys.bel).split (by omega)
    exact round2 w wr _ n0 n1 cap1 gB oB k us (f k) m v6 v7 cv gs ls cs e _ hn0 hn1 hlt (hf k) (hc k hlt) hm hus hsys
  · obtain rfl : k = n1 := by omega
    exact exit2 w wr _ _ m k us _ v6 v7 _ cv gs ls cs e _ hm hsys
end Go.Proofs.Ybulkbfyo
