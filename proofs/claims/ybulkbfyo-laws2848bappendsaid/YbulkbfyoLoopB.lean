/-
  OWN WORK. Loop 2 of the law: the relation; a round whose record fits. Written by a small program of mine.
-/
import Derived.Test.YbulkbfyoLoopA
namespace Go.Proofs.Ybulkbfyo
open Go.RowKit

/-- Loop 2's relation. -/
def Rel2 (w0 : World) (D n0 n1 : Nat) (v6 v7 v8 v92 : Value) (w : World) : Prop :=
  ∃ (k m us : Nat) (cv : Value) (gs ls cs : Nat → Nat), k ≤ n1 ∧ v92 = .int .i64 (k : Int) ∧ v8 = .int .i64 (us : Int) ∧ m ≤ n0 + k ∧ us ≤ (n0 + k) * 70000 ∧ Sys w0 w D v6 v7 cv m m m gs ls cs ls cs us
def Inv2 (w0 : World) (D n0 n1 : Nat) (v90 : Value) (a : Act) (w : World) : Prop :=
  ∃ (v6 v7 v8 v92 : Value) (e : Nat → Value), Rel2 w0 D n0 n1 v6 v7 v8 v92 w ∧ a = ⟨frame2 (.pointer (some ⟨D, 0, none⟩)) v6 v7 v8 v90 (.int .i64 (n1 : Int)) v92 e, []⟩
def mu2 (n1 : Nat) (a : Act) (_ : World) : Nat := n1 - (intOf (a.tmps.getD 92 undef)).toNat
set_option maxRecDepth 100000 in
theorem frame2_fn (s : Nat → Value) : ((List.range 250).map s).toArray = frame2 (s 5) (s 6) (s 7) (s 8) (s 90) (s 91) (s 92) s := rfl
theorem Inv2.of {w0 w : World} {D n0 n1 : Nat} {v90 : Value} (t : Array Value) (ht : t.size = 250) (h5 : t.getD 5 undef = .pointer (some ⟨D, 0, none⟩)) (h90 : t.getD 90 undef = v90) (h91 : t.getD 91 undef = .int .i64 (n1 : Int))
    (hrel : Rel2 w0 D n0 n1 (t.getD 6 undef) (t.getD 7 undef) (t.getD 8 undef) (t.getD 92 undef) w) : Inv2 w0 D n0 n1 v90 ⟨t, []⟩ w := by
  refine ⟨_, _, _, _, fun j => t.getD j undef, hrel, ?_⟩
  subst h90
  rw [← h5, ← h91, ← frame2_fn (fun j => t.getD j undef), ← self250 t ht]

/-- Loop 2 is left by its exit alone. -/
def Leave2 (R : Act → World → Prop) : Exit → Act → World → Prop
  | .exit 2, a, w => R a w
  | _, _, _ => False
theorem Chunk.wrote {w : World} {g l c : Nat} (h : Chunk w g l c) (k : Nat) (hk : k < c) (v : Value) : (w.setCell ⟨g, k, none⟩ v).cell? ⟨g, k, none⟩ = some v := by
  obtain ⟨cs, q1, q2, q3⟩ := h
  rw [blk_cell (blk_set q1 k v)]
  simp [q2, hk]

set_option maxHeartbeats 1000000 in
set_option maxRecDepth 100000 in
theorem r2_fit (w wr : World) (D n0 n1 cap1 gB oB k us x m gr cap g6 c6 g7 c7 n : Nat) (gs ls cs : Nat → Nat) (e : Nat → Value) (R : Act → World → Prop) (hn0 : n0 ≤ 256) (hn1 : n1 ≤ 256) (hlt : k < n1) (hx : x < 4294967296)
    (q0 : wr.cell? ⟨gB, oB + k, none⟩ = some (.int .u32 ((x : Nat) : Int))) (hm : m + 1 ≤ n0 + k) (hus : us ≤ (n0 + k) * 70000) (hsys : Sys w wr D (.slice (some ⟨g6, 0, none⟩) (m + 1) c6) (.slice (some ⟨g7, 0, none⟩) (m + 1) c7) (.slice (some ⟨gr, 0, none⟩) (m + 1) cap) (m + 1) (m + 1) (m + 1) gs ls cs ls cs us) (hnx : (x : Int) % 70001 = (n : Int)) (hfit : n ≤ cs m - ls m) :
    Code.wp Yba.prog body2 (Exit.then (fun a' w' => Inv2 w D n0 n1 (.slice (some ⟨gB, oB, none⟩) n1 cap1) a' w' ∧ mu2 n1 a' w' < mu2 n1 ⟨frame2 (.pointer (some ⟨D, 0, none⟩)) (.slice (some ⟨g6, 0, none⟩) (m + 1) c6) (.slice (some ⟨g7, 0, none⟩) (m + 1) c7) (.int .i64 (us : Int)) (.slice (some ⟨gB, oB, none⟩) n1 cap1) (.int .i64 (n1 : Int)) (.int .i64 (k : Int)) e, []⟩ wr) (Leave2 R)) ⟨frame2 (.pointer (some ⟨D, 0, none⟩)) (.slice (some ⟨g6, 0, none⟩) (m + 1) c6) (.slice (some ⟨g7, 0, none⟩) (m + 1) c7) (.int .i64 (us : Int)) (.slice (some ⟨gB, oB, none⟩) n1 cap1) (.int .i64 (n1 : Int)) (.int .i64 (k : Int)) e, []⟩ wr := by
  have hn : n ≤ 70000 := by omega
  have hlt' : (k : Int) < (n1 : Int) := by omega
  obtain ⟨m0, hm0⟩ : ∃ m0, mu2 n1 ⟨frame2 (.pointer (some ⟨D, 0, none⟩)) (.slice (some ⟨g6, 0, none⟩) (m + 1) c6) (.slice (some ⟨g7, 0, none⟩) (m + 1) c7) (.int .i64 (us : Int)) (.slice (some ⟨gB, oB, none⟩) n1 cap1) (.int .i64 (n1 : Int)) (.int .i64 (k : Int)) e, []⟩ wr = m0 := ⟨_, rfl⟩
  rw [hm0]
  have HM0 := hide hm0
  clear hm0
  generalize hG : (fun (a' : Act) (w' : World) => Inv2 w D n0 n1 (.slice (some ⟨gB, oB, none⟩) n1 cap1) a' w' ∧ mu2 n1 a' w' < m0) = G
  have HG := hide hG
  clear hG
  obtain ⟨g', cap', he, hc6, hf6⟩ := Nums.at hsys.lens (by omega)
  obtain ⟨rfl, rfl⟩ : g6 = g' ∧ c6 = cap' := by simpa using he
  obtain ⟨g', cap', he', hc7, hf7⟩ := Nums.at hsys.caps (by omega)
  obtain ⟨rfl, rfl⟩ : g7 = g' ∧ c7 = cap' := by simpa using he'
  have q6 := hc6 m (by omega)
  have q7 := hc7 m (by omega)
  clear he he' hc6 hc7 hf6 hf7
  obtain ⟨hle1, hle2⟩ := hsys.kd.le m (by omega)
  have HS := hide hsys
  clear hsys
  generalize hl : ls m = l at q6 hle1 hfit
  generalize hc : cs m = c at q7 hle1 hle2 hfit
  have HL := hide hl
  have HC := hide hc
  clear hl hc
  have i2 : decide ((m : Int) < 0) = false := by simp
  have i1 : ¬ ((c : Int) - (l : Int) < (n : Int)) := by omega
  have hrf := refv_eq m l
  conv => arg 2; whnf
  unfold frame2
  go_wp2
  go_quiet (fail)
  go_wp2_with fail
  have hcall := rec_fit D D gr cap m us n gs ls cs (wr.drewN nq) (by omega) hn (by omega) (HS.out.drewN nq).kd (by rw [HL.out, HC.out]; exact hfit)
  rw [HL.out] at hcall
  refine hcall.mono ?_
  clear hcall
  rintro er w1 ⟨o, cv1, rfl, ho, hk1, hon1, hch1⟩
  have hs1 := (HS.out.drewN nq).took hk1 hon1
  clear hk1 hon1 q6 q7 q0
  have hroom : l + n ≤ cs m := by rw [HC.out]; omega
  obtain ⟨g', cap', he, hc6, hf6⟩ := Nums.at hs1.lens (by omega)
  obtain ⟨rfl, rfl⟩ : g6 = g' ∧ c6 = cap' := by simpa using he
  have q6 := hc6 (m) (by omega)
  rw [HL.out] at q6
  have f6 := hf6 (m)
  clear he hc6 hf6
  have hs2 := hs1.store (m) (l + n)
  have hch2 := hch1.of_block (blk_set_far (w := w1) (b := g6) (m) (.int .i64 ((l + n : Nat) : Int)) ((hs1.apart rfl).2.2.1 (m) (by omega)))
  simp only [Int.natCast_add] at hs2 hch2
  clear hs1 hch1
  obtain ⟨gr1, cap2, he, -, -, -, hcr⟩ := hs2.kd.row.cells (by omega)
  subst he
  have d4 := hs2.kd.c4
  have d2 := hs2.kd.c2
  have dr := hcr (m) (by omega)
  simp only [upd_same] at dr
  clear hcr
  simp only [Int.natCast_add] at d4 d2 dr
  have HS2 := hide hs2
  have HCH := hide hch2
  have HO := hide ho
  clear hs2 hch2 ho
  go_wp2_with fail
  generalize w1.setCell ⟨g6, m, none⟩ (.int .i64 ((l : Int) + (n : Int))) = w2 at d2 d4 dr HS2 HCH ⊢
  clear d4 f6 q6
  have hz : ∀ j, j < n → w2.cell? ⟨gs (m), o + j, none⟩ = some (.int .u8 0) := fun j hj => HCH.out.cell _ (by have := HO.out (by omega); omega) (by have := HO.out (by omega); omega)
  have hfz : ∀ j, w2.frozen? ⟨gs (m), j, none⟩ = false := HCH.out.free
  have HA := hide HS2.out.kd.apart
  go_loop [22] (fun q => ∃ j : Nat, j ≤ n ∧ q = .int .i64 (j : Int)) (fun q => n - (intOf q).toNat)
  case atStart => exact ⟨0, Nat.zero_le _, rfl⟩
  case round =>
    obtain ⟨j, hj, rfl⟩ := hrel
    by_cases hjn : j < n
    · have z1 := hz j hjn
      go_wp2
      go_round
      · exact ⟨j + 1, by omega, by go_num⟩
      · simp [intOf]; omega
    · obtain rfl : j = n := by omega
      by_cases hp : 0 < j
      · obtain rfl : o = l := HO.out hp
        have hmk := HS2.out.mark (m) o (by omega) (by rw [upd_same]; omega)
        have x2 : ∀ v, (w2.setCell ⟨gs (m), o, none⟩ v).cell? ⟨D, 2, none⟩ = some (.slice (some ⟨gr1, 0, none⟩) (m + 1) cap2) := fun v => (hmk v).kd.c2
        have xr : ∀ v, (w2.setCell ⟨gs (m), o, none⟩ v).cell? ⟨gr1, m, none⟩ = w2.cell? ⟨gr1, m, none⟩ := fun v => cell_blk (blk_set_far _ _ ((HA.out.1 gr1 rfl).2 (m) (by omega)))
        rw [dr] at xr
        have xl : ∀ v, (w2.setCell ⟨gs (m), o, none⟩ v).cell? ⟨gs (m), o, none⟩ = some v := fun v => HCH.out.wrote o (by omega) v
        have z0 := HCH.out.cell o (by omega) (by omega)
        have HMK := hide hmk
        have hp' : (0 : Int) < (j : Int) := by omega
        clear hmk HS2 hz
        go_wp2
        rw [← HG.out]
        refine ⟨Inv2.of _ rfl rfl rfl rfl ⟨k + 1, m + 1, us + j, _, _, _, _, by omega, by go_num, by go_num, by omega, by omega, HMK.out _⟩, ?_⟩
        rw [← HM0.out]
        show n1 - (intOf (.int .i64 ((k : Int) + 1))).toNat < n1 - (intOf (.int .i64 (k : Int))).toNat
        simp [intOf]; omega
      · have hp' : ¬ (0 : Int) < (j : Int) := by omega
        go_wp2
        rw [← HG.out]
        refine ⟨Inv2.of _ rfl rfl rfl rfl ⟨k + 1, m + 1, us + j, _, _, _, _, by omega, by go_num, by go_num, by omega, by omega, HS2.out⟩, ?_⟩
        rw [← HM0.out]
        show n1 - (intOf (.int .i64 ((k : Int) + 1))).toNat < n1 - (intOf (.int .i64 (k : Int))).toNat
        simp [intOf]; omega

end Go.Proofs.Ybulkbfyo
