/-
  OWN WORK. Loop 2 of the law: a round that makes a new chunk. Written by a small program of mine.
-/
import Derived.Test.YbulkbfyoLoopB
namespace Go.Proofs.Ybulkbfyo
open Go.RowKit

set_option maxHeartbeats 1000000 in
set_option maxRecDepth 100000 in
theorem r2_newSb (w wr : World) (D n0 n1 cap1 gB oB k us x m gr cap g6 c6 g7 c7 n : Nat) (gs ls cs : Nat → Nat) (e : Nat → Value) (R : Act → World → Prop) (hn0 : n0 ≤ 256) (hn1 : n1 ≤ 256) (hlt : k < n1) (hx : x < 4294967296)
    (q0 : wr.cell? ⟨gB, oB + k, none⟩ = some (.int .u32 ((x : Nat) : Int))) (hm : m + 1 ≤ n0 + k) (hus : us ≤ (n0 + k) * 70000) (hsys : Sys w wr D (.slice (some ⟨g6, 0, none⟩) (m + 1) c6) (.slice (some ⟨g7, 0, none⟩) (m + 1) c7) (.slice (some ⟨gr, 0, none⟩) (m + 1) cap) (m + 1) (m + 1) (m + 1) gs ls cs ls cs us) (hnx : (x : Int) % 70001 = (n : Int)) (hfull : cs m - ls m < n) (hb : (65536 : Int) < (n : Int)) :
    Code.wp Yba.prog body2 (Exit.then (fun a' w' => Inv2 w D n0 n1 (.slice (some ⟨gB, oB, none⟩) n1 cap1) a' w' ∧ mu2 n1 a' w' < mu2 n1 ⟨frame2 (.pointer (some ⟨D, 0, none⟩)) (.slice (some ⟨g6, 0, none⟩) (m + 1) c6) (.slice (some ⟨g7, 0, none⟩) (m + 1) c7) (.int .i64 (us : Int)) (.slice (some ⟨gB, oB, none⟩) n1 cap1) (.int .i64 (n1 : Int)) (.int .i64 (k : Int)) e, []⟩ wr) (Leave2 R)) ⟨frame2 (.pointer (some ⟨D, 0, none⟩)) (.slice (some ⟨g6, 0, none⟩) (m + 1) c6) (.slice (some ⟨g7, 0, none⟩) (m + 1) c7) (.int .i64 (us : Int)) (.slice (some ⟨gB, oB, none⟩) n1 cap1) (.int .i64 (n1 : Int)) (.int .i64 (k : Int)) e, []⟩ wr := by
  have hn : n ≤ 70000 := by omega
  have hlt' : (k : Int) < (n1 : Int) := by omega
  obtain ⟨m0, hm0⟩ : ∃ m0, mu2 n1 ⟨frame2 (.pointer (some ⟨D, 0, none⟩)) (.slice (some ⟨g6, 0, none⟩) (m + 1) c6) (.slice (some ⟨g7, 0, none⟩) (m + 1) c7) (.int .i64 (us : Int)) (.slice (some ⟨gB, oB, none⟩) n1 cap1) (.int .i64 (n1 : Int)) (.int .i64 (k : Int)) e, []⟩ wr = m0 := ⟨_, rfl⟩
  rw [hm0]
  have HM0 := hide hm0
  clear hm0
  generalize hG : (fun (a' : Act) (w' : World) => Inv2 w D n0 n1 (.slice (some ⟨gB, oB, none⟩) n1 cap1) a' w' ∧ mu2 n1 a' w' < m0) = G
  have HG := hide hG
  clear hG
  obtain ⟨c, hcc⟩ : ∃ c : Nat, ((c : Nat) : Int) = (n : Int) := ⟨n, rfl⟩
  have hc : c = max 65536 n := by omega
  have hc3 : n ≤ c := by omega
  have hc9 : c ≤ 70000 := by omega
  have HCM := hide hc
  clear hc
  have HCC := hide hcc
  clear hcc
  obtain ⟨z, hzz⟩ : ∃ z : Nat, ((z : Nat) : Int) = 0 := ⟨0, rfl⟩
  have HZZ := hide hzz
  clear hzz
  obtain ⟨i3, hj, hy0, hy1, hy2⟩ := info_parts Yba.info3
  have hDl : D < wr.heap.size := hsys.kd.lt
  obtain ⟨g', cap', he, hc6, hf6⟩ := Nums.at hsys.lens (by omega)
  obtain ⟨rfl, rfl⟩ : g6 = g' ∧ c6 = cap' := by simpa using he
  obtain ⟨g', cap', he', hc7, hf7⟩ := Nums.at hsys.caps (by omega)
  obtain ⟨rfl, rfl⟩ : g7 = g' ∧ c7 = cap' := by simpa using he'
  have q6 := hc6 m (by omega)
  have q7 := hc7 m (by omega)
  clear he he' hc6 hc7 hf6 hf7
  obtain ⟨hle1, hle2⟩ := hsys.kd.le m (by omega)
  have HS := hide hsys
  clear hsys
  generalize hl : ls m = l at q6 hle1 hfull
  generalize hc : cs m = c0 at q7 hle1 hle2 hfull
  have HL := hide hl
  have HC := hide hc
  clear hl hc
  have i2 : decide ((m : Int) < 0) = false := by simp
  have i1 : ((c0 : Int) - (l : Int) < (n : Int)) := by omega
  have HF := hide hfull
  clear hfull
  have hrf : bits .or .u64 (((m : Int) + 1) * 65536) 0 = refv (m + 1) 0 := by simp [refv]
  conv => arg 2; whnf
  unfold frame2
  go_wp2
  go_quiet (fail)
  go_wp2_with (first
    | (at_builtin; refine wpList_append_lies _ rfl (.tmp 122) (.tmp 123) 31 rfl D 3 i3 (.int .i64 0) 1 8 Yba.underlying31 hj hy0 hy1 hy2 rfl (by decide) (.slice (some ⟨g6, 0, none⟩) (m + 1) c6) (m + 1) _ rfl (World.ownsRow.alloc (HS.out.drewN nq).lens _) ⟨wr.heap.size, 0, none⟩ 1 1 [.int .i64 ((z : Nat) : Int)] rfl rfl (by rw [HZZ.out]; exact cell_one_new _ _ _) (fun u hu => by simp at hu; subst hu; rfl) (by decide) (by unfold maxLen; omega) (by omega) (by first | (simp; done) | (simp; omega)) _ rfl ?_; intro g6' c6' w6 hown6 hgrow6 hat6 hlt6; have hsys6 := (HS.out.drewN nq).num hgrow6 hown6 rfl (by simpa using hat6); have HS6 := hide hsys6; have hD6 : D < w6.heap.size := hsys6.kd.lt; clear hown6 hgrow6 hat6 hsys6)
    | (at_builtin; refine wpList_append_lies _ rfl (.tmp 125) (.tmp 127) 31 rfl D 3 i3 (.int .i64 0) 1 8 Yba.underlying31 hj hy0 hy1 hy2 rfl (by decide) (.slice (some ⟨g7, 0, none⟩) (m + 1) c7) (m + 1) _ rfl (World.ownsRow.alloc HS6.out.caps _) ⟨w6.heap.size, 0, none⟩ 1 1 [.int .i64 (c : Int)] rfl rfl (by rw [HCC.out]; exact cell_one_new _ _ _) (fun u hu => by simp at hu; subst hu; rfl) (by decide) (by unfold maxLen; omega) (by omega) (by first | (simp; done) | (simp; omega)) _ rfl ?_; intro g7' c7' w7 hown7 hgrow7 hat7 hlt7; have hs7 := (HS6.out.swap.num hgrow7 hown7 rfl (by simpa using hat7)).swap; have HS7 := hide hs7; obtain ⟨g', cap', he, hc6, hf6⟩ := Nums.at hs7.lens (by omega); obtain ⟨rfl, rfl⟩ : g6' = g' ∧ c6' = cap' := (by simpa using he); have q6' := hc6 (m + 1) (by omega); simp only [upd_same] at q6'; rw [HZZ.out] at q6'; clear hown7 hgrow7 hat7 hs7 he hc6 hf6)
    | fail)
  clear q0 q6' q6 q7 i1 hle1 hle2
  have hcall := rec_newS D D cap us n c gr m gs ls cs w7 (Nat.le_refl _) (by omega) hn (by omega) HCM.out HS7.out.kd (by rw [HL.out, HC.out]; exact HF.out)
  refine hcall.mono ?_
  clear hcall
  obtain ⟨gs1, hgs1⟩ : ∃ gs1, upd gs (m + 1) w7.heap.size = gs1 := ⟨_, rfl⟩
  rw [hgs1]
  clear hgs1
  obtain ⟨cs1, hcs1⟩ : ∃ cs1, upd cs (m + 1) c = cs1 := ⟨_, rfl⟩
  have hroom : n ≤ cs1 (m + 1) := by rw [← hcs1, upd_same]; exact hc3
  have HS8 := hide HS7.out
  rw [hcs1] at HS8 ⊢
  clear hcs1 HS7
  rintro er w1 ⟨o, cv1, rfl, ho, hk1, hon1, hch1⟩
  have hs1 := HS8.out.took hk1 hon1
  clear hk1 hon1
  obtain ⟨g', cap', he, hc6, hf6⟩ := Nums.at hs1.lens (by omega)
  obtain ⟨rfl, rfl⟩ : g6' = g' ∧ c6' = cap' := by simpa using he
  have q6 := hc6 (m + 1) (by omega)
  simp only [upd_same] at q6; rw [HZZ.out] at q6
  have f6 := hf6 (m + 1)
  clear he hc6 hf6
  have hs2 := hs1.store (m + 1) (n)
  have hch2 := hch1.of_block (blk_set_far (w := w1) (b := g6') (m + 1) (.int .i64 ((n : Nat) : Int)) ((hs1.apart rfl).2.2.1 (m + 1) (by omega)))
  simp only [upd_upd] at hs2
  clear hs1 hch1
  obtain ⟨gr1, cap2, he, -, -, -, hcr⟩ := hs2.kd.row.cells (by omega)
  subst he
  have d4 := hs2.kd.c4
  have d2 := hs2.kd.c2
  have dr := hcr (m + 1) (by omega)
  simp only [upd_same] at dr
  clear hcr
  simp only [Int.natCast_add] at d4 d2 dr
  have HS2 := hide hs2
  have HCH := hide hch2
  have HO := hide ho
  clear hs2 hch2 ho
  go_wp2_with fail
  generalize w1.setCell ⟨g6', m + 1, none⟩ (.int .i64 (n : Int)) = w2 at d2 d4 dr HS2 HCH ⊢
  clear d4 f6 q6
  have hz : ∀ j, j < n → w2.cell? ⟨gs1 (m + 1), o + j, none⟩ = some (.int .u8 0) := fun j hj => HCH.out.cell _ (by have := HO.out (by omega); omega) (by have := HO.out (by omega); omega)
  have hfz : ∀ j, w2.frozen? ⟨gs1 (m + 1), j, none⟩ = false := HCH.out.free
  have HA := hide HS2.out.kd.apart
  go_loop [22] (fun q => ∃ j : Nat, j ≤ n ∧ q = .int .i64 (j : Int)) (fun q => n - (intOf q).toNat)
  case atStart => exact ⟨0, Nat.zero_le _, rfl⟩
  case round =>
    obtain ⟨j, hj, rfl⟩ := hrel
    by_cases hjn : j < n
    · have z1 := hz j hjn
      go_wp2
      go_round
      · exact ⟨j + 1, by omega, by go_num⟩
      · simp [intOf]; omega
    · obtain rfl : j = n := by omega
      by_cases hp : 0 < j
      · obtain rfl : o = 0 := HO.out hp
        have hmk := HS2.out.mark (m + 1) 0 (by omega) (by rw [upd_same]; omega)
        have x2 : ∀ v, (w2.setCell ⟨gs1 (m + 1), 0, none⟩ v).cell? ⟨D, 2, none⟩ = some (.slice (some ⟨gr1, 0, none⟩) (m + 2) cap2) := fun v => (hmk v).kd.c2
        have xr : ∀ v, (w2.setCell ⟨gs1 (m + 1), 0, none⟩ v).cell? ⟨gr1, m + 1, none⟩ = w2.cell? ⟨gr1, m + 1, none⟩ := fun v => cell_blk (blk_set_far _ _ ((HA.out.1 gr1 rfl).2 (m + 1) (by omega)))
        rw [dr] at xr
        have xl : ∀ v, (w2.setCell ⟨gs1 (m + 1), 0, none⟩ v).cell? ⟨gs1 (m + 1), 0, none⟩ = some v := fun v => HCH.out.wrote 0 (by omega) v
        have z0 := HCH.out.cell 0 (by omega) (by omega)
        have HMK := hide hmk
        have hp' : (0 : Int) < (j : Int) := by omega
        clear hmk HS2 hz
        go_wp2
        rw [← HG.out]
        refine ⟨Inv2.of _ rfl rfl rfl rfl ⟨k + 1, m + 2, us + j, _, _, _, _, by omega, by go_num, by go_num, by omega, by omega, HMK.out _⟩, ?_⟩
        rw [← HM0.out]
        show n1 - (intOf (.int .i64 ((k : Int) + 1))).toNat < n1 - (intOf (.int .i64 (k : Int))).toNat
        simp [intOf]; omega
      · have hp' : ¬ (0 : Int) < (j : Int) := by omega
        go_wp2
        rw [← HG.out]
        refine ⟨Inv2.of _ rfl rfl rfl rfl ⟨k + 1, m + 2, us + j, _, _, _, _, by omega, by go_num, by go_num, by omega, by omega, HS2.out⟩, ?_⟩
        rw [← HM0.out]
        show n1 - (intOf (.int .i64 ((k : Int) + 1))).toNat < n1 - (intOf (.int .i64 (k : Int))).toNat
        simp [intOf]; omega

set_option maxHeartbeats 1000000 in
set_option maxRecDepth 100000 in
theorem r2_newSs (w wr : World) (D n0 n1 cap1 gB oB k us x m gr cap g6 c6 g7 c7 n : Nat) (gs ls cs : Nat → Nat) (e : Nat → Value) (R : Act → World → Prop) (hn0 : n0 ≤ 256) (hn1 : n1 ≤ 256) (hlt : k < n1) (hx : x < 4294967296)
    (q0 : wr.cell? ⟨gB, oB + k, none⟩ = some (.int .u32 ((x : Nat) : Int))) (hm : m + 1 ≤ n0 + k) (hus : us ≤ (n0 + k) * 70000) (hsys : Sys w wr D (.slice (some ⟨g6, 0, none⟩) (m + 1) c6) (.slice (some ⟨g7, 0, none⟩) (m + 1) c7) (.slice (some ⟨gr, 0, none⟩) (m + 1) cap) (m + 1) (m + 1) (m + 1) gs ls cs ls cs us) (hnx : (x : Int) % 70001 = (n : Int)) (hfull : cs m - ls m < n) (hb : ¬ (65536 : Int) < (n : Int)) :
    Code.wp Yba.prog body2 (Exit.then (fun a' w' => Inv2 w D n0 n1 (.slice (some ⟨gB, oB, none⟩) n1 cap1) a' w' ∧ mu2 n1 a' w' < mu2 n1 ⟨frame2 (.pointer (some ⟨D, 0, none⟩)) (.slice (some ⟨g6, 0, none⟩) (m + 1) c6) (.slice (some ⟨g7, 0, none⟩) (m + 1) c7) (.int .i64 (us : Int)) (.slice (some ⟨gB, oB, none⟩) n1 cap1) (.int .i64 (n1 : Int)) (.int .i64 (k : Int)) e, []⟩ wr) (Leave2 R)) ⟨frame2 (.pointer (some ⟨D, 0, none⟩)) (.slice (some ⟨g6, 0, none⟩) (m + 1) c6) (.slice (some ⟨g7, 0, none⟩) (m + 1) c7) (.int .i64 (us : Int)) (.slice (some ⟨gB, oB, none⟩) n1 cap1) (.int .i64 (n1 : Int)) (.int .i64 (k : Int)) e, []⟩ wr := by
  have hn : n ≤ 70000 := by omega
  have hlt' : (k : Int) < (n1 : Int) := by omega
  obtain ⟨m0, hm0⟩ : ∃ m0, mu2 n1 ⟨frame2 (.pointer (some ⟨D, 0, none⟩)) (.slice (some ⟨g6, 0, none⟩) (m + 1) c6) (.slice (some ⟨g7, 0, none⟩) (m + 1) c7) (.int .i64 (us : Int)) (.slice (some ⟨gB, oB, none⟩) n1 cap1) (.int .i64 (n1 : Int)) (.int .i64 (k : Int)) e, []⟩ wr = m0 := ⟨_, rfl⟩
  rw [hm0]
  have HM0 := hide hm0
  clear hm0
  generalize hG : (fun (a' : Act) (w' : World) => Inv2 w D n0 n1 (.slice (some ⟨gB, oB, none⟩) n1 cap1) a' w' ∧ mu2 n1 a' w' < m0) = G
  have HG := hide hG
  clear hG
  obtain ⟨c, hcc⟩ : ∃ c : Nat, ((c : Nat) : Int) = 65536 := ⟨65536, rfl⟩
  have hc : c = max 65536 n := by omega
  have hc3 : n ≤ c := by omega
  have hc9 : c ≤ 70000 := by omega
  have HCM := hide hc
  clear hc
  have HCC := hide hcc
  clear hcc
  obtain ⟨z, hzz⟩ : ∃ z : Nat, ((z : Nat) : Int) = 0 := ⟨0, rfl⟩
  have HZZ := hide hzz
  clear hzz
  obtain ⟨i3, hj, hy0, hy1, hy2⟩ := info_parts Yba.info3
  have hDl : D < wr.heap.size := hsys.kd.lt
  obtain ⟨g', cap', he, hc6, hf6⟩ := Nums.at hsys.lens (by omega)
  obtain ⟨rfl, rfl⟩ : g6 = g' ∧ c6 = cap' := by simpa using he
  obtain ⟨g', cap', he', hc7, hf7⟩ := Nums.at hsys.caps (by omega)
  obtain ⟨rfl, rfl⟩ : g7 = g' ∧ c7 = cap' := by simpa using he'
  have q6 := hc6 m (by omega)
  have q7 := hc7 m (by omega)
  clear he he' hc6 hc7 hf6 hf7
  obtain ⟨hle1, hle2⟩ := hsys.kd.le m (by omega)
  have HS := hide hsys
  clear hsys
  generalize hl : ls m = l at q6 hle1 hfull
  generalize hc : cs m = c0 at q7 hle1 hle2 hfull
  have HL := hide hl
  have HC := hide hc
  clear hl hc
  have i2 : decide ((m : Int) < 0) = false := by simp
  have i1 : ((c0 : Int) - (l : Int) < (n : Int)) := by omega
  have HF := hide hfull
  clear hfull
  have hrf : bits .or .u64 (((m : Int) + 1) * 65536) 0 = refv (m + 1) 0 := by simp [refv]
  conv => arg 2; whnf
  unfold frame2
  go_wp2
  go_quiet (fail)
  go_wp2_with (first
    | (at_builtin; refine wpList_append_lies _ rfl (.tmp 122) (.tmp 123) 31 rfl D 3 i3 (.int .i64 0) 1 8 Yba.underlying31 hj hy0 hy1 hy2 rfl (by decide) (.slice (some ⟨g6, 0, none⟩) (m + 1) c6) (m + 1) _ rfl (World.ownsRow.alloc (HS.out.drewN nq).lens _) ⟨wr.heap.size, 0, none⟩ 1 1 [.int .i64 ((z : Nat) : Int)] rfl rfl (by rw [HZZ.out]; exact cell_one_new _ _ _) (fun u hu => by simp at hu; subst hu; rfl) (by decide) (by unfold maxLen; omega) (by omega) (by first | (simp; done) | (simp; omega)) _ rfl ?_; intro g6' c6' w6 hown6 hgrow6 hat6 hlt6; have hsys6 := (HS.out.drewN nq).num hgrow6 hown6 rfl (by simpa using hat6); have HS6 := hide hsys6; have hD6 : D < w6.heap.size := hsys6.kd.lt; clear hown6 hgrow6 hat6 hsys6)
    | (at_builtin; refine wpList_append_lies _ rfl (.tmp 125) (.tmp 127) 31 rfl D 3 i3 (.int .i64 0) 1 8 Yba.underlying31 hj hy0 hy1 hy2 rfl (by decide) (.slice (some ⟨g7, 0, none⟩) (m + 1) c7) (m + 1) _ rfl (World.ownsRow.alloc HS6.out.caps _) ⟨w6.heap.size, 0, none⟩ 1 1 [.int .i64 (c : Int)] rfl rfl (by rw [HCC.out]; exact cell_one_new _ _ _) (fun u hu => by simp at hu; subst hu; rfl) (by decide) (by unfold maxLen; omega) (by omega) (by first | (simp; done) | (simp; omega)) _ rfl ?_; intro g7' c7' w7 hown7 hgrow7 hat7 hlt7; have hs7 := (HS6.out.swap.num hgrow7 hown7 rfl (by simpa using hat7)).swap; have HS7 := hide hs7; obtain ⟨g', cap', he, hc6, hf6⟩ := Nums.at hs7.lens (by omega); obtain ⟨rfl, rfl⟩ : g6' = g' ∧ c6' = cap' := (by simpa using he); have q6' := hc6 (m + 1) (by omega); simp only [upd_same] at q6'; rw [HZZ.out] at q6'; clear hown7 hgrow7 hat7 hs7 he hc6 hf6)
    | fail)
  clear q0 q6' q6 q7 i1 hle1 hle2
  have hcall := rec_newS D D cap us n c gr m gs ls cs w7 (Nat.le_refl _) (by omega) hn (by omega) HCM.out HS7.out.kd (by rw [HL.out, HC.out]; exact HF.out)
  refine hcall.mono ?_
  clear hcall
  obtain ⟨gs1, hgs1⟩ : ∃ gs1, upd gs (m + 1) w7.heap.size = gs1 := ⟨_, rfl⟩
  rw [hgs1]
  clear hgs1
  obtain ⟨cs1, hcs1⟩ : ∃ cs1, upd cs (m + 1) c = cs1 := ⟨_, rfl⟩
  have hroom : n ≤ cs1 (m + 1) := by rw [← hcs1, upd_same]; exact hc3
  have HS8 := hide HS7.out
  rw [hcs1] at HS8 ⊢
  clear hcs1 HS7
  rintro er w1 ⟨o, cv1, rfl, ho, hk1, hon1, hch1⟩
  have hs1 := HS8.out.took hk1 hon1
  clear hk1 hon1
  obtain ⟨g', cap', he, hc6, hf6⟩ := Nums.at hs1.lens (by omega)
  obtain ⟨rfl, rfl⟩ : g6' = g' ∧ c6' = cap' := by simpa using he
  have q6 := hc6 (m + 1) (by omega)
  simp only [upd_same] at q6; rw [HZZ.out] at q6
  have f6 := hf6 (m + 1)
  clear he hc6 hf6
  have hs2 := hs1.store (m + 1) (n)
  have hch2 := hch1.of_block (blk_set_far (w := w1) (b := g6') (m + 1) (.int .i64 ((n : Nat) : Int)) ((hs1.apart rfl).2.2.1 (m + 1) (by omega)))
  simp only [upd_upd] at hs2
  clear hs1 hch1
  obtain ⟨gr1, cap2, he, -, -, -, hcr⟩ := hs2.kd.row.cells (by omega)
  subst he
  have d4 := hs2.kd.c4
  have d2 := hs2.kd.c2
  have dr := hcr (m + 1) (by omega)
  simp only [upd_same] at dr
  clear hcr
  simp only [Int.natCast_add] at d4 d2 dr
  have HS2 := hide hs2
  have HCH := hide hch2
  have HO := hide ho
  clear hs2 hch2 ho
  go_wp2_with fail
  generalize w1.setCell ⟨g6', m + 1, none⟩ (.int .i64 (n : Int)) = w2 at d2 d4 dr HS2 HCH ⊢
  clear d4 f6 q6
  have hz : ∀ j, j < n → w2.cell? ⟨gs1 (m + 1), o + j, none⟩ = some (.int .u8 0) := fun j hj => HCH.out.cell _ (by have := HO.out (by omega); omega) (by have := HO.out (by omega); omega)
  have hfz : ∀ j, w2.frozen? ⟨gs1 (m + 1), j, none⟩ = false := HCH.out.free
  have HA := hide HS2.out.kd.apart
  go_loop [22] (fun q => ∃ j : Nat, j ≤ n ∧ q = .int .i64 (j : Int)) (fun q => n - (intOf q).toNat)
  case atStart => exact ⟨0, Nat.zero_le _, rfl⟩
  case round =>
    obtain ⟨j, hj, rfl⟩ := hrel
    by_cases hjn : j < n
    · have z1 := hz j hjn
      go_wp2
      go_round
      · exact ⟨j + 1, by omega, by go_num⟩
      · simp [intOf]; omega
    · obtain rfl : j = n := by omega
      by_cases hp : 0 < j
      · obtain rfl : o = 0 := HO.out hp
        have hmk := HS2.out.mark (m + 1) 0 (by omega) (by rw [upd_same]; omega)
        have x2 : ∀ v, (w2.setCell ⟨gs1 (m + 1), 0, none⟩ v).cell? ⟨D, 2, none⟩ = some (.slice (some ⟨gr1, 0, none⟩) (m + 2) cap2) := fun v => (hmk v).kd.c2
        have xr : ∀ v, (w2.setCell ⟨gs1 (m + 1), 0, none⟩ v).cell? ⟨gr1, m + 1, none⟩ = w2.cell? ⟨gr1, m + 1, none⟩ := fun v => cell_blk (blk_set_far _ _ ((HA.out.1 gr1 rfl).2 (m + 1) (by omega)))
        rw [dr] at xr
        have xl : ∀ v, (w2.setCell ⟨gs1 (m + 1), 0, none⟩ v).cell? ⟨gs1 (m + 1), 0, none⟩ = some v := fun v => HCH.out.wrote 0 (by omega) v
        have z0 := HCH.out.cell 0 (by omega) (by omega)
        have HMK := hide hmk
        have hp' : (0 : Int) < (j : Int) := by omega
        clear hmk HS2 hz
        go_wp2
        rw [← HG.out]
        refine ⟨Inv2.of _ rfl rfl rfl rfl ⟨k + 1, m + 2, us + j, _, _, _, _, by omega, by go_num, by go_num, by omega, by omega, HMK.out _⟩, ?_⟩
        rw [← HM0.out]
        show n1 - (intOf (.int .i64 ((k : Int) + 1))).toNat < n1 - (intOf (.int .i64 (k : Int))).toNat
        simp [intOf]; omega
      · have hp' : ¬ (0 : Int) < (j : Int) := by omega
        go_wp2
        rw [← HG.out]
        refine ⟨Inv2.of _ rfl rfl rfl rfl ⟨k + 1, m + 2, us + j, _, _, _, _, by omega, by go_num, by go_num, by omega, by omega, HS2.out⟩, ?_⟩
        rw [← HM0.out]
        show n1 - (intOf (.int .i64 ((k : Int) + 1))).toNat < n1 - (intOf (.int .i64 (k : Int))).toNat
        simp [intOf]; omega

end Go.Proofs.Ybulkbfyo
