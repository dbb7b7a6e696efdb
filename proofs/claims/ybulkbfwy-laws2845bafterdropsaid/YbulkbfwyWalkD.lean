/-
  OWN WORK. Walks: zzs2845bname, (*Market).drop.
-/
import Derived.Test.YbulkbfwyWalkC
namespace Go.Proofs.Ybulkbfwy
open Go.RowKit

set_option maxHeartbeats 400000 in
theorem name_any (x : Int) (h0 : 0 ≤ x) (w : World) : Calls Yba.prog 11 #[.int .u8 x] w fun e w' => (∃ s : ByteArray, s.size ≤ maxLen ∧ e = .returned (.string s)) ∧ w' = w := by
  by_cases h1 : x % 4 = 0
  · have e1 : (x % 4 == 0) = true := by simp [h1]
    clear h1
    go_enter Yba.func11, Yba.ntmps11
    go_wp2
    go_ret
    exact ⟨⟨_, by decide, rfl⟩, rfl⟩
  have e1 : (x % 4 == 0) = false := by simp [h1]
  by_cases h2 : x % 4 = 1
  · have e2 : (x % 4 == 1) = true := by simp [h2]
    clear h1 h2
    go_enter Yba.func11, Yba.ntmps11
    go_wp2
    go_ret
    exact ⟨⟨_, by decide, rfl⟩, rfl⟩
  have e2 : (x % 4 == 1) = false := by simp [h2]
  by_cases h3 : x % 4 = 2
  · have e3 : (x % 4 == 2) = true := by simp [h3]
    clear h1 h2 h3
    go_enter Yba.func11, Yba.ntmps11
    go_wp2
    go_ret
    exact ⟨⟨_, by decide, rfl⟩, rfl⟩
  have e3 : (x % 4 == 2) = false := by simp [h3]
  clear h1 h2 h3
  go_enter Yba.func11, Yba.ntmps11
  go_wp2
  go_ret
  exact ⟨⟨_, by decide, rfl⟩, rfl⟩

theorem eql32_nil (a : Addr) (w : World) : (binOp .eql 32 (.pointer none) (.pointer (some a))).run Yba.prog w = .ok (.bool false) w := by
  have h : ∀ d : Nat, (Op.equalIn (d + 1) 32 (.pointer none) (.pointer (some a))).run Yba.prog w = .ok false w := fun d => by simp [Op.equalIn, run_underlying Yba.underlying32]
  simp only [binOp]; simp [Op.equal, Op.maxDepth, h 9999]

/-- The i-th of m + 1 taken out, the last moved into its place. -/
def cutAt {α : Type} (f : Nat → α) (i m j : Nat) : α := if j = i then f m else f j

/-- Behind 'drop': w1 behind the first store, w2 behind the index's update, w4 behind the delete. -/
theorem drop_end {w w2 w4 : World} {B sM bm m i gS cS : Nat} {lv : Value} {sn : Nat → ByteArray} {gs : Nat → Nat} {q : Nat} (hst : St w B sM bm (m + 1) (.slice (some ⟨gS, 0, none⟩) (m + 1) cS) lv sn gs)
    (hg2 : ((w.drewN q).setCell ⟨gS, i, none⟩ (.pointer (some ⟨gs m, 0, none⟩))).drew.grownBy w2 (some bm))
    (hg4 : ((w2.setCell ⟨gS, m, none⟩ (.pointer none)).setCell ⟨sM, 41, none⟩ (.slice (some ⟨gS, 0, none⟩) m cS)).drew.grownBy w4 (some bm)) :
    Mkt w4 sM bm (.slice (some ⟨gS, 0, none⟩) m cS) lv ∧ OwnF w4 B 32 (.slice (some ⟨gS, 0, none⟩) m cS) m (fun j => .pointer (some ⟨cutAt gs i m j, 0, none⟩)) ∧
    (∀ j, j < m + 1 → w4.heap[gs j]? = some (.cells (freshC (sn j)) 48 (0, 0))) ∧ Only (fun k => k = sM ∨ k = bm ∨ k = gS ∨ w.heap.size ≤ k) w w4 := by
  obtain ⟨a1, a2, a3⟩ := hst.apart
  obtain ⟨b1, b2⟩ := a2 gS rfl
  have hsl := hst.mkt.lt
  have hgl := (hst.scores.at_block (k := gS) rfl).2.1
  have e1 : ((w.drewN q).setCell ⟨gS, i, none⟩ (.pointer (some ⟨gs m, 0, none⟩))).heap.size = w.heap.size := by rw [World.size_setCell]; rfl
  have hz2 : w.heap.size ≤ w2.heap.size := by have := hg2.size; rw [World.size_drew, e1] at this; exact this
  have hz4 : w2.heap.size ≤ w4.heap.size := by have := hg4.size; simpa using this
  have s1 : ∀ k, k < w.heap.size → k ≠ bm → k ≠ gS → w2.heap[k]? = w.heap[k]? := fun k hk h1 h2 => by
    rw [hg2.block k (by rw [World.size_drew, e1]; exact hk) (fun e => h1 (by simpa using e))]
    exact blk_set_far (w := w.drewN q) _ _ h2
  have s2 : ∀ k, k < w.heap.size → k ≠ bm → k ≠ gS → k ≠ sM → w4.heap[k]? = w.heap[k]? := fun k hk h1 h2 h3 => by
    rw [hg4.block k (by simp; omega) (fun e => h1 (by simpa using e))]
    show ((w2.setCell ⟨gS, m, none⟩ _).setCell ⟨sM, 41, none⟩ _).heap[k]? = _
    rw [blk_set_far _ _ h3, blk_set_far _ _ h2, s1 k hk h1 h2]
  have hgS2 : w2.heap[gS]? = ((w.drewN q).setCell ⟨gS, i, none⟩ (.pointer (some ⟨gs m, 0, none⟩))).heap[gS]? := hg2.block gS (by rw [World.size_drew, e1]; exact hgl) (fun e => b2 (by simpa using e))
  have hM2 : Mkt w2 sM bm (.slice (some ⟨gS, 0, none⟩) (m + 1) cS) lv := hst.mkt.of_block (s1 sM hsl a1 (Ne.symm b1))
  have o0 : OwnF ((w.drewN q).setCell ⟨gS, i, none⟩ (.pointer (some ⟨gs m, 0, none⟩))) B 32 (.slice (some ⟨gS, 0, none⟩) (m + 1) cS) (m + 1) (fun j => .pointer (some ⟨cutAt gs i m j, 0, none⟩)) :=
    (hst.scores.drewN q).stored i _ (fun _ => by simp [cutAt]) (fun j _ hj => by simp [cutAt, hj])
  have o2 : OwnF w2 B 32 (.slice (some ⟨gS, 0, none⟩) (m + 1) cS) (m + 1) (fun j => .pointer (some ⟨cutAt gs i m j, 0, none⟩)) := o0.kept (fun k hk => by simp only [Value.ownBlock, Option.some.injEq] at hk; subst hk; exact hgS2)
  have o3 : OwnF (w2.setCell ⟨gS, m, none⟩ (.pointer none)) B 32 (.slice (some ⟨gS, 0, none⟩) m cS) m (fun j => .pointer (some ⟨cutAt gs i m j, 0, none⟩)) := by
    have := (o2.stored (G := fun j => if j = m then .pointer none else .pointer (some ⟨cutAt gs i m j, 0, none⟩)) m (.pointer none) (fun _ => by simp) (fun j _ hj => by simp [hj])).pop
    exact this.congr (fun j hj => by rw [if_neg (by omega)])
  refine ⟨?_, ?_, fun j hj => ?_, ?_⟩
  · have hM3 : Mkt (w2.setCell ⟨gS, m, none⟩ (.pointer none)) sM bm (.slice (some ⟨gS, 0, none⟩) (m + 1) cS) lv := hM2.of_block (blk_set_far _ _ (Ne.symm b1))
    exact (hM3.set_scores (.slice (some ⟨gS, 0, none⟩) m cS)).of_block (hg4.block sM (by simp; omega) (fun e => a1 (by simpa using e)))
  · refine o3.kept (fun k hk => ?_)
    simp only [Value.ownBlock, Option.some.injEq] at hk
    subst hk
    rw [hg4.block gS (by simp; omega) (fun e => b2 (by simpa using e))]
    exact blk_set_far _ _ b1
  · obtain ⟨x1, x2, x3⟩ := a3 j hj
    rw [s2 _ (blk_lt (hst.made j hj)) x2 (fun e => x3 (by rw [e]; rfl)) x1]; exact hst.made j hj
  · refine ⟨?_, ?_, ?_, by omega, fun k hk => ?_⟩
    · exact hg4.os.trans hg2.os
    · exact hg4.tape.trans hg2.tape
    · exact hg4.output.trans hg2.output
    · simp only [not_or] at hk
      exact s2 k (by omega) hk.2.1 hk.2.2.1 hk.1

/-- What 'last == ms' comes to. -/
def LastIs (w : World) (lv : Value) (p : Nat) (b : Bool) : Prop := (b = true ∧ lv = .pointer (some ⟨p, 0, none⟩)) ∨ (b = false ∧ (lv = .pointer none ∨ ∃ q cs cp, lv = .pointer (some ⟨q, 0, none⟩) ∧ q ≠ p ∧ w.heap[q]? = some (.cells cs 48 (0, 0)) ∧ w.heap[p]? = some (.cells cp 48 (0, 0))))
theorem LastIs.run {w : World} {lv : Value} {p : Nat} {b : Bool} (h : LastIs w lv p b) : (binOp .eql 32 lv (.pointer (some ⟨p, 0, none⟩))).run Yba.prog w = .ok (.bool b) w := by
  rcases h with ⟨rfl, rfl⟩ | ⟨rfl, rfl | ⟨q, cs, cp, rfl, h1, h2, h3⟩⟩
  · exact eql32_same _ _
  · exact eql32_nil _ _
  · exact eql32_other h1 h2 h3

set_option maxRecDepth 100000 in
set_option maxHeartbeats 2000000 in
theorem drop_walk (w : World) (B sM bm m i gS cS : Nat) (lp : Option Addr) (b : Bool) (sn : Nat → ByteArray) (gs : Nat → Nat) (hm : m ≤ 2000) (hi : i < m + 1) (hst : St w B sM bm (m + 1) (.slice (some ⟨gS, 0, none⟩) (m + 1) cS) (.pointer lp) sn gs) (hb : LastIs w (.pointer lp) (gs i) b) :
    Calls Yba.prog 12 #[.pointer (some ⟨sM, 0, none⟩), .pointer (some ⟨gs i, 0, none⟩)] w fun e w' => e = .returned (.tuple #[]) ∧
      ∃ w4, w' = (if b = true then w4.setCell ⟨sM, 48, none⟩ (.pointer none) else w4) ∧ Idx w4 bm m (cutAt sn i m) ∧ Mkt w4 sM bm (.slice (some ⟨gS, 0, none⟩) m cS) (.pointer lp) ∧ OwnF w4 B 32 (.slice (some ⟨gS, 0, none⟩) m cS) m (fun j => .pointer (some ⟨cutAt gs i m j, 0, none⟩)) ∧
    (∀ j, j < m + 1 → w4.heap[gs j]? = some (.cells (freshC (sn j)) 48 (0, 0))) ∧ Only (fun k => k = sM ∨ k = bm ∨ k = gS ∨ w.heap.size ≤ k) w w4 := by
  obtain ⟨c1, c2, c3, f1, f2⟩ := hst.mkt.cells
  have hn := hst.name hi
  have hn2 := hst.name (j := m) (by omega)
  have hlook : ∀ x, (Instr.lookup 52 (.map (some bm)) (.string (sn i)) false).run Yba.prog (w.drewN x) = .ok (.int .i64 i) (w.drewN x) := fun x => ((hst.idx.of_block (w' := w.drewN x) rfl).look hi (hst.names i hi)).2
  obtain ⟨_, _, hcap, cur, hcur, hcs⟩ : B ≤ gS ∧ gS < w.heap.size ∧ m + 1 ≤ cS ∧ ∃ cur, w.heap[gS]? = some (.cells cur 32 (0, 0)) ∧ ∀ j, j < m + 1 → w.cell? ⟨gS, j, none⟩ = some (.pointer (some ⟨gs j, 0, none⟩)) := by
    obtain ⟨g, cap, hv, hb1, hcap, ⟨cur, hcur, _⟩, hc⟩ := hst.scores.cells (by omega)
    simp only [Value.slice.injEq, Option.some.injEq, Addr.mk.injEq, and_true, true_and] at hv
    obtain ⟨rfl, rfl⟩ := hv
    exact ⟨hb1, blk_lt hcur, hcap, cur, hcur, hc⟩
  have d1 := hcs i hi
  have d2 := hcs m (by omega)
  have d3 := blk_free hcur i
  have d4 := blk_free hcur m
  obtain ⟨a1, a2, a3⟩ := hst.apart
  obtain ⟨b1, b2⟩ := a2 gS rfl
  have b1' := Ne.symm b1
  have hgm : gs m ≠ gS := fun e => (a3 m (by omega)).2.2 (by rw [e]; rfl)
  have hgm' := Ne.symm hgm
  have hsl := hst.mkt.lt
  have hbl := hst.idx.lt
  have hi0 : (0 : Int) ≤ (i : Int) := by omega
  have him : (i : Int) < ((m : Int) + 1) := by omega
  have hm0 : (0 : Int) ≤ (m : Int) := by omega
  have hm1 : (m : Int) < (m : Int) + 1 := by omega
  have keep2 : ∀ (W : World), W.cell? ⟨gS, m, none⟩ = some (.pointer (some ⟨gs m, 0, none⟩)) → (W.setCell ⟨gS, i, none⟩ (.pointer (some ⟨gs m, 0, none⟩))).cell? ⟨gS, m, none⟩ = some (.pointer (some ⟨gs m, 0, none⟩)) := fun W h => by
    by_cases e : i = m
    · subst e; exact World.cell?_setCell_same _ _ _ h
    · exact (World.cell?_setCell_other _ _ _ _ (by intro h; cases h; exact e rfl)).trans h
  have HST := hide hst
  have HB := hide hb
  clear hst a2 a3 hcs hb
  go_enter Yba.func12, Yba.ntmps12
  go_wp2
  go_quiet (fail)
  go_wp2
  go_region_held3 (fun w' => w'.cell? ⟨sM, 41, none⟩ = some (.slice (some ⟨gS, 0, none⟩) (m + 1) cS) ∧ w'.cell? ⟨gS, m, none⟩ = some (.pointer (some ⟨gs m, 0, none⟩))) (first | go_keep | (refine ⟨?_, ?_⟩; · (first | go_keep | simp [*]); · (exact keep2 _ d2))) (fail)
  -- the index
  have e1 : ((w.drewN (nq + 1)).setCell ⟨gS, i, none⟩ (.pointer (some ⟨gs m, 0, none⟩))).heap.size = w.heap.size := by rw [World.size_setCell]; rfl
  have hIw : Idx ((w.drewN (nq + 1)).setCell ⟨gS, i, none⟩ (.pointer (some ⟨gs m, 0, none⟩))).drew bm (m + 1) sn := HST.out.idx.of_block (blk_set_far (w := w.drewN (nq + 1)) _ _ (Ne.symm b2))
  obtain ⟨w2, hup, hmid, hg2⟩ := hIw.mid (i := i) (by omega) hi (HST.out.names m (by omega))
  have hz2 : w.heap.size ≤ w2.heap.size := by have := hg2.size; rw [World.size_drew, e1] at this; exact this
  have s1 : ∀ k, k < w.heap.size → k ≠ bm → w2.heap[k]? = ((w.drewN (nq + 1)).setCell ⟨gS, i, none⟩ (.pointer (some ⟨gs m, 0, none⟩))).heap[k]? := fun k hk h1 => hg2.block k (by rw [World.size_drew, e1]; exact hk) (fun e => h1 (by simpa using e))
  have x41 : w2.cell? ⟨sM, 41, none⟩ = some (.slice (some ⟨gS, 0, none⟩) (m + 1) cS) := (cell_blk (s1 sM hsl a1)).trans ((cell_blk (blk_set_far (w := w.drewN (nq + 1)) _ _ b1')).trans c1)
  have x42 : w2.cell? ⟨sM, 42, none⟩ = some (.map (some bm)) := (cell_blk (s1 sM hsl a1)).trans ((cell_blk (blk_set_far (w := w.drewN (nq + 1)) _ _ b1')).trans c2)
  have x48 : w2.cell? ⟨sM, 48, none⟩ = some (.pointer lp) := (cell_blk (s1 sM hsl a1)).trans ((cell_blk (blk_set_far (w := w.drewN (nq + 1)) _ _ b1')).trans c3)
  have yi : ((w.drewN (nq + 1)).setCell ⟨gS, i, none⟩ (.pointer (some ⟨gs m, 0, none⟩))).cell? ⟨gS, i, none⟩ = some (.pointer (some ⟨gs m, 0, none⟩)) := World.cell?_setCell_same _ _ _ (show (w.drewN (nq + 1)).cell? _ = _ from d1)
  have xi : w2.cell? ⟨gS, i, none⟩ = some (.pointer (some ⟨gs m, 0, none⟩)) := (cell_blk (s1 gS (blk_lt hcur) b2)).trans (World.cell?_setCell_same _ _ _ (show (w.drewN (nq + 1)).cell? _ = _ from d1))
  have xm : w2.cell? ⟨gS, m, none⟩ = some (.pointer (some ⟨gs m, 0, none⟩)) := (cell_blk (s1 gS (blk_lt hcur) b2)).trans (keep2 _ d2)
  have xn : w2.cell? ⟨gs m, 0, none⟩ = some (.string (sn m)) := (cell_blk (s1 (gs m) (blk_lt (HST.out.made m (by omega))) (HST.out.apart.2.2 m (by omega)).2.1)).trans ((cell_blk (blk_set_far (w := w.drewN (nq + 1)) _ _ hgm)).trans hn2)
  go_wp2
  go_region_held3 (fun w' => w'.cell? ⟨sM, 42, none⟩ = some (.map (some bm)) ∧ w'.cell? ⟨sM, 41, none⟩ = some (.slice (some ⟨gS, 0, none⟩) (m + 1) cS) ∧ w'.cell? ⟨gS, i, none⟩ = some (.pointer (some ⟨gs m, 0, none⟩)) ∧ w'.cell? ⟨gs m, 0, none⟩ = some (.string (sn m))) (go_keep) (fail)
  -- the delete
  have u3 : w2.frozen? ⟨gS, m, none⟩ = false := (free_blk (s1 gS (blk_lt hcur) b2)).trans ((World.frozen?_setCell _ _ _ _).trans (show (w.drewN (nq + 1)).frozen? _ = _ from d4))
  have u41 : w2.frozen? ⟨sM, 41, none⟩ = false := (free_blk (s1 sM hsl a1)).trans ((World.frozen?_setCell _ _ _ _).trans (show (w.drewN (nq + 1)).frozen? _ = _ from f1))
  have u48 : w2.frozen? ⟨sM, 48, none⟩ = false := (free_blk (s1 sM hsl a1)).trans ((World.frozen?_setCell _ _ _ _).trans (show (w.drewN (nq + 1)).frozen? _ = _ from f2))
  have hcap' : (m : Int) ≤ (cS : Int) := by omega
  have hgi : gs i ≠ gS := fun e => (HST.out.apart.2.2 i hi).2.2 (by rw [e]; rfl)
  have hgis : gs i ≠ sM := (HST.out.apart.2.2 i hi).1
  have hgib : gs i ≠ bm := (HST.out.apart.2.2 i hi).2.1
  have hgi' := Ne.symm hgi
  have hgis' := Ne.symm hgis
  have xp : w2.cell? ⟨gs i, 0, none⟩ = some (.string (sn i)) := (cell_blk (s1 (gs i) (blk_lt (HST.out.made i hi)) hgib)).trans ((cell_blk (blk_set_far (w := w.drewN (nq + 1)) _ _ hgi)).trans hn)
  obtain ⟨w4, hdel, hI4, hg4⟩ := Mid.drop (w := ((w2.setCell ⟨gS, m, none⟩ (.pointer none)).setCell ⟨sM, 41, none⟩ (.slice (some ⟨gS, 0, none⟩) m cS)).drew) (sn' := cutAt sn i m) (hmid.of_block ((blk_set_far _ _ (Ne.symm a1)).trans (blk_set_far _ _ (Ne.symm b2)))) hi (HST.out.names i hi) (fun _ => by simp [cutAt]) (fun j _ hj => by simp [cutAt, hj]) 0
  have R := drop_end HST.out hg2 hg4
  obtain ⟨z1, z2, z3, z4⟩ := R
  obtain ⟨y41, y42, y48, _, v48⟩ := z1.cells
  have yp : w4.cell? ⟨gs i, 0, none⟩ = some (.string (sn i)) := by rw [blk_cell (z3 i hi)]; rfl
  have hcmp : (binOp .eql 32 (.pointer lp) (.pointer (some ⟨gs i, 0, none⟩))).run Yba.prog w4 = .ok (.bool b) w4 := by
    refine LastIs.run (w := w4) ?_
    rcases HB.out with h | ⟨h1, h | ⟨q, cs, cp, h2, h3, h4, h5⟩⟩
    · exact .inl h
    · exact .inr ⟨h1, .inl h⟩
    · rcases HST.out.last with e | ⟨j, hj, e⟩
      · rw [e] at h2; cases h2
      · rw [e] at h2
        simp only [Value.pointer.injEq, Option.some.injEq, Addr.mk.injEq, and_true] at h2
        exact .inr ⟨h1, .inr ⟨gs j, _, _, e, by rw [h2]; exact h3, z3 j hj, z3 i hi⟩⟩
  have FIN : Hid (Idx w4 bm m (cutAt sn i m) ∧ Mkt w4 sM bm (.slice (some ⟨gS, 0, none⟩) m cS) (.pointer lp) ∧ OwnF w4 B 32 (.slice (some ⟨gS, 0, none⟩) m cS) m (fun j => .pointer (some ⟨cutAt gs i m j, 0, none⟩)) ∧ (∀ j, j < m + 1 → w4.heap[gs j]? = some (.cells (freshC (sn j)) 48 (0, 0))) ∧ Only (fun k => k = sM ∨ k = bm ∨ k = gS ∨ w.heap.size ≤ k) w w4) := ⟨hI4, z1, z2, z3, z4⟩
  clear hI4 z1 z2 z3 z4 hmid hg2 hg4 hIw s1
  go_wp2
  have k42 : ((w2.setCell ⟨gS, m, none⟩ (.pointer none)).setCell ⟨sM, 41, none⟩ (.slice (some ⟨gS, 0, none⟩) m cS)).cell? ⟨sM, 42, none⟩ = some (.map (some bm)) := by
    rw [World.cell?_setCell_other _ _ _ _ (by intro h; cases h), World.cell?_setCell_other _ _ _ _ (by intro h; cases h; exact b1 rfl)]; exact x42
  have kp : ((w2.setCell ⟨gS, m, none⟩ (.pointer none)).setCell ⟨sM, 41, none⟩ (.slice (some ⟨gS, 0, none⟩) m cS)).cell? ⟨gs i, 0, none⟩ = some (.string (sn i)) := (cell_blk ((blk_set_far _ _ hgis).trans (blk_set_far _ _ hgi))).trans xp
  go_region_held3 (fun w' => w'.cell? ⟨sM, 42, none⟩ = some (.map (some bm)) ∧ w'.cell? ⟨gs i, 0, none⟩ = some (.string (sn i))) (first | go_keep | exact ⟨k42, kp⟩ | exact ⟨y42, yp⟩) (fail)
  cases b with
  | true =>
    go_wp2
    go_end0
    exact ⟨rfl, w4, by simp, FIN.out⟩
  | false =>
    go_wp2
    go_end0
    exact ⟨rfl, FIN.out⟩

/-- 'drop', at the market's state: the i-th is taken out; 'last' is as it was, or nil if it was the i-th. -/
theorem drop_any {w : World} {B sM bm m i : Nat} {sv lv : Value} {sn : Nat → ByteArray} {gs : Nat → Nat} (hm : m ≤ 2000) (hi : i < m + 1) (hst : St w B sM bm (m + 1) sv lv sn gs) :
    Calls Yba.prog 12 #[.pointer (some ⟨sM, 0, none⟩), .pointer (some ⟨gs i, 0, none⟩)] w fun e w' => e = .returned (.tuple #[]) ∧
      ∃ sv' lv', St w' B sM bm m sv' lv' (cutAt sn i m) (cutAt gs i m) ∧ sv'.ownBlock = sv.ownBlock ∧ (lv = .pointer (some ⟨gs i, 0, none⟩) → lv' = .pointer none) ∧ (lv ≠ .pointer (some ⟨gs i, 0, none⟩) → lv' = lv) ∧
      (∀ j, j < m + 1 → w'.heap[gs j]? = some (.cells (freshC (sn j)) 48 (0, 0))) ∧ Only (fun k => k = sM ∨ k = bm ∨ sv.ownBlock = some k ∨ w.heap.size ≤ k) w w' := by
  obtain ⟨gS, cS, rfl, hB, _, _, _⟩ := hst.scores.cells (by omega)
  have hmade' : ∀ {W : World}, (∀ j, j < m + 1 → W.heap[gs j]? = some (.cells (freshC (sn j)) 48 (0, 0))) → ∀ j, j < m → W.heap[cutAt gs i m j]? = some (.cells (freshC (cutAt sn i m j)) 48 (0, 0)) := fun h j hj => by
    unfold cutAt
    by_cases e : j = i
    · rw [if_pos e, if_pos e]; exact h m (by omega)
    · rw [if_neg e, if_neg e]; exact h j (by omega)
  have hown : B ≤ sM ∧ B ≤ bm ∧ ∀ j, j < m → B ≤ cutAt gs i m j := ⟨hst.own.1, hst.own.2.1, fun j hj => by
    unfold cutAt; split
    · exact hst.own.2.2 m (by omega)
    · exact hst.own.2.2 j (by omega)⟩
  have hnames : ∀ j, j < m → (cutAt sn i m j).size ≤ maxLen := fun j hj => by
    unfold cutAt; split
    · exact hst.names m (by omega)
    · exact hst.names j (by omega)
  obtain ⟨a1, a2, a3⟩ := hst.apart
  rcases hst.last with rfl | ⟨j, hj, rfl⟩
  · refine (drop_walk w B sM bm m i gS cS none false sn gs hm hi hst (.inr ⟨rfl, .inl rfl⟩)).mono ?_
    rintro e w' ⟨rfl, w4, hw, hI, hM, hO, hmade, ho⟩
    simp only [Bool.false_eq_true, if_false] at hw
    subst hw
    exact ⟨rfl, _, _, ⟨hM, hO, hI, hmade' hmade, hown, hnames, .inl rfl⟩, rfl, fun _ => rfl, fun _ => rfl, hmade, ho.mono fun k hk => by
      rcases hk with h | h | h | h
      · exact .inl h
      · exact .inr (.inl h)
      · exact .inr (.inr (.inl (by rw [h]; rfl)))
      · exact .inr (.inr (.inr h))⟩
  · by_cases hij : j = i
    · subst hij
      refine (drop_walk w B sM bm m j gS cS (some ⟨gs j, 0, none⟩) true sn gs hm hi hst (.inl ⟨rfl, rfl⟩)).mono ?_
      rintro e w' ⟨rfl, w4, hw, hI, hM, hO, hmade, ho⟩
      simp only [if_true] at hw
      subst hw
      have hfar : ∀ k, k ≠ sM → (w4.setCell ⟨sM, 48, none⟩ (.pointer none)).heap[k]? = w4.heap[k]? := fun k hk => blk_set_far _ _ hk
      have hmd : ∀ q, q < m + 1 → (w4.setCell ⟨sM, 48, none⟩ (.pointer none)).heap[gs q]? = some (.cells (freshC (sn q)) 48 (0, 0)) := fun q hq => by rw [hfar _ (a3 q hq).1]; exact hmade q hq
      refine ⟨rfl, _, _, ⟨hM.set_last _, hO.kept (fun k hk => hfar k ?_), hI.of_block (hfar bm (Ne.symm a1)), hmade' hmd, hown, hnames, .inl rfl⟩, rfl, fun _ => rfl, fun h => absurd rfl h, hmd, (ho.mono fun k hk => ?_).setCell (p := ⟨sM, 48, none⟩) (.inl rfl) _⟩
      · simp only [Value.ownBlock, Option.some.injEq] at hk; subst hk; exact (a2 gS rfl).1
      · rcases hk with h | h | h | h
        · exact .inl h
        · exact .inr (.inl h)
        · exact .inr (.inr (.inl (by rw [h]; rfl)))
        · exact .inr (.inr (.inr h))
    · have hne : gs j ≠ gs i := fun e => hij (hst.inj hj hi e)
      refine (drop_walk w B sM bm m i gS cS (some ⟨gs j, 0, none⟩) false sn gs hm hi hst (.inr ⟨rfl, .inr ⟨gs j, _, _, rfl, hne, hst.made j hj, hst.made i hi⟩⟩)).mono ?_
      rintro e w' ⟨rfl, w4, hw, hI, hM, hO, hmade, ho⟩
      simp only [Bool.false_eq_true, if_false] at hw
      subst hw
      refine ⟨rfl, _, _, ⟨hM, hO, hI, hmade' hmade, hown, hnames, .inr ?_⟩, rfl, fun h => ?_, fun _ => rfl, hmade, ho.mono fun k hk => ?_⟩
      · by_cases e : j = m
        · refine ⟨i, by omega, ?_⟩
          subst e; simp [cutAt]
        · refine ⟨j, by omega, ?_⟩
          simp [cutAt, hij]
      · simp only [Value.pointer.injEq, Option.some.injEq, Addr.mk.injEq, and_true] at h; exact absurd h hne
      · rcases hk with h | h | h | h
        · exact .inl h
        · exact .inr (.inl h)
        · exact .inr (.inr (.inl (by rw [h]; rfl)))
        · exact .inr (.inr (.inr h))
end Go.Proofs.Ybulkbfwy
