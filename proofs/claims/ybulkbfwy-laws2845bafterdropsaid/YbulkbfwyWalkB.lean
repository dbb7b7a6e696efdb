/-
  OWN WORK. Walks: (*Market).maker.
-/
import Derived.Test.YbulkbfwyWalkA
namespace Go.Proofs.Ybulkbfwy
open Go.RowKit

def ptr (g : Nat) : Value := .pointer (some ⟨g, 0, none⟩)

/-- The market as the law sees it: m makers, named sn 0 .. sn (m - 1), their scores at gs 0 .. gs (m - 1). From B on: the call's own memory. -/
structure St (w : World) (B sM bm m : Nat) (sv lv : Value) (sn : Nat → ByteArray) (gs : Nat → Nat) : Prop where
  mkt : Mkt w sM bm sv lv
  scores : OwnF w B 32 sv m (fun j => .pointer (some ⟨gs j, 0, none⟩))
  idx : Idx w bm m sn
  made : ∀ j, j < m → w.heap[gs j]? = some (.cells (freshC (sn j)) 48 (0, 0))
  own : B ≤ sM ∧ B ≤ bm ∧ ∀ j, j < m → B ≤ gs j
  names : ∀ j, j < m → (sn j).size ≤ maxLen
  last : lv = .pointer none ∨ ∃ j, j < m ∧ lv = .pointer (some ⟨gs j, 0, none⟩)

theorem St.inj {w : World} {B sM bm m : Nat} {sv lv : Value} {sn : Nat → ByteArray} {gs : Nat → Nat} (h : St w B sM bm m sv lv sn gs) {i j : Nat} (hi : i < m) (hj : j < m) (e : gs i = gs j) : i = j := by
  have h1 := h.made i hi
  have h2 := h.made j hj
  rw [e, h2] at h1
  simp only [Option.some.injEq, Obj.cells.injEq, and_true, freshC] at h1
  refine h.idx.inj hi hj ?_
  simpa using h1.symm

set_option maxRecDepth 100000 in
set_option maxHeartbeats 1000000 in
theorem maker_last (w : World) (sM p : Nat) (s : ByteArray) (hl : w.cell? ⟨sM, 48, none⟩ = some (.pointer (some ⟨p, 0, none⟩))) (hp : w.cell? ⟨p, 0, none⟩ = some (.string s)) :
    Calls Yba.prog 6 #[.pointer (some ⟨sM, 0, none⟩), .string s] w fun e w' => e = .returned (.pointer (some ⟨p, 0, none⟩)) ∧ w' = w := by
  have e1 : (s.toList == s.toList) = true := by simp
  go_enter Yba.func6, Yba.ntmps6
  go_wp2
  go_ret
  exact ⟨rfl, rfl⟩

/-- 'last' doesn't bear the name s. -/
def NotLast (w : World) (lv : Value) (s : ByteArray) : Prop := lv = .pointer none ∨ ∃ p t, lv = .pointer (some ⟨p, 0, none⟩) ∧ w.cell? ⟨p, 0, none⟩ = some (.string t) ∧ t ≠ s

set_option maxRecDepth 100000 in
set_option maxHeartbeats 1000000 in
theorem maker_old (w : World) (sM bm gS cS m i p : Nat) (lv : Value) (s : ByteArray) (hi : i < m) (hM : Mkt w sM bm (.slice (some ⟨gS, 0, none⟩) m cS) lv) (hn : NotLast w lv s) (hlook : (Instr.lookup 52 (.map (some bm)) (.string s) true).run Yba.prog w = .ok (.tuple #[.int .i64 i, .bool true]) w)
    (hs : w.cell? ⟨gS, i, none⟩ = some (.pointer (some ⟨p, 0, none⟩))) :
    Calls Yba.prog 6 #[.pointer (some ⟨sM, 0, none⟩), .string s] w fun e w' => e = .returned (.pointer (some ⟨p, 0, none⟩)) ∧ w' = w.setCell ⟨sM, 48, none⟩ (.pointer (some ⟨p, 0, none⟩)) := by
  obtain ⟨c1, c2, c3, _, f2⟩ := hM.cells
  have hi0 : (0 : Int) ≤ (i : Int) := by omega
  have him : (i : Int) < (m : Int) := by omega
  rcases hn with rfl | ⟨q, t, rfl, hq, hne⟩
  · go_enter Yba.func6, Yba.ntmps6
    go_wp2
    go_ret
    exact ⟨rfl, rfl⟩
  · have e1 : (t.toList == s.toList) = false := str_ne hne
    go_enter Yba.func6, Yba.ntmps6
    go_wp2
    go_ret
    exact ⟨rfl, rfl⟩

theorem Yba.info32 : (Yba.prog.info? 32).map (fun i => (i.zero, i.size, i.bytes)) = some (some (.pointer none), 1, 8) := by kernel_rfl
theorem Yba.info9 : (Yba.prog.info? 9).map (fun i => (i.zero, i.size, i.bytes)) = some (some (.string ⟨#[]⟩), 1, 16) := by kernel_rfl

theorem types_apart {w : World} {a b : Nat} {ca cb : Array Value} {ta tb : TypeId} (ha : w.heap[a]? = some (.cells ca ta (0, 0))) (hb : w.heap[b]? = some (.cells cb tb (0, 0))) (h : ta ≠ tb) : a ≠ b := fun e => by
  subst e; rw [ha] at hb; simp only [Option.some.injEq, Obj.cells.injEq] at hb; exact h hb.2.1
theorem map_apart {w : World} {a b : Nat} {ca : Array Value} {ta : TypeId} {es : Array MapEntry} {c : Nat} (ha : w.heap[a]? = some (.cells ca ta (0, 0))) (hb : w.heap[b]? = some (.map es c)) : a ≠ b := fun e => by
  subst e; rw [ha] at hb; cases hb
theorem St.apart {w : World} {B sM bm m : Nat} {sv lv : Value} {sn : Nat → ByteArray} {gs : Nat → Nat} (h : St w B sM bm m sv lv sn gs) :
    sM ≠ bm ∧ (∀ k, sv.ownBlock = some k → k ≠ sM ∧ k ≠ bm) ∧ ∀ j, j < m → gs j ≠ sM ∧ gs j ≠ bm ∧ sv.ownBlock ≠ some (gs j) := by
  obtain ⟨cs, h1, _⟩ := h.mkt
  obtain ⟨es, c, h2⟩ := h.idx.is_map
  refine ⟨map_apart h1 h2, fun k hk => ?_, fun j hj => ⟨types_apart (h.made j hj) h1 (by decide), map_apart (h.made j hj) h2, fun hk => ?_⟩⟩
  · obtain ⟨_, _, cur, h3⟩ := h.scores.at_block hk
    exact ⟨types_apart h3 h1 (by decide), map_apart h3 h2⟩
  · obtain ⟨_, _, cur, h3⟩ := h.scores.at_block hk
    exact types_apart h3 (h.made j hj) (by decide) rfl

/-- Behind 'maker' of a new name: w1 behind the index's new entry, w2 behind the append. -/
theorem maker_end {w w1 w2 : World} {B sM bm m : Nat} {sv lv : Value} {sn sn' : Nat → ByteArray} {gs gs' : Nat → Nat} {s : ByteArray} {o : Obj} {g' cap' : Nat} (hst : St w B sM bm m sv lv sn gs) (hB : B ≤ w.heap.size)
    (hsn : sn' m = s) (hsn' : ∀ j, j < m → sn' j = sn j) (hgs : gs' m = w.heap.size) (hgs' : ∀ j, j < m → gs' j = gs j) (hs : s.size ≤ maxLen)
    (hI1 : Idx w1 bm (m + 1) sn') (hg1 : (w.alloc (.cells (freshC s) 48)).drew.grownBy w1 (some bm))
    (hown : w2.ownsRow B 32 1 (.slice (some ⟨g', 0, none⟩) (m + 1) cap') (m + 1) ((List.range m).map (fun j => .pointer (some ⟨gs j, 0, none⟩)) ++ [.pointer (some ⟨w.heap.size, 0, none⟩)]))
    (hg2 : (w1.alloc o).grownBy w2 sv.ownBlock) (hat : sv.ownBlock = some g' ∨ g' = w1.heap.size + 1) :
    St ((w2.setCell ⟨sM, 41, none⟩ (.slice (some ⟨g', 0, none⟩) (m + 1) cap')).setCell ⟨sM, 48, none⟩ (.pointer (some ⟨w.heap.size, 0, none⟩))) B sM bm (m + 1) (.slice (some ⟨g', 0, none⟩) (m + 1) cap') (.pointer (some ⟨w.heap.size, 0, none⟩)) sn' gs' ∧
    Only (fun k => k = sM ∨ k = bm ∨ sv.ownBlock = some k ∨ w.heap.size ≤ k) w ((w2.setCell ⟨sM, 41, none⟩ (.slice (some ⟨g', 0, none⟩) (m + 1) cap')).setCell ⟨sM, 48, none⟩ (.pointer (some ⟨w.heap.size, 0, none⟩))) ∧ (sv.ownBlock = some g' ∨ w.heap.size < g') := by
  obtain ⟨a1, a2, a3⟩ := hst.apart
  have hsl := hst.mkt.lt
  have hbl := hst.idx.lt
  have hz1 : w.heap.size + 1 ≤ w1.heap.size := by have := hg1.size; simpa using this
  have hz2 : w1.heap.size + 1 ≤ w2.heap.size := by have := hg2.size; simpa using this
  -- a block that neither step touches
  have far : ∀ k, k < w.heap.size → k ≠ bm → sv.ownBlock ≠ some k → w2.heap[k]? = w.heap[k]? := fun k hk h1 h2 => by
    rw [hg2.block k (by simp; omega) (fun e => h2 e.symm), blk_old _ (by omega), hg1.block k (by show k < (w.alloc _).heap.size; simp; omega) (fun e => h1 (by simpa using e))]
    exact blk_old _ hk
  have newb : w2.heap[w.heap.size]? = some (.cells (freshC s) 48 (0, 0)) := by
    rw [hg2.block _ (by simp; omega) (fun e => by have := (hst.scores.at_block e.symm).2.1; omega), blk_old _ (by omega), hg1.block _ (by show _ < (w.alloc _).heap.size; simp) (fun e => by simp at e; omega)]
    exact blk_new _ _
  have hmk : w2.heap[sM]? = w.heap[sM]? := far sM hsl a1 (fun e => (a2 sM e).1 rfl)
  have hM2 : Mkt w2 sM bm sv lv := hst.mkt.of_block hmk
  have hg's : g' ≠ sM := by
    rcases hat with e | e
    · exact (a2 g' e).1
    · omega
  have hbm2 : w2.heap[bm]? = w1.heap[bm]? := by rw [hg2.block bm (by simp; omega) (fun e => (a2 bm e.symm).2 rfl), blk_old _ (by omega)]
  have dist : ∀ k, k ≠ sM → ((w2.setCell ⟨sM, 41, none⟩ (.slice (some ⟨g', 0, none⟩) (m + 1) cap')).setCell ⟨sM, 48, none⟩ (.pointer (some ⟨w.heap.size, 0, none⟩))).heap[k]? = w2.heap[k]? := fun k hk => by rw [blk_set_far _ _ hk, blk_set_far _ _ hk]
  refine ⟨⟨(hM2.set_scores _).set_last _, ?_, (hI1.of_block hbm2).of_block (dist bm (Ne.symm a1)), fun j hj => ?_, ⟨hst.own.1, hst.own.2.1, fun j hj => ?_⟩, fun j hj => ?_, .inr ⟨m, by omega, by rw [hgs]⟩⟩, ?_, ?_⟩
  · have h1 : OwnF w2 B 32 (.slice (some ⟨g', 0, none⟩) (m + 1) cap') (m + 1) (fun j => .pointer (some ⟨gs' j, 0, none⟩)) := by
      unfold OwnF; rw [← map_snoc (F := fun j => Value.pointer (some ⟨gs j, 0, none⟩)) (x := .pointer (some ⟨w.heap.size, 0, none⟩)) (by rw [hgs]) (fun j hj => by rw [hgs' j hj])]; exact hown
    exact h1.kept (fun k hk => dist k (by simp only [Value.ownBlock, Option.some.injEq] at hk; omega))
  · rw [dist _ ?_]
    · by_cases e : j = m
      · subst e; rw [hgs, hsn]; exact newb
      · have hj' : j < m := by omega
        rw [hgs' j hj', hsn' j hj', far _ (blk_lt (hst.made j hj')) (a3 j hj').2.1 (a3 j hj').2.2]; exact hst.made j hj'
    · by_cases e : j = m
      · subst e; rw [hgs]; omega
      · rw [hgs' j (by omega)]; exact (a3 j (by omega)).1
  · by_cases e : j = m
    · subst e; rw [hgs]; exact hB
    · rw [hgs' j (by omega)]; exact hst.own.2.2 j (by omega)
  · by_cases e : j = m
    · subst e; rw [hsn]; exact hs
    · rw [hsn' j (by omega)]; exact hst.names j (by omega)
  · refine ⟨?_, ?_, ?_, ?_, fun k hk => ?_⟩
    · show w2.os = w.os; exact hg2.os.trans hg1.os
    · show w2.tape = w.tape; exact hg2.tape.trans hg1.tape
    · show w2.output = w.output; exact hg2.output.trans hg1.output
    · simp; omega
    · simp only [not_or] at hk
      rw [dist k hk.1]
      exact far k (by omega) hk.2.1 hk.2.2.1
  · rcases hat with e | e
    · exact .inl e
    · exact .inr (by omega)

set_option maxRecDepth 100000 in
set_option maxHeartbeats 1000000 in
theorem maker_new (w : World) (B sM bm m : Nat) (a : Option Addr) (cS : Nat) (lv : Value) (s : ByteArray) (sn sn' : Nat → ByteArray) (gs gs' : Nat → Nat) (hm : m ≤ 2000) (hB : B ≤ w.heap.size) (hgs : gs' m = w.heap.size) (hgs' : ∀ j, j < m → gs' j = gs j) (hst : St w B sM bm m (.slice a m cS) lv sn gs) (hn : NotLast w lv s) (hs : s.size ≤ maxLen) (hnew : ∀ j, j < m → sn j ≠ s) (hsn : sn' m = s) (hsn' : ∀ j, j < m → sn' j = sn j) :
    Calls Yba.prog 6 #[.pointer (some ⟨sM, 0, none⟩), .string s] w fun e w' => e = .returned (.pointer (some ⟨w.heap.size, 0, none⟩)) ∧ ∃ g' cap', St w' B sM bm (m + 1) (.slice (some ⟨g', 0, none⟩) (m + 1) cap') (.pointer (some ⟨w.heap.size, 0, none⟩)) sn' gs' ∧ Only (fun k => k = sM ∨ k = bm ∨ (Value.slice a m cS).ownBlock = some k ∨ w.heap.size ≤ k) w w' ∧ ((Value.slice a m cS).ownBlock = some g' ∨ w.heap.size < g') := by
  obtain ⟨i32, hi, hz0, hz1, hz2⟩ := info_parts Yba.info32
  obtain ⟨c1, c2, c3, f1, f2⟩ := hst.mkt.cells
  obtain ⟨c, hlook⟩ := hst.idx.look_miss hs hnew
  have hsl := hst.mkt.lt
  have hbl := hst.idx.lt
  obtain ⟨w1, hup, hI1, hg1⟩ := Idx.add (w := (w.alloc (.cells #[.string s, .bool false, .slice none 0 0, .bool false, .slice none 0 0, .int .u64 0, .int .u64 0, .int .u64 0, .int .u64 0, .bool false, .slice none 0 0, .int .i64 0, .int .u64 0, .int .i64 0, .pointer none, .slice none 0 0, .bool false, .int .i64 0] 48)).drew) (hst.idx.of_block (by exact blk_old _ hbl)) (by omega) hs hnew hsn hsn'
  obtain ⟨a1, a2, a3⟩ := hst.apart
  have hzz : w.heap.size + 1 ≤ w1.heap.size := by have := hg1.size; simpa using this
  have hh : w1.heap[sM]? = w.heap[sM]? := by
    rw [hg1.block sM (by show sM < (w.alloc _).heap.size; simp; omega) (fun e => a1 (by simpa using e))]
    exact blk_old _ hsl
  have z41 := (cell_blk (i := 41) hh).trans c1
  have z42 := (cell_blk (i := 42) hh).trans c2
  have z48 := (cell_blk (i := 48) hh).trans c3
  have y41 := (free_blk (i := 41) hh).trans f1
  have y48 := (free_blk (i := 48) hh).trans f2
  have hown1 : w1.ownsRow B 32 1 (.slice a m cS) m ((List.range m).map (fun j => .pointer (some ⟨gs j, 0, none⟩))) := hst.scores.kept (fun k hk => by
    have q := (hst.scores.at_block hk).2.1
    rw [hg1.block k (by show k < (w.alloc _).heap.size; simp; omega) (fun e => (a2 k hk).2 (by simpa using e))]
    exact blk_old _ q)
  have hx : ∀ k, (Value.slice a m cS).ownBlock = some k → k ≠ sM := fun k hk => (a2 k hk).1
  have HST := hide hst
  have HG1 := hide hg1
  have HI1 := hide hI1
  have HSN : Hid (sn' m = s ∧ ∀ j, j < m → sn' j = sn j) := ⟨hsn, hsn'⟩
  have HGS : Hid (gs' m = w.heap.size ∧ ∀ j, j < m → gs' j = gs j) := ⟨hgs, hgs'⟩
  clear hst hg1 hI1 hnew hsn hsn' hgs hgs' a2 a3
  rcases hn with rfl | ⟨q, t, rfl, hq, hne⟩
  all_goals
    try (have e1 : (t.toList == s.toList) = false := str_ne hne)
    go_enter Yba.func6, Yba.ntmps6
    go_wp2
    go_region_held3 (fun w' => w'.cell? ⟨sM, 42, none⟩ = some (.map (some bm)) ∧ w'.cell? ⟨sM, 41, none⟩ = some (.slice a m cS)) (go_keep) (fail)
    go_wp2_with (at_builtin; refine wpList_append_lies _ rfl (.tmp 69) (.tmp 71) 31 rfl B 32 i32 (.pointer none) 1 8 Yba.underlying31 hi hz0 hz1 hz2 rfl (by decide) (.slice a m cS) m _ rfl (hown1.alloc _) ⟨w1.heap.size, 0, none⟩ 1 1 [.pointer (some ⟨w.heap.size, 0, none⟩)] rfl rfl (cell_one_new _ _ _) (fun u hu => by simp at hu; subst hu; rfl) (by decide) (by unfold maxLen; omega) (by omega) (by simp; omega) _ rfl ?_; intro g' cap' w2 hown2 hgrow hat hlt1; have hh2 : w2.heap[sM]? = w1.heap[sM]? := (hgrow.block sM (by simp; omega) (fun e => hx sM e.symm rfl)).trans (blk_old _ (by omega)); have x41 := (cell_blk (i := 41) hh2).trans z41; have x48 := (cell_blk (i := 48) hh2).trans z48; have u41 := (free_blk (i := 41) hh2).trans y41; have u48 := (free_blk (i := 48) hh2).trans y48)
    go_ret
    exact ⟨rfl, g', cap', maker_end HST.out hB HSN.out.1 HSN.out.2 HGS.out.1 HGS.out.2 hs HI1.out HG1.out hown2 hgrow (by simpa using hat)⟩

theorem St.kept {w w' : World} {B sM bm m : Nat} {sv lv : Value} {sn : Nat → ByteArray} {gs : Nat → Nat} {S : Nat → Prop} (h : St w B sM bm m sv lv sn gs) (ho : Only S w w') (h1 : ¬ S sM) (h2 : ¬ S bm) (h3 : ∀ k, sv.ownBlock = some k → ¬ S k) (h4 : ∀ j, j < m → ¬ S (gs j)) :
    St w' B sM bm m sv lv sn gs :=
  ⟨h.mkt.of_block (ho.block _ h1), h.scores.kept (fun k hk => ho.block k (h3 k hk)), h.idx.of_block (ho.block _ h2), fun j hj => by rw [ho.block _ (h4 j hj)]; exact h.made j hj, h.own, h.names, h.last⟩

theorem St.last_set {w : World} {B sM bm m i : Nat} {sv lv : Value} {sn : Nat → ByteArray} {gs : Nat → Nat} (h : St w B sM bm m sv lv sn gs) (hi : i < m) : St (w.setCell ⟨sM, 48, none⟩ (.pointer (some ⟨gs i, 0, none⟩))) B sM bm m sv (.pointer (some ⟨gs i, 0, none⟩)) sn gs := by
  obtain ⟨a1, a2, a3⟩ := h.apart
  exact ⟨h.mkt.set_last _, h.scores.kept (fun k hk => blk_set_far _ _ (a2 k hk).1), h.idx.of_block (blk_set_far _ _ (Ne.symm a1)), fun j hj => by rw [blk_set_far _ _ (a3 j hj).1]; exact h.made j hj, h.own, h.names, .inr ⟨i, hi, rfl⟩⟩

theorem St.name {w : World} {B sM bm m : Nat} {sv lv : Value} {sn : Nat → ByteArray} {gs : Nat → Nat} (h : St w B sM bm m sv lv sn gs) {j : Nat} (hj : j < m) : w.cell? ⟨gs j, 0, none⟩ = some (.string (sn j)) := by rw [blk_cell (h.made j hj)]; rfl

/-- 'maker' of a name that is there. -/
theorem maker_hit {w : World} {B sM bm m : Nat} {sv lv : Value} {sn : Nat → ByteArray} {gs : Nat → Nat} (h : St w B sM bm m sv lv sn gs) {i : Nat} (hi : i < m) :
    Calls Yba.prog 6 #[.pointer (some ⟨sM, 0, none⟩), .string (sn i)] w fun e w' => e = .returned (.pointer (some ⟨gs i, 0, none⟩)) ∧ St w' B sM bm m sv (.pointer (some ⟨gs i, 0, none⟩)) sn gs ∧ Only (fun k => k = sM) w w' := by
  have old : NotLast w lv (sn i) → Calls Yba.prog 6 #[.pointer (some ⟨sM, 0, none⟩), .string (sn i)] w fun e w' => e = .returned (.pointer (some ⟨gs i, 0, none⟩)) ∧ St w' B sM bm m sv (.pointer (some ⟨gs i, 0, none⟩)) sn gs ∧ Only (fun k => k = sM) w w' := fun hn => by
    have hM := h.mkt
    obtain ⟨g, cap, hv, _, _, _, hc⟩ := h.scores.cells (by omega)
    rw [hv] at hM
    refine (maker_old w sM bm g cap m i (gs i) lv (sn i) hi hM hn (h.idx.look hi (h.names i hi)).1 (hc i hi)).mono ?_
    rintro e w' ⟨rfl, rfl⟩
    exact ⟨rfl, h.last_set hi, (Only.refl (fun k => k = sM) w).setCell (p := ⟨sM, 48, none⟩) rfl _⟩
  rcases h.last with e | ⟨j, hj, e⟩
  · exact old (.inl e)
  · by_cases hij : sn j = sn i
    · have := h.idx.inj hj hi hij
      subst this
      have hl := h.mkt.cells.2.2.1
      rw [e] at hl
      refine (maker_last w sM (gs j) (sn j) hl (h.name hj)).mono ?_
      rintro e' w' ⟨rfl, rfl⟩
      subst e
      exact ⟨rfl, h, Only.refl _ _⟩
    · exact old (.inr ⟨gs j, sn j, e, h.name hj, hij⟩)

/-- 'maker' of a name that is not there. -/
theorem maker_miss {w : World} {B sM bm m : Nat} {sv lv : Value} {sn : Nat → ByteArray} {gs : Nat → Nat} (h : St w B sM bm m sv lv sn gs) (hm : m ≤ 2000) (hB : B ≤ w.heap.size) {s : ByteArray} (hs : s.size ≤ maxLen) (hnew : ∀ j, j < m → sn j ≠ s) :
    Calls Yba.prog 6 #[.pointer (some ⟨sM, 0, none⟩), .string s] w fun e w' => e = .returned (.pointer (some ⟨w.heap.size, 0, none⟩)) ∧ ∃ g' cap', St w' B sM bm (m + 1) (.slice (some ⟨g', 0, none⟩) (m + 1) cap') (.pointer (some ⟨w.heap.size, 0, none⟩)) (fun j => if j = m then s else sn j) (fun j => if j = m then w.heap.size else gs j) ∧
      Only (fun k => k = sM ∨ k = bm ∨ sv.ownBlock = some k ∨ w.heap.size ≤ k) w w' ∧ (sv.ownBlock = some g' ∨ w.heap.size < g') := by
  obtain ⟨a, cS, rfl⟩ := h.scores.form
  refine maker_new w B sM bm m a cS lv s sn _ gs _ hm hB (by simp) (fun j hj => by simp; omega) h ?_ hs hnew (by simp) (fun j hj => by rw [if_neg (by omega)])
  rcases h.last with e | ⟨j, hj, e⟩
  · exact .inl e
  · exact .inr ⟨gs j, sn j, e, h.name hj, hnew j hj⟩
end Go.Proofs.Ybulkbfwy
