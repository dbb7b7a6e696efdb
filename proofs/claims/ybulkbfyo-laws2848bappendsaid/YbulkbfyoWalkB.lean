/-
  OWN WORK. Walks: appendRecord, where a new chunk is made.
-/
import Derived.Test.YbulkbfyoWalkA
import Derived.Deep.RegionLaw
import Derived.Deep.AppendLies
namespace Go.Proofs.Ybulkbfyo
open Go.RowKit

theorem Yba.info34 : (Yba.prog.info? 34).map (fun i => (i.zero, i.size, i.bytes)) = some (some (.slice none 0 0), 1, 24) := by kernel_rfl
theorem Yba.info5 : (Yba.prog.info? 5).map (fun i => (i.zero, i.size, i.bytes)) = some (some (.int .u8 0), 1, 1) := by kernel_rfl
theorem make5 (l c : Nat) (hl : l ≤ c) (hc : c ≤ 70000) : ∀ w : World, (Instr.makeSlice 34 (.int .i64 (l : Int)) (.int .i64 (c : Int))).run Yba.prog w = .ok (.slice (some ⟨w.heap.size, 0, none⟩) l c) (w.alloc (.cells (madeCells #[.int .u8 0] c) 5)) := fun w => by
  obtain ⟨i, hi, hz0, hz1, hz2⟩ := info_parts Yba.info5
  have := run_make (P := Yba.prog) w 34 5 i (.int .u8 0) Yba.underlying34 hi hz0 .i64 .i64 l c (by omega) (by omega) (by rw [hz2]; omega) (by omega)
  simpa [hz1, Value.cells] using this

theorem news_at {w : World} {n : Nat} (hn : w.heap.size = n) (v : Value) (T : TypeId) : ∀ j u, [v][j]? = some u → (w.alloc (.cells #[v] T)).cell? ((⟨n, 0, none⟩ : Addr).add j) = some u := by
  subst hn; exact cell_one_new _ _ _
theorem upd_upd (f : Nat → Nat) (i x y : Nat) : upd (upd f i x) i y = upd f i y := by funext j; unfold upd; split <;> rfl
theorem made_chunk (w : World) (l c : Nat) (o : Obj) : Chunk ((w.alloc (.cells (madeCells #[.int .u8 0] c) 5)).alloc o) w.heap.size l c := by
  refine ⟨_, (blk_old _ (by simp)).trans (blk_new _ _), size_madeCells _ _, fun k _ hk => ?_⟩
  simp [madeCells, hk, Nat.mod_one]
theorem make5z (c : Nat) (hc : c ≤ 70000) : ∀ w : World, (Instr.makeSlice 34 (.int .i64 0) (.int .i64 (c : Int))).run Yba.prog w = .ok (.slice (some ⟨w.heap.size, 0, none⟩) 0 c) (w.alloc (.cells (madeCells #[.int .u8 0] c) 5)) := fun w => make5 0 c (by omega) hc w

set_option maxHeartbeats 1000000 in
set_option maxRecDepth 100000 in
theorem rec_new0 (B D cap u n c : Nat) (a : Option Addr) (gs ls cs : Nat → Nat) (w : World) (hB : B ≤ D) (hn : n ≤ 70000) (hu : u ≤ 100000000) (hc : c = max 65536 n) (h : KD w B D (.slice a 0 cap) 0 gs ls cs u) :
    Calls Yba.prog 4 #[.pointer (some ⟨D, 0, none⟩), .int .i64 n] w (Took B D (.slice a 0 cap) 1 (upd gs 0 w.heap.size) (upd ls 0 n) (upd cs 0 c) (u + n) 0 0 n w) := by
  have c2 := h.c2
  have f2 := h.f 2
  have hlt := h.lt
  have hc1 : 65536 ≤ c := by omega
  have hc2 : c ≤ 70000 := by omega
  have hc3 : n ≤ c := by omega
  have hmx : (if (65536 : Int) < (n : Int) then (n : Int) else 65536) = (c : Int) := by split <;> omega
  clear hc
  have hmk := make5z c hc2
  obtain ⟨i34, hi, hz0, hz1, hz2⟩ := info_parts Yba.info34
  have hrow : ∀ x, OwnF (w.drewN x) B 34 (.slice a 0 cap) 0 (fun j => .slice (some ⟨gs j, 0, none⟩) (ls j) (cs j)) := fun x => (h.of_heap (w' := w.drewN x) rfl).row
  have hrD : ∀ k, Value.ownBlock (.slice a 0 cap) = some k → k ≠ D := fun k hk => (h.apart.1 k hk).1
  have c2a : ∀ x o, ((w.drewN x).alloc o).cell? ⟨D, 2, none⟩ = some (.slice a 0 cap) := fun x o => (cell_blk (w := w.drewN x) (blk_old o hlt)).trans c2
  have c2b : ∀ x o o', (((w.drewN x).alloc o).alloc o').cell? ⟨D, 2, none⟩ = some (.slice a 0 cap) := fun x o o' => (cell_blk (w := (w.drewN x).alloc o) (blk_old o' (by simp; omega))).trans (c2a x o)
  have HK := hide h
  clear h
  go_enter Yba.func4, Yba.ntmps4
  go_wp2
  go_quiet (fail)
  go_wp2
  go_region_law (show (if Region.wanted ⟨some 54, _, _, _, _, _⟩ _ = true then _ else _); refine step_append_lies _ rfl (.tmp 49) (.tmp 53) 28 rfl B 34 i34 (.slice none 0 0) 1 24 Yba.underlying28 hi hz0 hz1 hz2 rfl (by decide) (.slice a 0 cap) 0 _ rfl (World.ownsRow.alloc (World.ownsRow.alloc (hrow (nq + 1)) (.cells (madeCells #[.int .u8 0] c) 5)) _) ⟨w.heap.size + 1, 0, none⟩ 1 1 [.slice (some ⟨w.heap.size, 0, none⟩) 0 c] rfl rfl (news_at (w := (w.drewN (nq + 1)).alloc (.cells (madeCells #[.int .u8 0] c) 5)) (by simp) _ _) (fun u hu => by simp at hu; subst hu; rfl) (by decide) (by unfold maxLen; omega) (by omega) (by simp; omega) _ rfl ?_; intro g5 c5 w5 hown hgrow hat hlt5; have hh5 : w5.heap[D]? = w.heap[D]? := (hgrow.block D (by simp; omega) (fun e => hrD D e.symm rfl)).trans ((blk_old _ (by simp; omega)).trans (blk_old _ hlt)); have x2 := (cell_blk (i := 2) hh5).trans c2; have y2 := (free_blk (i := 2) hh5).trans f2)
  all_goals (
    have hk0 : KD (w5.setCell ⟨D, 2, none⟩ (.slice (some ⟨g5, 0, none⟩) 1 c5)) B D (.slice (some ⟨g5, 0, none⟩) 1 c5) 1 (upd gs 0 w.heap.size) (upd ls 0 0) (upd cs 0 c) u := (HK.out.of_heap (w' := w.drewN (nq + 1)) rfl).push w.heap.size 0 c rfl (by omega) (by omega) hc2 (((Only.refl _ (w.drewN (nq + 1))).alloc (Nat.le_refl _) _).alloc (by simp) _) (made_chunk (w.drewN (nq + 1)) 0 c _) hgrow hown
    have hg5 : Value.ownBlock (.slice a 0 cap) = some g5 ∨ w.heap.size ≤ g5 := by
      rcases hat with q | q
      · exact .inl q
      · right; rw [q]; simp; omega
    have hb0 : Only (Mine D (.slice a 0 cap) w.heap.size) w (w5.setCell ⟨D, 2, none⟩ (.slice (some ⟨g5, 0, none⟩) 1 c5)) := ((((only_drewN (Only.refl _ w) (nq + 1)).alloc (.inr (.inr (by simp))) _).alloc (.inr (.inr (by simp))) _).grown hgrow (fun k hk => .inr (.inr (by simp at hk; omega))) (fun k hk => .inr (.inl hk))).setCell (.inl rfl) _
    generalize w5.setCell ⟨D, 2, none⟩ (.slice (some ⟨g5, 0, none⟩) 1 c5) = W at hk0 hb0 ⊢
    clear c2 f2 c2a c2b hown hgrow hat hlt5 hh5 x2 y2 hrow hrD hmk hmx 
    have c2 := hk0.c2
    obtain ⟨g', cap', he, hgB, hcap, ⟨cur, hcur, -⟩, hcells⟩ := hk0.row.cells (by omega)
    obtain ⟨rfl, rfl⟩ : g5 = g' ∧ c5 = cap' := by simpa using he
    have cm := hcells 0 (by omega)
    rw [upd_same, upd_same, upd_same] at cm
    have fm : W.frozen? ⟨g5, 0, none⟩ = false := blk_free hcur 0
    clear he hcells hcur
    have HK0 := hide hk0
    have HB0 := hide hb0
    clear hk0 hb0
    go_wp2
    go_region)
  all_goals (
    have hk1 : KD ((W.setCell ⟨g5, 0, none⟩ (.slice (some ⟨w.heap.size, 0, none⟩) n c)).drew) B D (.slice (some ⟨g5, 0, none⟩) 1 c5) 1 (upd gs 0 w.heap.size) (upd ls 0 n) (upd cs 0 c) u := by
      have := HK0.out.take 0 n (by omega) (by rw [upd_same, upd_same]; omega)
      simp only [upd_same, Nat.zero_add, upd_upd] at this
      exact this.of_heap rfl
    have hb1 : Only (Mine D (.slice a 0 cap) w.heap.size) w ((W.setCell ⟨g5, 0, none⟩ (.slice (some ⟨w.heap.size, 0, none⟩) n c)).drew) := Only.drew (HB0.out.setCell (.inr hg5) _)
    have hch1 : Chunk ((W.setCell ⟨g5, 0, none⟩ (.slice (some ⟨w.heap.size, 0, none⟩) n c)).drew) w.heap.size 0 c := by
      have q1 := HK0.out.chunk 0 (by omega)
      have q2 := (HK0.out.apart.1 g5 rfl).2 0 (by omega)
      rw [upd_same] at q2
      rw [upd_same, upd_same, upd_same] at q1
      exact q1.of_block (blk_set_far (w := W) _ _ (fun e => q2 e.symm))
    generalize (W.setCell ⟨g5, 0, none⟩ (.slice (some ⟨w.heap.size, 0, none⟩) n c)).drew = W1 at hk1 hb1 hch1 ⊢
    clear c2 cm fm
    have hk2 := hk1.set_used (u + n)
    have hb2 := hb1.setCell (p := ⟨D, 4, none⟩) (.inl rfl) (.int .i64 ((u + n : Nat) : Int))
    have HCH := hide (hch1.of_block (blk_set_far (w := W1) (b := D) 4 (.int .i64 ((u + n : Nat) : Int)) (by have q2 := hk1.apart.2 0 (by omega); rw [upd_same] at q2; exact q2)))
    clear hch1
    have c4 := hk1.c4
    have f4 := hk1.f 4
    have d2 := hk2.c2
    obtain ⟨g', cap', he, -, -, -, hcells⟩ := hk2.row.cells (by omega)
    obtain ⟨rfl, rfl⟩ : g5 = g' ∧ c5 = cap' := by simpa using he
    have dm := hcells 0 (by omega)
    rw [upd_same, upd_same, upd_same] at dm
    clear he hcells
    have HK2 := hide hk2
    have HB2 := hide hb2
    clear hk1 hk2 hb1 hb2
    simp only [Int.natCast_add] at d2 dm
    have hc9 : ¬ c = 0 := by omega
    go_wp2
    go_quiet (fail)
    go_wp2
    go_ret2
    exact ⟨0, _, by rw [upd_same, upd_same]; simp [refv], fun _ => rfl, HK2.out.of_heap (by simp [World.drewN]), only_drewN (by have q := HB2.out; simp only [Int.natCast_add] at q; exact q) _, by rw [upd_same, upd_same]; exact HCH.out.of_block (by simp [World.drewN])⟩)

set_option maxHeartbeats 1000000 in
set_option maxRecDepth 100000 in
theorem rec_newS (B D cap u n c : Nat) (gr m : Nat) (gs ls cs : Nat → Nat) (w : World) (hB : B ≤ D) (hm : m ≤ 600) (hn : n ≤ 70000) (hu : u ≤ 100000000) (hc : c = max 65536 n) (h : KD w B D (.slice (some ⟨gr, 0, none⟩) (m + 1) cap) (m + 1) gs ls cs u) (hfull : cs m - ls m < n) :
    Calls Yba.prog 4 #[.pointer (some ⟨D, 0, none⟩), .int .i64 n] w (Took B D (.slice (some ⟨gr, 0, none⟩) (m + 1) cap) (m + 2) (upd gs (m + 1) w.heap.size) (upd ls (m + 1) n) (upd cs (m + 1) c) (u + n) (m + 1) 0 n w) := by
  have c2 := h.c2
  have f2 := h.f 2
  have hlt := h.lt
  have hc1 : 65536 ≤ c := by omega
  have hc2 : c ≤ 70000 := by omega
  have hc3 : n ≤ c := by omega
  have hmx : (if (65536 : Int) < (n : Int) then (n : Int) else 65536) = (c : Int) := by split <;> omega
  clear hc
  have hmk := make5z c hc2
  obtain ⟨i34, hi, hz0, hz1, hz2⟩ := info_parts Yba.info34
  have hrow : ∀ x, OwnF (w.drewN x) B 34 (.slice (some ⟨gr, 0, none⟩) (m + 1) cap) (m + 1) (fun j => .slice (some ⟨gs j, 0, none⟩) (ls j) (cs j)) := fun x => (h.of_heap (w' := w.drewN x) rfl).row
  have hrD : ∀ k, Value.ownBlock (.slice (some ⟨gr, 0, none⟩) (m + 1) cap) = some k → k ≠ D := fun k hk => (h.apart.1 k hk).1
  obtain ⟨hl1, hl2⟩ := h.le m (by omega)
  obtain ⟨g', cap', he, -, -, -, hcells⟩ := h.row.cells (by omega)
  obtain ⟨rfl, rfl⟩ : gr = g' ∧ cap = cap' := by simpa using he
  clear he
  have cm := hcells m (by omega)
  clear hcells
  generalize ls m = l0 at cm hl1 hfull
  generalize cs m = c0 at cm hl1 hl2 hfull
  have i1 : ((c0 : Int) - (l0 : Int) < (n : Int)) := by omega
  have i2 : decide ((m : Int) < 0) = false := by simp
  have c2a : ∀ x o, ((w.drewN x).alloc o).cell? ⟨D, 2, none⟩ = some (.slice (some ⟨gr, 0, none⟩) (m + 1) cap) := fun x o => (cell_blk (w := w.drewN x) (blk_old o hlt)).trans c2
  have c2b : ∀ x o o', (((w.drewN x).alloc o).alloc o').cell? ⟨D, 2, none⟩ = some (.slice (some ⟨gr, 0, none⟩) (m + 1) cap) := fun x o o' => (cell_blk (w := (w.drewN x).alloc o) (blk_old o' (by simp; omega))).trans (c2a x o)
  have HK := hide h
  clear h
  go_enter Yba.func4, Yba.ntmps4
  go_wp2
  go_quiet (fail)
  go_wp2
  go_region_law (show (if Region.wanted ⟨some 54, _, _, _, _, _⟩ _ = true then _ else _); refine step_append_lies _ rfl (.tmp 49) (.tmp 53) 28 rfl B 34 i34 (.slice none 0 0) 1 24 Yba.underlying28 hi hz0 hz1 hz2 rfl (by decide) (.slice (some ⟨gr, 0, none⟩) (m + 1) cap) (m + 1) _ rfl (World.ownsRow.alloc (World.ownsRow.alloc (hrow (nq + 1)) (.cells (madeCells #[.int .u8 0] c) 5)) _) ⟨w.heap.size + 1, 0, none⟩ 1 1 [.slice (some ⟨w.heap.size, 0, none⟩) 0 c] rfl rfl (news_at (w := (w.drewN (nq + 1)).alloc (.cells (madeCells #[.int .u8 0] c) 5)) (by simp) _ _) (fun u hu => by simp at hu; subst hu; rfl) (by decide) (by unfold maxLen; omega) (by omega) (by simp; omega) _ rfl ?_; intro g5 c5 w5 hown hgrow hat hlt5; have hh5 : w5.heap[D]? = w.heap[D]? := (hgrow.block D (by simp; omega) (fun e => hrD D e.symm rfl)).trans ((blk_old _ (by simp; omega)).trans (blk_old _ hlt)); have x2 := (cell_blk (i := 2) hh5).trans c2; have y2 := (free_blk (i := 2) hh5).trans f2)
  all_goals (
    have hk0 : KD (w5.setCell ⟨D, 2, none⟩ (.slice (some ⟨g5, 0, none⟩) (m + 2) c5)) B D (.slice (some ⟨g5, 0, none⟩) (m + 2) c5) (m + 2) (upd gs (m + 1) w.heap.size) (upd ls (m + 1) 0) (upd cs (m + 1) c) u := (HK.out.of_heap (w' := w.drewN (nq + 1)) rfl).push w.heap.size 0 c rfl (by omega) (by omega) hc2 (((Only.refl _ (w.drewN (nq + 1))).alloc (Nat.le_refl _) _).alloc (by simp) _) (made_chunk (w.drewN (nq + 1)) 0 c _) hgrow hown
    have hg5 : Value.ownBlock (.slice (some ⟨gr, 0, none⟩) (m + 1) cap) = some g5 ∨ w.heap.size ≤ g5 := by
      rcases hat with q | q
      · exact .inl q
      · right; rw [q]; simp; omega
    have hb0 : Only (Mine D (.slice (some ⟨gr, 0, none⟩) (m + 1) cap) w.heap.size) w (w5.setCell ⟨D, 2, none⟩ (.slice (some ⟨g5, 0, none⟩) (m + 2) c5)) := ((((only_drewN (Only.refl _ w) (nq + 1)).alloc (.inr (.inr (by simp))) _).alloc (.inr (.inr (by simp))) _).grown hgrow (fun k hk => .inr (.inr (by simp at hk; omega))) (fun k hk => .inr (.inl hk))).setCell (.inl rfl) _
    generalize w5.setCell ⟨D, 2, none⟩ (.slice (some ⟨g5, 0, none⟩) (m + 2) c5) = W at hk0 hb0 ⊢
    clear c2 f2 c2a c2b hown hgrow hat hlt5 hh5 x2 y2 hrow hrD hmk hmx cm i1 i2 hl1 hl2 hfull
    have c2 := hk0.c2
    obtain ⟨g', cap', he, hgB, hcap, ⟨cur, hcur, -⟩, hcells⟩ := hk0.row.cells (by omega)
    obtain ⟨rfl, rfl⟩ : g5 = g' ∧ c5 = cap' := by simpa using he
    have cm := hcells (m + 1) (by omega)
    rw [upd_same, upd_same, upd_same] at cm
    have fm : W.frozen? ⟨g5, (m + 1), none⟩ = false := blk_free hcur (m + 1)
    clear he hcells hcur
    have HK0 := hide hk0
    have HB0 := hide hb0
    clear hk0 hb0
    go_wp2
    go_region)
  all_goals (
    have hk1 : KD ((W.setCell ⟨g5, (m + 1), none⟩ (.slice (some ⟨w.heap.size, 0, none⟩) n c)).drew) B D (.slice (some ⟨g5, 0, none⟩) (m + 2) c5) (m + 2) (upd gs (m + 1) w.heap.size) (upd ls (m + 1) n) (upd cs (m + 1) c) u := by
      have := HK0.out.take (m + 1) n (by omega) (by rw [upd_same, upd_same]; omega)
      simp only [upd_same, Nat.zero_add, upd_upd] at this
      exact this.of_heap rfl
    have hb1 : Only (Mine D (.slice (some ⟨gr, 0, none⟩) (m + 1) cap) w.heap.size) w ((W.setCell ⟨g5, (m + 1), none⟩ (.slice (some ⟨w.heap.size, 0, none⟩) n c)).drew) := Only.drew (HB0.out.setCell (.inr hg5) _)
    have hch1 : Chunk ((W.setCell ⟨g5, (m + 1), none⟩ (.slice (some ⟨w.heap.size, 0, none⟩) n c)).drew) w.heap.size 0 c := by
      have q1 := HK0.out.chunk (m + 1) (by omega)
      have q2 := (HK0.out.apart.1 g5 rfl).2 (m + 1) (by omega)
      rw [upd_same] at q2
      rw [upd_same, upd_same, upd_same] at q1
      exact q1.of_block (blk_set_far (w := W) _ _ (fun e => q2 e.symm))
    generalize (W.setCell ⟨g5, (m + 1), none⟩ (.slice (some ⟨w.heap.size, 0, none⟩) n c)).drew = W1 at hk1 hb1 hch1 ⊢
    clear c2 cm fm
    have hk2 := hk1.set_used (u + n)
    have hb2 := hb1.setCell (p := ⟨D, 4, none⟩) (.inl rfl) (.int .i64 ((u + n : Nat) : Int))
    have HCH := hide (hch1.of_block (blk_set_far (w := W1) (b := D) 4 (.int .i64 ((u + n : Nat) : Int)) (by have q2 := hk1.apart.2 (m + 1) (by omega); rw [upd_same] at q2; exact q2)))
    clear hch1
    have c4 := hk1.c4
    have f4 := hk1.f 4
    have d2 := hk2.c2
    obtain ⟨g', cap', he, -, -, -, hcells⟩ := hk2.row.cells (by omega)
    obtain ⟨rfl, rfl⟩ : g5 = g' ∧ c5 = cap' := by simpa using he
    have dm := hcells (m + 1) (by omega)
    rw [upd_same, upd_same, upd_same] at dm
    clear he hcells
    have HK2 := hide hk2
    have HB2 := hide hb2
    clear hk1 hk2 hb1 hb2
    simp only [Int.natCast_add] at d2 dm
    have hc9 : ¬ c = 0 := by omega
    go_wp2
    go_quiet (fail)
    go_wp2
    go_ret2
    exact ⟨0, _, by rw [upd_same, upd_same]; simp [refv], fun _ => rfl, HK2.out.of_heap (by simp [World.drewN]), only_drewN (by have q := HB2.out; simp only [Int.natCast_add] at q; exact q) _, by rw [upd_same, upd_same]; exact HCH.out.of_block (by simp [World.drewN])⟩)

end Go.Proofs.Ybulkbfyo
