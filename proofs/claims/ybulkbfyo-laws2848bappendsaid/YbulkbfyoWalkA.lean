/-
  OWN WORK. Walks: appendRecord, where the last chunk has room.
-/
import Derived.Test.YbulkbfyoKeydir
import Derived.BigQuiet
import Derived.Deep.QuietTactic
import Derived.Deep.RegionHeld3
import Derived.Deep.Light
namespace Go.Proofs.Ybulkbfyo
open Go.RowKit

theorem below_drewN {N : Nat} {W w : World} (h : Below N W w) (m : Nat) : Below N W (w.drewN m) := h.trans ⟨rfl, rfl, rfl, Nat.le_refl _, fun _ _ => rfl⟩
theorem only_drewN {S : Nat → Prop} {W w : World} (h : Only S W w) (m : Nat) : Only S W (w.drewN m) := h.trans ⟨rfl, rfl, rfl, Nat.le_refl _, fun _ _ => rfl⟩
/-- What appendRecord writes: the keydir's block, the row of chunks, new blocks. -/
def Mine (D : Nat) (cv : Value) (H k : Nat) : Prop := k = D ∨ cv.ownBlock = some k ∨ H ≤ k
/-- The ref. -/
def refv (m l : Nat) : Int := bits .or .u64 ((m : Int) * 65536) (l : Int)
theorem refv_eq (m l : Nat) : bits .or .u64 ((m : Int) * 65536) (l : Int) = refv m l := rfl

/-- What appendRecord leaves: chunk i was of length l. -/
def Took (B D : Nat) (cv0 : Value) (m : Nat) (gs ls cs : Nat → Nat) (u i l n : Nat) (w : World) (e : Ending) (w' : World) : Prop :=
  ∃ o cv, e = .returned (.tuple #[.int .u64 (refv i l), .slice (some ⟨gs i, o, none⟩) n (cs i - l)]) ∧ (0 < n → o = l) ∧ KD w' B D cv m gs ls cs u ∧ Only (Mine D cv0 w.heap.size) w w' ∧ Chunk w' (gs i) l (cs i)

set_option maxHeartbeats 1000000 in
set_option maxRecDepth 100000 in
theorem rec_fit (B D gr cap m u n : Nat) (gs ls cs : Nat → Nat) (w : World) (hm : m ≤ 600) (hn : n ≤ 70000) (hu : u ≤ 100000000) (h : KD w B D (.slice (some ⟨gr, 0, none⟩) (m + 1) cap) (m + 1) gs ls cs u) (hfit : n ≤ cs m - ls m) :
    Calls Yba.prog 4 #[.pointer (some ⟨D, 0, none⟩), .int .i64 n] w (Took B D (.slice (some ⟨gr, 0, none⟩) (m + 1) cap) (m + 1) gs (upd ls m (ls m + n)) cs (u + n) m (ls m) n w) := by
  have c2 := h.c2
  have c4 := h.c4
  have f4 := h.f 4
  obtain ⟨hl1, hl2⟩ := h.le m (by omega)
  obtain ⟨g', cap', he, hgB, hcap, ⟨cur, hcur, -⟩, hcells⟩ := h.row.cells (by omega)
  obtain ⟨rfl, rfl⟩ : gr = g' ∧ cap = cap' := by simpa using he
  clear he
  have cm := hcells m (by omega)
  have fm : w.frozen? ⟨gr, m, none⟩ = false := blk_free hcur m
  clear hcells
  have HK := hide h
  clear h
  have HCUR := hide hcur
  clear hcur
  generalize hl : ls m = l at cm hl1 hfit ⊢
  generalize hc : cs m = c at cm hl1 hl2 hfit
  have HL := hide hl
  have HC := hide hc
  clear hl hc
  have i1 : ¬ ((c : Int) - (l : Int) < (n : Int)) := by omega
  have i2 : decide ((m : Int) < 0) = false := by simp
  go_enter Yba.func4, Yba.ntmps4
  go_wp2
  go_quiet (fail)
  go_wp2
  go_region
  have hk1 : KD ((w.drewN (nq + 1)).setCell ⟨gr, m, none⟩ (.slice (some ⟨gs m, 0, none⟩) (l + n) c)) B D (.slice (some ⟨gr, 0, none⟩) (m + 1) cap) (m + 1) gs (upd ls m (l + n)) cs u := by
    have := (HK.out.of_heap (w' := w.drewN (nq + 1)) rfl).take m n (by omega) (by rw [HL.out, HC.out]; omega)
    rw [HL.out, HC.out] at this; exact this
  have hch1 : Chunk ((w.drewN (nq + 1)).setCell ⟨gr, m, none⟩ (.slice (some ⟨gs m, 0, none⟩) (l + n) c)) (gs m) l c := by
    have := HK.out.chunk m (by omega)
    rw [HL.out, HC.out] at this
    exact (this.of_block (w' := w.drewN (nq + 1)) rfl).of_block (blk_set_far _ _ (fun e => (HK.out.apart.1 gr rfl).2 m (by omega) e.symm))
  have hb1 : Only (Mine D (.slice (some ⟨gr, 0, none⟩) (m + 1) cap) w.heap.size) w ((w.drewN (nq + 1)).setCell ⟨gr, m, none⟩ (.slice (some ⟨gs m, 0, none⟩) (l + n) c)) := Only.setCell (only_drewN (Only.refl _ w) _) (.inr (.inl rfl)) _
  generalize (w.drewN (nq + 1)).setCell ⟨gr, m, none⟩ (.slice (some ⟨gs m, 0, none⟩) (l + n) c) = W at hk1 hb1 hch1 ⊢
  clear c2 c4 f4 cm fm
  have hk2 := hk1.set_used (u + n)
  have hb2 := hb1.setCell (p := ⟨D, 4, none⟩) (.inl rfl) (.int .i64 ((u + n : Nat) : Int))
  have HCH := hide (hch1.of_block (blk_set_far (w := W) (b := D) 4 (.int .i64 ((u + n : Nat) : Int)) (hk1.apart.2 m (by omega))))
  clear hch1
  have c4 := hk1.c4
  have f4 := hk1.f 4
  have d2 := hk2.c2
  obtain ⟨g', cap', he, -, -, -, hcells⟩ := hk2.row.cells (by omega)
  obtain ⟨rfl, rfl⟩ : gr = g' ∧ cap = cap' := by simpa using he
  have dm := hcells m (by omega)
  rw [upd_same, HC.out] at dm
  clear he hcells
  have HK2 := hide hk2
  have HB2 := hide hb2
  clear hk1 hk2 hb1 hb2
  simp only [Int.natCast_add] at d2 dm
  by_cases hcl : c = l
  · have hn0 : n = 0 := by omega
    have HN := hide hn0
    clear hn0
    go_wp2
    go_quiet (fail)
    go_wp2
    go_ret2
    exact ⟨0, _, by rw [HC.out, hcl, Nat.sub_self, HN.out]; rfl, fun q => absurd HN.out (by omega), HK2.out.of_heap (by simp [World.drewN]), only_drewN (by have q := HB2.out; simp only [Int.natCast_add] at q; exact q) _, by rw [HC.out]; exact HCH.out.of_block (by simp [World.drewN])⟩
  · go_wp2
    go_quiet (fail)
    go_wp2
    go_ret2
    exact ⟨l, _, by rw [HC.out]; rfl, fun _ => rfl, HK2.out.of_heap (by simp [World.drewN]), only_drewN (by have q := HB2.out; simp only [Int.natCast_add] at q; exact q) _, by rw [HC.out]; exact HCH.out.of_block (by simp [World.drewN])⟩
end Go.Proofs.Ybulkbfyo
