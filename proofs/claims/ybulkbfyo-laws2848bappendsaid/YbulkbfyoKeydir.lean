/-
  OWN WORK. The keydir as the walks know it: its block, the row of its chunks, each chunk's block.
-/
import Derived.Test.YbulkbfyoProg
import Derived.Test.YbulkbfyoBase
namespace Go.Proofs.Ybulkbfyo
open Go.RowKit

theorem types_apart {w : World} {a b : Nat} {ca cb : Array Value} {ta tb : TypeId} (ha : w.heap[a]? = some (.cells ca ta (0, 0))) (hb : w.heap[b]? = some (.cells cb tb (0, 0))) (h : ta ≠ tb) : a ≠ b := fun e => by
  subst e; rw [ha] at hb; simp only [Option.some.injEq, Obj.cells.injEq] at hb; exact h hb.2.1
theorem OwnF.mem {w : World} {B : Nat} {T : TypeId} {v : Value} {m : Nat} {F : Nat → Value} (h : OwnF w B T v m F) {k : Nat} (hk : v.ownBlock = some k) : ∃ cur, w.heap[k]? = some (.cells cur T (0, 0)) := (h.at_block hk).2.2
theorem owns_snoc {w : World} {B T m : Nat} {v : Value} {F G : Nat → Value} {x : Value} (h : w.ownsRow B T 1 v (m + 1) ((List.range m).map F ++ [x])) (h1 : G m = x) (h2 : ∀ j, j < m → G j = F j) : OwnF w B T v (m + 1) G := by
  unfold OwnF; rw [← map_snoc h1 h2]; exact h

/-- The cells of a keydir. -/
def kdC (cv : Value) (u : Nat) : Array Value := #[.int .u64 0, .slice none 0 0, cv, .int .i64 0, .int .i64 u, .int .i64 0]
/-- A chunk: c bytes, nought from l on. -/
def Chunk (w : World) (g l c : Nat) : Prop := ∃ cells : Array Value, w.heap[g]? = some (.cells cells 5 (0, 0)) ∧ cells.size = c ∧ ∀ k, l ≤ k → k < c → cells[k]? = some (.int .u8 0)
theorem Chunk.of_block {w w' : World} {g l c : Nat} (h : Chunk w g l c) (hb : w'.heap[g]? = w.heap[g]?) : Chunk w' g l c := by
  obtain ⟨cs, h1, h2, h3⟩ := h; exact ⟨cs, by rw [hb]; exact h1, h2, h3⟩
theorem Chunk.lt {w : World} {g l c : Nat} (h : Chunk w g l c) : g < w.heap.size := by obtain ⟨cs, h1, _⟩ := h; exact blk_lt h1
theorem Chunk.mono {w : World} {g l l' c : Nat} (h : Chunk w g l c) (hl : l ≤ l') : Chunk w g l' c := by
  obtain ⟨cs, h1, h2, h3⟩ := h; exact ⟨cs, h1, h2, fun k hk hc => h3 k (by omega) hc⟩
theorem Chunk.cell {w : World} {g l c : Nat} (h : Chunk w g l c) (k : Nat) (h1 : l ≤ k) (h2 : k < c) : w.cell? ⟨g, k, none⟩ = some (.int .u8 0) := by
  obtain ⟨cs, q1, _, q3⟩ := h; rw [blk_cell q1]; exact q3 k h1 h2
theorem Chunk.free {w : World} {g l c : Nat} (h : Chunk w g l c) (k : Nat) : w.frozen? ⟨g, k, none⟩ = false := by
  obtain ⟨cs, q1, _, q3⟩ := h; exact blk_free q1 k
theorem Chunk.mark {w : World} {g l c : Nat} (h : Chunk w g l c) (k : Nat) (hk : k < l) (x : Value) : Chunk (w.setCell ⟨g, k, none⟩ x) g l c := by
  obtain ⟨cs, q1, q2, q3⟩ := h
  refine ⟨_, blk_set q1 k x, by simpa using q2, fun j h1 h2 => ?_⟩
  rw [Array.getElem?_setIfInBounds, if_neg (by omega)]; exact q3 j h1 h2

structure KD (w : World) (B D : Nat) (cv : Value) (m : Nat) (gs ls cs : Nat → Nat) (u : Nat) : Prop where
  blk : w.heap[D]? = some (.cells (kdC cv u) 30 (0, 0))
  row : OwnF w B 34 cv m (fun j => .slice (some ⟨gs j, 0, none⟩) (ls j) (cs j))
  chunk : ∀ j, j < m → Chunk w (gs j) (ls j) (cs j)
  le : ∀ j, j < m → ls j ≤ cs j ∧ cs j ≤ 70000
  own : ∀ j, j < m → B ≤ gs j
  inj : ∀ i j, i < m → j < m → gs i = gs j → i = j

theorem KD.kept {w w' : World} {B D : Nat} {cv : Value} {m : Nat} {gs ls cs : Nat → Nat} {u : Nat} {S : Nat → Prop} (h : KD w B D cv m gs ls cs u) (ho : Only S w w') (h1 : ¬ S D) (h2 : ∀ k, cv.ownBlock = some k → ¬ S k) (h3 : ∀ j, j < m → ¬ S (gs j)) : KD w' B D cv m gs ls cs u :=
  ⟨by rw [ho.block _ h1]; exact h.blk, h.row.kept (fun k hk => ho.block k (h2 k hk)), fun j hj => (h.chunk j hj).of_block (ho.block _ (h3 j hj)), h.le, h.own, h.inj⟩
theorem KD.of_heap {w w' : World} {B D : Nat} {cv : Value} {m : Nat} {gs ls cs : Nat → Nat} {u : Nat} (h : KD w B D cv m gs ls cs u) (hh : w'.heap = w.heap) : KD w' B D cv m gs ls cs u :=
  ⟨by rw [hh]; exact h.blk, h.row.kept (fun k hk => by rw [hh]), fun j hj => (h.chunk j hj).of_block (by rw [hh]), h.le, h.own, h.inj⟩
theorem KD.lt {w : World} {B D : Nat} {cv : Value} {m : Nat} {gs ls cs : Nat → Nat} {u : Nat} (h : KD w B D cv m gs ls cs u) : D < w.heap.size := blk_lt h.blk
theorem KD.c2 {w : World} {B D : Nat} {cv : Value} {m : Nat} {gs ls cs : Nat → Nat} {u : Nat} (h : KD w B D cv m gs ls cs u) : w.cell? ⟨D, 2, none⟩ = some cv := by rw [blk_cell h.blk]; rfl
theorem KD.c4 {w : World} {B D : Nat} {cv : Value} {m : Nat} {gs ls cs : Nat → Nat} {u : Nat} (h : KD w B D cv m gs ls cs u) : w.cell? ⟨D, 4, none⟩ = some (.int .i64 u) := by rw [blk_cell h.blk]; rfl
theorem KD.f {w : World} {B D : Nat} {cv : Value} {m : Nat} {gs ls cs : Nat → Nat} {u : Nat} (h : KD w B D cv m gs ls cs u) (i : Nat) : w.frozen? ⟨D, i, none⟩ = false := blk_free h.blk i
/-- What lies apart. -/
theorem KD.apart {w : World} {B D : Nat} {cv : Value} {m : Nat} {gs ls cs : Nat → Nat} {u : Nat} (h : KD w B D cv m gs ls cs u) : (∀ k, cv.ownBlock = some k → k ≠ D ∧ ∀ j, j < m → k ≠ gs j) ∧ ∀ j, j < m → gs j ≠ D := by
  refine ⟨fun k hk => ?_, fun j hj => ?_⟩
  · obtain ⟨cur, hc⟩ := h.row.mem hk
    refine ⟨types_apart hc h.blk (by decide), fun j hj => ?_⟩
    obtain ⟨c, q1, _⟩ := h.chunk j hj
    exact types_apart hc q1 (by decide)
  · obtain ⟨c, q1, _⟩ := h.chunk j hj
    exact types_apart q1 h.blk (by decide)

/-- The local 'used' is written. -/
theorem KD.set_used {w : World} {B D : Nat} {cv : Value} {m : Nat} {gs ls cs : Nat → Nat} {u : Nat} (h : KD w B D cv m gs ls cs u) (u' : Nat) : KD (w.setCell ⟨D, 4, none⟩ (.int .i64 u')) B D cv m gs ls cs u' := by
  obtain ⟨a1, a2⟩ := h.apart
  exact ⟨by rw [blk_set h.blk]; rfl, h.row.kept (fun k hk => blk_set_far _ _ (a1 k hk).1), fun j hj => (h.chunk j hj).of_block (blk_set_far _ _ (a2 j hj)), h.le, h.own, h.inj⟩
/-- A byte that is taken is written. -/
theorem KD.mark {w : World} {B D : Nat} {cv : Value} {m : Nat} {gs ls cs : Nat → Nat} {u : Nat} (h : KD w B D cv m gs ls cs u) (i k : Nat) (hi : i < m) (hk : k < ls i) (x : Value) : KD (w.setCell ⟨gs i, k, none⟩ x) B D cv m gs ls cs u := by
  obtain ⟨a1, a2⟩ := h.apart
  refine ⟨by rw [blk_set_far _ _ (fun e => a2 i hi e.symm)]; exact h.blk, h.row.kept (fun q hq => blk_set_far _ _ ((a1 q hq).2 i hi)), fun j hj => ?_, h.le, h.own, h.inj⟩
  by_cases e : j = i
  · subst e; exact (h.chunk j hj).mark k hk x
  · exact (h.chunk j hj).of_block (blk_set_far _ _ (fun q => e (h.inj j i hj hi q)))
/-- The last chunk's length grows. -/
def upd (f : Nat → Nat) (i x : Nat) (j : Nat) : Nat := if j = i then x else f j
theorem upd_same (f : Nat → Nat) (i x : Nat) : upd f i x i = x := by simp [upd]
theorem upd_else (f : Nat → Nat) (i x j : Nat) (h : j ≠ i) : upd f i x j = f j := by simp [upd, h]
theorem KD.take {w : World} {B D g cap : Nat} {m : Nat} {gs ls cs : Nat → Nat} {u : Nat} (h : KD w B D (.slice (some ⟨g, 0, none⟩) m cap) m gs ls cs u) (i n : Nat) (hi : i < m) (hn : ls i + n ≤ cs i) :
    KD (w.setCell ⟨g, i, none⟩ (.slice (some ⟨gs i, 0, none⟩) (ls i + n) (cs i))) B D (.slice (some ⟨g, 0, none⟩) m cap) m gs (upd ls i (ls i + n)) cs u := by
  obtain ⟨a1, a2⟩ := h.apart
  obtain ⟨b1, b2⟩ := a1 g rfl
  refine ⟨by rw [blk_set_far _ _ (fun e => b1 e.symm)]; exact h.blk, h.row.stored i _ (fun _ => by simp [upd_same]) (fun j _ hj => by simp [upd_else _ _ _ _ hj]), fun j hj => ?_, fun j hj => ?_, h.own, h.inj⟩
  · refine ((h.chunk j hj).mono ?_).of_block (blk_set_far _ _ (fun e => b2 j hj e.symm))
    unfold upd; split
    · rename_i e; subst e; omega
    · exact Nat.le_refl _
  · have := h.le j hj
    unfold upd; split
    · rename_i e; subst e; omega
    · exact this
/-- A new chunk, in block g, was appended to the row of chunks. -/
theorem KD.push {w w1 w2 : World} {B D : Nat} {cv cv' : Value} {m : Nat} {gs ls cs : Nat → Nat} {u : Nat} (h : KD w B D cv m gs ls cs u) (g l c : Nat) (hg : g = w.heap.size) (hB : B ≤ g) (hlc : l ≤ c) (hc : c ≤ 70000)
    (ho1 : Only (fun k => g ≤ k) w w1) (hch : Chunk w1 g l c) (hgrow : w1.grownBy w2 cv.ownBlock) (hown : w2.ownsRow B 34 1 cv' (m + 1) ((List.range m).map (fun j => Value.slice (some ⟨gs j, 0, none⟩) (ls j) (cs j)) ++ [.slice (some ⟨g, 0, none⟩) l c])) :
    KD (w2.setCell ⟨D, 2, none⟩ cv') B D cv' (m + 1) (upd gs m g) (upd ls m l) (upd cs m c) u := by
  obtain ⟨a1, a2⟩ := h.apart
  have hlt := h.lt
  have hk2 : ∀ k, k < w.heap.size → cv.ownBlock ≠ some k → w2.heap[k]? = w.heap[k]? := fun k hk hr =>
    (hgrow.block k (Nat.lt_of_lt_of_le hk ho1.size) (fun e => hr e.symm)).trans (ho1.block k (by omega))
  have hg2 : w2.heap[g]? = w1.heap[g]? := hgrow.block g hch.lt (fun e => by have := (h.row.at_block e.symm).2.1; omega)
  have hD2 : w2.heap[D]? = some (.cells (kdC cv u) 30 (0, 0)) := by rw [hk2 D hlt (fun e => (a1 D e).1 rfl)]; exact h.blk
  have hrow : OwnF w2 B 34 cv' (m + 1) (fun j => .slice (some ⟨upd gs m g j, 0, none⟩) (upd ls m l j) (upd cs m c j)) :=
    owns_snoc hown (by simp [upd_same]) (fun j hj => by simp [upd_else _ _ _ j (show j ≠ m by omega)])
  have hcv : ∀ k, cv'.ownBlock = some k → k ≠ D := fun k hk => by
    obtain ⟨cur, q⟩ := hrow.mem hk
    exact types_apart q hD2 (by decide)
  refine ⟨by rw [blk_set hD2]; rfl, hrow.kept (fun k hk => blk_set_far _ _ (hcv k hk)), fun j hj => ?_, fun j hj => ?_, fun j hj => ?_, fun i j hi hj => ?_⟩
  · by_cases e : j = m
    · subst e
      rw [upd_same, upd_same, upd_same]
      exact (hch.of_block hg2).of_block (blk_set_far _ _ (by omega))
    · rw [upd_else _ _ _ _ e, upd_else _ _ _ _ e, upd_else _ _ _ _ e]
      have hj' : j < m := by omega
      exact ((h.chunk j hj').of_block (hk2 _ (h.chunk j hj').lt (fun q => (a1 _ q).2 j hj' rfl))).of_block (blk_set_far _ _ (a2 j hj'))
  · by_cases e : j = m
    · subst e; rw [upd_same, upd_same]; exact ⟨hlc, hc⟩
    · rw [upd_else _ _ _ _ e, upd_else _ _ _ _ e]; exact h.le j (by omega)
  · by_cases e : j = m
    · subst e; rw [upd_same]; exact hB
    · rw [upd_else _ _ _ _ e]; exact h.own j (by omega)
  · by_cases e1 : i = m
    · by_cases e2 : j = m
      · intro _; omega
      · rw [e1, upd_same, upd_else _ _ _ _ e2]
        intro q; have := (h.chunk j (by omega)).lt; omega
    · by_cases e2 : j = m
      · rw [e2, upd_same, upd_else _ _ _ _ e1]
        intro q; have := (h.chunk i (by omega)).lt; omega
      · rw [upd_else _ _ _ _ e1, upd_else _ _ _ _ e2]
        exact h.inj i j (by omega) (by omega)
end Go.Proofs.Ybulkbfyo
