/-
  OWN WORK. The state of the law: the keydir, and the model's two rows of numbers.
-/
import Derived.Test.YbulkbfyoWalkB
namespace Go.Proofs.Ybulkbfyo
open Go.RowKit

theorem Yba.info3 : (Yba.prog.info? 3).map (fun i => (i.zero, i.size, i.bytes)) = some (some (.int .i64 0), 1, 8) := by kernel_rfl
theorem make3 (c : Nat) (hc : c ≤ 70000) : ∀ w : World, (Instr.makeSlice 31 (.int .i64 0) (.int .i64 (c : Int))).run Yba.prog w = .ok (.slice (some ⟨w.heap.size, 0, none⟩) 0 c) (w.alloc (.cells (madeCells #[.int .i64 0] c) 3)) := fun w => by
  obtain ⟨i, hi, hz0, hz1, hz2⟩ := info_parts Yba.info3
  have := run_make (P := Yba.prog) w 31 3 i (.int .i64 0) Yba.underlying31 hi hz0 .i64 .i64 0 c (by omega) (by omega) (by rw [hz2]; omega) (by omega)
  simpa [hz1, Value.cells] using this
/-- Numbers of the call's own, in a row. -/
def Nums (w : World) (B : Nat) (v : Value) (m : Nat) (f : Nat → Nat) : Prop := OwnF w B 3 v m (fun j => .int .i64 ((f j : Nat) : Int))
theorem Nums.made (w : World) (B c : Nat) (hB : B ≤ w.heap.size) (hc : c ≤ maxLen) (f : Nat → Nat) : Nums (w.alloc (.cells (madeCells #[.int .i64 0] c) 3)) B (.slice (some ⟨w.heap.size, 0, none⟩) 0 c) 0 f :=
  ⟨rfl, .inr ⟨w.heap.size, c, _, rfl, hB, blk_new _ _, Nat.zero_le _, hc, by rw [size_madeCells]; simp, rfl⟩⟩

structure Sys (w0 w : World) (D : Nat) (v6 v7 cv : Value) (m p q : Nat) (gs ls cs l6 c7 : Nat → Nat) (u : Nat) : Prop where
  kd : KD w D D cv m gs ls cs u
  lens : Nums w D v6 p l6
  caps : Nums w D v7 q c7
  sep : ∀ k, v6.ownBlock = some k → v7.ownBlock ≠ some k
  bel : Below D w0 w

section
variable {w0 w w1 w2 : World} {D : Nat} {v6 v7 cv : Value} {m p q : Nat} {gs ls cs l6 c7 : Nat → Nat} {u : Nat}
theorem Sys.swap (h : Sys w0 w D v6 v7 cv m p q gs ls cs l6 c7 u) : Sys w0 w D v7 v6 cv m q p gs ls cs c7 l6 u := ⟨h.kd, h.caps, h.lens, fun k hk e => h.sep k e hk, h.bel⟩
theorem Sys.apart (h : Sys w0 w D v6 v7 cv m p q gs ls cs l6 c7 u) {k : Nat} (hk : v6.ownBlock = some k) : k ≠ D ∧ cv.ownBlock ≠ some k ∧ (∀ j, j < m → gs j ≠ k) ∧ D ≤ k ∧ k < w.heap.size := by
  obtain ⟨b1, b2, cur, hc⟩ := OwnF.at_block h.lens hk
  refine ⟨types_apart hc h.kd.blk (by decide), fun e => ?_, fun j hj => ?_, b1, b2⟩
  · obtain ⟨cur', hc'⟩ := h.kd.row.mem e
    exact types_apart hc hc' (by decide) rfl
  · obtain ⟨c, q1, _⟩ := h.kd.chunk j hj
    exact types_apart q1 hc (by decide)
theorem Sys.of_heap (h : Sys w0 w D v6 v7 cv m p q gs ls cs l6 c7 u) (hh : w1.heap = w.heap) (hb : Below D w w1) : Sys w0 w1 D v6 v7 cv m p q gs ls cs l6 c7 u :=
  ⟨h.kd.of_heap hh, OwnF.kept h.lens (fun k _ => by rw [hh]), OwnF.kept h.caps (fun k _ => by rw [hh]), h.sep, h.bel.trans hb⟩
theorem Sys.drewN (h : Sys w0 w D v6 v7 cv m p q gs ls cs l6 c7 u) (x : Nat) : Sys w0 (w.drewN x) D v6 v7 cv m p q gs ls cs l6 c7 u := h.of_heap rfl (below_drewN (Below.refl _ _) _)
/-- A number is appended to the first row. -/
theorem Sys.num (h : Sys w0 w D v6 v7 cv m p q gs ls cs l6 c7 u) {o : Obj} {v' : Value} {g x : Nat} (hgrow : (w.alloc o).grownBy w2 v6.ownBlock) (hown : w2.ownsRow D 3 1 v' (p + 1) ((List.range p).map (fun j => Value.int .i64 ((l6 j : Nat) : Int)) ++ [.int .i64 ((x : Nat) : Int)])) (hv : v'.ownBlock = some g)
    (hat : v6.ownBlock = some g ∨ g = w.heap.size + 1) : Sys w0 w2 D v' v7 cv m (p + 1) q gs ls cs (upd l6 p x) c7 u := by
  have hlt := h.kd.lt
  have ho : Only (fun k => v6.ownBlock = some k ∨ w.heap.size ≤ k) w w2 := ((Only.refl _ w).alloc (.inr (Nat.le_refl _)) o).grown hgrow (fun k hk => .inr (by simp at hk; omega)) (fun k hk => .inl hk)
  refine ⟨h.kd.kept ho ?_ (fun k hk => ?_) (fun j hj => ?_), owns_snoc hown (by simp [upd_same]) (fun j hj => by simp [upd_else _ _ _ j (show j ≠ p by omega)]), OwnF.kept h.caps (fun k hk => ho.block k ?_), fun k hk => ?_, h.bel.trans (ho.below (fun k hk => ?_))⟩
  · rintro (e | e)
    · exact (h.apart e).1 rfl
    · omega
  · have := (h.kd.row.at_block hk).2.1
    rintro (e | e)
    · exact (h.apart e).2.1 hk
    · omega
  · have := (h.kd.chunk j hj).lt
    rintro (e | e)
    · exact (h.apart e).2.2.1 j hj rfl
    · omega
  · have := (OwnF.at_block h.caps hk).2.1
    rintro (e | e)
    · exact h.sep k e hk
    · omega
  · obtain rfl : g = k := by rw [hv] at hk; simpa using hk
    rcases hat with e | e
    · exact h.sep g e
    · intro q2; have := (OwnF.at_block h.caps q2).2.1; omega
  · rintro (e | e)
    · have := (h.apart e).2.2.2.1; omega
    · omega
/-- A chunk is appended. -/
theorem Sys.push (h : Sys w0 w D v6 v7 cv m p q gs ls cs l6 c7 u) {cv' : Value} (g l c : Nat) (hg : g = w.heap.size) (hlc : l ≤ c) (hc : c ≤ 70000)
    (ho1 : Only (fun k => g ≤ k) w w1) (hch : Chunk w1 g l c) (hgrow : w1.grownBy w2 cv.ownBlock) (hown : w2.ownsRow D 34 1 cv' (m + 1) ((List.range m).map (fun j => Value.slice (some ⟨gs j, 0, none⟩) (ls j) (cs j)) ++ [.slice (some ⟨g, 0, none⟩) l c])) :
    Sys w0 (w2.setCell ⟨D, 2, none⟩ cv') D v6 v7 cv' (m + 1) p q (upd gs m g) (upd ls m l) (upd cs m c) l6 c7 u := by
  have hlt := h.kd.lt
  have hsz := ho1.size
  have ho : Only (fun k => k = D ∨ cv.ownBlock = some k ∨ w.heap.size ≤ k) w (w2.setCell ⟨D, 2, none⟩ cv') := ((ho1.mono (T := fun k => k = D ∨ cv.ownBlock = some k ∨ w.heap.size ≤ k) (fun k hk => .inr (.inr (by omega)))).grown hgrow (fun k hk => .inr (.inr (by omega))) (fun k hk => .inr (.inl hk))).setCell (.inl rfl) _
  have far : ∀ {v : Value} {f : Nat → Nat} {n : Nat}, Nums w D v n f → (∀ k, v.ownBlock = some k → k ≠ D ∧ cv.ownBlock ≠ some k) → Nums (w2.setCell ⟨D, 2, none⟩ cv') D v n f := fun hv hne => OwnF.kept hv (fun k hk => ho.block k (by
    have := (OwnF.at_block hv hk).2.1
    rintro (e | e | e)
    · exact (hne k hk).1 e
    · exact (hne k hk).2 e
    · omega))
  refine ⟨h.kd.push g l c hg (by omega) hlc hc ho1 hch hgrow hown, far h.lens (fun k hk => ⟨(h.apart hk).1, (h.apart hk).2.1⟩), far h.caps (fun k hk => ⟨(h.swap.apart hk).1, (h.swap.apart hk).2.1⟩), h.sep, h.bel.trans (ho.below (fun k hk => ?_))⟩
  rintro (e | e | e)
  · omega
  · have := (h.kd.row.at_block e).1; omega
  · omega
/-- appendRecord has run. -/
theorem Sys.took (h : Sys w0 w D v6 v7 cv m p q gs ls cs l6 c7 u) {cv' : Value} {m' : Nat} {gs' ls' cs' : Nat → Nat} {u' : Nat} (hk : KD w1 D D cv' m' gs' ls' cs' u') (ho : Only (Mine D cv w.heap.size) w w1) : Sys w0 w1 D v6 v7 cv' m' p q gs' ls' cs' l6 c7 u' := by
  have hlt := h.kd.lt
  have far : ∀ {v : Value} {f : Nat → Nat} {n : Nat}, Nums w D v n f → (∀ k, v.ownBlock = some k → k ≠ D ∧ cv.ownBlock ≠ some k) → Nums w1 D v n f := fun hv hne => OwnF.kept hv (fun k hk => ho.block k (by
    have := (OwnF.at_block hv hk).2.1
    rintro (e | e | e)
    · exact (hne k hk).1 e
    · exact (hne k hk).2 e
    · omega))
  refine ⟨hk, far h.lens (fun k hk => ⟨(h.apart hk).1, (h.apart hk).2.1⟩), far h.caps (fun k hk => ⟨(h.swap.apart hk).1, (h.swap.apart hk).2.1⟩), h.sep, h.bel.trans (ho.below (fun k hk => ?_))⟩
  rintro (e | e | e)
  · omega
  · have := (h.kd.row.at_block e).1; omega
  · omega
theorem Sys.used (h : Sys w0 w D v6 v7 cv m p q gs ls cs l6 c7 u) (u' : Nat) : Sys w0 (w.setCell ⟨D, 4, none⟩ (.int .i64 (u' : Int))) D v6 v7 cv m p q gs ls cs l6 c7 u' :=
  ⟨h.kd.set_used u', OwnF.kept h.lens (fun _ hk => blk_set_far _ _ (h.apart hk).1), OwnF.kept h.caps (fun _ hk => blk_set_far _ _ (h.swap.apart hk).1), h.sep, h.bel.setCell (Nat.le_refl _) _⟩
theorem Sys.mark (h : Sys w0 w D v6 v7 cv m p q gs ls cs l6 c7 u) (i k : Nat) (hi : i < m) (hk : k < ls i) (x : Value) : Sys w0 (w.setCell ⟨gs i, k, none⟩ x) D v6 v7 cv m p q gs ls cs l6 c7 u :=
  ⟨h.kd.mark i k hi hk x, OwnF.kept h.lens (fun _ hk => blk_set_far _ _ (fun e => (h.apart hk).2.2.1 i hi e.symm)), OwnF.kept h.caps (fun _ hk => blk_set_far _ _ (fun e => (h.swap.apart hk).2.2.1 i hi e.symm)), h.sep, h.bel.setCell (h.kd.own i hi) _⟩
/-- A number of the first row is written. -/
theorem Sys.store {g cap : Nat} (h : Sys w0 w D (.slice (some ⟨g, 0, none⟩) p cap) v7 cv m p q gs ls cs l6 c7 u) (i x : Nat) : Sys w0 (w.setCell ⟨g, i, none⟩ (.int .i64 (x : Int))) D (.slice (some ⟨g, 0, none⟩) p cap) v7 cv m p q gs ls cs (upd l6 i x) c7 u := by
  obtain ⟨a1, a2, a3, a4, a5⟩ := h.apart (k := g) rfl
  refine ⟨h.kd.kept ((Only.refl (· = g) w).setCell (p := ⟨g, i, none⟩) rfl _) (fun e => a1 e.symm) (fun k hk e => a2 (by rw [← e]; exact hk)) (fun j hj e => a3 j hj e), OwnF.stored h.lens i _ (fun _ => by simp [upd_same]) (fun j _ hj => by simp [upd_else _ _ _ _ hj]), OwnF.kept h.caps (fun k hk => blk_set_far _ _ (fun e => h.sep g rfl (by rw [← e]; exact hk))), h.sep, h.bel.setCell a4 _⟩
/-- The first row's cells. -/
theorem Nums.at {w : World} {B : Nat} {v : Value} {m : Nat} {f : Nat → Nat} (h : Nums w B v m f) (hm : 0 < m) : ∃ g cap, v = .slice (some ⟨g, 0, none⟩) m cap ∧ (∀ j, j < m → w.cell? ⟨g, j, none⟩ = some (.int .i64 ((f j : Nat) : Int))) ∧ ∀ j, w.frozen? ⟨g, j, none⟩ = false := by
  obtain ⟨g, cap, h1, _, _, ⟨cur, h2, _⟩, h3⟩ := OwnF.cells h hm
  exact ⟨g, cap, h1, h3, fun j => blk_free h2 j⟩
end
end Go.Proofs.Ybulkbfyo
