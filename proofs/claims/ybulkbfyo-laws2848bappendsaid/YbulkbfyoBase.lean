/-
  OWN WORK. Small laws on worlds: a block known whole; 'Only S w w'': all blocks but those in S are as they were; a row of integers under a function.
-/
import Derived.WalkKit
import Derived.WalkSpells
import Derived.Laws.CopyOwn
import Derived.Deep.AppendLies
import Derived.LaidEql
import Derived.Maps.OwnSet
import Derived.WalkLawsBesides
namespace Go.Proofs.Ybulkbfyo
open Go.RowKit

theorem blk_cell {w : World} {b : Nat} {cs : Array Value} {T : TypeId} (h : w.heap[b]? = some (.cells cs T (0, 0))) (i : Nat) : w.cell? ⟨b, i, none⟩ = cs[i]? := cell_of_row w b i cs T (0, 0) h
theorem blk_free {w : World} {b : Nat} {cs : Array Value} {T : TypeId} (h : w.heap[b]? = some (.cells cs T (0, 0))) (i : Nat) : w.frozen? ⟨b, i, none⟩ = false := frozen_of_row w b i cs T h
theorem blk_lt {w : World} {b : Nat} {o : Obj} (h : w.heap[b]? = some o) : b < w.heap.size := (Array.getElem?_eq_some_iff.1 h).1
theorem blk_set {w : World} {b : Nat} {cs : Array Value} {T : TypeId} (h : w.heap[b]? = some (.cells cs T (0, 0))) (i : Nat) (v : Value) : (w.setCell ⟨b, i, none⟩ v).heap[b]? = some (.cells (cs.setIfInBounds i v) T (0, 0)) := heap_setCell_same w b i cs T v h
theorem blk_set_far {w : World} {b c : Nat} (i : Nat) (v : Value) (h : c ≠ b) : (w.setCell ⟨b, i, none⟩ v).heap[c]? = w.heap[c]? := heap_setCell_other w ⟨b, i, none⟩ c v (fun e => h e)
theorem blk_new (w : World) (o : Obj) : (w.alloc o).heap[w.heap.size]? = some o := heap_alloc_new w o
theorem blk_old {w : World} {b : Nat} (o : Obj) (h : b < w.heap.size) : (w.alloc o).heap[b]? = w.heap[b]? := Below.heap_alloc w o b h

/-- All blocks but those in S are as they were; the streams too. -/
structure Only (S : Nat → Prop) (w w' : World) : Prop where
  os : w'.os = w.os
  tape : w'.tape = w.tape
  output : w'.output = w.output
  size : w.heap.size ≤ w'.heap.size
  block : ∀ k, ¬ S k → w'.heap[k]? = w.heap[k]?

theorem Only.refl (S : Nat → Prop) (w : World) : Only S w w := ⟨rfl, rfl, rfl, Nat.le_refl _, fun _ _ => rfl⟩
theorem Only.trans {S : Nat → Prop} {a b c : World} (h : Only S a b) (k : Only S b c) : Only S a c :=
  ⟨k.os.trans h.os, k.tape.trans h.tape, k.output.trans h.output, Nat.le_trans h.size k.size, fun i hi => (k.block i hi).trans (h.block i hi)⟩
theorem Only.mono {S T : Nat → Prop} {a b : World} (h : Only S a b) (hs : ∀ k, S k → T k) : Only T a b := ⟨h.os, h.tape, h.output, h.size, fun k hk => h.block k fun x => hk (hs k x)⟩
theorem Only.drew {S : Nat → Prop} {a w : World} (h : Only S a w) : Only S a w.drew := ⟨h.os, h.tape, h.output, h.size, h.block⟩
theorem Only.alloc {S : Nat → Prop} {a w : World} (h : Only S a w) (hS : S w.heap.size) (o : Obj) : Only S a (w.alloc o) :=
  h.trans ⟨rfl, rfl, rfl, by simp, fun k hk => by
    show (w.heap.push o)[k]? = _
    rw [Array.getElem?_push, if_neg (show ¬ k = w.heap.size from fun e => hk (by rw [e]; exact hS))]⟩
theorem Only.setCell {S : Nat → Prop} {a w : World} (h : Only S a w) {p : Addr} (hS : S p.block) (u : Value) : Only S a (w.setCell p u) :=
  h.trans ⟨rfl, rfl, rfl, by simp, fun k hk => heap_setCell_other w p k u (fun e => hk (e ▸ hS))⟩
theorem Only.grown {S : Nat → Prop} {a w w' : World} {row : Option Nat} (h : Only S a w) (hg : w.grownBy w' row) (hS : ∀ k, w.heap.size ≤ k → S k) (hr : ∀ k, row = some k → S k) : Only S a w' :=
  h.trans ⟨hg.os, hg.tape, hg.output, hg.size, fun k hk => hg.block k (by
    rcases Nat.lt_or_ge k w.heap.size with h1 | h1
    · exact h1
    · exact absurd (hS k h1) hk) (fun e => hk (hr k e.symm))⟩
theorem Only.below {S : Nat → Prop} {w w' : World} (h : Only S w w') {B : Nat} (hB : ∀ k, k < B → ¬ S k) : Below B w w' := ⟨h.os, h.tape, h.output, h.size, fun k hk => h.block k (hB k hk)⟩
theorem Only.of_below {S : Nat → Prop} {w w' : World} {B : Nat} (h : Below B w w') (hS : ∀ k, B ≤ k → S k) : Only S w w' := ⟨h.os, h.tape, h.output, h.size, fun k hk => h.block k (by
    rcases Nat.lt_or_ge k B with h1 | h1
    · exact h1
    · exact absurd (hS k h1) hk)⟩

/-- A row of n integers, whole: the function f. -/
def Row (k : IntKind) (T : TypeId) (w : World) (g n : Nat) (f : Nat → Int) : Prop :=
  ∃ cs : Array Value, w.heap[g]? = some (.cells cs T (0, 0)) ∧ cs.size = n ∧ ∀ j, j < n → cs[j]? = some (.int k (f j))
theorem Row.cell {k : IntKind} {T : TypeId} {w : World} {g n : Nat} {f : Nat → Int} (h : Row k T w g n f) (j : Nat) (hj : j < n) : w.cell? ⟨g, j, none⟩ = some (.int k (f j)) := by
  obtain ⟨cs, h1, _, h3⟩ := h
  rw [blk_cell h1]; exact h3 j hj
theorem Row.free {k : IntKind} {T : TypeId} {w : World} {g n : Nat} {f : Nat → Int} (h : Row k T w g n f) (j : Nat) : w.frozen? ⟨g, j, none⟩ = false := by
  obtain ⟨cs, h1, _, h3⟩ := h
  exact blk_free h1 j
theorem Row.lt {k : IntKind} {T : TypeId} {w : World} {g n : Nat} {f : Nat → Int} (h : Row k T w g n f) : g < w.heap.size := by
  obtain ⟨cs, h1, _, h3⟩ := h
  exact blk_lt h1
theorem Row.of_block {k : IntKind} {T : TypeId} {w w' : World} {g n : Nat} {f : Nat → Int} (h : Row k T w g n f) (hb : w'.heap[g]? = w.heap[g]?) : Row k T w' g n f := by
  obtain ⟨cs, h1, h2, h3⟩ := h
  exact ⟨cs, by rw [hb]; exact h1, h2, h3⟩
theorem Row.congr {k : IntKind} {T : TypeId} {w : World} {g n : Nat} {f f' : Nat → Int} (h : Row k T w g n f) (he : ∀ j, j < n → f j = f' j) : Row k T w g n f' := by
  obtain ⟨cs, h1, h2, h3⟩ := h
  exact ⟨cs, h1, h2, fun j hj => by rw [← he j hj]; exact h3 j hj⟩
/-- One cell of it is written. -/
theorem Row.set {k : IntKind} {T : TypeId} {w : World} {g n : Nat} {f f' : Nat → Int} (h : Row k T w g n f) (i : Nat) (v : Int) (h1 : i < n → f' i = v) (h2 : ∀ j, j < n → j ≠ i → f' j = f j) : Row k T (w.setCell ⟨g, i, none⟩ (.int k v)) g n f' := by
  obtain ⟨cs, q1, q2, q3⟩ := h
  refine ⟨_, blk_set q1 i _, by simpa using q2, fun j hj => ?_⟩
  rw [Array.getElem?_setIfInBounds]
  by_cases e : i = j
  · subst e; rw [if_pos rfl, if_pos (by omega), h1 hj]
  · rw [if_neg e, q3 j hj, h2 j hj (fun x => e x.symm)]

/-- A slice that is read: n integers under the function f, behind an address or none. -/
def Reads (k : IntKind) (w : World) (a : Option Addr) (n : Nat) (f : Nat → Int) : Prop := ∀ j, j < n → ∃ g o, a = some ⟨g, o, none⟩ ∧ w.cell? ⟨g, o + j, none⟩ = some (.int k (f j))
theorem Reads.kept {k : IntKind} {w w' : World} {a : Option Addr} {n : Nat} {f : Nat → Int} (h : Reads k w a n f) (hb : Below w.heap.size w w') : Reads k w' a n f := fun j hj => by
  obtain ⟨g, o, h1, h2⟩ := h j hj
  exact ⟨g, o, h1, (hb.cell (p := ⟨g, o + j, none⟩) (World.block_lt_of_cell? w _ h2)).trans h2⟩
theorem Reads.split {k : IntKind} {w : World} {a : Option Addr} {n : Nat} {f : Nat → Int} (h : Reads k w a n f) (hn : 0 < n) : ∃ g o, a = some ⟨g, o, none⟩ ∧ ∀ j, j < n → w.cell? ⟨g, o + j, none⟩ = some (.int k (f j)) := by
  obtain ⟨g, o, rfl, _⟩ := h 0 hn
  refine ⟨g, o, rfl, fun j hj => ?_⟩
  obtain ⟨g', o', h1, h2⟩ := h j hj
  simp only [Option.some.injEq, Addr.mk.injEq, and_true] at h1
  obtain ⟨rfl, rfl⟩ := h1
  exact h2
theorem addr_add (g o j : Nat) : (⟨g, o, none⟩ : Addr).add j = ⟨g, o + j, none⟩ := by unfold Addr.add; split <;> simp_all
/-- copy(dst, src), dst a whole block of as many cells. -/
theorem copy_whole {P : Program} {k : IntKind} (w : World) (sT ty elem : TypeId) (hu : P.underlying sT = some (.slice elem)) (hs : (P.info? elem).map (·.size) = some 1) (d n cap : Nat) (a : Option Addr) (f : Nat → Int) (cur : Array Value) (T : TypeId)
    (hd : w.heap[d]? = some (.cells cur T (0, 0))) (hcur : cur.size = n) (hr : Reads k w a n f) :
    ∃ w', (Builtin.copy_ #[sT, sT] ty #[.slice (some ⟨d, 0, none⟩) n n, .slice a n cap]).run P w = .ok (goInt n) w' ∧ Row k T w' d n f ∧ Only (· = d) w w' := by
  rcases Nat.eq_zero_or_pos n with h0 | h0
  · subst h0
    refine ⟨w, run_copy_none w sT sT ty elem _ a 0 0 0 cap hu hs (by simp), ⟨cur, hd, hcur, fun j hj => by omega⟩, Only.refl _ _⟩
  · obtain ⟨g, o, rfl, hc⟩ := hr.split h0
    have hlen : (((List.range n).map fun j => Value.int k (f j))).length = n := by simp
    have hrun := run_copy_row (P := P) w sT sT ty elem d 0 n n ⟨g, o, none⟩ n cap cur T ((List.range n).map fun j => Value.int k (f j)) hu hs hd (by simp)
      (fun j v hj => by
        rw [List.getElem?_map] at hj
        obtain ⟨i, hi, rfl⟩ := Option.map_eq_some_iff.1 hj
        rw [List.getElem?_range] at hi
        · simp at hi; subst hi; rw [addr_add]; exact hc j (by by_cases q : j < n; exact q; simp [q] at hj)
        · by_cases q : j < n
          · exact q
          · simp [q] at hj)
      (by simp; omega) (fun v hv => by
        obtain ⟨i, _, rfl⟩ := List.mem_map.1 hv
        rfl)
    rw [hlen] at hrun
    refine ⟨_, hrun, ⟨_, setRow_heap w d cur _ T _ hd, ?_, fun j hj => ?_⟩, ⟨rfl, rfl, rfl, by simp, fun q hq => setRow_other w d q _ hq⟩⟩
    · simp; omega
    · simp only [List.take_zero, List.nil_append, List.getElem?_toArray]
      rw [List.getElem?_append_left (by simpa using hj)]
      simp [hj]

section
variable {P : Program}
theorem eqIn_ptr_same (d : Nat) {t te : TypeId} {j : TypeInfo} (hp : P.underlying t = some (.pointer te)) (hte : P.info? te = some j) (a : Addr) (w : World) : (Op.equalIn (d + 1) t (.pointer (some a)) (.pointer (some a))).run P w = .ok true w := by
  simp [Op.equalIn, run_underlying hp, sizeOf, typeInfo, hte, run_sameAddr_same]
theorem eqIn_ptr_other (d : Nat) {t te : TypeId} {j : TypeInfo} (hp : P.underlying t = some (.pointer te)) (hte : P.info? te = some j) (hsz : j.size ≠ 0) {a b : Addr} {ca cb : Array Value} {ta tb : TypeId} (w : World) (hne : a ≠ b)
    (ha : w.heap[a.block]? = some (.cells ca ta (0, 0))) (hb : w.heap[b.block]? = some (.cells cb tb (0, 0))) : (Op.equalIn (d + 1) t (.pointer (some a)) (.pointer (some b))).run P w = .ok false w := by
  simp [Op.equalIn, run_underlying hp, sizeOf, typeInfo, hte, hsz, run_sameAddr_other w hne ha hb]
theorem eql_ptr_same {t te : TypeId} {j : TypeInfo} (hp : P.underlying t = some (.pointer te)) (hte : P.info? te = some j) (a : Addr) (w : World) : (binOp .eql t (.pointer (some a)) (.pointer (some a))).run P w = .ok (.bool true) w := by
  simp only [binOp]; simp [Op.equal, Op.maxDepth, eqIn_ptr_same 9999 hp hte a w]
theorem neq_ptr_same {t te : TypeId} {j : TypeInfo} (hp : P.underlying t = some (.pointer te)) (hte : P.info? te = some j) (a : Addr) (w : World) : (binOp .neq t (.pointer (some a)) (.pointer (some a))).run P w = .ok (.bool false) w := by
  simp only [binOp]; simp [Op.equal, Op.maxDepth, eqIn_ptr_same 9999 hp hte a w]
theorem neq_ptr_other {t te : TypeId} {j : TypeInfo} (hp : P.underlying t = some (.pointer te)) (hte : P.info? te = some j) (hsz : j.size ≠ 0) {a b : Addr} {ca cb : Array Value} {ta tb : TypeId} (w : World) (hne : a ≠ b)
    (ha : w.heap[a.block]? = some (.cells ca ta (0, 0))) (hb : w.heap[b.block]? = some (.cells cb tb (0, 0))) : (binOp .neq t (.pointer (some a)) (.pointer (some b))).run P w = .ok (.bool true) w := by
  simp only [binOp]; simp [Op.equal, Op.maxDepth, eqIn_ptr_other 9999 hp hte hsz w hne ha hb]
theorem neq_ptr_nil {t te : TypeId} (hp : P.underlying t = some (.pointer te)) (a : Addr) (w : World) : (binOp .neq t (.pointer (some a)) (.pointer none)).run P w = .ok (.bool true) w := by
  have h : ∀ d : Nat, (Op.equalIn (d + 1) t (.pointer (some a)) (.pointer none)).run P w = .ok false w := fun d => by simp [Op.equalIn, run_underlying hp]
  simp only [binOp]; simp [Op.equal, Op.maxDepth, h 9999]
end
theorem hide {p : Prop} (h : p) : Hid p := h
theorem cell_blk {w w' : World} {b i : Nat} (h : w'.heap[b]? = w.heap[b]?) : w'.cell? ⟨b, i, none⟩ = w.cell? ⟨b, i, none⟩ := World.cell?_of_block (a := ⟨b, i, none⟩) h
theorem free_blk {w w' : World} {b i : Nat} (h : w'.heap[b]? = w.heap[b]?) : w'.frozen? ⟨b, i, none⟩ = w.frozen? ⟨b, i, none⟩ := World.frozen?_of_block (a := ⟨b, i, none⟩) h

/-! ### A row of m values under a function -/
def OwnF (w : World) (base : Nat) (T : TypeId) (v : Value) (m : Nat) (F : Nat → Value) : Prop := w.ownsRow base T 1 v m ((List.range m).map F)
theorem OwnF.nil (w : World) (base : Nat) (T : TypeId) (F : Nat → Value) : OwnF w base T (.slice none 0 0) 0 F := World.ownsRow_nil _ _ _ _
theorem OwnF.congr {w : World} {base : Nat} {T : TypeId} {v : Value} {m : Nat} {F G : Nat → Value} (h : OwnF w base T v m F) (he : ∀ j, j < m → F j = G j) : OwnF w base T v m G := by
  unfold OwnF
  rw [← List.map_congr_left (fun j hj => he j (List.mem_range.1 hj))]
  exact h
theorem OwnF.form {w : World} {base : Nat} {T : TypeId} {v : Value} {m : Nat} {F : Nat → Value} (h : OwnF w base T v m F) : ∃ a cap, v = .slice a m cap := by
  rcases h.2 with ⟨h1, h2⟩ | ⟨g, cap, _, h1, _⟩
  · subst h2; exact ⟨none, 0, h1⟩
  · exact ⟨_, _, h1⟩
theorem OwnF.cells {w : World} {base : Nat} {T : TypeId} {v : Value} {m : Nat} {F : Nat → Value} (h : OwnF w base T v m F) (hm : 0 < m) : ∃ g cap, v = .slice (some ⟨g, 0, none⟩) m cap ∧ base ≤ g ∧ m ≤ cap ∧ (∃ cur, w.heap[g]? = some (.cells cur T (0, 0)) ∧ cur.size = cap) ∧ ∀ j, j < m → w.cell? ⟨g, j, none⟩ = some (F j) := by
  have h' := h
  rcases h.2 with ⟨h1, h2⟩ | ⟨g, cap, cur, h1, hb, hg, hmc, _, hsz, _⟩
  · omega
  · subst h1
    refine ⟨g, cap, rfl, hb, hmc, ⟨cur, hg, by omega⟩, fun j hj => ?_⟩
    have h' : w.ownsRow base T 1 (.slice (some ⟨g, 0, none⟩) m cap) m ((List.range m).map F) := h
    rw [h'.cellAt j (by omega)]
    simp [hj]
/-- Where it lies. -/
theorem OwnF.at_block {w : World} {base : Nat} {T : TypeId} {v : Value} {m : Nat} {F : Nat → Value} (h : OwnF w base T v m F) {k : Nat} (hk : v.ownBlock = some k) : base ≤ k ∧ k < w.heap.size ∧ ∃ cur, w.heap[k]? = some (.cells cur T (0, 0)) := by
  have := h.lt k hk
  refine ⟨this.1, this.2, ?_⟩
  rcases h.2 with ⟨h1, h2⟩ | ⟨g, cap, cur, h1, hb, hg, _⟩
  · rw [h1] at hk; cases hk
  · rw [h1] at hk; simp only [Value.ownBlock, Option.some.injEq] at hk; subst hk; exact ⟨cur, hg⟩
theorem OwnF.kept {w w' : World} {base : Nat} {T : TypeId} {v : Value} {m : Nat} {F : Nat → Value} (h : OwnF w base T v m F) (hb : ∀ k, v.ownBlock = some k → w'.heap[k]? = w.heap[k]?) : OwnF w' base T v m F := by
  obtain ⟨h1, h2⟩ := h
  refine ⟨h1, ?_⟩
  rcases h2 with h2 | ⟨g, cap, cur, hv, hg, hh, r⟩
  · exact .inl h2
  · exact .inr ⟨g, cap, cur, hv, hg, by rw [hb g (by rw [hv]; rfl)]; exact hh, r⟩
theorem map_snoc {F G : Nat → Value} {m : Nat} {x : Value} (h1 : G m = x) (h2 : ∀ j, j < m → G j = F j) : (List.range m).map F ++ [x] = (List.range (m + 1)).map G := by
  rw [List.range_succ, List.map_append, List.map_congr_left (fun j hj => h2 j (List.mem_range.1 hj))]
  simp [h1]
theorem OwnF.stored {w : World} {base : Nat} {T : TypeId} {g m cap : Nat} {F G : Nat → Value} (h : OwnF w base T (.slice (some ⟨g, 0, none⟩) m cap) m F) (i : Nat) (x : Value) (h1 : i < m → G i = x) (h2 : ∀ j, j < m → j ≠ i → G j = F j) :
    OwnF (w.setCell ⟨g, i, none⟩ x) base T (.slice (some ⟨g, 0, none⟩) m cap) m G := by
  have := (World.ownsRow.stored (w := w) (base := base) (e := T) (size := 1) h i x).1
  unfold OwnF
  have e : (List.range m).map G = ((List.range m).map F).set i x := by
    apply List.ext_getElem?
    intro j
    rw [List.getElem?_set]
    by_cases hj : j < m
    · by_cases hi : i = j
      · subst hi; simp [hj, h1 hj]
      · simp [hi, hj, h2 j hj (fun e => hi e.symm)]
    · simp [hj]; omega
  rw [e]; exact this
theorem OwnF.pop {w : World} {base : Nat} {T : TypeId} {g m cap : Nat} {F : Nat → Value} (h : OwnF w base T (.slice (some ⟨g, 0, none⟩) (m + 1) cap) (m + 1) F) : OwnF w base T (.slice (some ⟨g, 0, none⟩) m cap) m F := by
  have h' : w.ownsRow base T 1 (.slice (some ⟨g, 0, none⟩) (m + 1) cap) (m + 1) ((List.range m).map F ++ [F m]) := by rw [map_snoc (G := F) rfl (fun _ _ => rfl)]; exact h
  exact ownsRow_pop (by simp) h'

end Go.Proofs.Ybulkbfyo
