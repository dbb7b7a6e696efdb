/-
  OWN WORK. The market's index (a map from names to places) as the model holds it; rows of values under a function.
-/
import Derived.Test.YbulkbfwyProg
import Derived.Test.YbulkbfwyBase
import Derived.Maps.OwnSet
import Derived.WalkLawsBesides
namespace Go.Proofs.Ybulkbfwy
open Go.RowKit

theorem hide {p : Prop} (h : p) : Hid p := h
theorem cell_blk {w w' : World} {b i : Nat} (h : w'.heap[b]? = w.heap[b]?) : w'.cell? ⟨b, i, none⟩ = w.cell? ⟨b, i, none⟩ := World.cell?_of_block (a := ⟨b, i, none⟩) h
theorem free_blk {w w' : World} {b i : Nat} (h : w'.heap[b]? = w.heap[b]?) : w'.frozen? ⟨b, i, none⟩ = w.frozen? ⟨b, i, none⟩ := World.frozen?_of_block (a := ⟨b, i, none⟩) h

/-! ### The key -/
def key (s : ByteArray) : Lit := .string s.data.toList
theorem key_ne {s t : ByteArray} (h : s ≠ t) : key s ≠ key t := fun e => h (by
  simp only [key, Lit.string.injEq] at e
  cases s; cases t
  simpa [Array.toList_inj] using e)
theorem key_lit (s : ByteArray) : WideAt.IsKeyLit (key s) := by simp [key, WideAt.IsKeyLit]
theorem klaw : Maps.Keyed Yba.prog 9 := Maps.string_keyed Yba.underlying9
theorem key_of {s : ByteArray} (h : s.size ≤ maxLen) : keyOf Yba.prog 9 (.string s) = some (key s) := Go.WideMaps.keyOf_string_mk Yba.underlying9 h
theorem zero3 (w : World) : (zeroValue 3).run Yba.prog w = .ok (.int .i64 0) w := by kernel_rfl
theorem nat_wf {n : Nat} (h : n ≤ 100000) : (Lit.int .i64 (n : Int)).wf = true := by
  have h1 : IntKind.i64.min = -9223372036854775808 := rfl
  have h2 : IntKind.i64.max = 9223372036854775807 := rfl
  simp only [Lit.wf, Bool.and_eq_true, decide_eq_true_eq]
  omega

/-! ### The datum: m names sn 0 .. sn (m - 1), each at its place -/
structure IsIdx (D : DataW Unit) (m : Nat) (sn : Nat → ByteArray) : Prop where
  size : Maps.size D = m
  hit : ∀ j, j < m → Maps.has D (key (sn j)) = true ∧ D.atKey (key (sn j)) (.lit (.int .i64 0)) = .lit (.int .i64 j)
  miss : ∀ s, (∀ j, j < m → sn j ≠ s) → Maps.has D (key s) = false

theorem IsIdx.inj {D : DataW Unit} {m : Nat} {sn : Nat → ByteArray} (h : IsIdx D m sn) {i j : Nat} (hi : i < m) (hj : j < m) (e : sn i = sn j) : i = j := by
  have h1 := (h.hit i hi).2
  have h2 := (h.hit j hj).2
  rw [e, h2] at h1
  simp only [DataW.lit.injEq, Lit.int.injEq, true_and] at h1
  omega

theorem IsIdx.congr {D : DataW Unit} {m : Nat} {sn sn' : Nat → ByteArray} (h : IsIdx D m sn) (he : ∀ j, j < m → sn j = sn' j) : IsIdx D m sn' :=
  ⟨h.size, fun j hj => by rw [← he j hj]; exact h.hit j hj, fun s hs => h.miss s (fun j hj => by rw [he j hj]; exact hs j hj)⟩

/-- A new name at the end. -/
theorem IsIdx.add {D : DataW Unit} {m : Nat} {sn sn' : Nat → ByteArray} (h : IsIdx D m sn) (hT : Maps.Tidy D) {s : ByteArray} (hs : ∀ j, j < m → sn j ≠ s) (h1 : sn' m = s) (h2 : ∀ j, j < m → sn' j = sn j) :
    IsIdx (D.put (key s) (.lit (.int .i64 m))) (m + 1) sn' := by
  refine ⟨?_, fun j hj => ?_, fun u hu => ?_⟩
  · rw [Maps.size_put hT, h.miss s hs, h.size]; simp
  · by_cases e : j = m
    · subst e; rw [h1]
      exact ⟨Maps.has_put_same hT.isMap (key_lit s) _, Maps.atKey_put_same hT.isMap (key_lit s) _ _⟩
    · have hj' : j < m := by omega
      rw [h2 j hj', Maps.has_put_other (key_ne (hs j hj')), Maps.atKey_put_other (key_ne (hs j hj'))]
      exact h.hit j hj'
  · have hne : u ≠ s := fun e => hu m (by omega) (by rw [h1, e])
    rw [Maps.has_put_other (key_ne hne)]
    exact h.miss u (fun j hj => by rw [← h2 j hj]; exact hu j (by omega))

/-- The last name is moved to place i, the name at i is struck. -/
theorem IsIdx.swap {D : DataW Unit} {m i : Nat} {sn sn' : Nat → ByteArray} (h : IsIdx D (m + 1) sn) (hT : Maps.Tidy D) (hi : i < m + 1) (h1 : i < m → sn' i = sn m) (h2 : ∀ j, j < m → j ≠ i → sn' j = sn j) :
    IsIdx ((D.put (key (sn m)) (.lit (.int .i64 i))).del (key (sn i))) m sn' := by
  have hT1 : Maps.Tidy (D.put (key (sn m)) (.lit (.int .i64 i))) := hT.put (key_lit _) _
  have hsz : Maps.size (D.put (key (sn m)) (.lit (.int .i64 i))) = m + 1 := by rw [Maps.size_put hT, (h.hit m (by omega)).1, if_pos rfl, h.size]
  have hhas : Maps.has (D.put (key (sn m)) (.lit (.int .i64 i))) (key (sn i)) = true := by
    by_cases e : sn i = sn m
    · rw [e]; exact Maps.has_put_same hT.isMap (key_lit _) _
    · rw [Maps.has_put_other (key_ne e)]; exact (h.hit i hi).1
  refine ⟨?_, fun j hj => ?_, fun u hu => ?_⟩
  · have := Maps.size_del (k := key (sn i)) hT1
    rw [hhas, if_pos rfl, hsz] at this
    omega
  · by_cases e : j = i
    · subst e
      have hne : sn m ≠ sn j := fun q => by have := h.inj (by omega) hi q; omega
      rw [h1 hj, Maps.has_del_other (key_ne hne), Maps.atKey_del_other (key_ne hne)]
      exact ⟨Maps.has_put_same hT.isMap (key_lit _) _, Maps.atKey_put_same hT.isMap (key_lit _) _ _⟩
    · have n1 : sn j ≠ sn i := fun q => e (h.inj (by omega) hi q)
      have n2 : sn j ≠ sn m := fun q => by have := h.inj (by omega) (by omega) q; omega
      rw [h2 j hj e, Maps.has_del_other (key_ne n1), Maps.atKey_del_other (key_ne n1), Maps.has_put_other (key_ne n2), Maps.atKey_put_other (key_ne n2)]
      exact h.hit j (by omega)
  · by_cases e : u = sn i
    · rw [e]; exact Maps.has_del_same
    · rw [Maps.has_del_other (key_ne e)]
      have hne : u ≠ sn m := fun q => by
        rcases Nat.lt_or_ge i m with hl | hl
        · exact hu i hl (by rw [h1 hl, q])
        · have : i = m := by omega
          rw [this] at e; exact e q
      rw [Maps.has_put_other (key_ne hne)]
      refine h.miss u (fun j hj => ?_)
      by_cases ej : j = i
      · rw [ej]; exact fun q => e q.symm
      · by_cases em : j = m
        · rw [em]; exact fun q => hne q.symm
        · rw [← h2 j (by omega) ej]; exact hu j (by omega)

/-! ### The map's block -/
def Idx (w : World) (bm m : Nat) (sn : Nat → ByteArray) : Prop := ∃ D : DataW Unit, w.ownsMap Yba.prog 9 (plainElem Yba.prog 3) bm m D ∧ IsIdx D m sn
theorem Idx.lt {w : World} {bm m : Nat} {sn : Nat → ByteArray} (h : Idx w bm m sn) : bm < w.heap.size := by obtain ⟨D, h1, _⟩ := h; exact h1.lt
theorem Idx.is_map {w : World} {bm m : Nat} {sn : Nat → ByteArray} (h : Idx w bm m sn) : ∃ es c, w.heap[bm]? = some (.map es c) := by obtain ⟨D, ⟨es, c, h1, _⟩, _⟩ := h; exact ⟨es, c, h1⟩
theorem owns_block {w w' : World} {bm n : Nat} {D : DataW Unit} (h : w.ownsMap Yba.prog 9 (plainElem Yba.prog 3) bm n D) (hb : w'.heap[bm]? = w.heap[bm]?) : w'.ownsMap Yba.prog 9 (plainElem Yba.prog 3) bm n D := by
  obtain ⟨es, c, h1, h2⟩ := h
  exact ⟨es, c, by rw [hb]; exact h1, h2⟩
theorem Idx.of_block {w w' : World} {bm m : Nat} {sn : Nat → ByteArray} (h : Idx w bm m sn) (hb : w'.heap[bm]? = w.heap[bm]?) : Idx w' bm m sn := by obtain ⟨D, h1, h2⟩ := h; exact ⟨D, owns_block h1 hb, h2⟩
theorem Idx.congr {w : World} {bm m : Nat} {sn sn' : Nat → ByteArray} (h : Idx w bm m sn) (he : ∀ j, j < m → sn j = sn' j) : Idx w bm m sn' := by obtain ⟨D, h1, h2⟩ := h; exact ⟨D, h1, h2.congr he⟩
theorem Idx.inj {w : World} {bm m : Nat} {sn : Nat → ByteArray} (h : Idx w bm m sn) {i j : Nat} (hi : i < m) (hj : j < m) (e : sn i = sn j) : i = j := by obtain ⟨D, _, h2⟩ := h; exact h2.inj hi hj e
theorem Idx.made (w : World) (sn : Nat → ByteArray) : Idx (w.alloc (.map #[] 0)) w.heap.size 0 sn :=
  ⟨.map [], World.ownsMap_made _ _ _ _, ⟨rfl, fun j hj => by omega, fun s _ => rfl⟩⟩
/-- The bound is the size itself. -/
theorem owns_tight {w : World} {bm n : Nat} {D : DataW Unit} (h : w.ownsMap Yba.prog 9 (plainElem Yba.prog 3) bm n D) : w.ownsMap Yba.prog 9 (plainElem Yba.prog 3) bm (Maps.size D) D := by
  obtain ⟨es, c, h1, h2, h3, rfl⟩ := h
  exact ⟨es, c, h1, h2, by simp [Maps.size, length_sorted], rfl⟩

theorem Idx.look {w : World} {bm m : Nat} {sn : Nat → ByteArray} (h : Idx w bm m sn) {j : Nat} (hj : j < m) (hs : (sn j).size ≤ maxLen) :
    (Instr.lookup 52 (.map (some bm)) (.string (sn j)) true).run Yba.prog w = .ok (.tuple #[.int .i64 j, .bool true]) w ∧ (Instr.lookup 52 (.map (some bm)) (.string (sn j)) false).run Yba.prog w = .ok (.int .i64 j) w := by
  obtain ⟨D, h1, h2⟩ := h
  obtain ⟨e1, e2⟩ := h2.hit j hj
  constructor
  · obtain ⟨v, ps, hrun, hv⟩ := h1.look_ok klaw Yba.underlying52 (zero3 w) (plainElem_int Yba.underlying3 (by decide)) (key_of hs)
    rw [e2] at hv
    obtain ⟨a, rfl, ha, _⟩ := plainElem_int_inv Yba.underlying3 hv
    simp only [Prod.mk.injEq, DataW.lit.injEq, Lit.int.injEq, true_and] at ha
    rw [hrun, e1, ← ha.1]
  · obtain ⟨v, ps, hrun, hv⟩ := h1.lookup klaw Yba.underlying52 (zero3 w) (plainElem_int Yba.underlying3 (by decide)) (key_of hs)
    rw [e2] at hv
    obtain ⟨a, rfl, ha, _⟩ := plainElem_int_inv Yba.underlying3 hv
    simp only [Prod.mk.injEq, DataW.lit.injEq, Lit.int.injEq, true_and] at ha
    rw [hrun, ← ha.1]
theorem Idx.look_miss {w : World} {bm m : Nat} {sn : Nat → ByteArray} (h : Idx w bm m sn) {s : ByteArray} (hs : s.size ≤ maxLen) (hn : ∀ j, j < m → sn j ≠ s) :
    ∃ c : Int, (Instr.lookup 52 (.map (some bm)) (.string s) true).run Yba.prog w = .ok (.tuple #[.int .i64 c, .bool false]) w := by
  obtain ⟨D, h1, h2⟩ := h
  obtain ⟨v, ps, hrun, hv⟩ := h1.look_ok klaw Yba.underlying52 (zero3 w) (plainElem_int Yba.underlying3 (by decide)) (key_of hs)
  obtain ⟨a, rfl, _, _⟩ := plainElem_int_inv Yba.underlying3 hv
  exact ⟨a, by rw [hrun, h2.miss s hn]⟩
theorem Idx.len {w : World} {bm m : Nat} {sn : Nat → ByteArray} (h : Idx w bm m sn) (ty : TypeId) : (Builtin.len_ #[52] ty #[.map (some bm)]).run Yba.prog w = .ok (.int .i64 m) w := by
  obtain ⟨D, h1, h2⟩ := h
  rw [h1.len Yba.underlying52 ty, h2.size]
theorem Idx.add {w : World} {bm m : Nat} {sn sn' : Nat → ByteArray} (h : Idx w bm m sn) (hm : m ≤ 5000) {s : ByteArray} (hs : s.size ≤ maxLen) (hn : ∀ j, j < m → sn j ≠ s) (h1 : sn' m = s) (h2 : ∀ j, j < m → sn' j = sn j) :
    ∃ w', (Instr.mapUpdate 52 (.map (some bm)) (.string s) (.int .i64 m)).run Yba.prog w = .ok () w' ∧ Idx w' bm (m + 1) sn' ∧ w.grownBy w' (some bm) := by
  obtain ⟨D, q1, q2⟩ := h
  obtain ⟨w', hrun, o1, g1⟩ := q1.update klaw Yba.underlying52 (by unfold maxLen; omega) (key_of hs) (plainElem_int Yba.underlying3 (nat_wf (n := m) (by omega)))
  exact ⟨w', hrun, ⟨_, o1, q2.add (q1.tidy klaw) hn h1 h2⟩, g1⟩
/-- Between the two steps of 'drop': the last name stands at place i too. -/
def Mid (w : World) (bm m i : Nat) (sn : Nat → ByteArray) : Prop := ∃ D : DataW Unit, ∃ n, w.ownsMap Yba.prog 9 (plainElem Yba.prog 3) bm n (D.put (key (sn m)) (.lit (.int .i64 i))) ∧ IsIdx D (m + 1) sn ∧ Maps.Tidy D
theorem Mid.of_block {w w' : World} {bm m i : Nat} {sn : Nat → ByteArray} (h : Mid w bm m i sn) (hb : w'.heap[bm]? = w.heap[bm]?) : Mid w' bm m i sn := by obtain ⟨D, n, h1, h2⟩ := h; exact ⟨D, n, owns_block h1 hb, h2⟩
theorem Mid.is_map {w : World} {bm m i : Nat} {sn : Nat → ByteArray} (h : Mid w bm m i sn) : ∃ es c, w.heap[bm]? = some (.map es c) := by obtain ⟨D, n, ⟨es, c, h1, _⟩, _⟩ := h; exact ⟨es, c, h1⟩
theorem Idx.mid {w : World} {bm m i : Nat} {sn : Nat → ByteArray} (h : Idx w bm (m + 1) sn) (hm : m ≤ 5000) (hi : i < m + 1) (hs : (sn m).size ≤ maxLen) :
    ∃ w', (Instr.mapUpdate 52 (.map (some bm)) (.string (sn m)) (.int .i64 i)).run Yba.prog w = .ok () w' ∧ Mid w' bm m i sn ∧ w.grownBy w' (some bm) := by
  obtain ⟨D, q1, q2⟩ := h
  obtain ⟨w', hrun, o1, g1⟩ := q1.update klaw Yba.underlying52 (by unfold maxLen; omega) (key_of hs) (plainElem_int Yba.underlying3 (nat_wf (n := i) (by omega)))
  exact ⟨w', hrun, ⟨D, _, o1, q2, q1.tidy klaw⟩, g1⟩
theorem Mid.drop {w : World} {bm m i : Nat} {sn sn' : Nat → ByteArray} (h : Mid w bm m i sn) (hi : i < m + 1) (hs : (sn i).size ≤ maxLen) (h1 : i < m → sn' i = sn m) (h2 : ∀ j, j < m → j ≠ i → sn' j = sn j) (ty : TypeId) :
    ∃ w', (Builtin.delete_ #[52, 9] ty #[.map (some bm), .string (sn i)]).run Yba.prog w = .ok (.tuple #[]) w' ∧ Idx w' bm m sn' ∧ w.grownBy w' (some bm) := by
  obtain ⟨D, n, q1, q2, q3⟩ := h
  obtain ⟨w', hrun, o1, g1⟩ := q1.drop klaw Yba.underlying52 (key_of hs) ty
  have q4 := q2.swap q3 hi h1 h2
  have o2 := owns_tight o1
  rw [q4.size] at o2
  exact ⟨w', hrun, ⟨_, o2, q4⟩, g1.grown⟩

/-! ### A row of m values under a function -/
def OwnF (w : World) (base : Nat) (T : TypeId) (v : Value) (m : Nat) (F : Nat → Value) : Prop := w.ownsRow base T 1 v m ((List.range m).map F)
theorem OwnF.nil (w : World) (base : Nat) (T : TypeId) (F : Nat → Value) : OwnF w base T (.slice none 0 0) 0 F := World.ownsRow_nil _ _ _ _
theorem OwnF.congr {w : World} {base : Nat} {T : TypeId} {v : Value} {m : Nat} {F G : Nat → Value} (h : OwnF w base T v m F) (he : ∀ j, j < m → F j = G j) : OwnF w base T v m G := by
  unfold OwnF
  rw [← List.map_congr_left (fun j hj => he j (List.mem_range.1 hj))]
  exact h
theorem OwnF.form {w : World} {base : Nat} {T : TypeId} {v : Value} {m : Nat} {F : Nat → Value} (h : OwnF w base T v m F) : ∃ a cap, v = .slice a m cap := by
  rcases h.2 with ⟨h1, h2⟩ | ⟨g, cap, _, h1, _⟩
  · subst h2; exact ⟨none, 0, h1⟩
  · exact ⟨_, _, h1⟩
theorem OwnF.cells {w : World} {base : Nat} {T : TypeId} {v : Value} {m : Nat} {F : Nat → Value} (h : OwnF w base T v m F) (hm : 0 < m) : ∃ g cap, v = .slice (some ⟨g, 0, none⟩) m cap ∧ base ≤ g ∧ m ≤ cap ∧ (∃ cur, w.heap[g]? = some (.cells cur T (0, 0)) ∧ cur.size = cap) ∧ ∀ j, j < m → w.cell? ⟨g, j, none⟩ = some (F j) := by
  have h' := h
  rcases h.2 with ⟨h1, h2⟩ | ⟨g, cap, cur, h1, hb, hg, hmc, _, hsz, _⟩
  · omega
  · subst h1
    refine ⟨g, cap, rfl, hb, hmc, ⟨cur, hg, by omega⟩, fun j hj => ?_⟩
    have h' : w.ownsRow base T 1 (.slice (some ⟨g, 0, none⟩) m cap) m ((List.range m).map F) := h
    rw [h'.cellAt j (by omega)]
    simp [hj]
/-- Where it lies. -/
theorem OwnF.at_block {w : World} {base : Nat} {T : TypeId} {v : Value} {m : Nat} {F : Nat → Value} (h : OwnF w base T v m F) {k : Nat} (hk : v.ownBlock = some k) : base ≤ k ∧ k < w.heap.size ∧ ∃ cur, w.heap[k]? = some (.cells cur T (0, 0)) := by
  have := h.lt k hk
  refine ⟨this.1, this.2, ?_⟩
  rcases h.2 with ⟨h1, h2⟩ | ⟨g, cap, cur, h1, hb, hg, _⟩
  · rw [h1] at hk; cases hk
  · rw [h1] at hk; simp only [Value.ownBlock, Option.some.injEq] at hk; subst hk; exact ⟨cur, hg⟩
theorem OwnF.kept {w w' : World} {base : Nat} {T : TypeId} {v : Value} {m : Nat} {F : Nat → Value} (h : OwnF w base T v m F) (hb : ∀ k, v.ownBlock = some k → w'.heap[k]? = w.heap[k]?) : OwnF w' base T v m F := by
  obtain ⟨h1, h2⟩ := h
  refine ⟨h1, ?_⟩
  rcases h2 with h2 | ⟨g, cap, cur, hv, hg, hh, r⟩
  · exact .inl h2
  · exact .inr ⟨g, cap, cur, hv, hg, by rw [hb g (by rw [hv]; rfl)]; exact hh, r⟩
theorem map_snoc {F G : Nat → Value} {m : Nat} {x : Value} (h1 : G m = x) (h2 : ∀ j, j < m → G j = F j) : (List.range m).map F ++ [x] = (List.range (m + 1)).map G := by
  rw [List.range_succ, List.map_append, List.map_congr_left (fun j hj => h2 j (List.mem_range.1 hj))]
  simp [h1]
theorem OwnF.stored {w : World} {base : Nat} {T : TypeId} {g m cap : Nat} {F G : Nat → Value} (h : OwnF w base T (.slice (some ⟨g, 0, none⟩) m cap) m F) (i : Nat) (x : Value) (h1 : i < m → G i = x) (h2 : ∀ j, j < m → j ≠ i → G j = F j) :
    OwnF (w.setCell ⟨g, i, none⟩ x) base T (.slice (some ⟨g, 0, none⟩) m cap) m G := by
  have := (World.ownsRow.stored (w := w) (base := base) (e := T) (size := 1) h i x).1
  unfold OwnF
  have e : (List.range m).map G = ((List.range m).map F).set i x := by
    apply List.ext_getElem?
    intro j
    rw [List.getElem?_set]
    by_cases hj : j < m
    · by_cases hi : i = j
      · subst hi; simp [hj, h1 hj]
      · simp [hi, hj, h2 j hj (fun e => hi e.symm)]
    · simp [hj]; omega
  rw [e]; exact this
theorem OwnF.pop {w : World} {base : Nat} {T : TypeId} {g m cap : Nat} {F : Nat → Value} (h : OwnF w base T (.slice (some ⟨g, 0, none⟩) (m + 1) cap) (m + 1) F) : OwnF w base T (.slice (some ⟨g, 0, none⟩) m cap) m F := by
  have h' : w.ownsRow base T 1 (.slice (some ⟨g, 0, none⟩) (m + 1) cap) (m + 1) ((List.range m).map F ++ [F m]) := by rw [map_snoc (G := F) rfl (fun _ _ => rfl)]; exact h
  exact ownsRow_pop (by simp) h'
end Go.Proofs.Ybulkbfwy
