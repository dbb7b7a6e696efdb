/-
  OWN WORK. Walks: the two closures.
-/
import Derived.Test.YbulkbfvwWalkD
namespace Go.Proofs.Ybulkbfvw
open Go.RowKit

def ReadsB (w : World) (a : Option Addr) (n : Nat) (p : Nat → Bool) : Prop := ∀ j, j < n → ∃ g o, a = some ⟨g, o, none⟩ ∧ w.cell? ⟨g, o + j, none⟩ = some (.bool (p j))
theorem ReadsB.kept {w w' : World} {a : Option Addr} {n : Nat} {p : Nat → Bool} (h : ReadsB w a n p) (hb : ∀ g o j, a = some ⟨g, o, none⟩ → j < n → w'.cell? ⟨g, o + j, none⟩ = w.cell? ⟨g, o + j, none⟩) : ReadsB w' a n p := fun j hj => by
  obtain ⟨g, o, h1, h2⟩ := h j hj
  exact ⟨g, o, h1, (hb g o j h1 hj).trans h2⟩

/-- What the first closure holds: the log, the count, the pins. -/
def St6 (L K B base : Nat) (pv : Value) (xs : List Int) (w : World) : Prop :=
  ∃ v, w.heap[L]? = some (.cells #[v] 22 (0, 0)) ∧ w.ownsRow base 24 1 v xs.length (xs.map (Value.int .u64)) ∧ w.heap[K]? = some (.cells #[.int .i64 xs.length] 3 (0, 0)) ∧ w.heap[B]? = some (.cells #[pv] 23 (0, 0))

theorem cell_blk {w w' : World} {b i : Nat} (h : w'.heap[b]? = w.heap[b]?) : w'.cell? ⟨b, i, none⟩ = w.cell? ⟨b, i, none⟩ := World.cell?_of_block (a := ⟨b, i, none⟩) h
theorem free_blk {w w' : World} {b i : Nat} (h : w'.heap[b]? = w.heap[b]?) : w'.frozen? ⟨b, i, none⟩ = w.frozen? ⟨b, i, none⟩ := World.frozen?_of_block (a := ⟨b, i, none⟩) h

theorem grown_low {w w1 : World} {o : Obj} {v : Value} {base : Nat} (hgrow : (w.alloc o).grownBy w1 v.ownBlock) (hv : ∀ k, v.ownBlock = some k → base ≤ k) (hbase : base ≤ w.heap.size) : ∀ k, k < base → w1.heap[k]? = w.heap[k]? := fun k hk => by
  rw [hgrow.block k (by simp; omega) (fun e => by have := hv k e.symm; omega), blk_old _ (by omega)]

theorem own_set {w : World} {base L : Nat} {v u : Value} {n : Nat} {xs : List Value} (h : w.ownsRow base 24 1 v n xs) (hL : L < base) : (w.setCell ⟨L, 0, none⟩ u).ownsRow base 24 1 v n xs := ownsRow_setCell_below h (a := ⟨L, 0, none⟩) hL u

theorem st6_end {L K B base : Nat} {pv v0 : Value} {xs : List Int} {num : Int} {w w1 : World} {g' cap' : Nat} (hlow : ∀ k, k < base → w1.heap[k]? = w.heap[k]?) (hLK : L ≠ K) (hLB : L ≠ B) (hKB : K ≠ B) (hL : L < base) (hK : K < base) (hB : B < base)
    (h1 : w.heap[L]? = some (.cells #[v0] 22 (0, 0))) (h3 : w.heap[K]? = some (.cells #[.int .i64 xs.length] 3 (0, 0))) (h4 : w.heap[B]? = some (.cells #[pv] 23 (0, 0)))
    (hown1 : w1.ownsRow base 24 1 (.slice (some ⟨g', 0, none⟩) (xs.length + 1) cap') (xs.length + 1) (xs.map (Value.int .u64) ++ [.int .u64 num])) :
    St6 L K B base pv (xs ++ [num]) ((w1.setCell ⟨L, 0, none⟩ (.slice (some ⟨g', 0, none⟩) (xs.length + 1) cap')).setCell ⟨K, 0, none⟩ (.int .i64 ((xs.length : Int) + 1))) := by
  refine ⟨.slice (some ⟨g', 0, none⟩) (xs.length + 1) cap', ?_, ?_, ?_, ?_⟩
  · rw [blk_set_far _ _ hLK, blk_set (by rw [hlow L hL]; exact h1)]; rfl
  · simpa using own_set (own_set hown1 hL) hK
  · rw [blk_set (by rw [blk_set_far _ _ (Ne.symm hLK), hlow K hK]; exact h3)]; simp
  · rw [blk_set_far _ _ (Ne.symm hKB), blk_set_far _ _ (Ne.symm hLB), hlow B hB]; exact h4

set_option maxHeartbeats 1000000 in
theorem pin6 (L K B base : Nat) (num : Int) (pa : Option Addr) (pl pc : Nat) (pin : Nat → Bool) (xs : List Int) (w : World) (hst : St6 L K B base (.slice pa pl pc) xs w)
    (hx : xs.length < 2000) (hp : ReadsB w pa pl pin) (hpf : ∀ j, pl ≤ j → pin j = false) (hLK : L ≠ K) (hLB : L ≠ B) (hKB : K ≠ B) (hL : L < base) (hK : K < base) (hB : B < base) (hbase : base ≤ w.heap.size)
    (hpb : ∀ g o, 0 < pl → pa = some ⟨g, o, none⟩ → g < base ∧ g ≠ L ∧ g ≠ K) :
    Calls Yba.prog 6 #[.int .u64 num, .pointer (some ⟨L, 0, none⟩), .pointer (some ⟨K, 0, none⟩), .pointer (some ⟨B, 0, none⟩)] w fun e w' =>
      e = .returned (.bool (pin xs.length)) ∧ St6 L K B base (.slice pa pl pc) (xs ++ [num]) w' ∧ Only (fun k => k = L ∨ k = K ∨ base ≤ k) w w' := by
  obtain ⟨i24, hi, hz0, hz1, hz2⟩ := info_parts Yba.info24
  obtain ⟨v, h1, hown, h3, h4⟩ := hst
  have c1 : w.cell? ⟨L, 0, none⟩ = some v := by rw [blk_cell h1]; rfl
  have e1 := blk_free h1 0
  have c2 : w.cell? ⟨K, 0, none⟩ = some (.int .i64 xs.length) := by rw [blk_cell h3]; rfl
  have e2 := blk_free h3 0
  have c3 : w.cell? ⟨B, 0, none⟩ = some (.slice pa pl pc) := by rw [blk_cell h4]; rfl
  by_cases hg : xs.length < pl
  · obtain ⟨g, o, rfl, hpc⟩ := hp xs.length hg
    obtain ⟨hg1, hg2, hg3⟩ := hpb g o (by omega) rfl
    have hg' : decide ((xs.length : Int) < (pl : Int)) = true := by simp; omega
    go_enter Yba.func6, Yba.ntmps6
    go_wp2_with (at_builtin; refine wpList_append_lies _ rfl (.tmp 7) (.tmp 9) 22 rfl base 24 i24 (.int .u64 0) 1 8 Yba.underlying22 hi hz0 hz1 hz2 rfl (by decide) v xs.length _ rfl (hown.alloc _) ⟨w.heap.size, 0, none⟩ 1 1 [.int .u64 num] rfl rfl (cell_one_new _ _ _) (ints_one [num]) (by decide) (by unfold maxLen; omega) (by omega) (by simp; omega) _ rfl ?_; intro g' cap' w1 hown1 hgrow hat hlt1; have hlow := grown_low hgrow (fun k hk => (hown.lt k hk).1) hbase; have d1 : w1.cell? ⟨L, 0, none⟩ = some v := (cell_blk (hlow L hL)).trans c1; have d1' : w1.frozen? ⟨L, 0, none⟩ = false := (free_blk (hlow L hL)).trans e1; have d2 : w1.cell? ⟨K, 0, none⟩ = some (.int .i64 xs.length) := (cell_blk (hlow K hK)).trans c2; have d2' : w1.frozen? ⟨K, 0, none⟩ = false := (free_blk (hlow K hK)).trans e2; have d3 := (cell_blk (i := 0) (hlow B hB)).trans c3; have d4 : w1.cell? ⟨g, o + xs.length, none⟩ = some (.bool (pin xs.length)) := (cell_blk (hlow g hg1)).trans hpc)
    go_ret
    have HR : St6 L K B base (.slice (some ⟨g, o, none⟩) pl pc) (xs ++ [num]) ((w1.setCell ⟨L, 0, none⟩ (.slice (some ⟨g', 0, none⟩) (xs.length + 1) cap')).setCell ⟨K, 0, none⟩ (.int .i64 ((xs.length : Int) + 1))) := st6_end hlow hLK hLB hKB hL hK hB h1 h3 h4 hown1
    have HO : Only (fun k => k = L ∨ k = K ∨ base ≤ k) w ((w1.setCell ⟨L, 0, none⟩ (.slice (some ⟨g', 0, none⟩) (xs.length + 1) cap')).setCell ⟨K, 0, none⟩ (.int .i64 ((xs.length : Int) + 1))) := ((((Only.refl _ w).alloc (.inr (.inr hbase)) _).grown hgrow (fun k hk => .inr (.inr (by simp at hk; omega))) (fun k hk => .inr (.inr (hown.lt k hk).1))).setCell (.inl rfl) _).setCell (.inr (.inl rfl)) _
    exact ⟨rfl, HR, HO⟩
  · have hg' : decide ((xs.length : Int) < (pl : Int)) = false := by simp; omega
    have HP : Hid (pin xs.length = false) := hpf _ (by omega)
    go_enter Yba.func6, Yba.ntmps6
    go_wp2_with (at_builtin; refine wpList_append_lies _ rfl (.tmp 7) (.tmp 9) 22 rfl base 24 i24 (.int .u64 0) 1 8 Yba.underlying22 hi hz0 hz1 hz2 rfl (by decide) v xs.length _ rfl (hown.alloc _) ⟨w.heap.size, 0, none⟩ 1 1 [.int .u64 num] rfl rfl (cell_one_new _ _ _) (ints_one [num]) (by decide) (by unfold maxLen; omega) (by omega) (by simp; omega) _ rfl ?_; intro g' cap' w1 hown1 hgrow hat hlt1; have hlow := grown_low hgrow (fun k hk => (hown.lt k hk).1) hbase; have d1 : w1.cell? ⟨L, 0, none⟩ = some v := (cell_blk (hlow L hL)).trans c1; have d1' : w1.frozen? ⟨L, 0, none⟩ = false := (free_blk (hlow L hL)).trans e1; have d2 : w1.cell? ⟨K, 0, none⟩ = some (.int .i64 xs.length) := (cell_blk (hlow K hK)).trans c2; have d2' : w1.frozen? ⟨K, 0, none⟩ = false := (free_blk (hlow K hK)).trans e2; have d3 := (cell_blk (i := 0) (hlow B hB)).trans c3)
    go_ret
    have HR : St6 L K B base (.slice pa pl pc) (xs ++ [num]) ((w1.setCell ⟨L, 0, none⟩ (.slice (some ⟨g', 0, none⟩) (xs.length + 1) cap')).setCell ⟨K, 0, none⟩ (.int .i64 ((xs.length : Int) + 1))) := st6_end hlow hLK hLB hKB hL hK hB h1 h3 h4 hown1
    have HO : Only (fun k => k = L ∨ k = K ∨ base ≤ k) w ((w1.setCell ⟨L, 0, none⟩ (.slice (some ⟨g', 0, none⟩) (xs.length + 1) cap')).setCell ⟨K, 0, none⟩ (.int .i64 ((xs.length : Int) + 1))) := ((((Only.refl _ w).alloc (.inr (.inr hbase)) _).grown hgrow (fun k hk => .inr (.inr (by simp at hk; omega))) (fun k hk => .inr (.inr (hown.lt k hk).1))).setCell (.inl rfl) _).setCell (.inr (.inl rfl)) _
    exact ⟨ret_bool HP.out.symm, HR, HO⟩

/-- What the second closure holds: the count, the pins. -/
def St10 (C B : Nat) (pv : Value) (i : Nat) (w : World) : Prop := w.heap[C]? = some (.cells #[.int .i64 i] 3 (0, 0)) ∧ w.heap[B]? = some (.cells #[pv] 23 (0, 0))

set_option maxHeartbeats 1000000 in
theorem pin10 (C B : Nat) (num : Int) (pa : Option Addr) (pl pc : Nat) (pin : Nat → Bool) (i : Nat) (w : World) (hst : St10 C B (.slice pa pl pc) i w)
    (hi : i < 2000) (hp : ReadsB w pa pl pin) (hpf : ∀ j, pl ≤ j → pin j = false) (hCB : C ≠ B) :
    Calls Yba.prog 10 #[.int .u64 num, .pointer (some ⟨C, 0, none⟩), .pointer (some ⟨B, 0, none⟩)] w fun e w' =>
      e = .returned (.bool (pin i)) ∧ St10 C B (.slice pa pl pc) (i + 1) w' ∧ Only (fun k => k = C) w w' := by
  obtain ⟨h1, h4⟩ := hst
  have c1 : w.cell? ⟨C, 0, none⟩ = some (.int .i64 i) := by rw [blk_cell h1]; rfl
  have e1 := blk_free h1 0
  have c3 : w.cell? ⟨B, 0, none⟩ = some (.slice pa pl pc) := by rw [blk_cell h4]; rfl
  have HR : ∀ pv, w.heap[B]? = some (.cells #[pv] 23 (0, 0)) → St10 C B pv (i + 1) (w.setCell ⟨C, 0, none⟩ (.int .i64 ((i : Int) + 1))) := fun pv h4 => ⟨by rw [blk_set h1]; simp, by rw [blk_set_far _ _ (Ne.symm hCB)]; exact h4⟩
  have HO : Only (fun k => k = C) w (w.setCell ⟨C, 0, none⟩ (.int .i64 ((i : Int) + 1))) := (Only.refl (fun k => k = C) w).setCell (p := ⟨C, 0, none⟩) rfl _
  by_cases hg : i < pl
  · obtain ⟨g, o, rfl, hpc⟩ := hp i hg
    have hg' : decide ((i : Int) < (pl : Int)) = true := by simp; omega
    have HR' : Hid _ := HR _ h4
    clear h4 HR
    go_enter Yba.func10, Yba.ntmps10
    go_wp2
    go_ret
    exact ⟨rfl, HR'.out, HO⟩
  · have hg' : decide ((i : Int) < (pl : Int)) = false := by simp; omega
    have HP : Hid (pin i = false) := hpf _ (by omega)
    have HR' : Hid _ := HR _ h4
    clear h4 HR
    go_enter Yba.func10, Yba.ntmps10
    go_wp2
    go_ret
    exact ⟨ret_bool HP.out.symm, HR'.out, HO⟩
end Go.Proofs.Ybulkbfvw
