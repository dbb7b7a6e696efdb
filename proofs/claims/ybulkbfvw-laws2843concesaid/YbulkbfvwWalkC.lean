/-
  OWN WORK. Walks: (*Tree).spread.
-/
import Derived.Test.YbulkbfvwWalkB
namespace Go.Proofs.Ybulkbfvw
open Go.RowKit

theorem ints_one (l : List Int) : ∀ u ∈ l.map (Value.int .u64), u.oneCell' = true := fun u hu => by
  obtain ⟨i, _, rfl⟩ := List.mem_map.1 hu
  rfl

theorem own_cell {w : World} {base g n cap : Nat} {bl : List Int} (h : w.ownsRow base 24 1 (.slice (some ⟨g, 0, none⟩) n cap) n (bl.map (Value.int .u64))) : ∀ j, j < n → w.cell? ⟨g, 0 + j, none⟩ = some (.int .u64 (at0 bl j)) := fun j hj => by
  have hl : bl.length = n := by have := h.1; simp at this; omega
  rw [Nat.zero_add, h.cellAt j (by omega)]
  simp [at0, hl, hj]

theorem contains_list (g n cap : Nat) (bl : List Int) (v : Int) (w : World) (hl : bl.length = n) (hn : n ≤ 100000) (hc : ∀ j, j < n → w.cell? ⟨g, 0 + j, none⟩ = some (.int .u64 (at0 bl j))) :
    Calls Yba.prog 14 #[.slice (some ⟨g, 0, none⟩) n cap, .int .u64 v] w fun e w' => e = .returned (.bool (has bl v)) ∧ w' = w := by
  subst hl
  exact contains_any g 0 bl.length cap (at0 bl) v w hn hc

set_option maxHeartbeats 400000 in
theorem spread_any (t nd gN n : Nat) (c0 c1 c2 c3 c5 k0 k1 k3 k4 : Value) (bs : Int) (f : Nat → Int) (w : World) (hn : n ≤ 1024)
    (ht : w.heap[t]? = some (.cells #[c0, c1, c2, c3, .int .u64 bs, c5] 31 (0, 0))) (hnd : w.heap[nd]? = some (.cells #[k0, k1, .slice (some ⟨gN, 0, none⟩) n n, k3, k4] 40 (0, 0)))
    (hrow : Row .u64 24 w gN n f) (hf : ∀ j, 0 ≤ f j ∧ f j < 18446744073709551616) (hbs : 1 ≤ bs) :
    Calls Yba.prog 12 #[.pointer (some ⟨t, 0, none⟩), .pointer (some ⟨nd, 0, none⟩)] w fun e w' => e = .returned (.bool (spr f bs n 0 [])) ∧ Below w.heap.size w w' := by
  obtain ⟨i24, hi, hz0, hz1, hz2⟩ := info_parts Yba.info24
  have hmk : ∀ w, (Instr.makeSlice 22 (.int .i64 0) (.int .i64 2)).run Yba.prog w = .ok (.slice (some ⟨w.heap.size, 0, none⟩) 0 2) (w.alloc (.cells #[.int .u64 0, .int .u64 0] 24)) := fun _ => by kernel_rfl
  have htc : w.cell? ⟨t, 4, none⟩ = some (.int .u64 bs) := by rw [blk_cell ht]; rfl
  have hnc : w.cell? ⟨nd, 2, none⟩ = some (.slice (some ⟨gN, 0, none⟩) n n) := by rw [blk_cell hnd]; rfl
  have hts := blk_lt ht
  have hnds := blk_lt hnd
  have hgs := hrow.lt
  have hown0 : (w.alloc (.cells #[.int .u64 0, .int .u64 0] 24)).ownsRow w.heap.size 24 1 (.slice (some ⟨w.heap.size, 0, none⟩) 0 2) 0 [] := World.ownsRow_made w _ 2 (Nat.le_refl _) (by decide) rfl
  clear ht hnd
  go_enter Yba.func12, Yba.ntmps12
  go_wp2
  go_loopw [5, 15] (fun v i wr => ∃ (k : Nat) (bl : List Int) (g cap : Nat), k ≤ n ∧ i = .int .i64 k ∧ v = .slice (some ⟨g, 0, none⟩) bl.length cap ∧ wr.ownsRow w.heap.size 24 1 (.slice (some ⟨g, 0, none⟩) bl.length cap) bl.length (bl.map (Value.int .u64)) ∧ bl.length ≤ 2 ∧ Hid (spr f bs n 0 [] = spr f bs (n - k) k bl) ∧ Below w.heap.size w wr) (fun _ i _ => n - (intOf i).toNat)
  case atStart => exact ⟨0, [], w.heap.size, 2, Nat.zero_le _, rfl, rfl, hown0, by decide, rfl, (Below.refl _ _).alloc (Nat.le_refl _) _⟩
  case round =>
    obtain ⟨k, bl, g, cap, hk, rfl, rfl, hown, hbl, H, hb⟩ := hrel
    by_cases hlt : k < n
    · have q1 : wr.cell? ⟨gN, k, none⟩ = some (.int .u64 (f k)) := (hb.cell (p := ⟨gN, k, none⟩) hgs).trans (hrow.cell k hlt)
      have q2 : wr.cell? ⟨t, 4, none⟩ = some (.int .u64 bs) := (hb.cell (p := ⟨t, 4, none⟩) hts).trans htc
      obtain ⟨f0, f1⟩ := hf k
      have hcell := own_cell hown
      cases hh : has bl (f k / bs) with
      | true =>
        have HE : Hid (spr f bs n 0 [] = spr f bs (n - (k + 1)) (k + 1) bl) := H.out.trans (by rw [spr_has (by omega) hh, Nat.sub_sub])
        go_wp2_with (go_at_call 14; refine (contains_list g bl.length cap bl (f k / bs) _ rfl (by omega) hcell).mono ?_; rintro e w' ⟨rfl, rfl⟩)
        go_roundw
        case rel => exact ⟨k + 1, bl, g, cap, by omega, by go_num, rfl, hown, hbl, HE, hb⟩
        case measure => simp [intOf]; omega
      | false =>
        by_cases h2 : bl.length = 2
        · have HE : Hid (spr f bs n 0 [] = true) := H.out.trans (spr_full (by omega) hh h2)
          have h2' : ((bl.length : Int) == 2) = true := by simp [h2]
          clear h2
          go_wp2_with (go_at_call 14; refine (contains_list g bl.length cap bl (f k / bs) _ rfl (by omega) hcell).mono ?_; rintro e w' ⟨rfl, rfl⟩)
          go_ret
          exact ⟨ret_bool HE.out.symm, hb⟩
        · have HE : Hid (spr f bs n 0 [] = spr f bs (n - (k + 1)) (k + 1) (bl ++ [f k / bs])) := H.out.trans (by rw [spr_more (by omega) hh h2, Nat.sub_sub])
          have h2' : ((bl.length : Int) == 2) = false := by simp; omega
          have h2'' : bl.length < 2 := by omega
          clear h2
          have hsz := hb.size
          go_wp2_with (first
            | (go_at_call 14; refine (contains_list g bl.length cap bl (f k / bs) _ rfl (by omega) hcell).mono ?_; rintro e w' ⟨rfl, rfl⟩)
            | (at_builtin; refine wpList_append_lies _ rfl (.tmp 32) (.tmp 34) 22 rfl w.heap.size 24 i24 (.int .u64 0) 1 8 Yba.underlying22 hi hz0 hz1 hz2 rfl (by decide) (.slice (some ⟨g, 0, none⟩) bl.length cap) bl.length _ rfl (hown.alloc _) ⟨w'.heap.size, 0, none⟩ 1 1 [.int .u64 (f k / bs)] rfl rfl (cell_one_new _ _ _) (ints_one [f k / bs]) (by decide) (by unfold maxLen; omega) (by omega) (by simp; omega) _ rfl ?_; intro g' cap' w1 hown1 hgrow hat hlt1))
          have hge : w.heap.size ≤ g := (hown.lt g rfl).1
          have hbn : Below w.heap.size w w1 := (hb.alloc hsz _).grown hgrow (by simp; omega) (fun q hq => by simp [Value.ownBlock] at hq; omega)
          go_roundw
          case rel => exact ⟨k + 1, bl ++ [f k / bs], g', cap', by omega, by go_num, by simp, by simpa using hown1, by simp; omega, HE, hbn⟩
          case measure => simp [intOf]; omega
    · have HE : Hid (spr f bs n 0 [] = false) := by
        have h := H.out
        rw [show n - k = 0 by omega] at h
        exact h
      go_wp2
      go_ret
      exact ⟨ret_bool HE.out.symm, hb⟩
end Go.Proofs.Ybulkbfvw
