/-
  OWN WORK. Walks: slices.Index, slices.Contains, NewNumber, zzs2843cequal.
-/
import Derived.Test.YbulkbfvwProg
import Derived.Test.YbulkbfvwBase
import Derived.Test.YbulkbfvwPlain
import Derived.WalkLawsBesides
import Derived.BigQuiet
import Derived.Deep.QuietTactic
namespace Go.Proofs.Ybulkbfvw
open Go.RowKit

theorem ret_int {k : IntKind} {a b : Int} (h : a = b) : Ending.returned (.int k a) = .returned (.int k b) := by rw [h]
theorem ret_bool {a b : Bool} (h : a = b) : Ending.returned (.bool a) = .returned (.bool b) := by rw [h]

set_option maxHeartbeats 400000 in
theorem index_any (g o n cap : Nat) (f : Nat → Int) (v : Int) (w : World) (hn : n ≤ 100000) (hc : ∀ j, j < n → w.cell? ⟨g, o + j, none⟩ = some (.int .u64 (f j))) :
    Calls Yba.prog 15 #[.slice (some ⟨g, o, none⟩) n cap, .int .u64 v] w fun e w' => e = .returned (.int .i64 (idx f v n 0)) ∧ w' = w := by
  go_enter Yba.func15, Yba.ntmps15
  go_wp2
  go_loop [8] (fun i => ∃ k : Nat, k ≤ n ∧ i = .int .i64 k ∧ Hid (idx f v n 0 = idx f v (n - k) k)) (fun i => n - (intOf i).toNat)
  case atStart => exact ⟨0, Nat.zero_le _, rfl, rfl⟩
  case round =>
    obtain ⟨k, hk, rfl, H⟩ := hrel
    by_cases hlt : k < n
    · have hck := hc k hlt
      by_cases he : v = f k
      · have HE : Hid (idx f v n 0 = (k : Int)) := H.out.trans (idx_hit (by omega) he)
        have he' : (v == f k) = true := by simp [he]
        clear he
        go_wp2
        go_ret
        exact ⟨ret_int HE.out.symm, rfl⟩
      · have HE : Hid (idx f v n 0 = idx f v (n - (k + 1)) (k + 1)) := H.out.trans (by rw [idx_miss (by omega) he, Nat.sub_sub])
        have he' : (v == f k) = false := by simp [he]
        clear he
        go_wp2
        go_round
        case rel => exact ⟨k + 1, by omega, by go_num, HE⟩
        case measure => simp [intOf]; omega
    · have HE : Hid (idx f v n 0 = -1) := by
        have h := H.out
        rw [show n - k = 0 by omega] at h
        exact h
      go_wp2
      go_ret
      exact ⟨ret_int HE.out.symm, rfl⟩

set_option maxHeartbeats 400000 in
theorem contains_any (g o n cap : Nat) (f : Nat → Int) (v : Int) (w : World) (hn : n ≤ 100000) (hc : ∀ j, j < n → w.cell? ⟨g, o + j, none⟩ = some (.int .u64 (f j))) :
    Calls Yba.prog 14 #[.slice (some ⟨g, o, none⟩) n cap, .int .u64 v] w fun e w' => e = .returned (.bool (decide (0 ≤ idx f v n 0))) ∧ w' = w := by
  go_enter Yba.func14, Yba.ntmps14
  go_wp2_with (go_at_call 15; refine (index_any g o n cap f v _ hn hc).mono ?_; rintro e w' ⟨rfl, rfl⟩)
  go_ret
  exact ⟨rfl, rfl⟩

set_option maxHeartbeats 400000 in
theorem newNumber_any (t : Nat) (c0 c1 c2 c4 c5 : Value) (l : Int) (w : World) (h : w.heap[t]? = some (.cells #[c0, c1, c2, .int .u64 l, c4, c5] 31 (0, 0))) :
    Calls Yba.prog 13 #[.pointer (some ⟨t, 0, none⟩)] w fun e w' => e = .returned (.int .u64 (IntKind.u64.wrap (l + 1))) ∧ w' = w.setCell ⟨t, 3, none⟩ (.int .u64 (IntKind.u64.wrap (l + 1))) := by
  have hc : w.cell? ⟨t, 3, none⟩ = some (.int .u64 l) := by rw [blk_cell h]; rfl
  have hf : w.frozen? ⟨t, 3, none⟩ = false := blk_free h 3
  clear h
  go_enter Yba.func13, Yba.ntmps13
  go_wp2
  go_ret
  exact ⟨rfl, rfl⟩

-- Equal slices of n elements: true.
set_option maxHeartbeats 400000 in
theorem equal_some (g o c1 g' o' c2 n : Nat) (f : Nat → Int) (w : World) (hn : n ≤ 100000) (hc : ∀ j, j < n → w.cell? ⟨g, o + j, none⟩ = some (.int .u64 (f j))) (hc' : ∀ j, j < n → w.cell? ⟨g', o' + j, none⟩ = some (.int .u64 (f j))) :
    Calls Yba.prog 9 #[.slice (some ⟨g, o, none⟩) n c1, .slice (some ⟨g', o', none⟩) n c2] w fun e w' => e = .returned (.bool true) ∧ Below w.heap.size w w' := by
  have hnn : ((n : Int) != (n : Int)) = false := by simp
  go_enter Yba.func9, Yba.ntmps9
  go_wp2
  go_loopw [13] (fun i wr => ∃ k : Nat, k ≤ n ∧ i = .int .i64 k ∧ Below w.heap.size w wr ∧ (∀ j, j < n → wr.cell? ⟨g, o + j, none⟩ = some (.int .u64 (f j))) ∧ (∀ j, j < n → wr.cell? ⟨g', o' + j, none⟩ = some (.int .u64 (f j)))) (fun i _ => n - (intOf i).toNat)
  case atStart => exact ⟨0, Nat.zero_le _, rfl, Below.refl _ _, hc, hc'⟩
  case round =>
    obtain ⟨k, hk, rfl, hb, h1, h2⟩ := hrel
    by_cases hlt : k < n
    · have q1 := h1 k hlt
      have q2 := h2 k hlt
      have hlt' : (k : Int) < (n : Int) := by omega
      have hff : (f k != f k) = false := by simp
      go_wp2
      go_quiet (fail)
      go_wp2
      go_roundw
      case rel => exact ⟨k + 1, by omega, by go_num, below_drewN hb nq, h1, h2⟩
      case measure => simp [intOf]; omega
    · go_wp2
      go_ret
      exact ⟨rfl, hb⟩
end Go.Proofs.Ybulkbfvw
