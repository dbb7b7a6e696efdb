/-
  OWN WORK. Walks: zzs2843cleaf.
-/
import Derived.Test.YbulkbfvwWalkA
namespace Go.Proofs.Ybulkbfvw
open Go.RowKit
theorem Yba.info24 : (Yba.prog.info? 24).map (fun i => (i.zero, i.size, i.bytes)) = some (some (.int .u64 0), 1, 8) := by kernel_rfl
theorem Yba.info3 : (Yba.prog.info? 3).map (fun i => (i.zero, i.size, i.bytes)) = some (some (.int .i64 0), 1, 8) := by kernel_rfl
theorem Yba.size24 : (Yba.prog.info? 24).map (·.size) = some 1 := by kernel_rfl

theorem make24 (n : Nat) (hn : n ≤ 1024) : ∀ w : World, (Instr.makeSlice 22 (.int .i64 n) (.int .i64 n)).run Yba.prog w = .ok (.slice (some ⟨w.heap.size, 0, none⟩) n n) (w.alloc (.cells (madeCells #[.int .u64 0] n) 24)) := fun w => by
  obtain ⟨i24, hi, hz0, hz1, hz2⟩ := info_parts Yba.info24
  have := run_make (P := Yba.prog) w 22 24 i24 (.int .u64 0) Yba.underlying22 hi hz0 .i64 .i64 n n (by omega) (by omega) (by rw [hz2]; omega) (by omega)
  simpa [hz1, Value.cells] using this
theorem make3 (n : Nat) (hn : n ≤ 1024) : ∀ w : World, (Instr.makeSlice 37 (.int .i64 n) (.int .i64 n)).run Yba.prog w = .ok (.slice (some ⟨w.heap.size, 0, none⟩) n n) (w.alloc (.cells (madeCells #[.int .i64 0] n) 3)) := fun w => by
  obtain ⟨i3, hi3, hz30, hz31, hz32⟩ := info_parts Yba.info3
  have := run_make (P := Yba.prog) w 37 3 i3 (.int .i64 0) Yba.underlying37 hi3 hz30 .i64 .i64 n n (by omega) (by omega) (by rw [hz32]; omega) (by omega)
  simpa [hz31, Value.cells] using this

set_option maxHeartbeats 400000 in
theorem leaf_any (a : Option Addr) (n cap : Nat) (f : Nat → Int) (w : World) (hn : n ≤ 1024) (hr : Reads .u64 w a n f) :
    Calls Yba.prog 5 #[.slice a n cap] w fun e w' => ∃ gN nd kv vv, e = .returned (.pointer (some ⟨nd, 0, none⟩)) ∧
      w'.heap[nd]? = some (.cells #[kv, vv, .slice (some ⟨gN, 0, none⟩) n n, .slice none 0 0, .pointer none] 40 (0, 0)) ∧ Row .u64 24 w' gN n f ∧ w.heap.size ≤ gN ∧ gN < nd ∧ Below w.heap.size w w' := by
  have hmk := make24 n hn
  have hmk3 := make3 n hn
  obtain ⟨w1, hcp, hrow, honly⟩ := copy_whole (P := Yba.prog) (w.alloc (.cells (madeCells #[.int .u64 0] n) 24)) 22 3 24 Yba.underlying22 Yba.size24 w.heap.size n cap a f _ 24 (blk_new _ _) (size_madeCells _ _) (hr.kept ((Below.refl _ _).alloc (Nat.le_refl _) _))
  have hs1 : w.heap.size < w1.heap.size := by have := honly.size; simp at this; omega
  have hb1 : Below w.heap.size w w1 := ((Below.refl w.heap.size w).alloc (Nat.le_refl _) _).trans (honly.below (fun k hk => by omega))
  have hK : Row .i64 3 (w1.alloc (.cells (madeCells #[.int .i64 0] n) 3)) w1.heap.size n (fun _ => 0) := ⟨_, blk_new _ _, size_madeCells _ _, fun j hj => by simp [madeCells, hj, Nat.mod_one]⟩
  have hR : Row .u64 24 (w1.alloc (.cells (madeCells #[.int .i64 0] n) 3)) w.heap.size n f := hrow.of_block (blk_old _ hs1)
  have hb2 : Below w.heap.size w (w1.alloc (.cells (madeCells #[.int .i64 0] n) 3)) := hb1.alloc (by omega) _
  have HO : Hid (Only (· = w.heap.size) (w.alloc (.cells (madeCells #[.int .u64 0] n) 24)) w1) := honly
  clear honly hrow hr
  go_enter Yba.func5, Yba.ntmps5
  go_wp2
  go_loopw [17] (fun i wr => ∃ k : Nat, k ≤ n ∧ i = .int .i64 k ∧ Below w.heap.size w wr ∧ Row .u64 24 wr w.heap.size n f ∧ (∃ f', Row .i64 3 wr w1.heap.size n f')) (fun i _ => n - (intOf i).toNat)
  case atStart => exact ⟨0, Nat.zero_le _, rfl, hb2, hR, _, hK⟩
  case round =>
    obtain ⟨k, hk, rfl, hb, h1, f', h2⟩ := hrel
    by_cases hlt : k < n
    · have q1 := h2.cell k hlt
      have q2 := h2.free k
      go_wp2
      go_roundw
      case rel => exact ⟨k + 1, by omega, by go_num, hb.setCell (by simp; omega) _, h1.of_block (blk_set_far _ _ (by omega)), fun j => if j = k then k else f' j, h2.set k k (fun _ => by simp) (fun j _ hj => by simp [hj])⟩
      case measure => simp [intOf]; omega
    · go_wp2
      go_ret
      clear hmk hmk3 hcp hK hR hb2 HO
      refine ⟨w.heap.size, wr.heap.size + 1, .slice (some ⟨w1.heap.size, 0, none⟩) n n, .slice (some ⟨wr.heap.size, 0, none⟩) n n, rfl, ?_, ?_, Nat.le_refl _, ?_, ?_⟩
      · rw [← World.size_alloc wr (.cells (madeCells #[.int .i64 0] n) 3)]; exact blk_new _ _
      · exact (h1.of_block (blk_old _ h1.lt)).of_block (blk_old _ (by have := h1.lt; simp; omega))
      · have := h1.lt; omega
      · exact (hb.alloc hb.size _).alloc (by have := hb.size; simp; omega) _
end Go.Proofs.Ybulkbfvw
