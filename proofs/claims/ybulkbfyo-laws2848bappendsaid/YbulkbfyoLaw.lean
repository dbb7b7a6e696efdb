/-
  OWN WORK. The law, whole.
-/
import Derived.Test.YbulkbfyoLoopF
namespace Go.Proofs.Ybulkbfyo
open Go.RowKit

theorem start_sys (w : World) (D N : Nat) (hD : w.heap.size = D) (hN : N ≤ maxLen) : Sys w (((w.alloc (.cells #[.int .u64 0, .slice none 0 0, .slice none 0 0, .int .i64 0, .int .i64 0, .int .i64 0] 30)).alloc (.cells (madeCells #[.int .i64 0] N) 3)).alloc (.cells (madeCells #[.int .i64 0] N) 3)) D (.slice (some ⟨D + 1, 0, none⟩) 0 N) (.slice (some ⟨D + 1 + 1, 0, none⟩) 0 N) (.slice none 0 0) 0 0 0 (fun _ => 0) (fun _ => 0) (fun _ => 0) (fun _ => 0) (fun _ => 0) 0 := by
  subst hD
  refine ⟨⟨?_, OwnF.nil _ _ _ _, fun j hj => by omega, fun j hj => by omega, fun j hj => by omega, fun i j hi => by omega⟩, OwnF.kept (w := (w.alloc (.cells #[.int .u64 0, .slice none 0 0, .slice none 0 0, .int .i64 0, .int .i64 0, .int .i64 0] 30)).alloc (.cells (madeCells #[.int .i64 0] N) 3)) ?_ (fun k hk => ?_), ?_, fun k hk e => ?_, (((Below.refl _ w).alloc (Nat.le_refl _) _).alloc (by simp) _).alloc (by simp; omega) _⟩
  · exact (blk_old (w := (w.alloc _).alloc _) _ (by simp; omega)).trans ((blk_old (w := w.alloc _) _ (by simp)).trans (blk_new _ _))
  · have := Nums.made (w.alloc (.cells #[.int .u64 0, .slice none 0 0, .slice none 0 0, .int .i64 0, .int .i64 0, .int .i64 0] 30)) w.heap.size N (by simp) hN (fun _ => 0)
    rw [World.size_alloc] at this
    exact this
  · simp only [Value.ownBlock, Option.some.injEq] at hk
    exact blk_old _ (by simp; omega)
  · have := Nums.made ((w.alloc (.cells #[.int .u64 0, .slice none 0 0, .slice none 0 0, .int .i64 0, .int .i64 0, .int .i64 0] 30)).alloc (.cells (madeCells #[.int .i64 0] N) 3)) w.heap.size N (by simp; omega) hN (fun _ => 0)
    rw [World.size_alloc, World.size_alloc] at this
    exact this
  · simp only [Value.ownBlock, Option.some.injEq] at hk e
    omega

theorem Leave.out {R : Act → World → Prop} {e : Exit} {a : Act} {w : World} (h : Leave R e a w) : e = .exit 0 ∧ R a w := by
  unfold Leave at h; split at h
  · exact ⟨rfl, h⟩
  · exact h.elim
theorem Leave2.out {R : Act → World → Prop} {e : Exit} {a : Act} {w : World} (h : Leave2 R e a w) : e = .exit 2 ∧ R a w := by
  unfold Leave2 at h; split at h
  · exact ⟨rfl, h⟩
  · exact h.elim
theorem Leave4.out {R : Act → World → Prop} {e : Exit} {a : Act} {w : World} (h : Leave4 R e a w) : e = .exit 6 ∧ R a w := by
  unfold Leave4 at h; split at h
  · exact ⟨rfl, h⟩
  · exact h.elim

set_option maxHeartbeats 1000000 in
set_option maxRecDepth 100000 in
theorem law_any (n0 n1 cap0 cap1 : Nat) (a0 a1 : Option Addr) (f0 f1 : Nat → Nat) (w : World) (hn0 : n0 ≤ 256) (hn1 : n1 ≤ 256) (hf0 : ∀ j, f0 j < 4294967296) (hf1 : ∀ j, f1 j < 4294967296)
    (hr0 : Reads .u32 w a0 n0 (fun j => ((f0 j : Nat) : Int))) (hr1 : Reads .u32 w a1 n1 (fun j => ((f1 j : Nat) : Int))) :
    Calls Yba.prog 3 #[.slice a0 n0 cap0, .slice a1 n1 cap1] w fun e w' => e = .returned (.bool true) ∧ Below w.heap.size w w' := by
  have hmk := make3 (n0 + n1) (by omega)
  simp only [Int.natCast_add] at hmk
  have HF0 := hide hf0
  have HF1 := hide hf1
  have HR0 := hide hr0
  have HR1 := hide hr1
  clear hf0 hf1 hr0 hr1
  obtain ⟨D, hD⟩ : ∃ D, w.heap.size = D := ⟨_, rfl⟩
  rw [hD]
  have HD := hide hD
  go_enter Yba.func3, Yba.ntmps3
  go_wp2
  clear hmk
  refine wp_mono (loop1 w D n0 n1 cap0 cap1 a0 a1 f0 HD.out hn0 HF0.out HR0.out _ _ (Inv1.of _ rfl rfl rfl rfl rfl rfl ⟨0, 0, .slice none 0 0, fun _ => 0, fun _ => 0, fun _ => 0, Nat.zero_le _, rfl, rfl, Nat.le_refl _, start_sys w D (n0 + n1) hD (by unfold maxLen; omega)⟩)) ?_
  intro ex a w1 hleave
  obtain ⟨rfl, v6, v7, v46, v47, v48, cv, us, gs, ls, cs, e, hus, hsys, rfl⟩ := hleave.out
  clear hleave
  have c4 := hsys.kd.c4
  have f4 := hsys.kd.f 4
  have HS := hide (hsys.used us)
  clear hsys
  unfold frame1
  go_wp2
  clear c4 f4
  generalize w1.setCell ⟨D, 4, none⟩ (.int .i64 (us : Int)) = w2 at HS ⊢
  refine wp_mono (loop2 w D n0 n1 cap1 a1 f1 HD.out hn0 hn1 HF1.out HR1.out _ _ (Inv2.of _ rfl rfl rfl rfl ⟨0, n0, us, cv, gs, ls, cs, Nat.zero_le _, rfl, rfl, by omega, by omega, HS.out⟩)) ?_
  clear HS
  intro ex a w1 hleave
  obtain ⟨rfl, v6, v7, v8, v90, v91, v92, cv, m, us, gs, ls, cs, e, hm, hsys, rfl⟩ := hleave.out
  clear hleave
  unfold frame2
  go_wp2
  refine wp_mono (loop4 w D (n0 + n1) m us v6 v7 cv gs ls cs (by omega) hm _ _ (Inv4.of _ 0 rfl rfl rfl rfl rfl (Nat.zero_le _) hsys)) ?_
  clear hsys
  intro ex a w1 hleave
  obtain ⟨rfl, hb, v5, v6, v7, v23, e, rfl⟩ := hleave.out
  clear hleave
  unfold frame4
  go_wp2
  go_ret
  exact ⟨rfl, hb⟩

set_option maxRecDepth 100000 in
theorem law_big (n0 n1 cap0 cap1 : Nat) (a0 a1 : Option Addr) (w : World) (hbig : 256 < n0 ∨ 256 < n1) :
    Calls Yba.prog 3 #[.slice a0 n0 cap0, .slice a1 n1 cap1] w fun e w' => e = .returned (.bool true) ∧ Below w.heap.size w w' := by
  by_cases h0 : 256 < n0
  · go_enter Yba.func3, Yba.ntmps3
    go_wp2
    go_ret
    exact ⟨rfl, Below.refl _ _⟩
  · have h1 : 256 < n1 := by omega
    have h0' : n0 ≤ 256 := by omega
    go_enter Yba.func3, Yba.ntmps3
    go_wp2
    go_ret
    exact ⟨rfl, Below.refl _ _⟩
end Go.Proofs.Ybulkbfyo
