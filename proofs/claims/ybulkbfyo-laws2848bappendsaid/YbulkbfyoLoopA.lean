/-
  OWN WORK. The law: a round of its first loop.
-/
import Derived.Test.YbulkbfyoFrames
namespace Go.Proofs.Ybulkbfyo
open Go.RowKit

/-- Loop 1's relation. -/
def Rel1 (w0 : World) (D n0 : Nat) (v6 v7 v8 v48 : Value) (w : World) : Prop :=
  ∃ (k us : Nat) (cv : Value) (gs ls cs : Nat → Nat), k ≤ n0 ∧ v48 = .int .i64 (k : Int) ∧ v8 = .int .i64 (us : Int) ∧ us ≤ k * 70000 ∧ Sys w0 w D v6 v7 cv k k k gs ls cs ls cs 0
def Inv1 (w0 : World) (D n0 : Nat) (v0 v1 v46 : Value) (a : Act) (w : World) : Prop :=
  ∃ (v6 v7 v8 v48 : Value) (e : Nat → Value), Rel1 w0 D n0 v6 v7 v8 v48 w ∧ a = ⟨frame1 v0 v1 (.pointer (some ⟨D, 0, none⟩)) v6 v7 v8 v46 (.int .i64 (n0 : Int)) v48 e, []⟩
def mu1 (n0 : Nat) (a : Act) (_ : World) : Nat := n0 - (intOf (a.tmps.getD 48 undef)).toNat

theorem self250 (t : Array Value) (h : t.size = 250) : t = ((List.range 250).map (fun j => t.getD j undef)).toArray := by
  apply Array.ext
  · simp [h]
  · intro i h1 h2
    simp [Array.getD, h1]
set_option maxRecDepth 100000 in
theorem frame1_fn (s : Nat → Value) : ((List.range 250).map s).toArray = frame1 (s 0) (s 1) (s 5) (s 6) (s 7) (s 8) (s 46) (s 47) (s 48) s := rfl
theorem Inv1.of {w0 w : World} {D n0 : Nat} {v0 v1 v46 : Value} (t : Array Value) (ht : t.size = 250) (h0 : t.getD 0 undef = v0) (h1 : t.getD 1 undef = v1) (h5 : t.getD 5 undef = .pointer (some ⟨D, 0, none⟩)) (h46 : t.getD 46 undef = v46) (h47 : t.getD 47 undef = .int .i64 (n0 : Int))
    (hrel : Rel1 w0 D n0 (t.getD 6 undef) (t.getD 7 undef) (t.getD 8 undef) (t.getD 48 undef) w) : Inv1 w0 D n0 v0 v1 v46 ⟨t, []⟩ w := by
  refine ⟨_, _, _, _, fun j => t.getD j undef, hrel, ?_⟩
  subst h0 h1 h46
  rw [← h5, ← h47, ← frame1_fn (fun j => t.getD j undef), ← self250 t ht]
/-- A loop is left by its exit alone. -/
def Leave (R : Act → World → Prop) : Exit → Act → World → Prop
  | .exit 0, a, w => R a w
  | _, _, _ => False

set_option maxHeartbeats 1000000 in
set_option maxRecDepth 100000 in
theorem round1 (w wr : World) (D n0 n1 cap0 cap1 gA oA k us x : Nat) (a1 : Option Addr) (cv u6 u7 : Value) (gs ls cs : Nat → Nat) (e : Nat → Value) (R : Act → World → Prop) (hn0 : n0 ≤ 256) (hlt : k < n0) (hx : x < 4294967296)
    (q0 : wr.cell? ⟨gA, oA + k, none⟩ = some (.int .u32 ((x : Nat) : Int))) (hus : us ≤ k * 70000) (hsys : Sys w wr D u6 u7 cv k k k gs ls cs ls cs 0) :
    Code.wp Yba.prog body1 (Exit.then (fun a' w' => Inv1 w D n0 (.slice (some ⟨gA, oA, none⟩) n0 cap0) (.slice a1 n1 cap1) (.slice (some ⟨gA, oA, none⟩) n0 cap0) a' w' ∧ mu1 n0 a' w' < mu1 n0 ⟨frame1 (.slice (some ⟨gA, oA, none⟩) n0 cap0) (.slice a1 n1 cap1) (.pointer (some ⟨D, 0, none⟩)) u6 u7 (.int .i64 (us : Int)) (.slice (some ⟨gA, oA, none⟩) n0 cap0) (.int .i64 (n0 : Int)) (.int .i64 (k : Int)) e, []⟩ wr) (Leave R))
      ⟨frame1 (.slice (some ⟨gA, oA, none⟩) n0 cap0) (.slice a1 n1 cap1) (.pointer (some ⟨D, 0, none⟩)) u6 u7 (.int .i64 (us : Int)) (.slice (some ⟨gA, oA, none⟩) n0 cap0) (.int .i64 (n0 : Int)) (.int .i64 (k : Int)) e, []⟩ wr := by
  obtain ⟨c, hcx⟩ : ∃ c : Nat, (x : Int) % 70001 = (c : Int) := ⟨x % 70001, by simp⟩
  have hc : c ≤ 70000 := by omega
  obtain ⟨l, hlx⟩ : ∃ l : Nat, (x : Int) / 131072 % ((c : Int) + 1) = (l : Int) := ⟨x / 131072 % (c + 1), by simp⟩
  have hl : l ≤ c := by
    have := Int.emod_lt_of_pos ((x : Int) / 131072) (show (0 : Int) < (c : Int) + 1 by omega)
    omega
  have hwl : wrap64 (l : Int) = (l : Int) := by unfold wrap64; omega
  have hmk5 := make5 l c hl hc
  have c2 := hsys.kd.c2
  have f2 := hsys.kd.f 2
  have hDl := hsys.kd.lt
  have c2a : ∀ o, (wr.alloc o).cell? ⟨D, 2, none⟩ = some cv := fun o => (cell_blk (w := wr) (blk_old o hDl)).trans c2
  have c2b : ∀ o o', ((wr.alloc o).alloc o').cell? ⟨D, 2, none⟩ = some cv := fun o o' => (cell_blk (w := wr.alloc o) (blk_old o' (by simp; omega))).trans (c2a o)
  obtain ⟨i34, hi, hz0, hz1, hz2⟩ := info_parts Yba.info34
  obtain ⟨i3, hj, hy0, hy1, hy2⟩ := info_parts Yba.info3
  have hrowA : ((wr.alloc (.cells (madeCells #[.int .u8 0] c) 5)).alloc (.cells #[.slice (some ⟨wr.heap.size, 0, none⟩) l c] 34)).drew.ownsRow D 34 1 cv k ((List.range k).map (fun j => .slice (some ⟨gs j, 0, none⟩) (ls j) (cs j))) :=
    OwnF.kept (w := wr) hsys.kd.row (fun q hq => by have := (hsys.kd.row.at_block hq).2.1; exact (blk_old (w := wr.alloc _) _ (by simp; omega)).trans (blk_old _ this))
  have hnewsA : ∀ (j : Nat) (v : Value), [Value.slice (some ⟨wr.heap.size, 0, none⟩) l c][j]? = some v → ((wr.alloc (.cells (madeCells #[.int .u8 0] c) 5)).alloc (.cells #[.slice (some ⟨wr.heap.size, 0, none⟩) l c] 34)).drew.cell? ((⟨wr.heap.size + 1, 0, none⟩ : Addr).add j) = some v :=
    news_at (w := wr.alloc (.cells (madeCells #[.int .u8 0] c) 5)) (by simp) _ _
  have hrD : ∀ q, cv.ownBlock = some q → q ≠ D := fun q hq => (hsys.kd.apart.1 q hq).1
  have HS := hide hsys
  clear hsys
  have hlt' : (k : Int) < (n0 : Int) := by omega
  obtain ⟨m0, hm0⟩ : ∃ m0, mu1 n0 ⟨frame1 (.slice (some ⟨gA, oA, none⟩) n0 cap0) (.slice a1 n1 cap1) (.pointer (some ⟨D, 0, none⟩)) u6 u7 (.int .i64 (us : Int)) (.slice (some ⟨gA, oA, none⟩) n0 cap0) (.int .i64 (n0 : Int)) (.int .i64 (k : Int)) e, []⟩ wr = m0 := ⟨_, rfl⟩
  rw [hm0]
  have HM0 := hide hm0
  clear hm0
  generalize hG : (fun (a' : Act) (w' : World) => Inv1 w D n0 (.slice (some ⟨gA, oA, none⟩) n0 cap0) (.slice a1 n1 cap1) (.slice (some ⟨gA, oA, none⟩) n0 cap0) a' w' ∧ mu1 n0 a' w' < m0) = G
  have HG := hide hG
  clear hG
  conv => arg 2; whnf
  unfold frame1
  go_wp2
  go_region_law (show (if Region.wanted ⟨some 71, _, _, _, _, _⟩ _ = true then _ else _); refine step_append_lies (((wr.alloc (.cells (madeCells #[.int .u8 0] c) 5)).alloc (.cells #[.slice (some ⟨wr.heap.size, 0, none⟩) l c] 34)).drew) rfl (.tmp 66) (.tmp 70) 28 rfl D 34 i34 (.slice none 0 0) 1 24 Yba.underlying28 hi hz0 hz1 hz2 rfl (by decide) cv k _ rfl hrowA ⟨wr.heap.size + 1, 0, none⟩ 1 1 [.slice (some ⟨wr.heap.size, 0, none⟩) l c] rfl rfl hnewsA (fun u hu => by simp at hu; subst hu; rfl) (by decide) (by unfold maxLen; omega) (by omega) (by simp; omega) _ rfl ?_; intro g5 c5 w5 hown hgrow hat hlt5; have hh5 : w5.heap[D]? = wr.heap[D]? := (hgrow.block D (by simp; omega) (fun e => hrD D e.symm rfl)).trans ((blk_old (w := wr.alloc _) _ (by simp; omega)).trans (blk_old _ hDl)); have x2 := (cell_blk (i := 2) hh5).trans c2; have y2 := (free_blk (i := 2) hh5).trans f2)
  all_goals (
    have hsys5 := HS.out.push (w1 := ((wr.alloc (.cells (madeCells #[.int .u8 0] c) 5)).alloc (.cells #[.slice (some ⟨wr.heap.size, 0, none⟩) l c] 34)).drew) wr.heap.size l c rfl hl hc (Only.drew (((Only.refl _ wr).alloc (Nat.le_refl _) _).alloc (by simp) _)) (made_chunk wr l c _) hgrow hown
    generalize w5.setCell ⟨D, 2, none⟩ (.slice (some ⟨g5, 0, none⟩) (k + 1) c5) = wc at hsys5 ⊢
    clear hown hgrow hat hlt5 hh5 x2 y2 hrowA hnewsA hrD c2 f2 c2a c2b q0 hmk5
    have HS5 := hide hsys5
    have hDW : D < wc.heap.size := hsys5.kd.lt
    have hL := hsys5.lens
    clear hsys5
    go_wp2_with (first
          | (at_builtin; refine wpList_append_lies _ rfl (.tmp 74) (.tmp 76) 31 rfl D 3 i3 (.int .i64 0) 1 8 Yba.underlying31 hj hy0 hy1 hy2 rfl (by decide) u6 k _ rfl (World.ownsRow.alloc hL _) ⟨wc.heap.size, 0, none⟩ 1 1 [.int .i64 (l : Int)] rfl rfl (cell_one_new _ _ _) (fun u hu => by simp at hu; subst hu; rfl) (by decide) (by unfold maxLen; omega) (by omega) (by simp; omega) _ rfl ?_; intro g6 c6 w6 hown6 hgrow6 hat6 hlt6; have hsys6 := HS5.out.num hgrow6 hown6 rfl (by simpa using hat6); have HS6 := hide hsys6; have hL6 := hsys6.caps; have hD6 : D < w6.heap.size := hsys6.kd.lt; clear hown6 hgrow6 hat6 hsys6)
          | (at_builtin; refine wpList_append_lies _ rfl (.tmp 78) (.tmp 80) 31 rfl D 3 i3 (.int .i64 0) 1 8 Yba.underlying31 hj hy0 hy1 hy2 rfl (by decide) u7 k _ rfl (World.ownsRow.alloc hL6 _) ⟨w6.heap.size, 0, none⟩ 1 1 [.int .i64 (c : Int)] rfl rfl (cell_one_new _ _ _) (fun u hu => by simp at hu; subst hu; rfl) (by decide) (by unfold maxLen; omega) (by omega) (by simp; omega) _ rfl ?_; intro g7 c7 w7 hown7 hgrow7 hat7 hlt7; have HS7 := hide ((HS6.out.swap.num hgrow7 hown7 rfl (by simpa using hat7)).swap); clear hown7 hgrow7 hat7)))
  all_goals (
    rw [← HG.out]
    refine ⟨Inv1.of _ rfl rfl rfl rfl rfl rfl ⟨k + 1, us + l, _, _, _, _, by omega, by go_num, by go_num, by omega, HS7.out⟩, ?_⟩
    rw [← HM0.out]
    show n0 - (intOf (.int .i64 ((k : Int) + 1))).toNat < n0 - (intOf (.int .i64 (k : Int))).toNat
    simp [intOf]; omega)
end Go.Proofs.Ybulkbfyo
