/-
  OWN WORK. Walks: LawS2846AExact, LawS2846AClaimed.
-/
import Derived.Test.YbulkbfxmWalkA
namespace Go.Proofs.Ybulkbfxm
open Go.RowKit

set_option maxRecDepth 100000 in
set_option maxHeartbeats 1000000 in
theorem exact_any (a a' : Option Addr) (n cap n' cap' : Nat) (k : Int) (f f' : Nat → Int) (w : World) (hn : n ≤ 4096) (hn' : n' ≤ 4096) (ha : a = none → n = 0) (ha' : a' = none → n' = 0) (hr : Reads .i32 w a n f) (hr' : Reads .i32 w a' n' f') :
    Calls Yba.prog 3 #[.slice a n cap, .slice a' n' cap', .int .i32 k] w fun e w' => e = .returned (.bool true) ∧ Below w.heap.size w w' := by
  have h1' : decide ((4096 : Int) < (n : Int)) = false := by simp; omega
  have h2' : decide ((4096 : Int) < (n' : Int)) = false := by simp; omega
  have hra := hr
  have hra' := hr'
  go_enter Yba.func3, Yba.ntmps3
  go_wp2_with fail
  refine (clone_any a n cap f _ hn ha hr).mono ?_
  rintro e w1 ⟨b, c, rfl, hb, hm, hbg, hbel⟩
  go_wp2_with fail
  refine (clone_any a' n' cap' f' _ hn' ha' (hr'.kept hbel)).mono ?_
  rintro e w2 ⟨b', c', rfl, hb', hm', hbg', hbel'⟩
  have hz1 := hbel.size
  have hz2 := hbel'.size
  have hm2 : Mine w2 b n f := hm.kept (fun g hg => hbel'.block g (hbg g hg).2)
  have hrw2 : Reads .i32 w2 a n f := (hr.kept hbel).kept hbel'
  have hrw2' : Reads .i32 w2 a' n' f' := (hr'.kept hbel).kept hbel'
  have hbel2 : Below w.heap.size w w2 := hbel.trans (hbel'.mono hz1)
  have hg1 : ∀ g, b = some ⟨g, 0, none⟩ → w.heap.size ≤ g ∧ g < w2.heap.size := fun g hg => ⟨(hbg g hg).1, by have := (hbg g hg).2; omega⟩
  have hg2 : ∀ g, b' = some ⟨g, 0, none⟩ → g < w2.heap.size ∧ b ≠ some ⟨g, 0, none⟩ := fun g hg => ⟨(hbg' g hg).2, fun e => by have := (hbg g e).2; have := (hbg' g hg).1; omega⟩
  clear hm hbel hbel' hr hr' hbg hbg'
  go_wp2_with fail
  refine (unclaim_any w2.heap.size c n b f k _ hn (by simp) (fun g hg => by have := (hg1 g hg).2; omega) (hm2.kept (fun g hg => blk_old _ (hg1 g hg).2))).mono ?_
  rintro e w3 ⟨rfl, hm3, ho3⟩
  have hz3 := ho3.size
  simp only [World.size_alloc] at hz3
  have hix : w3.heap[w2.heap.size]? = some _ := (ho3.block w2.heap.size (fun e => by have := (hg1 _ e).2; omega)).trans (blk_new _ _)
  have c15 : w3.cell? ⟨w2.heap.size, 15, none⟩ = some (.slice b n c) := by rw [blk_cell hix]; rfl
  have c16 : w3.cell? ⟨w2.heap.size, 16, none⟩ = some (.slice b' n' c') := by rw [blk_cell hix]; rfl
  have hbel3 : Below w.heap.size w w3 := (hbel2.alloc hbel2.size _).trans (ho3.below (fun q hq e => by have := (hg1 q e).1; omega))
  have old3 : ∀ q, q < w.heap.size → w3.heap[q]? = w2.heap[q]? := fun q hq => (hbel3.block q hq).trans (hbel2.block q hq).symm
  have hm3' : Mine w3 b' n' f' := hm'.kept (fun g hg => (ho3.block g (hg2 g hg).2).trans (blk_old _ (hg2 g hg).1))
  have hrd : Reads .i32 w3 a n f := hra.kept hbel3
  have hrd' : Reads .i32 w3 a' n' f' := hra'.kept hbel3
  have hrb' := hm3'.reads
  have hnn : ((n' : Int) != (n' : Int)) = false := by simp
  clear hix hm' hm2 hrw2 hrw2' hg1 hg2 ho3 old3 hm3' hra hra'
  go_wp2_with (go_at_call 7; refine (check_any a b _ _ n f k _ hn hb hrd hm3.reads).mono ?_; rintro e w4 ⟨rfl, rfl⟩)
  go_loopw [10] (fun q wr => ∃ i d : Nat, i ≤ n' ∧ q = .int .i64 i ∧ wr = w4.drewN d) (fun q _ => n' - (intOf q).toNat)
  case atStart => exact ⟨0, 0, Nat.zero_le _, rfl, rfl⟩
  case round =>
    obtain ⟨i, d, hi, rfl, rfl⟩ := hrel
    by_cases hin : i < n'
    · obtain ⟨g1, o1, rfl, q1⟩ := hrd' i hin
      obtain ⟨g2, o2, rfl, q2⟩ := hrb' i hin
      have hi0 : (0 : Int) ≤ (i : Int) := by omega
      have hin' : (i : Int) < (n' : Int) := by omega
      have hff : (f' i != f' i) = false := by simp
      go_wp2
      go_quiet (fail)
      go_wp2
      go_roundw
      case rel => exact ⟨i + 1, _, by omega, by go_num, by simp [World.drewN]; rfl⟩
      case measure => simp [intOf]; omega
    · go_wp2
      go_ret
      exact ⟨rfl, below_drewN hbel3 _⟩

set_option maxRecDepth 100000 in
set_option maxHeartbeats 1000000 in
theorem exact_big (a a' : Option Addr) (n cap n' cap' : Nat) (k : Int) (w : World) (hbig : 4096 < n ∨ 4096 < n') :
    Calls Yba.prog 3 #[.slice a n cap, .slice a' n' cap', .int .i32 k] w fun e w' => e = .returned (.bool true) ∧ Below w.heap.size w w' := by
  by_cases h1 : 4096 < n
  · have h1' : decide ((4096 : Int) < (n : Int)) = true := by simp; omega
    go_enter Yba.func3, Yba.ntmps3
    go_wp2
    go_ret
    exact ⟨rfl, Below.refl _ _⟩
  · have h1' : decide ((4096 : Int) < (n : Int)) = false := by simp; omega
    have h2' : decide ((4096 : Int) < (n' : Int)) = true := by simp; omega
    go_enter Yba.func3, Yba.ntmps3
    go_wp2
    go_ret
    exact ⟨rfl, Below.refl _ _⟩

theorem unc_unc (k : Int) (f : Nat → Int) (j : Nat) : unc k (unc k f) j = unc k f j := by
  by_cases h : f j = k
  · have e : unc k f j = -1 := by simp [unc, h]
    show (if unc k f j = k then -1 else unc k f j) = unc k f j
    rw [e]; split <;> rfl
  · have e : unc k f j = f j := by simp [unc, h]
    show (if unc k f j = k then -1 else unc k f j) = unc k f j
    rw [e, if_neg h]
theorem unc_not (k : Int) (f : Nat → Int) (j : Nat) : unc k f j = k → k = -1 := by
  unfold unc; split
  · exact fun h => h.symm
  · intro h; exact absurd h (by assumption)

set_option maxRecDepth 100000 in
set_option maxHeartbeats 1000000 in
theorem claimed_some (g0 o0 n cap : Nat) (s : Int) (f : Nat → Int) (w : World) (hn : n ≤ 4096) (h0 : 0 < n) (hs0 : 0 ≤ s) (hs1 : s < 65536) (hr : Reads .i32 w (some ⟨g0, o0, none⟩) n f) :
    Calls Yba.prog 4 #[.slice (some ⟨g0, o0, none⟩) n cap, .int .u16 s] w fun e w' => e = .returned (.bool true) ∧ Below w.heap.size w w' := by
  have h1' : ¬ (4096 : Int) < (n : Int) := by omega
  have h2' : ((n : Int) == 0) = false := by simp; omega
  have hn0 : (0 : Int) < (n : Int) := by omega
  have hm0 := Int.emod_nonneg s (show (n : Int) ≠ 0 by omega)
  have hm1 := Int.emod_lt_of_pos s hn0
  obtain ⟨j, hj⟩ := Int.eq_ofNat_of_zero_le hm0
  have hjn : j < n := by omega
  obtain ⟨_, _, hx, hcell⟩ := hr j hjn
  simp only [Option.some.injEq, Addr.mk.injEq, and_true] at hx
  obtain ⟨rfl, rfl⟩ := hx
  have hra := hr
  generalize hk : f j = k at hcell
  go_enter Yba.func4, Yba.ntmps4
  go_wp2_with fail
  refine (clone_any (some ⟨g0, o0, none⟩) n cap f _ hn (fun h => by cases h) hr).mono ?_
  rintro e w1 ⟨b, c, rfl, hb, hm, hbg, hbel⟩
  have hz1 := hbel.size
  rcases hm with ⟨_, hbad⟩ | ⟨gB, rfl, hrow⟩
  · omega
  obtain ⟨hB0, hB1⟩ := hbg gB rfl
  clear hbg hr
  go_wp2_with fail
  refine (unclaim_some w1.heap.size c gB n f k _ hn (by simp) (by omega) (hrow.of_block (blk_old _ hB1))).mono ?_
  rintro e w2 ⟨rfl, hrow2, ho2⟩
  have hz2 := ho2.size
  simp only [World.size_alloc] at hz2
  have hix : w2.heap[w1.heap.size]? = some _ := (ho2.block w1.heap.size (by omega)).trans (blk_new _ _)
  have c15 : w2.cell? ⟨w1.heap.size, 15, none⟩ = some (.slice (some ⟨gB, 0, none⟩) n c) := by rw [blk_cell hix]; rfl
  have hbel2 : Below w.heap.size w w2 := (hbel.alloc hbel.size _).trans (ho2.below (fun q hq e => by omega))
  have hrd : Reads .i32 w2 (some ⟨g0, o0, none⟩) n f := hra.kept hbel2
  have hrdB : Reads .i32 w2 (some ⟨gB, 0, none⟩) n (unc k f) := fun j hj => ⟨gB, 0, rfl, by rw [Nat.zero_add]; exact hrow2.cell j hj⟩
  clear hrow ho2 hbel
  go_wp2_with (go_at_call 7; refine (check_any (some ⟨g0, o0, none⟩) (some ⟨gB, 0, none⟩) _ _ n f k _ hn rfl hrd hrdB).mono ?_; rintro e w3 ⟨rfl, rfl⟩)
  go_loop [8] (fun q => ∃ i : Nat, i ≤ n ∧ q = .int .i64 i) (fun q => n - (intOf q).toNat)
  case atStart => exact ⟨0, Nat.zero_le _, rfl⟩
  case round =>
    obtain ⟨i, hi, rfl⟩ := hrel
    by_cases hin : i < n
    · have q1 := hrow2.cell i hin
      by_cases he : unc k f i = k
      · have hk1 := unc_not k f i he
        have e1 : (unc k f i == k) = true := by simp [he]
        have e2 : (k != -1) = false := by simp [hk1]
        clear he hk1
        go_wp2
        go_round
        case rel => exact ⟨i + 1, by omega, by go_num⟩
        case measure => simp [intOf]; omega
      · have e1 : (unc k f i == k) = false := by simp [he]
        clear he
        go_wp2
        go_round
        case rel => exact ⟨i + 1, by omega, by go_num⟩
        case measure => simp [intOf]; omega
    · have HR2 := hide hrow2
      have HRD := hide hrd
      clear hrow2 hrd hrdB
      go_wp2_with fail
      refine (unclaim_some w1.heap.size c gB n (unc k f) k _ hn c15 (by omega) HR2.out).mono ?_
      rintro e w4 ⟨rfl, hrow4, ho4⟩
      have d15 : w4.cell? ⟨w1.heap.size, 15, none⟩ = some (.slice (some ⟨gB, 0, none⟩) n c) := (cell_blk (ho4.block _ (by omega))).trans c15
      have hbel4 : Below w.heap.size w w4 := hbel2.trans (ho4.below (fun q hq e => by omega))
      have hrd4 : Reads .i32 w4 (some ⟨g0, o0, none⟩) n f := hra.kept hbel4
      have hrdB4 : Reads .i32 w4 (some ⟨gB, 0, none⟩) n (unc k f) := fun j hj => ⟨gB, 0, rfl, by rw [Nat.zero_add, hrow4.cell j hj, unc_unc]⟩
      go_wp2_with (go_at_call 7; refine (check_any (some ⟨g0, o0, none⟩) (some ⟨gB, 0, none⟩) _ _ n f k _ hn rfl hrd4 hrdB4).mono ?_; rintro e w5 ⟨rfl, rfl⟩)
      go_ret
      exact ⟨rfl, hbel4⟩

set_option maxRecDepth 100000 in
set_option maxHeartbeats 1000000 in
theorem claimed_short (a : Option Addr) (n cap : Nat) (s : Int) (w : World) (h : 4096 < n ∨ n = 0) :
    Calls Yba.prog 4 #[.slice a n cap, .int .u16 s] w fun e w' => e = .returned (.bool true) ∧ Below w.heap.size w w' := by
  rcases h with h | rfl
  · have h1' : (4096 : Int) < (n : Int) := by omega
    go_enter Yba.func4, Yba.ntmps4
    go_wp2
    go_ret
    exact ⟨rfl, Below.refl _ _⟩
  · go_enter Yba.func4, Yba.ntmps4
    go_wp2
    go_ret
    exact ⟨rfl, Below.refl _ _⟩
end Go.Proofs.Ybulkbfxm
