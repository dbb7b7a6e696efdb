/-
  OWN WORK. Walks: zzs2846aclone, unclaimAll, zzs2846acheck.
-/
import Derived.Test.YbulkbfxmProg
import Derived.Test.YbulkbfxmBase
import Derived.WalkLawsBesides
import Derived.BigQuiet
import Derived.Deep.QuietTactic
import Derived.Deep.Light
namespace Go.Proofs.Ybulkbfxm
open Go.RowKit

theorem hide {p : Prop} (h : p) : Hid p := h
theorem cell_blk {w w' : World} {b i : Nat} (h : w'.heap[b]? = w.heap[b]?) : w'.cell? ⟨b, i, none⟩ = w.cell? ⟨b, i, none⟩ := World.cell?_of_block (a := ⟨b, i, none⟩) h

theorem Yba.info21 : (Yba.prog.info? 21).map (fun i => (i.zero, i.size, i.bytes)) = some (some (.int .i32 0), 1, 4) := by kernel_rfl
theorem Yba.size21 : (Yba.prog.info? 21).map (·.size) = some 1 := by kernel_rfl
theorem make21 (n : Nat) (hn : n ≤ 4096) : ∀ w : World, (Instr.makeSlice 22 (.int .i64 n) (.int .i64 n)).run Yba.prog w = .ok (.slice (some ⟨w.heap.size, 0, none⟩) n n) (w.alloc (.cells (madeCells #[.int .i32 0] n) 21)) := fun w => by
  obtain ⟨i, hi, hz0, hz1, hz2⟩ := info_parts Yba.info21
  have := run_make (P := Yba.prog) w 22 21 i (.int .i32 0) Yba.underlying22 hi hz0 .i64 .i64 n n (by omega) (by omega) (by rw [hz2]; omega) (by omega)
  simpa [hz1, Value.cells] using this
theorem eql22 (a : Option Addr) (n c : Nat) (w : World) : (binOp .eql 22 (.slice a n c) (.slice none 0 0)).run Yba.prog w = .ok (.bool a.isNone) w := Lib.run_eql_slice_nil w 22 21 a n c 0 0 Yba.underlying22

/-- The numbers with every k turned into -1. -/
def unc (k : Int) (f : Nat → Int) (j : Nat) : Int := if f j = k then -1 else f j
/-- A slice of the call's own (or nil): n numbers f. -/
def Mine (w : World) (b : Option Addr) (n : Nat) (f : Nat → Int) : Prop := (b = none ∧ n = 0) ∨ ∃ g, b = some ⟨g, 0, none⟩ ∧ Row .i32 21 w g n f
theorem Mine.kept {w w' : World} {b : Option Addr} {n : Nat} {f : Nat → Int} (h : Mine w b n f) (hb : ∀ g, b = some ⟨g, 0, none⟩ → w'.heap[g]? = w.heap[g]?) : Mine w' b n f := by
  rcases h with h | ⟨g, h1, h2⟩
  · exact .inl h
  · exact .inr ⟨g, h1, h2.of_block (hb g h1)⟩
theorem Mine.reads {w : World} {b : Option Addr} {n : Nat} {f : Nat → Int} (h : Mine w b n f) : Reads .i32 w b n f := fun j hj => by
  rcases h with ⟨_, h⟩ | ⟨g, h1, h2⟩
  · omega
  · exact ⟨g, 0, h1, by rw [Nat.zero_add]; exact h2.cell j hj⟩
theorem Mine.congr {w : World} {b : Option Addr} {n : Nat} {f f' : Nat → Int} (h : Mine w b n f) (he : ∀ j, j < n → f j = f' j) : Mine w b n f' := by
  rcases h with h | ⟨g, h1, h2⟩
  · exact .inl h
  · exact .inr ⟨g, h1, h2.congr he⟩

/-- What clone leaves. -/
def CloneOut (a : Option Addr) (n : Nat) (f : Nat → Int) (w : World) (e : Ending) (w' : World) : Prop := ∃ b c, e = .returned (.slice b n c) ∧ b.isNone = a.isNone ∧ Mine w' b n f ∧ (∀ g, b = some ⟨g, 0, none⟩ → w.heap.size ≤ g ∧ g < w'.heap.size) ∧ Below w.heap.size w w'

set_option maxHeartbeats 400000 in
theorem clone_any (a : Option Addr) (n cap : Nat) (f : Nat → Int) (w : World) (hn : n ≤ 4096) (ha : a = none → n = 0) (hr : Reads .i32 w a n f) :
    Calls Yba.prog 5 #[.slice a n cap] w (CloneOut a n f w) := by
  have h0 := eql22
  cases a with
  | none =>
    obtain rfl : n = 0 := ha rfl
    go_enter Yba.func5, Yba.ntmps5
    go_wp2
    go_ret
    exact ⟨none, 0, rfl, rfl, .inl ⟨rfl, rfl⟩, (fun g hg => by cases hg), Below.refl _ _⟩
  | some x =>
    have hmk := make21 n hn
    obtain ⟨w1, hcp, hrow, honly⟩ := copy_whole (P := Yba.prog) (w.alloc (.cells (madeCells #[.int .i32 0] n) 21)) 22 3 21 Yba.underlying22 Yba.size21 w.heap.size n cap (some x) f _ 21 (blk_new _ _) (size_madeCells _ _) (hr.kept ((Below.refl _ _).alloc (Nat.le_refl _) _))
    have HR := hide hrow
    have HO := hide honly
    clear hrow honly hr
    go_enter Yba.func5, Yba.ntmps5
    go_wp2
    go_ret
    refine ⟨some ⟨w.heap.size, 0, none⟩, n, rfl, rfl, .inr ⟨_, rfl, HR.out⟩, fun g hg => ?_, ((Below.refl w.heap.size w).alloc (Nat.le_refl _) _).trans (HO.out.below (fun k hk => by omega))⟩
    simp only [Option.some.injEq, Addr.mk.injEq, and_true] at hg
    have := HR.out.lt
    omega

set_option maxHeartbeats 400000 in
theorem unclaim_zero (ix c : Nat) (b : Option Addr) (k : Int) (w : World) (hix : w.cell? ⟨ix, 15, none⟩ = some (.slice b 0 c)) :
    Calls Yba.prog 6 #[.pointer (some ⟨ix, 0, none⟩), .int .i32 k] w fun e w' => e = .returned (.tuple #[]) ∧ w' = w := by
  go_enter Yba.func6, Yba.ntmps6
  go_wp2
  go_loop [11] (fun i => i = .int .i64 0) (fun i => (intOf i).toNat)
  case atStart => rfl
  case round =>
    subst hrel
    go_wp2
    go_end0
    exact ⟨rfl, rfl⟩

/-- The numbers after i rounds. -/
def mid (k : Int) (f : Nat → Int) (i j : Nat) : Int := if j < i then unc k f j else f j

set_option maxHeartbeats 400000 in
theorem unclaim_some (ix c g n : Nat) (f : Nat → Int) (k : Int) (w : World) (hn : n ≤ 4096) (hix : w.cell? ⟨ix, 15, none⟩ = some (.slice (some ⟨g, 0, none⟩) n c)) (hne : ix ≠ g) (hrow : Row .i32 21 w g n f) :
    Calls Yba.prog 6 #[.pointer (some ⟨ix, 0, none⟩), .int .i32 k] w fun e w' => e = .returned (.tuple #[]) ∧ Row .i32 21 w' g n (unc k f) ∧ Only (fun q => q = g) w w' := by
  go_enter Yba.func6, Yba.ntmps6
  go_wp2
  go_loopw [11] (fun q wr => ∃ i : Nat, i ≤ n ∧ q = .int .i64 i ∧ Row .i32 21 wr g n (mid k f i) ∧ Only (fun q => q = g) w wr) (fun q _ => n - (intOf q).toNat)
  case atStart => exact ⟨0, Nat.zero_le _, rfl, hrow.congr (fun j _ => by simp [mid]), Only.refl _ _⟩
  case round =>
    obtain ⟨i, hi, rfl, hr, ho⟩ := hrel
    have hixr : wr.cell? ⟨ix, 15, none⟩ = some (.slice (some ⟨g, 0, none⟩) n c) := (cell_blk (ho.block ix hne)).trans hix
    by_cases hin : i < n
    · have q1 : wr.cell? ⟨g, i, none⟩ = some (.int .i32 (f i)) := by rw [hr.cell i hin]; simp [mid]
      have q2 := hr.free i
      by_cases he : f i = k
      · have he' : (f i == k) = true := by simp [he]
        have HR : Hid (Row .i32 21 (wr.setCell ⟨g, i, none⟩ (.int .i32 (-1))) g n (mid k f (i + 1))) := hr.set i (-1) (fun _ => by simp [mid, unc, he]) (fun j _ hj => by
          unfold mid
          by_cases h1 : j < i
          · rw [if_pos h1, if_pos (by omega)]
          · rw [if_neg h1, if_neg (by omega)])
        clear he
        go_wp2
        go_roundw
        case rel => exact ⟨i + 1, by omega, by go_num, HR.out, ho.setCell (p := ⟨g, i, none⟩) rfl _⟩
        case measure => simp [intOf]; omega
      · have he' : (f i == k) = false := by simp [he]
        have HR : Hid (Row .i32 21 wr g n (mid k f (i + 1))) := hr.congr (fun j _ => by
          unfold mid
          by_cases h1 : j < i
          · rw [if_pos h1, if_pos (by omega)]
          · by_cases h2 : j = i
            · subst h2; rw [if_neg h1, if_pos (by omega), unc, if_neg he]
            · rw [if_neg h1, if_neg (by omega)])
        clear he
        go_wp2
        go_roundw
        case rel => exact ⟨i + 1, by omega, by go_num, HR.out, ho⟩
        case measure => simp [intOf]; omega
    · have HR : Hid (Row .i32 21 wr g n (unc k f)) := hr.congr (fun j hj => by unfold mid; rw [if_pos (by omega)])
      go_wp2
      go_end0
      exact ⟨rfl, HR.out, ho⟩

theorem unclaim_any (ix c n : Nat) (b : Option Addr) (f : Nat → Int) (k : Int) (w : World) (hn : n ≤ 4096) (hix : w.cell? ⟨ix, 15, none⟩ = some (.slice b n c)) (hne : ∀ g, b = some ⟨g, 0, none⟩ → ix ≠ g) (hm : Mine w b n f) :
    Calls Yba.prog 6 #[.pointer (some ⟨ix, 0, none⟩), .int .i32 k] w fun e w' => e = .returned (.tuple #[]) ∧ Mine w' b n (unc k f) ∧ Only (fun q => b = some ⟨q, 0, none⟩) w w' := by
  rcases hm with ⟨rfl, rfl⟩ | ⟨g, rfl, hr⟩
  · refine (unclaim_zero ix c none k w hix).mono ?_
    rintro e w' ⟨rfl, rfl⟩
    exact ⟨rfl, .inl ⟨rfl, rfl⟩, Only.refl _ _⟩
  · refine (unclaim_some ix c g n f k w hn hix (hne g rfl) hr).mono ?_
    rintro e w' ⟨rfl, h1, h2⟩
    exact ⟨rfl, .inr ⟨g, rfl, h1⟩, h2.mono fun q hq => by rw [hq]⟩

set_option maxHeartbeats 400000 in
theorem check_zero (a b : Option Addr) (ca cb : Nat) (k : Int) (w : World) (hab : b.isNone = a.isNone) :
    Calls Yba.prog 7 #[.slice a 0 ca, .slice b 0 cb, .int .i32 k] w fun e w' => e = .returned (.bool true) ∧ w' = w := by
  have h0 := eql22
  have h1 : (a.isNone != a.isNone) = false := by simp
  have h2 : (a.isNone == a.isNone) = true := by simp
  go_enter Yba.func7, Yba.ntmps7
  go_wp2
  go_loop [7] (fun i => i = .int .i64 0) (fun i => (intOf i).toNat)
  case atStart => rfl
  case round =>
    subst hrel
    go_wp2
    go_ret
    exact ⟨rfl, rfl⟩

set_option maxHeartbeats 1000000 in
theorem check_some (ga oa ca gb ob cb n : Nat) (f : Nat → Int) (k : Int) (w : World) (hn : n ≤ 4096) (h1 : ∀ j, j < n → w.cell? ⟨ga, oa + j, none⟩ = some (.int .i32 (f j))) (h2 : ∀ j, j < n → w.cell? ⟨gb, ob + j, none⟩ = some (.int .i32 (unc k f j))) :
    Calls Yba.prog 7 #[.slice (some ⟨ga, oa, none⟩) n ca, .slice (some ⟨gb, ob, none⟩) n cb, .int .i32 k] w fun e w' => e = .returned (.bool true) ∧ w' = w := by
  have h0 := eql22
  have H2 := hide h2
  clear h2
  have hnn : ((n : Int) != (n : Int)) = false := by simp
  go_enter Yba.func7, Yba.ntmps7
  go_wp2
  go_loop [7] (fun q => ∃ i : Nat, i ≤ n ∧ q = .int .i64 i) (fun q => n - (intOf q).toNat)
  case atStart => exact ⟨0, Nat.zero_le _, rfl⟩
  case round =>
    obtain ⟨i, hi, rfl⟩ := hrel
    by_cases hin : i < n
    · have q1 := h1 i hin
      have q2 := H2.out i hin
      by_cases he : f i = k
      · have he' : (f i == k) = true := by simp [he]
        have e1 : unc k f i = -1 := by simp [unc, he]
        rw [e1] at q2
        clear he e1
        go_wp2
        go_round
        case rel => exact ⟨i + 1, by omega, by go_num⟩
        case measure => simp [intOf]; omega
      · have he' : (f i == k) = false := by simp [he]
        have e1 : unc k f i = f i := by simp [unc, he]
        rw [e1] at q2
        have e2 : (f i != f i) = false := by simp
        clear he e1
        go_wp2
        go_round
        case rel => exact ⟨i + 1, by omega, by go_num⟩
        case measure => simp [intOf]; omega
    · go_wp2
      go_ret
      exact ⟨rfl, rfl⟩

theorem check_any (a b : Option Addr) (ca cb n : Nat) (f : Nat → Int) (k : Int) (w : World) (hn : n ≤ 4096) (hab : b.isNone = a.isNone) (ha : Reads .i32 w a n f) (hb : Reads .i32 w b n (unc k f)) :
    Calls Yba.prog 7 #[.slice a n ca, .slice b n cb, .int .i32 k] w fun e w' => e = .returned (.bool true) ∧ w' = w := by
  rcases Nat.eq_zero_or_pos n with h0 | h0
  · subst h0
    exact check_zero a b ca cb k w hab
  · obtain ⟨ga, oa, rfl, h1⟩ := ha.split h0
    obtain ⟨gb, ob, rfl, h2⟩ := hb.split h0
    exact check_some ga oa ca gb ob cb n f k w hn h1 h2
end Go.Proofs.Ybulkbfxm
