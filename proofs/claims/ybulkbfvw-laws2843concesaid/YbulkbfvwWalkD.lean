/-
  OWN WORK. Walks: zzs2843cspread, zzs2843cequal.
-/
import Derived.Test.YbulkbfvwWalkC
namespace Go.Proofs.Ybulkbfvw
open Go.RowKit

theorem own_cell' {w : World} {base : Nat} {v : Value} {bl : List Int} (h : w.ownsRow base 24 1 v bl.length (bl.map (Value.int .u64))) (hp : 0 < bl.length) : ∃ g cap, v = .slice (some ⟨g, 0, none⟩) bl.length cap ∧ base ≤ g ∧ ∀ j, j < bl.length → w.cell? ⟨g, j, none⟩ = some (.int .u64 (at0 bl j)) := by
  obtain ⟨g, cap, rfl, h1, _⟩ := h.form hp
  refine ⟨g, cap, rfl, h1, fun j hj => ?_⟩
  have := own_cell h j hj
  rwa [Nat.zero_add] at this

theorem own_form {w : World} {base : Nat} {v : Value} {n : Nat} {xs : List Value} (h : w.ownsRow base 24 1 v n xs) : ∃ a cap, v = .slice a n cap ∧ ∀ k, v.ownBlock = some k → base ≤ k := by
  refine h.2.elim (fun ⟨h1, h2⟩ => ⟨none, 0, ?_, fun k hk => (h.lt k hk).1⟩) (fun ⟨g, cap, _, h1, _⟩ => ⟨_, _, h1, fun k hk => (h.lt k hk).1⟩)
  subst h2; exact h1

set_option maxHeartbeats 1000000 in
theorem cspread_some (g0 o n cap0 : Nat) (bs : Int) (f : Nat → Int) (w : World) (hn : n ≤ 1024)
    (hc : ∀ j, j < n → w.cell? ⟨g0, o + j, none⟩ = some (.int .u64 (f j))) (hg0 : 0 < n → g0 < w.heap.size) (hf : ∀ j, 0 ≤ f j ∧ f j < 18446744073709551616) (hbs : 1 ≤ bs) :
    Calls Yba.prog 8 #[.slice (some ⟨g0, o, none⟩) n cap0, .int .u64 bs] w fun e w' => e = .returned (.bool (spr f bs n 0 [])) ∧ Below w.heap.size w w' := by
  obtain ⟨i24, hi, hz0, hz1, hz2⟩ := info_parts Yba.info24
  go_enter Yba.func8, Yba.ntmps8
  go_wp2
  go_loopw [5, 14] (fun v i wr => ∃ (k : Nat) (bl : List Int), k ≤ n ∧ i = .int .i64 k ∧ wr.ownsRow w.heap.size 24 1 v bl.length (bl.map (Value.int .u64)) ∧ bl.length ≤ 2 ∧ Hid (spr f bs n 0 [] = spr f bs (n - k) k bl) ∧ Below w.heap.size w wr) (fun _ i _ => n - (intOf i).toNat)
  case atStart => exact ⟨0, [], Nat.zero_le _, rfl, World.ownsRow_nil _ _ _ _, by decide, rfl, Below.refl _ _⟩
  case round =>
    obtain ⟨k, bl, hk, rfl, hown, hbl, H, hb⟩ := hrel
    by_cases hlt : k < n
    · have q1 : wr.cell? ⟨g0, o + k, none⟩ = some (.int .u64 (f k)) := (hb.cell (p := ⟨g0, o + k, none⟩) (hg0 (by omega))).trans (hc k hlt)
      obtain ⟨f0, f1⟩ := hf k
      obtain ⟨a, cap, rfl, hbase⟩ := own_form hown
      have hsz := hb.size
      go_wp2
      go_loop [9, 23] (fun fd j => ∃ m : Nat, m ≤ bl.length ∧ j = .int .i64 m ∧ fd = .bool false ∧ Hid (idx (at0 bl) (f k / bs) bl.length 0 = idx (at0 bl) (f k / bs) (bl.length - m) m)) (fun _ j => bl.length - (intOf j).toNat)
      case atStart => exact ⟨0, Nat.zero_le _, rfl, rfl, rfl⟩
      case round =>
        obtain ⟨m, hm, rfl, rfl, HI⟩ := hrel
        by_cases hlm : m < bl.length
        · obtain ⟨g, cap', hv, hge, hcl⟩ := own_cell' hown (by omega)
          obtain ⟨rfl, rfl⟩ : a = some ⟨g, 0, none⟩ ∧ cap' = cap := by simp only [Value.slice.injEq] at hv; exact ⟨hv.1, hv.2.2.symm⟩
          clear hv
          have q2 := hcl m hlm
          by_cases he : f k / bs = at0 bl m
          · have hh : has bl (f k / bs) = true := by
              have h := HI.out.trans (idx_hit (by omega) he)
              unfold has; rw [h]; simp
            have HE : Hid (spr f bs n 0 [] = spr f bs (n - (k + 1)) (k + 1) bl) := H.out.trans (by rw [spr_has (by omega) hh, Nat.sub_sub])
            have he' : (at0 bl m == f k / bs) = true := by simp [he]
            clear he hh
            go_wp2
            go_roundw
            case rel => exact ⟨k + 1, bl, by omega, by go_num, hown, hbl, HE, hb⟩
            case measure => simp [intOf]; omega
          · have HE : Hid (idx (at0 bl) (f k / bs) bl.length 0 = idx (at0 bl) (f k / bs) (bl.length - (m + 1)) (m + 1)) := HI.out.trans (by rw [idx_miss (by omega) he, Nat.sub_sub])
            have he' : (at0 bl m == f k / bs) = false := by simp; exact fun h => he h.symm
            clear he
            go_wp2
            go_round
            case rel => exact ⟨m + 1, by omega, by go_num, rfl, HE⟩
            case measure => simp [intOf]; omega
        · have hh : has bl (f k / bs) = false := by
            have h := HI.out
            rw [show bl.length - m = 0 by omega] at h
            unfold has; rw [h]; simp [idx]
          by_cases h2 : bl.length = 2
          · have HE : Hid (spr f bs n 0 [] = true) := H.out.trans (spr_full (by omega) hh h2)
            clear hh
            go_wp2_with (at_builtin; refine wpList_append_lies _ rfl (.tmp 33) (.tmp 35) 22 rfl w.heap.size 24 i24 (.int .u64 0) 1 8 Yba.underlying22 hi hz0 hz1 hz2 rfl (by decide) (.slice a bl.length cap) bl.length _ rfl (hown.alloc _) ⟨wr.heap.size, 0, none⟩ 1 1 [.int .u64 (f k / bs)] rfl rfl (cell_one_new _ _ _) (ints_one [f k / bs]) (by decide) (by unfold maxLen; omega) (by omega) (by simp; omega) _ rfl ?_; intro g' cap' w1 hown1 hgrow hat hlt1)
            have hbn : Below w.heap.size w w1 := (hb.alloc hsz _).grown hgrow (by simp; omega) (fun q hq => hbase q hq)
            go_ret
            exact ⟨ret_bool HE.out.symm, hbn⟩
          · have HE : Hid (spr f bs n 0 [] = spr f bs (n - (k + 1)) (k + 1) (bl ++ [f k / bs])) := H.out.trans (by rw [spr_more (by omega) hh h2, Nat.sub_sub])
            have h2' : bl.length < 2 := by omega
            clear hh h2
            go_wp2_with (at_builtin; refine wpList_append_lies _ rfl (.tmp 33) (.tmp 35) 22 rfl w.heap.size 24 i24 (.int .u64 0) 1 8 Yba.underlying22 hi hz0 hz1 hz2 rfl (by decide) (.slice a bl.length cap) bl.length _ rfl (hown.alloc _) ⟨wr.heap.size, 0, none⟩ 1 1 [.int .u64 (f k / bs)] rfl rfl (cell_one_new _ _ _) (ints_one [f k / bs]) (by decide) (by unfold maxLen; omega) (by omega) (by simp; omega) _ rfl ?_; intro g' cap' w1 hown1 hgrow hat hlt1)
            have hbn : Below w.heap.size w w1 := (hb.alloc hsz _).grown hgrow (by simp; omega) (fun q hq => hbase q hq)
            go_roundw
            case rel => exact ⟨k + 1, bl ++ [f k / bs], by omega, by go_num, by simpa using hown1, by simp; omega, HE, hbn⟩
            case measure => simp [intOf]; omega
    · have HE : Hid (spr f bs n 0 [] = false) := by
        have h := H.out
        rw [show n - k = 0 by omega] at h
        exact h
      go_wp2
      go_ret
      exact ⟨ret_bool HE.out.symm, hb⟩

set_option maxHeartbeats 400000 in
theorem cspread_zero (a : Option Addr) (cap0 : Nat) (bs : Int) (f : Nat → Int) (w : World) :
    Calls Yba.prog 8 #[.slice a 0 cap0, .int .u64 bs] w fun e w' => e = .returned (.bool (spr f bs 0 0 [])) ∧ Below w.heap.size w w' := by
  go_enter Yba.func8, Yba.ntmps8
  go_wp2
  go_loop [5, 14] (fun v i => i = .int .i64 0) (fun _ i => (intOf i).toNat)
  case atStart => rfl
  case round =>
    subst hrel
    go_wp2
    go_ret
    exact ⟨rfl, Below.refl _ _⟩

theorem cspread_any (a : Option Addr) (n cap0 : Nat) (bs : Int) (f : Nat → Int) (w : World) (hn : n ≤ 1024) (hr : Reads .u64 w a n f) (hf : ∀ j, 0 ≤ f j ∧ f j < 18446744073709551616) (hbs : 1 ≤ bs) :
    Calls Yba.prog 8 #[.slice a n cap0, .int .u64 bs] w fun e w' => e = .returned (.bool (spr f bs n 0 [])) ∧ Below w.heap.size w w' := by
  rcases Nat.eq_zero_or_pos n with h0 | h0
  · subst h0
    exact cspread_zero a cap0 bs f w
  · obtain ⟨g, o, rfl, hc⟩ := hr.split h0
    exact cspread_some g o n cap0 bs f w hn hc (fun _ => World.block_lt_of_cell? w _ (hc 0 h0)) hf hbs

set_option maxHeartbeats 400000 in
theorem equal_zero (a b : Option Addr) (c1 c2 : Nat) (w : World) :
    Calls Yba.prog 9 #[.slice a 0 c1, .slice b 0 c2] w fun e w' => e = .returned (.bool true) ∧ Below w.heap.size w w' := by
  go_enter Yba.func9, Yba.ntmps9
  go_wp2
  go_loop [13] (fun i => i = .int .i64 0) (fun i => (intOf i).toNat)
  case atStart => rfl
  case round =>
    subst hrel
    go_wp2
    go_ret
    exact ⟨rfl, Below.refl _ _⟩

theorem equal_any (a b : Option Addr) (c1 c2 n : Nat) (f : Nat → Int) (w : World) (hn : n ≤ 1024) (ha : Reads .u64 w a n f) (hb : Reads .u64 w b n f) :
    Calls Yba.prog 9 #[.slice a n c1, .slice b n c2] w fun e w' => e = .returned (.bool true) ∧ Below w.heap.size w w' := by
  rcases Nat.eq_zero_or_pos n with h0 | h0
  · subst h0
    exact equal_zero a b c1 c2 w
  · obtain ⟨g, o, rfl, hc⟩ := ha.split h0
    obtain ⟨g', o', rfl, hc'⟩ := hb.split h0
    exact equal_some g o c1 g' o' c2 n f w (by omega) hc hc'
end Go.Proofs.Ybulkbfvw
