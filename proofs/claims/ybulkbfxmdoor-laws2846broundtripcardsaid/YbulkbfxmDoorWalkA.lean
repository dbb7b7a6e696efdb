/-
  OWN WORK. Walks: slices.Equal, DecodeOffset over bytes that AppendOffset wrote.
-/
import Derived.Test.YbulkbfxmDoorPlain
import Derived.BigQuiet
import Derived.Deep.QuietTactic
import Derived.Deep.Light
namespace Go.Proofs.YbulkbfxmDoor
open Go.RowKit

theorem below_drewN {N : Nat} {W w : World} (h : Below N W w) (m : Nat) : Below N W (w.drewN m) := h.trans ⟨rfl, rfl, rfl, Nat.le_refl _, fun _ _ => rfl⟩

set_option maxHeartbeats 1000000 in
theorem equal_any (g o cap : Nat) (a : Option Addr) (cap' n : Nat) (f : Nat → Int) (w : World) (hn : n ≤ 4096) (hc : ∀ j, j < n → w.cell? ⟨g, o + j, none⟩ = some (.int .u8 (f j))) (hr : Reads .u8 w a n f) :
    Calls Ybad.prog 10 #[.slice (some ⟨g, o, none⟩) n cap, .slice a n cap'] w fun e w' => e = .returned (.bool true) ∧ Below w.heap.size w w' := by
  rcases Nat.eq_zero_or_pos n with h0 | h0
  · subst h0
    go_enter Ybad.func10, Ybad.ntmps10
    go_wp2
    go_loop [13] (fun i => i = .int .i64 0) (fun i => (intOf i).toNat)
    case atStart => rfl
    case round =>
      subst hrel
      go_wp2
      go_ret
      exact ⟨rfl, Below.refl _ _⟩
  · obtain ⟨g', o', rfl, hc'⟩ := hr.split h0
    clear hr
    go_enter Ybad.func10, Ybad.ntmps10
    go_wp2
    go_loopw [13] (fun i wr => ∃ k : Nat, k ≤ n ∧ i = .int .i64 k ∧ Below w.heap.size w wr ∧ (∀ j, j < n → wr.cell? ⟨g, o + j, none⟩ = some (.int .u8 (f j))) ∧ (∀ j, j < n → wr.cell? ⟨g', o' + j, none⟩ = some (.int .u8 (f j)))) (fun i _ => n - (intOf i).toNat)
    case atStart => exact ⟨0, Nat.zero_le _, rfl, Below.refl _ _, hc, hc'⟩
    case round =>
      obtain ⟨k, hk, rfl, hb, h1, h2⟩ := hrel
      by_cases hlt : k < n
      · have q1 := h1 k hlt
        have q2 := h2 k hlt
        have hlt' : (k : Int) < (n : Int) := by omega
        have hff : (f k != f k) = false := by simp
        go_wp2
        go_quiet (fail)
        go_wp2
        go_roundw
        case rel => exact ⟨k + 1, by omega, by go_num, below_drewN hb _, fun j hj => h1 j hj, fun j hj => h2 j hj⟩
        case measure => simp [intOf]; omega
      · go_wp2
        go_ret
        exact ⟨rfl, hb⟩

set_option maxHeartbeats 1000000 in
set_option maxRecDepth 20000 in
theorem decode_run (g o cap v L : Nat) (w : World) (hv : v < 18446744073709551616) (hL : L ≤ 9) (hend : vs v L / 128 = 0) (hmid : ∀ j, j < L → vs v j / 128 ≠ 0)
    (hc : ∀ j, j < L + 1 → w.cell? ⟨g, o + j, none⟩ = some (.int .u8 ((bt v (L - j) : Nat) : Int))) :
    Calls Ybad.prog 6 #[.slice (some ⟨g, o, none⟩) (L + 1) cap] w fun e w' => e = .returned (.tuple #[.int .u64 (v : Int), .int .i64 ((L + 1 : Nat) : Int), .nilIface]) ∧ w' = w := by
  have c0 := hc 0 (by omega)
  simp only [Nat.add_zero, Nat.sub_zero] at c0
  have b1 := u8_and127 (bt v L) (bt_lt v L)
  have b2 : bt v L % 128 = vs v L := by rw [bt_mod]; omega
  go_enter Ybad.func6, Ybad.ntmps6
  go_wp2
  go_loop [5, 6, 7] (fun c x n => ∃ t : Nat, t ≤ L ∧ c = .int .u8 ((bt v (L - t) : Nat) : Int) ∧ x = .int .u64 ((vs v (L - t) : Nat) : Int) ∧ n = .int .i64 ((t + 1 : Nat) : Int)) (fun _ _ n => L + 1 - (intOf n).toNat)
  case atStart =>
    refine ⟨0, Nat.zero_le _, rfl, ?_, rfl⟩
    simp
  case round =>
    obtain ⟨t, ht, rfl, rfl, rfl⟩ := hrel
    have b3 := u8_and128 (bt v (L - t)) (bt_lt v _)
    rw [bt_top] at b3
    clear c0 b1 b2
    by_cases h : t = L
    · have b4 : vs v (L - t) = v := by rw [h, Nat.sub_self]; rfl
      rw [if_pos (by omega)] at b3
      simp only [Nat.zero_mul, Int.ofNat_zero] at b3
      rw [b4]
      generalize bt v (L - t) = c at b3 ⊢
      clear hc hmid hend b4
      subst h
      go_wp2
      go_ret3
      exact ⟨rfl, rfl⟩
    · obtain ⟨d, hd⟩ : ∃ d, L - t = d + 1 := ⟨L - t - 1, by omega⟩
      rw [if_neg (by omega)] at b3
      have e1 : L - (t + 1) = d := by omega
      have q1 := hc (t + 1) (by omega)
      rw [e1] at q1
      rw [hd] at b3 ⊢
      have b5 := u8_and127 (bt v d) (bt_lt v d)
      rw [bt_mod] at b5
      have b6 := vs_small v hv (d + 1) (by omega)
      have b7 := u64_orlow (vs v (d + 1) + 1) (vs v d % 128) (by omega) (by omega)
      rw [vs_back v d (hmid d (by omega))] at b7
      have b8 : vs v d % 128 < 128 := by omega
      have HE := hide (show L - (t + 1) = d from e1)
      clear hc hmid hend e1
      have HX := hide (⟨rfl, rfl⟩ : bt v d = bt v d ∧ vs v d = vs v d)
      generalize vs v (d + 1) = x1 at b6 b7 ⊢
      generalize bt v (d + 1) = c1 at b3 ⊢
      generalize hm : vs v d % 128 = mm at b5 b7 b8 
      have HM := hide hm
      clear hm
      generalize hx0 : vs v d = x0 at b7 
      have HX0 := hide hx0
      generalize hc0 : bt v d = c0 at b5 q1 
      have HC0 := hide hc0
      clear hx0 hc0
      replace b3 : bits .and .u8 (c1 : Int) 128 = 128 := b3
      clear HX hv
      have b6' : ¬ (144115188075855871 : Int) ≤ (x1 : Int) := by omega
      have HB6 := hide b6
      clear b6
      replace b7 : bits .or .u64 (((x1 : Int) + 1) * 128) (mm : Int) = (x0 : Int) := by rw [← b7]; simp
      go_wp2
      go_round
      case rel => exact ⟨t + 1, by omega, by rw [HE.out, HC0.out], by rw [HE.out, HX0.out], by go_num⟩
      case measure => simp [intOf]; omega
end Go.Proofs.YbulkbfxmDoor
