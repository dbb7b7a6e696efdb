/-
  OWN WORK. Walks: (*Tree).gather.
-/
import Derived.Test.YbulkbfvwWalkE
import Derived.Deep.RegionHeld3
import Derived.Deep.Light
namespace Go.Proofs.Ybulkbfvw
open Go.RowKit

theorem hide {p : Prop} (h : p) : Hid p := h
theorem wrap_u64 (x : Int) : IntKind.u64.wrap x = x % 18446744073709551616 := by simp [IntKind.wrap_u64]

set_option maxHeartbeats 400000 in
theorem newNumber_cell (t : Nat) (l : Int) (w : World) (hc : w.cell? ⟨t, 3, none⟩ = some (.int .u64 l)) (hf : w.frozen? ⟨t, 3, none⟩ = false) :
    Calls Yba.prog 13 #[.pointer (some ⟨t, 0, none⟩)] w fun e w' => e = .returned (.int .u64 (IntKind.u64.wrap (l + 1))) ∧ w' = w.setCell ⟨t, 3, none⟩ (.int .u64 (IntKind.u64.wrap (l + 1))) := by
  go_enter Yba.func13, Yba.ntmps13
  go_wp2
  go_ret
  exact ⟨rfl, rfl⟩

theorem gather_step {t nd gN n k : Nat} {c0 c1 c2 c4 c5 : Value} {o : Obj} {f : Nat → Int} {pin : Nat → Bool} {last : Int} {S : Nat → Prop} {w w2 : World} {Inv : Nat → World → Prop} (x : Int) (hx : x = lastAt pin last (k + 1)) (hp : pin k = false)
    (htn : t ≠ nd) (htg : t ≠ gN) (hng : nd ≠ gN) (hinv : Inv (k + 1) w2) (hstay : ∀ i w1 w2, Inv i w1 → w1.heap.size = w2.heap.size → Only (fun k => k = t ∨ k = gN) w1 w2 → Inv i w2)
    (ht : w2.heap[t]? = some (.cells #[c0, c1, c2, .int .u64 (lastAt pin last k), c4, c5] 31 (0, 0))) (hnd : w2.heap[nd]? = some o) (hr : Row .u64 24 w2 gN n (midNum pin last f k)) (ho : Only (fun k => k = t ∨ k = gN ∨ S k) w w2) :
    Inv (k + 1) ((w2.setCell ⟨t, 3, none⟩ (.int .u64 x)).setCell ⟨gN, k, none⟩ (.int .u64 x)).drew ∧ Row .u64 24 ((w2.setCell ⟨t, 3, none⟩ (.int .u64 x)).setCell ⟨gN, k, none⟩ (.int .u64 x)).drew gN n (midNum pin last f (k + 1)) ∧
    ((w2.setCell ⟨t, 3, none⟩ (.int .u64 x)).setCell ⟨gN, k, none⟩ (.int .u64 x)).drew.heap[t]? = some (.cells #[c0, c1, c2, .int .u64 (lastAt pin last (k + 1)), c4, c5] 31 (0, 0)) ∧ ((w2.setCell ⟨t, 3, none⟩ (.int .u64 x)).setCell ⟨gN, k, none⟩ (.int .u64 x)).drew.heap[nd]? = some o ∧
    Only (fun k => k = t ∨ k = gN ∨ S k) w ((w2.setCell ⟨t, 3, none⟩ (.int .u64 x)).setCell ⟨gN, k, none⟩ (.int .u64 x)).drew := by
  subst hx
  refine ⟨hstay _ w2 _ hinv (by simp) ((((Only.refl _ w2).setCell (p := ⟨t, 3, none⟩) (.inl rfl) _).setCell (p := ⟨gN, k, none⟩) (.inr rfl) _).drew), ?_, ?_, ?_, ((ho.setCell (p := ⟨t, 3, none⟩) (.inl rfl) _).setCell (p := ⟨gN, k, none⟩) (.inr (.inl rfl)) _).drew⟩
  · have h1 : Row .u64 24 (w2.setCell ⟨t, 3, none⟩ (.int .u64 (lastAt pin last (k + 1)))) gN n (midNum pin last f k) := hr.of_block (blk_set_far _ _ (Ne.symm htg))
    exact (h1.set k _ (fun _ => midNum_same hp) (fun j _ hj => midNum_other hj)).of_block rfl
  · show ((w2.setCell ⟨t, 3, none⟩ _).setCell ⟨gN, k, none⟩ _).heap[t]? = _
    rw [blk_set_far _ _ htg, blk_set ht]; rfl
  · show ((w2.setCell ⟨t, 3, none⟩ _).setCell ⟨gN, k, none⟩ _).heap[nd]? = _
    rw [blk_set_far _ _ hng, blk_set_far _ _ (Ne.symm htn)]; exact hnd

set_option maxHeartbeats 1000000 in
theorem gather_yes (t nd gN n pf : Nat) (caps : Array Value) (c0 c1 c2 k0 k1 k3 k4 : Value) (bs last : Int) (f : Nat → Int) (pin : Nat → Bool) (w : World) (hn : n ≤ 1024)
    (ht : w.heap[t]? = some (.cells #[c0, c1, c2, .int .u64 last, .int .u64 bs, .func (.func pf) #[] caps] 31 (0, 0))) (hnd : w.heap[nd]? = some (.cells #[k0, k1, .slice (some ⟨gN, 0, none⟩) n n, k3, k4] 40 (0, 0)))
    (hrow : Row .u64 24 w gN n f) (hf : ∀ j, 0 ≤ f j ∧ f j < 18446744073709551616) (hbs : 1 ≤ bs) (hspr : spr f bs n 0 [] = true)
    (htn : t ≠ nd) (htg : t ≠ gN) (hng : nd ≠ gN)
    (Inv : Nat → World → Prop) (S : Nat → Prop) (hS : ∀ k, w.heap.size ≤ k → S k) (hSt : ¬ S t) (hSn : ¬ S nd) (hSg : ¬ S gN)
    (hent : ∀ (v : Value) (w : World), (callFunc pf (#[v] ++ caps)).run Yba.prog w = .ok (.enter pf (#[v] ++ caps)) w)
    (hcall : ∀ i w1, i < n → Inv i w1 → Calls Yba.prog pf (#[.int .u64 (f i)] ++ caps) w1 fun e w' => e = .returned (.bool (pin i)) ∧ Inv (i + 1) w' ∧ Only S w1 w')
    (hstay : ∀ i w1 w2, Inv i w1 → w1.heap.size = w2.heap.size → Only (fun k => k = t ∨ k = gN) w1 w2 → Inv i w2) (hnew : ∀ w2, Below w.heap.size w w2 → Inv 0 w2) :
    Calls Yba.prog 11 #[.pointer (some ⟨t, 0, none⟩), .pointer (some ⟨nd, 0, none⟩)] w fun e w' => e = .returned (.tuple #[]) ∧ Inv n w' ∧ Row .u64 24 w' gN n (newNum pin last f) ∧
      w'.heap[t]? = some (.cells #[c0, c1, c2, .int .u64 (lastAt pin last n), .int .u64 bs, .func (.func pf) #[] caps] 31 (0, 0)) ∧ Only (fun k => k = t ∨ k = gN ∨ S k) w w' := by
  have hlt := blk_lt hnd
  have hltt := blk_lt ht
  have hgl := hrow.lt
  have HS : Hid (spr f bs n 0 [] = true) := hspr
  have HC := hide hcall
  clear hcall
  go_enter Yba.func11, Yba.ntmps11
  go_wp2_with (go_at_call 12; refine (spread_any t nd gN n c0 c1 c2 _ _ k0 k1 k3 k4 bs f _ hn ht hnd hrow hf hbs).mono ?_; rintro e w1 ⟨rfl, hb1⟩; have dn : w1.cell? ⟨nd, 2, none⟩ = some (.slice (some ⟨gN, 0, none⟩) n n) := (cell_blk (hb1.block nd hlt)).trans (by rw [blk_cell hnd]; rfl))
  go_loopw [15] (fun i wr => ∃ k : Nat, k ≤ n ∧ i = .int .i64 k ∧ Inv k wr ∧ Row .u64 24 wr gN n (midNum pin last f k) ∧ wr.heap[t]? = some (.cells #[c0, c1, c2, .int .u64 (lastAt pin last k), .int .u64 bs, .func (.func pf) #[] caps] 31 (0, 0)) ∧ wr.heap[nd]? = some (.cells #[k0, k1, .slice (some ⟨gN, 0, none⟩) n n, k3, k4] 40 (0, 0)) ∧ Only (fun k => k = t ∨ k = gN ∨ S k) w wr) (fun i _ => n - (intOf i).toNat)
  case atStart => exact ⟨0, Nat.zero_le _, rfl, hnew _ hb1, (hrow.of_block (hb1.block gN hgl)).congr (fun j _ => by simp [midNum]), by rw [hb1.block t hltt]; exact ht, by rw [hb1.block nd hlt]; exact hnd, Only.of_below hb1 (fun k hk => .inr (.inr (hS k hk)))⟩
  case round =>
    obtain ⟨k, hk, rfl, hinv, hr, htr, hndr, ho⟩ := hrel
    by_cases hkn : k < n
    · have q1 : wr.cell? ⟨gN, k, none⟩ = some (.int .u64 (f k)) := by rw [hr.cell k hkn]; simp [midNum]
      have q2 : wr.cell? ⟨t, 5, none⟩ = some (.func (.func pf) #[] caps) := by rw [blk_cell htr]; rfl
      go_wp2_with fail
      refine (HC.out k wr hkn hinv).mono ?_
      rintro e w2 ⟨rfl, hinv2, ho2⟩
      have htr2 : w2.heap[t]? = some (.cells #[c0, c1, c2, .int .u64 (lastAt pin last k), .int .u64 bs, .func (.func pf) #[] caps] 31 (0, 0)) := by rw [ho2.block t hSt]; exact htr
      have hnd2 : w2.heap[nd]? = some (.cells #[k0, k1, .slice (some ⟨gN, 0, none⟩) n n, k3, k4] 40 (0, 0)) := by rw [ho2.block nd hSn]; exact hndr
      have hr2 : Row .u64 24 w2 gN n (midNum pin last f k) := hr.of_block (ho2.block gN hSg)
      have ho3 : Only (fun k => k = t ∨ k = gN ∨ S k) w w2 := ho.trans (ho2.mono fun k hk => .inr (.inr hk))
      clear hr htr hndr ho hinv ho2 q1 q2
      cases hp : pin k with
      | true =>
        have hr3 : Row .u64 24 w2 gN n (midNum pin last f (k + 1)) := hr2.congr (fun j _ => midNum_pin hp j)
        have htr3 : w2.heap[t]? = some (.cells #[c0, c1, c2, .int .u64 (lastAt pin last (k + 1)), .int .u64 bs, .func (.func pf) #[] caps] 31 (0, 0)) := by rw [lastAt_pin hp]; exact htr2
        clear htr2
        go_wp2
        go_roundw
        case rel => exact ⟨k + 1, by omega, by go_num, hinv2, hr3, htr3, hnd2, ho3⟩
        case measure => simp [intOf]; omega
      | false =>
        have r1 : w2.cell? ⟨nd, 2, none⟩ = some (.slice (some ⟨gN, 0, none⟩) n n) := by rw [blk_cell hnd2]; rfl
        have r2 : w2.cell? ⟨t, 3, none⟩ = some (.int .u64 (lastAt pin last k)) := by rw [blk_cell htr2]; rfl
        have r3 : w2.frozen? ⟨t, 3, none⟩ = false := blk_free htr2 3
        have r4 := hr2.cell k hkn
        have r5 := hr2.free k
        have hng' := Ne.symm hng
        have htg' := Ne.symm htg
        have htn' := Ne.symm htn
        have hb0 : (0 : Int) ≤ (k : Int) := by omega
        have hbk : (k : Int) < (n : Int) := by omega
        go_wp2
        go_region_held3 (fun w' => w'.cell? ⟨nd, 2, none⟩ = some (.slice (some ⟨gN, 0, none⟩) n n)) (go_keep) (first | (go_at_call 13; refine (newNumber_cell t (lastAt pin last k) _ (by exact r2) (by exact r3)).mono ?_; rintro e w' ⟨rfl, rfl⟩))
        all_goals go_wp2
        have R := gather_step (IntKind.u64.wrap (lastAt pin last k + 1)) (by rw [wrap_u64, lastAt_new hp]) hp htn htg hng hinv2 hstay htr2 hnd2 hr2 ho3
        go_roundw
        case rel => exact ⟨k + 1, by omega, by go_num, R⟩
        case measure => simp [intOf]; omega
    · have hkk : Hid (k = n) := Nat.le_antisymm hk (by omega)
      go_wp2
      go_end0
      have e := hkk.out
      subst e
      exact ⟨rfl, hinv, hr.congr (fun j hj => by simp [midNum, hj]), htr, ho⟩

set_option maxHeartbeats 1000000 in
theorem gather_no (t nd gN n : Nat) (c0 c1 c2 c3 c5 k0 k1 k3 k4 : Value) (bs : Int) (f : Nat → Int) (w : World) (hn : n ≤ 1024)
    (ht : w.heap[t]? = some (.cells #[c0, c1, c2, c3, .int .u64 bs, c5] 31 (0, 0))) (hnd : w.heap[nd]? = some (.cells #[k0, k1, .slice (some ⟨gN, 0, none⟩) n n, k3, k4] 40 (0, 0)))
    (hrow : Row .u64 24 w gN n f) (hf : ∀ j, 0 ≤ f j ∧ f j < 18446744073709551616) (hbs : 1 ≤ bs) (hspr : spr f bs n 0 [] = false) :
    Calls Yba.prog 11 #[.pointer (some ⟨t, 0, none⟩), .pointer (some ⟨nd, 0, none⟩)] w fun e w' => e = .returned (.tuple #[]) ∧ Below w.heap.size w w' := by
  have HS := hide hspr
  go_enter Yba.func11, Yba.ntmps11
  go_wp2_with (go_at_call 12; refine (spread_any t nd gN n c0 c1 c2 _ _ k0 k1 k3 k4 bs f _ hn ht hnd hrow hf hbs).mono ?_; rintro e w1 ⟨rfl, hb1⟩)
  refine bodyPost_ret (results_none rfl _ _ _) rfl ?_
  exact ⟨rfl, hb1⟩
end Go.Proofs.Ybulkbfvw
