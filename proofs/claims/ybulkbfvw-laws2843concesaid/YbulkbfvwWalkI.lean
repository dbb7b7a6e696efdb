/-
  OWN WORK. Walks: LawS2843CGather: the long way.
-/
import Derived.Test.YbulkbfvwWalkH
namespace Go.Proofs.Ybulkbfvw
open Go.RowKit

theorem enter_of {P : Program} {f : FuncId} {fn : Func} (hf : P.funcs[f]? = some fn) (hname : (fn.name == "runtime.NumGoroutine") = false) (hb : fn.body.isNone = false) (args : Array Value) (w : World) :
    (callFunc f args).run P w = .ok (.enter f args) w := by
  have h1 : fn.name ≠ "runtime.NumGoroutine" := by simpa using hname
  have h2 : ¬ fn.body = none := by intro h; simp [h] at hb
  simp [callFunc, hf, h1, h2]
theorem enter6 (args : Array Value) (w : World) : (callFunc 6 args).run Yba.prog w = .ok (.enter 6 args) w := enter_of Yba.func6 (by kernel_rfl) (by kernel_rfl) args w
theorem enter10 (args : Array Value) (w : World) : (callFunc 10 args).run Yba.prog w = .ok (.enter 10 args) w := enter_of Yba.func10 (by kernel_rfl) (by kernel_rfl) args w

theorem own_only {w w' : World} {base : Nat} {v : Value} {n : Nat} {xs : List Value} {S : Nat → Prop} (h : w.ownsRow base 24 1 v n xs) (ho : Only S w w') (hS : ∀ k, base ≤ k → ¬ S k) : w'.ownsRow base 24 1 v n xs := by
  obtain ⟨h1, h2⟩ := h
  refine ⟨h1, ?_⟩
  rcases h2 with h2 | ⟨g, cap, cur, hv, hg, hh, r⟩
  · exact Or.inl h2
  · exact Or.inr ⟨g, cap, cur, hv, hg, by rw [ho.block g (hS g hg)]; exact hh, r⟩

/-- The first i numbers that the closure has been asked. -/
def seenTo (f : Nat → Int) (i : Nat) : List Int := (List.range i).map f
theorem seenTo_len (f : Nat → Int) (i : Nat) : (seenTo f i).length = i := by simp [seenTo]
theorem seenTo_succ (f : Nat → Int) (i : Nat) : seenTo f i ++ [f i] = seenTo f (i + 1) := by simp [seenTo, List.range_succ]
theorem seenTo_at (f : Nat → Int) (i j : Nat) (h : j < i) : at0 (seenTo f i) j = f j := by simp [at0, seenTo, h]

/-- What holds while the closure is asked: B the pins' box, L the log's cell. -/
structure Inv6 (B L : Nat) (pa : Option Addr) (pl pc : Nat) (pin : Nat → Bool) (f : Nat → Int) (i : Nat) (w : World) : Prop where
  st : St6 L (L + 1) B (L + 4) (.slice pa pl pc) (seenTo f i) w
  pins : ReadsB w pa pl pin
  size : L + 4 ≤ w.heap.size

theorem Inv6.call {B L : Nat} {pa : Option Addr} {pl pc : Nat} {pin : Nat → Bool} {f : Nat → Int} (hpf : ∀ j, pl ≤ j → pin j = false) (hB : B < L) (hpb : ∀ g o, 0 < pl → pa = some ⟨g, o, none⟩ → g < B) (i : Nat) (w : World) (hi : i < 1024) (h : Inv6 B L pa pl pc pin f i w) :
    Calls Yba.prog 6 (#[.int .u64 (f i)] ++ #[.pointer (some ⟨L, 0, none⟩), .pointer (some ⟨L + 1, 0, none⟩), .pointer (some ⟨B, 0, none⟩)]) w fun e w' => e = .returned (.bool (pin i)) ∧ Inv6 B L pa pl pc pin f (i + 1) w' ∧ Only (fun k => k = L ∨ k = L + 1 ∨ L + 4 ≤ k) w w' := by
  have hl := seenTo_len f i
  refine (pin6 L (L + 1) B (L + 4) (f i) pa pl pc pin (seenTo f i) w h.st (by omega) h.pins hpf (by omega) (by omega) (by omega) (by omega) (by omega) (by omega) h.size (fun g o h0 hg => by have := hpb g o h0 hg; omega)).mono ?_
  rintro e w' ⟨rfl, hst, ho⟩
  rw [seenTo_succ] at hst
  rw [hl]
  refine ⟨rfl, ⟨hst, h.pins.kept (fun g o j hg hj => cell_blk (ho.block g (by have := hpb g o (by omega) hg; omega))), Nat.le_trans h.size ho.size⟩, ho⟩

theorem Inv6.stay {B L : Nat} {pa : Option Addr} {pl pc : Nat} {pin : Nat → Bool} {f : Nat → Int} {i : Nat} {w w' : World} {S : Nat → Prop} (h : Inv6 B L pa pl pc pin f i w) (ho : Only S w w') (hpb : ∀ g o, 0 < pl → pa = some ⟨g, o, none⟩ → g < B)
    (hS : ∀ k, k ≤ B ∨ k = L ∨ k = L + 1 ∨ L + 4 ≤ k → ¬ S k) : Inv6 B L pa pl pc pin f i w' := by
  obtain ⟨⟨v, h1, h2, h3, h4⟩, hp, hs⟩ := h
  refine ⟨⟨v, by rw [ho.block L (hS L (by omega))]; exact h1, own_only h2 ho (fun k hk => hS k (by omega)), by rw [ho.block (L + 1) (hS _ (by omega))]; exact h3, by rw [ho.block B (hS B (by omega))]; exact h4⟩,
    hp.kept (fun g o j hg hj => cell_blk (ho.block g (hS g (by have := hpb g o (by omega) hg; omega)))), Nat.le_trans hs ho.size⟩

theorem Inv6.log {B L : Nat} {pa : Option Addr} {pl pc : Nat} {pin : Nat → Bool} {f : Nat → Int} {i : Nat} {w : World} (h : Inv6 B L pa pl pc pin f i w) : ∃ la lc, w.heap[L]? = some (.cells #[.slice la i lc] 22 (0, 0)) ∧ Reads .u64 w la i f := by
  obtain ⟨⟨v, h1, h2, h3, h4⟩, hp, hs⟩ := h
  rw [seenTo_len] at h2
  rcases Nat.eq_zero_or_pos i with h0 | h0
  · subst h0
    obtain ⟨a, cap, rfl, _⟩ := own_form h2
    exact ⟨a, cap, h1, fun j hj => by omega⟩
  · obtain ⟨g, cap, rfl, _⟩ := h2.form h0
    refine ⟨_, cap, h1, fun j hj => ⟨g, 0, rfl, ?_⟩⟩
    rw [own_cell h2 j hj, seenTo_at f i j hj]

set_option maxRecDepth 100000 in
set_option maxHeartbeats 2000000 in
theorem law3_yes (g0 o0 : Nat) (pa : Option Addr) (n cap pl pc : Nat) (bs0 bs last : Int) (f : Nat → Int) (pin : Nat → Bool) (w : World) (hn : n ≤ 1024) (hpl : pl ≤ 1024) (hr : Reads .u64 w (some ⟨g0, o0, none⟩) n f) (hf : ∀ j, 0 ≤ f j ∧ f j < 18446744073709551616)
    (hp : ReadsB w pa pl pin) (hpf : ∀ j, pl ≤ j → pin j = false)
    (hspr : spr f bs n 0 [] = true) (hb1' : 1 ≤ bs) (hbs : ((bs0 == 0) = true ∧ bs = 1) ∨ ((bs0 == 0) = false ∧ bs = bs0)) :
    Calls Yba.prog 3 #[.slice (some ⟨g0, o0, none⟩) n cap, .slice pa pl pc, .int .u64 bs0, .int .u64 last, .bool false] w fun e w' => e = .returned (.bool true) ∧ Below w.heap.size w w' := by
  have h1' : decide ((1024 : Int) < (n : Int)) = false := by simp; omega
  have h2' : decide ((1024 : Int) < (pl : Int)) = false := by simp; omega
  have hrA : Reads .u64 (w.alloc (.cells #[.slice pa pl pc] 23)) (some ⟨g0, o0, none⟩) n f := hr.kept ((Below.refl _ _).alloc (Nat.le_refl _) _)
  have hpb : ∀ g o, 0 < pl → pa = some ⟨g, o, none⟩ → g < w.heap.size := fun g o h0 hg => by
    obtain ⟨g', o', h1, h2⟩ := hp 0 h0
    have := World.block_lt_of_cell? w _ h2
    rw [hg] at h1; simp only [Option.some.injEq, Addr.mk.injEq, and_true] at h1
    obtain ⟨rfl, rfl⟩ := h1
    exact this
  rcases hbs with ⟨hb, rfl⟩ | ⟨hb, rfl⟩
  all_goals
    go_enter Yba.func3, Yba.ntmps3
    go_wp2_with (go_at_call 5; refine (leaf_any (some ⟨g0, o0, none⟩) n cap f _ hn hrA).mono ?_; rintro e w1 ⟨gN, nd, kv, vv, rfl, hnd, hrow, hg0, hgn, hb1⟩)
    have hs1 := hb1.size
    simp only [World.size_alloc] at hs1 hg0
    have hndl := blk_lt hnd
    have hgl := hrow.lt
    have F := four_at w1
    have hB1 : w1.heap[w.heap.size]? = some (.cells #[.slice pa pl pc] 23 (0, 0)) := by rw [hb1.block _ (by simp)]; exact blk_new _ _
    have hp1 : ReadsB w1 pa pl pin := hp.kept (fun g o j hg hj => by
      have h9 := hpb g o (by omega) hg
      exact (cell_blk (hb1.block g (by simp; omega))).trans (cell_blk (blk_old _ h9)))
    refine (cur_yes (w1.heap.size + 1 + 1 + 1) (w1.heap.size + 1 + 1) nd gN n 6 _ none _ _ _ _ _ _ _ _ _ last f pin _ hn (F _ _ _ _).2.2.2.1 (.inl rfl) (F _ _ _ _).2.2.1 (((F _ _ _ _).2.2.2.2 nd hndl).trans hnd) (hrow.of_block ((F _ _ _ _).2.2.2.2 gN hgl)) hf hb1' hspr (by omega) (by omega) (by omega) (by omega) (by omega)
      (Inv6 w.heap.size w1.heap.size pa pl pc pin f) (fun k => k = w1.heap.size ∨ k = w1.heap.size + 1 ∨ w1.heap.size + 4 ≤ k) (fun k hk => by simp at hk; omega) (by omega) (by omega) (by omega) (by omega) (fun _ _ => enter6 _ _) (fun i w' hi h => Inv6.call hpf (by omega) hpb i w' (by omega) h)
      (fun i wa wb h _ ho => h.stay ho hpb (fun k hk => by omega)) (fun w2 hb2 => ?_)).mono ?_
    · obtain ⟨A1, A2, _, _, A5, A6⟩ := four_kept (Only.of_below (S := fun k => w1.heap.size + 4 ≤ k) hb2 (fun k hk => by simp at hk; omega))
      exact ⟨⟨_, A1 (by omega), World.ownsRow_nil _ _ _ _, A2 (by omega), by rw [A5 _ (by omega) (by omega)]; exact hB1⟩, hp1.kept (fun g o j hg hj => cell_blk (A5 g (by have := hpb g o (by omega) hg; omega) (by have := hpb g o (by omega) hg; omega))), A6⟩
    rintro e w2 ⟨rfl, hinv, hrow2, ht, hc, ho2⟩
    obtain ⟨_, _, _, _, A5, A6⟩ := four_kept ho2
    have hnd2 : w2.heap[nd]? = some (.cells #[kv, vv, .slice (some ⟨gN, 0, none⟩) n n, .slice none 0 0, .pointer none] 40 (0, 0)) := by rw [A5 nd hndl (by omega)]; exact hnd
    have hbel : Below w.heap.size w w2 := ((Below.refl _ _).alloc (Nat.le_refl _) _).trans ((hb1.mono (by simp)).trans ((((((Below.refl _ _).alloc (by omega) _).alloc (by simp; omega) _).alloc (by simp; omega) _).alloc (by simp; omega) _).trans (ho2.below (fun k hk => by omega))))
    obtain ⟨la, lc, hL, hlog⟩ := hinv.log
    have hB2 := hinv.st
    obtain ⟨_, _, _, _, hB2⟩ := hB2
    have hp2 := hinv.pins
    have hrow1 := hrow2.lt
    clear A5 F ho2 hB1 hp1 hb1 hrow hrA hnd hinv
    have e0 : w2.cell? ⟨w1.heap.size + 1 + 1 + 1, 0, none⟩ = some (.pointer (some ⟨w1.heap.size + 1 + 1, 0, none⟩)) := by rw [blk_cell hc]; rfl
    have e1 : w2.cell? ⟨w1.heap.size + 1 + 1 + 1, 1, none⟩ = some (.pointer (some ⟨nd, 0, none⟩)) := by rw [blk_cell hc]; rfl
    have e2 : w2.cell? ⟨w1.heap.size + 1 + 1 + 1, 2, none⟩ = some (.int .i64 0) := by rw [blk_cell hc]; rfl
    have e3 : w2.cell? ⟨w1.heap.size + 1 + 1 + 1, 3, none⟩ = some (.pointer (some ⟨nd, 0, none⟩)) := by rw [blk_cell hc]; rfl
    have g1 : w2.cell? ⟨w1.heap.size + 1 + 1, 1, none⟩ = some (.pointer (some ⟨nd, 0, none⟩)) := by rw [blk_cell ht]; rfl
    have g2 : w2.cell? ⟨w1.heap.size + 1 + 1, 2, none⟩ = some (.int .i64 n) := by rw [blk_cell ht]; rfl
    have g3 : w2.cell? ⟨w1.heap.size + 1 + 1, 3, none⟩ = some (.int .u64 (lastAt pin last n)) := by rw [blk_cell ht]; rfl
    have n2 : w2.cell? ⟨nd, 2, none⟩ = some (.slice (some ⟨gN, 0, none⟩) n n) := by rw [blk_cell hnd2]; rfl
    have l0 : w2.cell? ⟨w1.heap.size, 0, none⟩ = some (.slice la n lc) := by rw [blk_cell hL]; rfl
    have b0 : w2.cell? ⟨w.heap.size, 0, none⟩ = some (.slice pa pl pc) := by rw [blk_cell hB2]; rfl
    have p1 := neq25_same
    have p2 := neq28_same
    have p3 : ((n : Int) != (n : Int)) = false := by simp
    have hrd : Reads .u64 w2 (some ⟨g0, o0, none⟩) n f := hr.kept hbel
    clear hc ht hnd2 hL hB2 hr hp
    go_wp2_with (first
      | (go_at_call 8; refine (cspread_any (some ⟨g0, o0, none⟩) n cap _ f _ hn hrd hf hb1').mono ?_; rintro e w3 ⟨rfl, hb3⟩; have m1 : w3.cell? ⟨w1.heap.size, 0, none⟩ = some (.slice la n lc) := (cell_blk (hb3.block _ (by omega))).trans l0)
      | (go_at_call 9; refine (equal_any _ _ _ _ n f _ hn (hlog.kept hb3) (hrd.kept hb3)).mono ?_; rintro e w4 ⟨rfl, hb4⟩; have hb5 := hb3.trans (hb4.mono hb3.size)))
    have hsz4 := hb5.size
    have n4 : w4.cell? ⟨nd, 2, none⟩ = some (.slice (some ⟨gN, 0, none⟩) n n) := (cell_blk (hb5.block _ (by omega))).trans n2
    have b4 : w4.cell? ⟨w.heap.size, 0, none⟩ = some (.slice pa pl pc) := (cell_blk (hb5.block _ (by omega))).trans b0
    have t4 : w4.cell? ⟨w1.heap.size + 1 + 1, 3, none⟩ = some (.int .u64 (lastAt pin last n)) := (cell_blk (hb5.block _ (by omega))).trans g3
    have hrow4 : Row .u64 24 w4 gN n (newNum pin last f) := hrow2.of_block (hb5.block _ (by omega))
    have hp4 : ReadsB w4 pa pl pin := hp2.kept (fun g o j hg hj => cell_blk (hb5.block g (by have := hpb g o (by omega) hg; omega)))
    have hrd4 := hrd.kept hb5
    have hbel4 := hbel.trans (hb5.mono hbel.size)
    clear e0 e1 e2 e3 g1 g2 g3 n2 l0 b0 hlog hrd m1 hb3 hb4 hb5 hrow2 hp2 hbel p1 p2 p3
    go_loopw [18, 132] (fun nx i wr => ∃ k : Nat, k ≤ n ∧ i = .int .i64 k ∧ nx = .int .u64 (lastAt pin last k) ∧ Below w4.heap.size w4 wr) (fun _ i _ => n - (intOf i).toNat)
    case atStart => exact ⟨0, Nat.zero_le _, rfl, rfl, Below.refl _ _⟩
    case round =>
      obtain ⟨k, hk, rfl, rfl, hbr⟩ := hrel
      have t5 : wr.cell? ⟨w1.heap.size + 1 + 1, 3, none⟩ = some (.int .u64 (lastAt pin last n)) := (cell_blk (hbr.block _ (by omega))).trans t4
      by_cases hlt : k < n
      · have n5 : wr.cell? ⟨nd, 2, none⟩ = some (.slice (some ⟨gN, 0, none⟩) n n) := (cell_blk (hbr.block _ (by omega))).trans n4
        have b5 : wr.cell? ⟨w.heap.size, 0, none⟩ = some (.slice pa pl pc) := (cell_blk (hbr.block _ (by omega))).trans b4
        have r5 : wr.cell? ⟨gN, k, none⟩ = some (.int .u64 (newNum pin last f k)) := (hrow4.of_block (hbr.block _ (by omega))).cell k hlt
        obtain ⟨_, _, hx, s5⟩ := (hrd4.kept hbr) k hlt
        simp only [Option.some.injEq, Addr.mk.injEq, and_true] at hx
        obtain ⟨rfl, rfl⟩ := hx
        have hk0 : (0 : Int) ≤ (k : Int) := by omega
        have hkn : (k : Int) < (n : Int) := by omega
        cases hpk : pin k with
        | true =>
          have hkp : k < pl := by
            rcases Nat.lt_or_ge k pl with h | h
            · exact h
            · rw [hpf k h] at hpk; cases hpk
          obtain ⟨gp, op, rfl, hpc⟩ := hp4 k hkp
          have hgp := hpb gp op (by omega) rfl
          have p5 : wr.cell? ⟨gp, op + k, none⟩ = some (.bool true) := (cell_blk (hbr.block _ (by omega))).trans (by rw [hpc, hpk])
          have v5 : newNum pin last f k = f k := by rw [newNum, if_pos hpk]
          rw [v5] at r5
          have HL : Hid (lastAt pin last (k + 1) = lastAt pin last k) := lastAt_pin hpk
          have hg' : decide ((k : Int) < (pl : Int)) = true := by simp; omega
          have hff : (f k != f k) = false := by simp
          clear v5 hpk hpc
          go_wp2
          go_quiet (fail)
          go_wp2
          go_roundw
          case rel => exact ⟨k + 1, by omega, by go_num, by rw [HL.out], below_drewN hbr _⟩
          case measure => simp [intOf]; omega
        | false =>
          have v5 : newNum pin last f k = IntKind.u64.wrap (lastAt pin last k + 1) := by rw [newNum, if_neg (by simp [hpk]), lastAt_new hpk, wrap_u64]
          rw [v5] at r5
          have HL : Hid (lastAt pin last (k + 1) = IntKind.u64.wrap (lastAt pin last k + 1)) := (lastAt_new hpk).trans (wrap_u64 _).symm
          have hff : (IntKind.u64.wrap (lastAt pin last k + 1) != IntKind.u64.wrap (lastAt pin last k + 1)) = false := by simp
          by_cases hkp : k < pl
          · obtain ⟨gp, op, rfl, hpc⟩ := hp4 k hkp
            have hgp := hpb gp op (by omega) rfl
            have p5 : wr.cell? ⟨gp, op + k, none⟩ = some (.bool false) := (cell_blk (hbr.block _ (by omega))).trans (by rw [hpc, hpk])
            have hg' : decide ((k : Int) < (pl : Int)) = true := by simp; omega
            clear v5 hpk hpc
            go_wp2
            go_roundw
            case rel => exact ⟨k + 1, by omega, by go_num, by rw [HL.out], hbr⟩
            case measure => simp [intOf]; omega
          · have hg' : decide ((k : Int) < (pl : Int)) = false := by simp; omega
            clear v5 hpk
            go_wp2
            go_roundw
            case rel => exact ⟨k + 1, by omega, by go_num, by rw [HL.out], hbr⟩
            case measure => simp [intOf]; omega
      · have HK : Hid (k = n) := Nat.le_antisymm hk (by omega)
        have hee : (lastAt pin last n == lastAt pin last k) = true := by rw [HK.out]; simp
        go_wp2
        go_ret
        exact ⟨rfl, hbel4.trans (hbr.mono hbel4.size)⟩
end Go.Proofs.Ybulkbfvw
