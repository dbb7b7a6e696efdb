/-
  OWN WORK. Walks: LawS2843COnce.
-/
import Derived.Test.YbulkbfvwWalkI
namespace Go.Proofs.Ybulkbfvw
open Go.RowKit

theorem eql25_one (a : Addr) (w : World) : (binOp .eql 25 (.pointer (some a)) (.pointer (some a))).run Yba.prog w = .ok (.bool true) w := eql25_same a w

/-- What holds while the second closure is asked: B the pins' box, C the count's cell; from N on: new memory. -/
structure Inv10 (B C N : Nat) (pa : Option Addr) (pl pc : Nat) (pin : Nat → Bool) (i : Nat) (w : World) : Prop where
  st : St10 C B (.slice pa pl pc) i w
  pins : ReadsB w pa pl pin

theorem Inv10.call {B C N : Nat} {pa : Option Addr} {pl pc : Nat} {pin : Nat → Bool} (hpf : ∀ j, pl ≤ j → pin j = false) (hB : B < C) (hpb : ∀ g o, 0 < pl → pa = some ⟨g, o, none⟩ → g < B) (i : Nat) (num : Int) (w : World) (hi : i < 1024) (h : Inv10 B C N pa pl pc pin i w) :
    Calls Yba.prog 10 (#[.int .u64 num] ++ #[.pointer (some ⟨C, 0, none⟩), .pointer (some ⟨B, 0, none⟩)]) w fun e w' => e = .returned (.bool (pin i)) ∧ Inv10 B C N pa pl pc pin (i + 1) w' ∧ Only (fun k => k = C ∨ N ≤ k) w w' := by
  refine (pin10 C B num pa pl pc pin i w h.st (by omega) h.pins hpf (by omega)).mono ?_
  rintro e w' ⟨rfl, hst, ho⟩
  exact ⟨rfl, ⟨hst, h.pins.kept (fun g o j hg hj => cell_blk (ho.block g (by have := hpb g o (by omega) hg; omega)))⟩, ho.mono fun k hk => .inl hk⟩

theorem Inv10.stay {B C N : Nat} {pa : Option Addr} {pl pc : Nat} {pin : Nat → Bool} {i : Nat} {w w' : World} {S : Nat → Prop} (h : Inv10 B C N pa pl pc pin i w) (ho : Only S w w') (hpb : ∀ g o, 0 < pl → pa = some ⟨g, o, none⟩ → g < B)
    (hS : ∀ k, k ≤ B ∨ k = C → ¬ S k) : Inv10 B C N pa pl pc pin i w' := by
  obtain ⟨⟨h1, h2⟩, hp⟩ := h
  exact ⟨⟨by rw [ho.block C (hS C (by omega))]; exact h1, by rw [ho.block B (hS B (by omega))]; exact h2⟩, hp.kept (fun g o j hg hj => cell_blk (ho.block g (hS g (by have := hpb g o (by omega) hg; omega))))⟩

set_option maxRecDepth 100000 in
set_option maxHeartbeats 1000000 in
theorem law4_big (a pa : Option Addr) (n cap pl pc : Nat) (bs0 last : Int) (w : World) (hbig : 1024 < n ∨ 1024 < pl) :
    Calls Yba.prog 4 #[.slice a n cap, .slice pa pl pc, .int .u64 bs0, .int .u64 last] w fun e w' => e = .returned (.bool true) ∧ Below w.heap.size w w' := by
  by_cases h1 : 1024 < n
  · have h1' : decide ((1024 : Int) < (n : Int)) = true := by simp; omega
    go_enter Yba.func4, Yba.ntmps4
    go_wp2
    go_ret
    exact ⟨rfl, (Below.refl _ _).alloc (Nat.le_refl _) _⟩
  · have h1' : decide ((1024 : Int) < (n : Int)) = false := by simp; omega
    have h2' : decide ((1024 : Int) < (pl : Int)) = true := by simp; omega
    go_enter Yba.func4, Yba.ntmps4
    go_wp2
    go_ret
    exact ⟨rfl, (Below.refl _ _).alloc (Nat.le_refl _) _⟩

set_option maxRecDepth 100000 in
set_option maxHeartbeats 2000000 in
theorem law4_no (a pa : Option Addr) (n cap pl pc : Nat) (bs0 bs last : Int) (f : Nat → Int) (pin : Nat → Bool) (w : World) (hn : n ≤ 1024) (hpl : pl ≤ 1024) (hr : Reads .u64 w a n f) (hf : ∀ j, 0 ≤ f j ∧ f j < 18446744073709551616)
    (hp : ReadsB w pa pl pin)
    (hspr : spr f bs n 0 [] = false) (hb1' : 1 ≤ bs) (hbs : ((bs0 == 0) = true ∧ bs = 1) ∨ ((bs0 == 0) = false ∧ bs = bs0)) :
    Calls Yba.prog 4 #[.slice a n cap, .slice pa pl pc, .int .u64 bs0, .int .u64 last] w fun e w' => e = .returned (.bool true) ∧ Below w.heap.size w w' := by
  have h1' : decide ((1024 : Int) < (n : Int)) = false := by simp; omega
  have h2' : decide ((1024 : Int) < (pl : Int)) = false := by simp; omega
  have hrA : Reads .u64 (w.alloc (.cells #[.slice pa pl pc] 23)) a n f := hr.kept ((Below.refl _ _).alloc (Nat.le_refl _) _)
  have hpb : ∀ g o, 0 < pl → pa = some ⟨g, o, none⟩ → g < w.heap.size := fun g o h0 hg => by
    obtain ⟨g', o', h1, h2⟩ := hp 0 h0
    have := World.block_lt_of_cell? w _ h2
    rw [hg] at h1; simp only [Option.some.injEq, Addr.mk.injEq, and_true] at h1
    obtain ⟨rfl, rfl⟩ := h1
    exact this
  rcases hbs with ⟨hb, rfl⟩ | ⟨hb, rfl⟩
  all_goals
    go_enter Yba.func4, Yba.ntmps4
    go_wp2_with (go_at_call 5; refine (leaf_any a n cap f _ hn hrA).mono ?_; rintro e w1 ⟨gN, nd, kv, vv, rfl, hnd, hrow, hg0, hgn, hb1⟩)
    have hs1 := hb1.size
    simp only [World.size_alloc] at hs1 hg0
    have hndl := blk_lt hnd
    have hgl := hrow.lt
    have F := four_at w1
    have hB1 : w1.heap[w.heap.size]? = some (.cells #[.slice pa pl pc] 23 (0, 0)) := by rw [hb1.block _ (by simp)]; exact blk_new _ _
    have hp1 : ReadsB w1 pa pl pin := hp.kept (fun g o j hg hj => by
      have h9 := hpb g o (by omega) hg
      exact (cell_blk (hb1.block g (by simp; omega))).trans (cell_blk (blk_old _ h9)))
    refine (cur_no (w1.heap.size + 1 + 1 + 1) (w1.heap.size + 1 + 1) nd gN n (some ⟨w1.heap.size, 0, none⟩) _ _ _ _ _ _ _ _ _ _ _ f _ hn (F _ _ _ _).2.2.2.1 (.inr ⟨w1.heap.size, _, rfl, by omega, (F _ _ _ _).1⟩) (F _ _ _ _).2.2.1 (((F _ _ _ _).2.2.2.2 nd hndl).trans hnd) (hrow.of_block ((F _ _ _ _).2.2.2.2 gN hgl)) hf hb1' hspr).mono ?_
    rintro e w2 ⟨rfl, hc, ho2⟩
    obtain ⟨_, A2, A3, _, A5, A6⟩ := four_kept ho2
    simp only [World.size_alloc] at A2 A3 A5
    have hrow2 : Row .u64 24 w2 gN n f := hrow.of_block (A5 gN hgl (by omega))
    have ht := A3 (by omega)
    have hC := A2 (by omega)
    have hnd2 : w2.heap[nd]? = some (.cells #[kv, vv, .slice (some ⟨gN, 0, none⟩) n n, .slice none 0 0, .pointer none] 40 (0, 0)) := by rw [A5 nd hndl (by omega)]; exact hnd
    have hbel : Below w.heap.size w w2 := ((Below.refl _ _).alloc (Nat.le_refl _) _).trans ((hb1.mono (by simp)).trans ((((((Below.refl _ _).alloc (by omega) _).alloc (by simp; omega) _).alloc (by simp; omega) _).alloc (by simp; omega) _).trans (ho2.below (fun k hk => by simp; omega))))
    clear A2 A3
    have hrow1 := hrow2.lt
    clear A5 F ho2 hB1 hp1 hb1 hrow hrA hnd
    have e3 : w2.cell? ⟨w1.heap.size + 1 + 1 + 1, 3, none⟩ = some (.pointer (some ⟨nd, 0, none⟩)) := by rw [blk_cell hc]; rfl
    have g3 : w2.cell? ⟨w1.heap.size + 1 + 1, 3, none⟩ = some (.int .u64 last) := by rw [blk_cell ht]; rfl
    have n2 : w2.cell? ⟨nd, 2, none⟩ = some (.slice (some ⟨gN, 0, none⟩) n n) := by rw [blk_cell hnd2]; rfl
    have c0 : w2.cell? ⟨w1.heap.size + 1, 0, none⟩ = some (.int .i64 0) := by rw [blk_cell hC]; rfl
    have p1 := neq25_same
    have p2 := eql25_same
    have p3 : ((n : Int) != (n : Int)) = false := by simp
    have hrd : Reads .u64 w2 a n f := hr.kept hbel
    have hmk := make24 n hn
    clear hr hp
    go_wp2_with fail
    refine (cspread_any a n cap _ f _ hn hrd hf hb1').mono ?_
    rintro e w3 ⟨rfl, hb3⟩
    have hsz3 := hb3.size
    have c3 : w3.cell? ⟨w1.heap.size + 1, 0, none⟩ = some (.int .i64 0) := (cell_blk (hb3.block _ (by omega))).trans c0
    have n3 : w3.cell? ⟨nd, 2, none⟩ = some (.slice (some ⟨gN, 0, none⟩) n n) := (cell_blk (hb3.block _ (by omega))).trans n2
    have hnd3 : nd < w3.heap.size := by omega
    have hrow3 : Row .u64 24 w3 gN n f := hrow2.of_block (hb3.block _ (by omega))
    obtain ⟨w4, hcp, hrow4, ho4⟩ := copy_whole (P := Yba.prog) (w3.alloc (.cells (madeCells #[.int .u64 0] n) 24)) 22 3 24 Yba.underlying22 Yba.size24 w3.heap.size n n (some ⟨gN, 0, none⟩) f _ 24 (blk_new _ _) (size_madeCells _ _) (hrow3.reads.kept ((Below.refl _ _).alloc (Nat.le_refl _) _))
    have hsz4 := ho4.size
    simp only [World.size_alloc] at hsz4
    have hb4 : Below w3.heap.size w3 w4 := ((Below.refl w3.heap.size w3).alloc (Nat.le_refl _) _).trans (ho4.below (fun k hk => by omega))
    have hb24 : Below w2.heap.size w2 w4 := hb3.trans (hb4.mono hsz3)
    have g4 : w4.cell? ⟨w1.heap.size + 1 + 1, 3, none⟩ = some (.int .u64 last) := (cell_blk (hb24.block _ (by omega))).trans g3
    have c4 : w4.cell? ⟨w1.heap.size + 1, 0, none⟩ = some (.int .i64 0) := (cell_blk (hb24.block _ (by omega))).trans c0
    have hc4 := (hb24.block (w1.heap.size + 1 + 1 + 1) (by omega)).trans hc
    have ht4 := (hb24.block (w1.heap.size + 1 + 1) (by omega)).trans ht
    have hC4 := (hb24.block (w1.heap.size + 1) (by omega)).trans hC
    have hnd4 := (hb24.block nd (by omega)).trans hnd2
    have hrow4' : Row .u64 24 w4 gN n f := hrow2.of_block (hb24.block _ (by omega))
    have hbel4 := hbel.trans (hb24.mono hbel.size)
    clear ho4 hb4 hb24 hrow3 hrow2 hb3 hc ht hC hnd2 c0 g3 n2 e3
    go_wp2_with fail
    refine (cur_same (w1.heap.size + 1 + 1 + 1) nd _ _ _ hc4).mono ?_
    rintro e w5 ⟨rfl, hb5⟩
    have hsz5 := hb5.size
    have hc5 := (hb5.block (w1.heap.size + 1 + 1 + 1) (by omega)).trans hc4
    have y1 : w5.cell? ⟨w1.heap.size + 1 + 1 + 1, 1, none⟩ = some (.pointer (some ⟨nd, 0, none⟩)) := by rw [blk_cell hc5]; rfl
    have y3 : w5.cell? ⟨w1.heap.size + 1 + 1 + 1, 3, none⟩ = some (.pointer (some ⟨nd, 0, none⟩)) := by rw [blk_cell hc5]; rfl
    have g5 : w5.cell? ⟨w1.heap.size + 1 + 1, 3, none⟩ = some (.int .u64 last) := (cell_blk (hb5.block _ (by omega))).trans g4
    have c5 : w5.cell? ⟨w1.heap.size + 1, 0, none⟩ = some (.int .i64 0) := (cell_blk (hb5.block _ (by omega))).trans c4
    have n5 : w5.cell? ⟨nd, 2, none⟩ = some (.slice (some ⟨gN, 0, none⟩) n n) := (cell_blk (hb5.block _ (by omega))).trans (by rw [blk_cell hnd4]; rfl)
    have r5 := (hrow4.of_block (hb5.block _ (by omega))).reads
    have r5' := (hrow4'.of_block (hb5.block _ (by omega))).reads
    have q1 : (last == last) = true := by simp
    have q2 : ((n : Int) == (n : Int)) = true := by simp
    clear hc4 ht4 hC4 hnd4 hc5 hcp hmk
    go_wp2_with (go_at_call 9; refine (equal_any _ _ _ _ n _ _ hn r5' r5).mono ?_; rintro e w6 ⟨rfl, hb6⟩)
    go_ret
    exact ⟨rfl, hbel4.trans ((hb5.trans (hb6.mono hb5.size)).mono hbel4.size)⟩

set_option maxRecDepth 100000 in
set_option maxHeartbeats 2000000 in
theorem law4_yes (a pa : Option Addr) (n cap pl pc : Nat) (bs0 bs last : Int) (f : Nat → Int) (pin : Nat → Bool) (w : World) (hn : n ≤ 1024) (hpl : pl ≤ 1024) (hr : Reads .u64 w a n f) (hf : ∀ j, 0 ≤ f j ∧ f j < 18446744073709551616)
    (hp : ReadsB w pa pl pin) (hpf : ∀ j, pl ≤ j → pin j = false)
    (hspr : spr f bs n 0 [] = true) (hb1' : 1 ≤ bs) (hbs : ((bs0 == 0) = true ∧ bs = 1) ∨ ((bs0 == 0) = false ∧ bs = bs0)) :
    Calls Yba.prog 4 #[.slice a n cap, .slice pa pl pc, .int .u64 bs0, .int .u64 last] w fun e w' => e = .returned (.bool true) ∧ Below w.heap.size w w' := by
  have h1' : decide ((1024 : Int) < (n : Int)) = false := by simp; omega
  have h2' : decide ((1024 : Int) < (pl : Int)) = false := by simp; omega
  have hrA : Reads .u64 (w.alloc (.cells #[.slice pa pl pc] 23)) a n f := hr.kept ((Below.refl _ _).alloc (Nat.le_refl _) _)
  have hpb : ∀ g o, 0 < pl → pa = some ⟨g, o, none⟩ → g < w.heap.size := fun g o h0 hg => by
    obtain ⟨g', o', h1, h2⟩ := hp 0 h0
    have := World.block_lt_of_cell? w _ h2
    rw [hg] at h1; simp only [Option.some.injEq, Addr.mk.injEq, and_true] at h1
    obtain ⟨rfl, rfl⟩ := h1
    exact this
  rcases hbs with ⟨hb, rfl⟩ | ⟨hb, rfl⟩
  all_goals
    go_enter Yba.func4, Yba.ntmps4
    go_wp2_with (go_at_call 5; refine (leaf_any a n cap f _ hn hrA).mono ?_; rintro e w1 ⟨gN, nd, kv, vv, rfl, hnd, hrow, hg0, hgn, hb1⟩)
    have hs1 := hb1.size
    simp only [World.size_alloc] at hs1 hg0
    have hndl := blk_lt hnd
    have hgl := hrow.lt
    have F := four_at w1
    have hB1 : w1.heap[w.heap.size]? = some (.cells #[.slice pa pl pc] 23 (0, 0)) := by rw [hb1.block _ (by simp)]; exact blk_new _ _
    have hp1 : ReadsB w1 pa pl pin := hp.kept (fun g o j hg hj => by
      have h9 := hpb g o (by omega) hg
      exact (cell_blk (hb1.block g (by simp; omega))).trans (cell_blk (blk_old _ h9)))
    refine (cur_yes (w1.heap.size + 1 + 1 + 1) (w1.heap.size + 1 + 1) nd gN n 10 _ (some ⟨w1.heap.size, 0, none⟩) _ _ _ _ _ _ _ _ _ last f pin _ hn (F _ _ _ _).2.2.2.1 (.inr ⟨w1.heap.size, _, rfl, by omega, (F _ _ _ _).1⟩) (F _ _ _ _).2.2.1 (((F _ _ _ _).2.2.2.2 nd hndl).trans hnd) (hrow.of_block ((F _ _ _ _).2.2.2.2 gN hgl)) hf hb1' hspr (by omega) (by omega) (by omega) (by omega) (by omega)
      (Inv10 w.heap.size (w1.heap.size + 1) (w1.heap.size + 4) pa pl pc pin) (fun k => k = w1.heap.size + 1 ∨ w1.heap.size + 4 ≤ k) (fun k hk => by simp at hk; omega) (by omega) (by omega) (by omega) (by omega) (fun _ _ => enter10 _ _) (fun i w' hi h => Inv10.call hpf (by omega) hpb i (f i) w' (by omega) h)
      (fun i wa wb h _ ho => h.stay ho hpb (fun k hk => by omega)) (fun w2 hb2 => ?_)).mono ?_
    · obtain ⟨_, A2, _, _, A5, _⟩ := four_kept (Only.of_below (S := fun k => w1.heap.size + 4 ≤ k) hb2 (fun k hk => by simp at hk; omega))
      exact ⟨⟨A2 (by omega), by rw [A5 _ (by omega) (by omega)]; exact hB1⟩, hp1.kept (fun g o j hg hj => cell_blk (A5 g (by have := hpb g o (by omega) hg; omega) (by have := hpb g o (by omega) hg; omega)))⟩
    rintro e w2 ⟨rfl, hinv, hrow2, ht, hc, ho2⟩
    obtain ⟨_, _, _, _, A5, A6⟩ := four_kept ho2
    have hnd2 : w2.heap[nd]? = some (.cells #[kv, vv, .slice (some ⟨gN, 0, none⟩) n n, .slice none 0 0, .pointer none] 40 (0, 0)) := by rw [A5 nd hndl (by omega)]; exact hnd
    have hbel : Below w.heap.size w w2 := ((Below.refl _ _).alloc (Nat.le_refl _) _).trans ((hb1.mono (by simp)).trans ((((((Below.refl _ _).alloc (by omega) _).alloc (by simp; omega) _).alloc (by simp; omega) _).alloc (by simp; omega) _).trans (ho2.below (fun k hk => by omega))))
    have hC : w2.heap[w1.heap.size + 1]? = some (.cells #[.int .i64 (n : Int)] 3 (0, 0)) := hinv.st.1
    clear hinv
    have hrow1 := hrow2.lt
    clear A5 F ho2 hB1 hp1 hb1 hrow hrA hnd
    have e3 : w2.cell? ⟨w1.heap.size + 1 + 1 + 1, 3, none⟩ = some (.pointer (some ⟨nd, 0, none⟩)) := by rw [blk_cell hc]; rfl
    have g3 : w2.cell? ⟨w1.heap.size + 1 + 1, 3, none⟩ = some (.int .u64 (lastAt pin last n)) := by rw [blk_cell ht]; rfl
    have n2 : w2.cell? ⟨nd, 2, none⟩ = some (.slice (some ⟨gN, 0, none⟩) n n) := by rw [blk_cell hnd2]; rfl
    have c0 : w2.cell? ⟨w1.heap.size + 1, 0, none⟩ = some (.int .i64 (n : Int)) := by rw [blk_cell hC]; rfl
    have p1 := neq25_same
    have p2 := eql25_same
    have p3 : ((n : Int) != (n : Int)) = false := by simp
    have hrd : Reads .u64 w2 a n f := hr.kept hbel
    have hmk := make24 n hn
    clear hr hp
    go_wp2_with fail
    refine (cspread_any a n cap _ f _ hn hrd hf hb1').mono ?_
    rintro e w3 ⟨rfl, hb3⟩
    have hsz3 := hb3.size
    have c3 : w3.cell? ⟨w1.heap.size + 1, 0, none⟩ = some (.int .i64 (n : Int)) := (cell_blk (hb3.block _ (by omega))).trans c0
    have n3 : w3.cell? ⟨nd, 2, none⟩ = some (.slice (some ⟨gN, 0, none⟩) n n) := (cell_blk (hb3.block _ (by omega))).trans n2
    have hnd3 : nd < w3.heap.size := by omega
    have hrow3 : Row .u64 24 w3 gN n (newNum pin last f) := hrow2.of_block (hb3.block _ (by omega))
    obtain ⟨w4, hcp, hrow4, ho4⟩ := copy_whole (P := Yba.prog) (w3.alloc (.cells (madeCells #[.int .u64 0] n) 24)) 22 3 24 Yba.underlying22 Yba.size24 w3.heap.size n n (some ⟨gN, 0, none⟩) (newNum pin last f) _ 24 (blk_new _ _) (size_madeCells _ _) (hrow3.reads.kept ((Below.refl _ _).alloc (Nat.le_refl _) _))
    have hsz4 := ho4.size
    simp only [World.size_alloc] at hsz4
    have hb4 : Below w3.heap.size w3 w4 := ((Below.refl w3.heap.size w3).alloc (Nat.le_refl _) _).trans (ho4.below (fun k hk => by omega))
    have hb24 : Below w2.heap.size w2 w4 := hb3.trans (hb4.mono hsz3)
    have g4 : w4.cell? ⟨w1.heap.size + 1 + 1, 3, none⟩ = some (.int .u64 (lastAt pin last n)) := (cell_blk (hb24.block _ (by omega))).trans g3
    have c4 : w4.cell? ⟨w1.heap.size + 1, 0, none⟩ = some (.int .i64 (n : Int)) := (cell_blk (hb24.block _ (by omega))).trans c0
    have hc4 := (hb24.block (w1.heap.size + 1 + 1 + 1) (by omega)).trans hc
    have ht4 := (hb24.block (w1.heap.size + 1 + 1) (by omega)).trans ht
    have hC4 := (hb24.block (w1.heap.size + 1) (by omega)).trans hC
    have hnd4 := (hb24.block nd (by omega)).trans hnd2
    have hrow4' : Row .u64 24 w4 gN n (newNum pin last f) := hrow2.of_block (hb24.block _ (by omega))
    have hbel4 := hbel.trans (hb24.mono hbel.size)
    clear ho4 hb4 hb24 hrow3 hrow2 hb3 hc ht hC hnd2 c0 g3 n2 e3
    go_wp2_with fail
    refine (cur_same (w1.heap.size + 1 + 1 + 1) nd _ _ _ hc4).mono ?_
    rintro e w5 ⟨rfl, hb5⟩
    have hsz5 := hb5.size
    have hc5 := (hb5.block (w1.heap.size + 1 + 1 + 1) (by omega)).trans hc4
    have y1 : w5.cell? ⟨w1.heap.size + 1 + 1 + 1, 1, none⟩ = some (.pointer (some ⟨nd, 0, none⟩)) := by rw [blk_cell hc5]; rfl
    have y3 : w5.cell? ⟨w1.heap.size + 1 + 1 + 1, 3, none⟩ = some (.pointer (some ⟨nd, 0, none⟩)) := by rw [blk_cell hc5]; rfl
    have g5 : w5.cell? ⟨w1.heap.size + 1 + 1, 3, none⟩ = some (.int .u64 (lastAt pin last n)) := (cell_blk (hb5.block _ (by omega))).trans g4
    have c5 : w5.cell? ⟨w1.heap.size + 1, 0, none⟩ = some (.int .i64 (n : Int)) := (cell_blk (hb5.block _ (by omega))).trans c4
    have n5 : w5.cell? ⟨nd, 2, none⟩ = some (.slice (some ⟨gN, 0, none⟩) n n) := (cell_blk (hb5.block _ (by omega))).trans (by rw [blk_cell hnd4]; rfl)
    have r5 := (hrow4.of_block (hb5.block _ (by omega))).reads
    have r5' := (hrow4'.of_block (hb5.block _ (by omega))).reads
    have q1 : ((lastAt pin last n) == (lastAt pin last n)) = true := by simp
    have q2 : ((n : Int) == (n : Int)) = true := by simp
    clear hc4 ht4 hC4 hnd4 hc5 hcp hmk
    go_wp2_with (go_at_call 9; refine (equal_any _ _ _ _ n _ _ hn r5' r5).mono ?_; rintro e w6 ⟨rfl, hb6⟩)
    go_ret
    exact ⟨rfl, hbel4.trans ((hb5.trans (hb6.mono hb5.size)).mono hbel4.size)⟩
end Go.Proofs.Ybulkbfvw
