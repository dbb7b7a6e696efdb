/-
  OWN WORK. Walks: LawS2843CGather: the short ways.
-/
import Derived.Test.YbulkbfvwWalkG
namespace Go.Proofs.Ybulkbfvw
open Go.RowKit

set_option maxRecDepth 100000 in
set_option maxHeartbeats 1000000 in
theorem law3_big (a pa : Option Addr) (n cap pl pc : Nat) (bs0 last : Int) (al : Bool) (w : World) (hbig : 1024 < n ∨ 1024 < pl) :
    Calls Yba.prog 3 #[.slice a n cap, .slice pa pl pc, .int .u64 bs0, .int .u64 last, .bool al] w fun e w' => e = .returned (.bool true) ∧ Below w.heap.size w w' := by
  by_cases h1 : 1024 < n
  · have h1' : decide ((1024 : Int) < (n : Int)) = true := by simp; omega
    go_enter Yba.func3, Yba.ntmps3
    go_wp2
    go_ret
    exact ⟨rfl, (Below.refl _ _).alloc (Nat.le_refl _) _⟩
  · have h1' : decide ((1024 : Int) < (n : Int)) = false := by simp; omega
    have h2' : decide ((1024 : Int) < (pl : Int)) = true := by simp; omega
    go_enter Yba.func3, Yba.ntmps3
    go_wp2
    go_ret
    exact ⟨rfl, (Below.refl _ _).alloc (Nat.le_refl _) _⟩

section
variable {w1 w2 : World} {o1 o2 o3 o4 : Obj}
theorem four_kept {S : Nat → Prop} (ho : Only S ((((w1.alloc o1).alloc o2).alloc o3).alloc o4) w2) :
    (¬ S w1.heap.size → w2.heap[w1.heap.size]? = some o1) ∧ (¬ S (w1.heap.size + 1) → w2.heap[w1.heap.size + 1]? = some o2) ∧ (¬ S (w1.heap.size + 1 + 1) → w2.heap[w1.heap.size + 1 + 1]? = some o3) ∧ (¬ S (w1.heap.size + 1 + 1 + 1) → w2.heap[w1.heap.size + 1 + 1 + 1]? = some o4) ∧
    (∀ k, k < w1.heap.size → ¬ S k → w2.heap[k]? = w1.heap[k]?) ∧ w1.heap.size + 4 ≤ w2.heap.size := by
  have e1 : (w1.alloc o1).heap.size = w1.heap.size + 1 := by simp
  have e2 : ((w1.alloc o1).alloc o2).heap.size = w1.heap.size + 1 + 1 := by simp
  have e3 : (((w1.alloc o1).alloc o2).alloc o3).heap.size = w1.heap.size + 1 + 1 + 1 := by simp
  refine ⟨fun h => ?_, fun h => ?_, fun h => ?_, fun h => ?_, fun k hk h => ?_, ?_⟩
  · rw [ho.block _ h, blk_old _ (by omega), blk_old _ (by omega), blk_old _ (by omega), blk_new]
  · rw [ho.block _ h, blk_old _ (by omega), blk_old _ (by omega), ← e1, blk_new]
  · rw [ho.block _ h, blk_old _ (by omega), ← e2, blk_new]
  · rw [ho.block _ h, ← e3, blk_new]
  · rw [ho.block _ h, blk_old _ (by omega), blk_old _ (by omega), blk_old _ (by omega), blk_old _ (by omega)]
  · have := ho.size; simp at this; omega
theorem four_at (w1 : World) (o1 o2 o3 o4 : Obj) : ((((w1.alloc o1).alloc o2).alloc o3).alloc o4).heap[w1.heap.size]? = some o1 ∧ ((((w1.alloc o1).alloc o2).alloc o3).alloc o4).heap[w1.heap.size + 1]? = some o2 ∧ ((((w1.alloc o1).alloc o2).alloc o3).alloc o4).heap[w1.heap.size + 1 + 1]? = some o3 ∧ ((((w1.alloc o1).alloc o2).alloc o3).alloc o4).heap[w1.heap.size + 1 + 1 + 1]? = some o4 ∧
    (∀ k, k < w1.heap.size → ((((w1.alloc o1).alloc o2).alloc o3).alloc o4).heap[k]? = w1.heap[k]?) := by
  obtain ⟨h1, h2, h3, h4, h5, _⟩ := four_kept (Only.refl (fun _ => False) ((((w1.alloc o1).alloc o2).alloc o3).alloc o4))
  exact ⟨h1 (fun h => h), h2 (fun h => h), h3 (fun h => h), h4 (fun h => h), fun k hk => h5 k hk (fun h => h)⟩
end

/-- What stands when Gather has come back (the leaf's numbers f', the last number l'). -/
structure After (w w2 : World) (L nd gN n : Nat) (pv : Value) (bs l' : Int) (f' : Nat → Int) (lg : Value) (cnt : Int) : Prop where
  hc : w2.heap[L + 1 + 1 + 1]? = some (.cells #[.pointer (some ⟨L + 1 + 1, 0, none⟩), .pointer (some ⟨nd, 0, none⟩), .int .i64 0, .pointer (some ⟨nd, 0, none⟩)] 34 (0, 0))
  ht : w2.heap[L + 1 + 1]? = some (.cells #[.nilFunc, .pointer (some ⟨nd, 0, none⟩), .int .i64 n, .int .u64 l', .int .u64 bs, .func (.func 6) #[] #[.pointer (some ⟨L, 0, none⟩), .pointer (some ⟨L + 1, 0, none⟩), .pointer (some ⟨w.heap.size, 0, none⟩)]] 31 (0, 0))
  hnd : ∃ kv vv ch nx, w2.heap[nd]? = some (.cells #[kv, vv, .slice (some ⟨gN, 0, none⟩) n n, ch, nx] 40 (0, 0))
  hrow : Row .u64 24 w2 gN n f'
  hL : w2.heap[L]? = some (.cells #[lg] 22 (0, 0))
  hK : w2.heap[L + 1]? = some (.cells #[.int .i64 cnt] 3 (0, 0))
  hB : w2.heap[w.heap.size]? = some (.cells #[pv] 23 (0, 0))
  below : Below w.heap.size w w2

theorem Row.reads {k : IntKind} {T : TypeId} {w : World} {g n : Nat} {f : Nat → Int} (h : Row k T w g n f) : Reads k w (some ⟨g, 0, none⟩) n f := fun j hj => ⟨g, 0, rfl, by rw [Nat.zero_add]; exact h.cell j hj⟩

set_option maxRecDepth 100000 in
set_option maxHeartbeats 1000000 in
theorem law3_al (a pa : Option Addr) (n cap pl pc : Nat) (bs0 bs last : Int) (f : Nat → Int) (w : World) (hn : n ≤ 1024) (hpl : pl ≤ 1024) (hr : Reads .u64 w a n f) (hbs : ((bs0 == 0) = true ∧ bs = 1) ∨ ((bs0 == 0) = false ∧ bs = bs0)) :
    Calls Yba.prog 3 #[.slice a n cap, .slice pa pl pc, .int .u64 bs0, .int .u64 last, .bool true] w fun e w' => e = .returned (.bool true) ∧ Below w.heap.size w w' := by
  have h1' : decide ((1024 : Int) < (n : Int)) = false := by simp; omega
  have h2' : decide ((1024 : Int) < (pl : Int)) = false := by simp; omega
  have hrA : Reads .u64 (w.alloc (.cells #[.slice pa pl pc] 23)) a n f := hr.kept ((Below.refl _ _).alloc (Nat.le_refl _) _)
  rcases hbs with ⟨hb, rfl⟩ | ⟨hb, rfl⟩
  all_goals
    go_enter Yba.func3, Yba.ntmps3
    go_wp2_with (go_at_call 5; refine (leaf_any a n cap f _ hn hrA).mono ?_; rintro e w1 ⟨gN, nd, kv, vv, rfl, hnd, hrow, hg0, hgn, hb1⟩)
    refine (cur_same (w1.heap.size + 1 + 1 + 1) nd _ _ _ (four_at _ _ _ _ _).2.2.2.1).mono ?_
    rintro e w2 ⟨rfl, hb2⟩
    obtain ⟨A1, A2, A3, A4, A5, A6⟩ := four_kept (Only.of_below (S := fun k => w1.heap.size + 4 ≤ k) hb2 (fun k hk => by simp at hk; omega))
    have hs1 := hb1.size
    simp only [World.size_alloc] at hs1
    have hndl := blk_lt hnd
    have hgl := hrow.lt
    have hbw : Below w.heap.size w w2 := ((Below.refl _ _).alloc (Nat.le_refl _) _).trans ((hb1.mono (by simp)).trans ((((((Below.refl _ _).alloc (by omega) _).alloc (by simp; omega) _).alloc (by simp; omega) _).alloc (by simp; omega) _).trans (hb2.mono (by simp; omega))))
    have af : After w w2 w1.heap.size nd gN n (.slice pa pl pc) _ last f (.slice none 0 0) 0 := ⟨A4 (by omega), A3 (by omega), ⟨kv, vv, _, _, by rw [A5 nd hndl (by omega)]; exact hnd⟩, hrow.of_block (A5 gN hgl (by omega)), A1 (by omega), A2 (by omega), by rw [A5 _ (by omega) (by omega), hb1.block _ (by simp)]; exact blk_new _ _, hbw⟩
    clear A1 A2 A3 A4 A5 hb2 hnd hrow hb1
    obtain ⟨hc, ht, ⟨kv, vv, ch, nx, hnd⟩, hrow, hL, hK, hB, hbel⟩ := af
    have e0 : w2.cell? ⟨w1.heap.size + 1 + 1 + 1, 0, none⟩ = some (.pointer (some ⟨w1.heap.size + 1 + 1, 0, none⟩)) := by rw [blk_cell hc]; rfl
    have e1 : w2.cell? ⟨w1.heap.size + 1 + 1 + 1, 1, none⟩ = some (.pointer (some ⟨nd, 0, none⟩)) := by rw [blk_cell hc]; rfl
    have e2 : w2.cell? ⟨w1.heap.size + 1 + 1 + 1, 2, none⟩ = some (.int .i64 0) := by rw [blk_cell hc]; rfl
    have e3 : w2.cell? ⟨w1.heap.size + 1 + 1 + 1, 3, none⟩ = some (.pointer (some ⟨nd, 0, none⟩)) := by rw [blk_cell hc]; rfl
    have g1 : w2.cell? ⟨w1.heap.size + 1 + 1, 1, none⟩ = some (.pointer (some ⟨nd, 0, none⟩)) := by rw [blk_cell ht]; rfl
    have g2 : w2.cell? ⟨w1.heap.size + 1 + 1, 2, none⟩ = some (.int .i64 n) := by rw [blk_cell ht]; rfl
    have g3 : w2.cell? ⟨w1.heap.size + 1 + 1, 3, none⟩ = some (.int .u64 last) := by rw [blk_cell ht]; rfl
    have n2 : w2.cell? ⟨nd, 2, none⟩ = some (.slice (some ⟨gN, 0, none⟩) n n) := by rw [blk_cell hnd]; rfl
    have l0 : w2.cell? ⟨w1.heap.size, 0, none⟩ = some (.slice none 0 0) := by rw [blk_cell hL]; rfl
    have p1 := neq25_same
    have p2 := neq28_same
    have p3 : ((n : Int) != (n : Int)) = false := by simp
    have p4 : (last == last) = true := by simp
    have hrd : Reads .u64 w2 a n f := hr.kept hbel
    have hrd' := hrow.reads
    clear hc ht hnd hrow hL hK hB hrA
    go_wp2_with (go_at_call 9; refine (equal_any _ _ _ _ n f _ hn hrd' hrd).mono ?_; rintro e w3 ⟨rfl, hb3⟩; have x1 : w3.cell? ⟨w1.heap.size, 0, none⟩ = some (.slice none 0 0) := (cell_blk (hb3.block _ (by omega))).trans l0; have x2 : w3.cell? ⟨w1.heap.size + 1 + 1, 3, none⟩ = some (.int .u64 last) := (cell_blk (hb3.block _ (by omega))).trans g3)
    go_ret
    refine ⟨rfl, hbel.trans (hb3.mono hbel.size)⟩
set_option maxRecDepth 100000 in
set_option maxHeartbeats 1000000 in
theorem law3_no (a pa : Option Addr) (n cap pl pc : Nat) (bs0 bs last : Int) (f : Nat → Int) (w : World) (hn : n ≤ 1024) (hpl : pl ≤ 1024) (hr : Reads .u64 w a n f) (hf : ∀ j, 0 ≤ f j ∧ f j < 18446744073709551616) (hspr : spr f bs n 0 [] = false) (hb1' : 1 ≤ bs) (hbs : ((bs0 == 0) = true ∧ bs = 1) ∨ ((bs0 == 0) = false ∧ bs = bs0)) :
    Calls Yba.prog 3 #[.slice a n cap, .slice pa pl pc, .int .u64 bs0, .int .u64 last, .bool false] w fun e w' => e = .returned (.bool true) ∧ Below w.heap.size w w' := by
  have h1' : decide ((1024 : Int) < (n : Int)) = false := by simp; omega
  have h2' : decide ((1024 : Int) < (pl : Int)) = false := by simp; omega
  have hrA : Reads .u64 (w.alloc (.cells #[.slice pa pl pc] 23)) a n f := hr.kept ((Below.refl _ _).alloc (Nat.le_refl _) _)
  rcases hbs with ⟨hb, rfl⟩ | ⟨hb, rfl⟩
  all_goals
    go_enter Yba.func3, Yba.ntmps3
    go_wp2_with (go_at_call 5; refine (leaf_any a n cap f _ hn hrA).mono ?_; rintro e w1 ⟨gN, nd, kv, vv, rfl, hnd, hrow, hg0, hgn, hb1⟩)
    have hs1 := hb1.size
    simp only [World.size_alloc] at hs1
    have hndl := blk_lt hnd
    have hgl := hrow.lt
    have F := four_at w1
    refine (cur_no (w1.heap.size + 1 + 1 + 1) (w1.heap.size + 1 + 1) nd gN n none _ _ _ _ _ _ _ _ _ _ _ f _ hn (F _ _ _ _).2.2.2.1 (.inl rfl) (F _ _ _ _).2.2.1 (((F _ _ _ _).2.2.2.2 nd hndl).trans hnd) (hrow.of_block ((F _ _ _ _).2.2.2.2 gN hgl)) hf hb1' hspr).mono ?_
    rintro e w2 ⟨rfl, A4, ho2⟩
    obtain ⟨A1, A2, A3, _, A5, A6⟩ := four_kept ho2
    simp only [World.size_alloc] at A1 A2 A3 A5
    have hbw : Below w.heap.size w w2 := ((Below.refl _ _).alloc (Nat.le_refl _) _).trans ((hb1.mono (by simp)).trans ((((((Below.refl _ _).alloc (by omega) _).alloc (by simp; omega) _).alloc (by simp; omega) _).alloc (by simp; omega) _).trans (ho2.below (fun k hk => by simp; omega))))
    have af : After w w2 w1.heap.size nd gN n (.slice pa pl pc) _ last f (.slice none 0 0) 0 := ⟨A4, A3 (by omega), ⟨kv, vv, _, _, by rw [A5 nd hndl (by omega)]; exact hnd⟩, hrow.of_block (A5 gN hgl (by omega)), A1 (by omega), A2 (by omega), by rw [A5 _ (by omega) (by omega), hb1.block _ (by simp)]; exact blk_new _ _, hbw⟩
    clear A1 A2 A3 A4 A5 ho2 hnd hrow hb1 F
    obtain ⟨hc, ht, ⟨kv, vv, ch, nx, hnd⟩, hrow, hL, hK, hB, hbel⟩ := af
    have e0 : w2.cell? ⟨w1.heap.size + 1 + 1 + 1, 0, none⟩ = some (.pointer (some ⟨w1.heap.size + 1 + 1, 0, none⟩)) := by rw [blk_cell hc]; rfl
    have e1 : w2.cell? ⟨w1.heap.size + 1 + 1 + 1, 1, none⟩ = some (.pointer (some ⟨nd, 0, none⟩)) := by rw [blk_cell hc]; rfl
    have e2 : w2.cell? ⟨w1.heap.size + 1 + 1 + 1, 2, none⟩ = some (.int .i64 0) := by rw [blk_cell hc]; rfl
    have e3 : w2.cell? ⟨w1.heap.size + 1 + 1 + 1, 3, none⟩ = some (.pointer (some ⟨nd, 0, none⟩)) := by rw [blk_cell hc]; rfl
    have g1 : w2.cell? ⟨w1.heap.size + 1 + 1, 1, none⟩ = some (.pointer (some ⟨nd, 0, none⟩)) := by rw [blk_cell ht]; rfl
    have g2 : w2.cell? ⟨w1.heap.size + 1 + 1, 2, none⟩ = some (.int .i64 n) := by rw [blk_cell ht]; rfl
    have g3 : w2.cell? ⟨w1.heap.size + 1 + 1, 3, none⟩ = some (.int .u64 last) := by rw [blk_cell ht]; rfl
    have n2 : w2.cell? ⟨nd, 2, none⟩ = some (.slice (some ⟨gN, 0, none⟩) n n) := by rw [blk_cell hnd]; rfl
    have l0 : w2.cell? ⟨w1.heap.size, 0, none⟩ = some (.slice none 0 0) := by rw [blk_cell hL]; rfl
    have p1 := neq25_same
    have p2 := neq28_same
    have p3 : ((n : Int) != (n : Int)) = false := by simp
    have p4 : (last == last) = true := by simp
    have hrd : Reads .u64 w2 a n f := hr.kept hbel
    have hrd' := hrow.reads
    clear hc ht hnd hrow hL hK hB hrA
    go_wp2_with (first
      | (go_at_call 8; refine (cspread_any a n cap _ f _ hn hrd hf hb1').mono ?_; rintro e w3 ⟨rfl, hb3⟩; have m1 : w3.cell? ⟨nd, 2, none⟩ = some (.slice (some ⟨gN, 0, none⟩) n n) := (cell_blk (hb3.block _ (by omega))).trans n2)
      | (go_at_call 9; refine (equal_any _ _ _ _ n f _ hn (hrd'.kept hb3) (hrd.kept hb3)).mono ?_; rintro e w4 ⟨rfl, hb4⟩; have hb5 := hb3.trans (hb4.mono hb3.size); have x1 : w4.cell? ⟨w1.heap.size, 0, none⟩ = some (.slice none 0 0) := (cell_blk (hb5.block _ (by omega))).trans l0; have x2 : w4.cell? ⟨w1.heap.size + 1 + 1, 3, none⟩ = some (.int .u64 last) := (cell_blk (hb5.block _ (by omega))).trans g3))
    go_ret
    exact ⟨rfl, hbel.trans (hb5.mono hbel.size)⟩
end Go.Proofs.Ybulkbfvw
