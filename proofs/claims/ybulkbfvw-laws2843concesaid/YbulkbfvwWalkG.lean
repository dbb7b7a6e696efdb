/-
  OWN WORK. Walks: (*Cursor).Gather.
-/
import Derived.Test.YbulkbfvwWalkF
namespace Go.Proofs.Ybulkbfvw
open Go.RowKit

theorem Yba.size40 : (Yba.prog.info? 40).map (·.size) = some 5 := by kernel_rfl
theorem Yba.size31 : (Yba.prog.info? 31).map (·.size) = some 6 := by kernel_rfl
theorem size_parts {P : Program} {e : TypeId} {n : Nat} (h : (P.info? e).map (·.size) = some n) : ∃ j, P.info? e = some j ∧ j.size = n := by
  obtain ⟨i, hi, hz⟩ := Option.map_eq_some_iff.1 h
  exact ⟨i, hi, hz⟩
theorem neq25_same (a : Addr) (w : World) : (binOp .neq 25 (.pointer (some a)) (.pointer (some a))).run Yba.prog w = .ok (.bool false) w := by
  obtain ⟨j, h1, _⟩ := size_parts Yba.size40
  exact neq_ptr_same Yba.underlying25 h1 a w
theorem eql25_same (a : Addr) (w : World) : (binOp .eql 25 (.pointer (some a)) (.pointer (some a))).run Yba.prog w = .ok (.bool true) w := by
  obtain ⟨j, h1, _⟩ := size_parts Yba.size40
  exact eql_ptr_same Yba.underlying25 h1 a w
theorem neq28_same (a : Addr) (w : World) : (binOp .neq 28 (.pointer (some a)) (.pointer (some a))).run Yba.prog w = .ok (.bool false) w := by
  obtain ⟨j, h1, _⟩ := size_parts Yba.size31
  exact neq_ptr_same Yba.underlying28 h1 a w
theorem below_of_drewN {w w' : World} {m B : Nat} (h : Below B (w.drewN m) w') : Below B w w' := ⟨h.os, h.tape, h.output, h.size, h.block⟩
theorem only_of_drewN {w w' : World} {m : Nat} {S : Nat → Prop} (h : Only S (w.drewN m) w') : Only S w w' := ⟨h.os, h.tape, h.output, h.size, h.block⟩
/-- gathered: nil, or another leaf. -/
def Apart (w : World) (gp : Option Addr) (nd : Nat) : Prop := gp = none ∨ ∃ ot cs, gp = some ⟨ot, 0, none⟩ ∧ ot ≠ nd ∧ w.heap[ot]? = some (.cells cs 40 (0, 0))
theorem neq25_apart {w : World} {gp : Option Addr} {nd : Nat} {cs : Array Value} (h : Apart w gp nd) (hnd : w.heap[nd]? = some (.cells cs 40 (0, 0))) : (binOp .neq 25 (.pointer (some ⟨nd, 0, none⟩)) (.pointer gp)).run Yba.prog w = .ok (.bool true) w := by
  obtain ⟨j, h1, h2⟩ := size_parts Yba.size40
  rcases h with rfl | ⟨ot, ds, rfl, hne, ho⟩
  · exact neq_ptr_nil Yba.underlying25 _ w
  · exact neq_ptr_other Yba.underlying25 h1 (by omega) w (fun e => hne (by cases e; rfl)) hnd ho

set_option maxHeartbeats 1000000 in
theorem cur_same (c nd : Nat) (d0 d2 : Value) (w : World) (hc : w.heap[c]? = some (.cells #[d0, .pointer (some ⟨nd, 0, none⟩), d2, .pointer (some ⟨nd, 0, none⟩)] 34 (0, 0))) :
    Calls Yba.prog 7 #[.pointer (some ⟨c, 0, none⟩)] w fun e w' => e = .returned (.tuple #[]) ∧ Below w.heap.size w w' := by
  have q1 : w.cell? ⟨c, 1, none⟩ = some (.pointer (some ⟨nd, 0, none⟩)) := by rw [blk_cell hc]; rfl
  have q3 : w.cell? ⟨c, 3, none⟩ = some (.pointer (some ⟨nd, 0, none⟩)) := by rw [blk_cell hc]; rfl
  have hq := neq25_same
  go_enter Yba.func7, Yba.ntmps7
  go_wp2
  go_quiet (fail)
  go_wp2
  go_end0
  exact ⟨rfl, below_drewN (Below.refl _ _) _⟩

set_option maxHeartbeats 1000000 in
theorem cur_no (c t nd gN n : Nat) (gp : Option Addr) (d2 c0 c1 c2 c3 c5 k0 k1 k3 k4 : Value) (bs : Int) (f : Nat → Int) (w : World) (hn : n ≤ 1024)
    (hc : w.heap[c]? = some (.cells #[.pointer (some ⟨t, 0, none⟩), .pointer (some ⟨nd, 0, none⟩), d2, .pointer gp] 34 (0, 0))) (hgp : Apart w gp nd)
    (ht : w.heap[t]? = some (.cells #[c0, c1, c2, c3, .int .u64 bs, c5] 31 (0, 0))) (hnd : w.heap[nd]? = some (.cells #[k0, k1, .slice (some ⟨gN, 0, none⟩) n n, k3, k4] 40 (0, 0)))
    (hrow : Row .u64 24 w gN n f) (hf : ∀ j, 0 ≤ f j ∧ f j < 18446744073709551616) (hbs : 1 ≤ bs) (hspr : spr f bs n 0 [] = false) :
    Calls Yba.prog 7 #[.pointer (some ⟨c, 0, none⟩)] w fun e w' => e = .returned (.tuple #[]) ∧ w'.heap[c]? = some (.cells #[.pointer (some ⟨t, 0, none⟩), .pointer (some ⟨nd, 0, none⟩), d2, .pointer (some ⟨nd, 0, none⟩)] 34 (0, 0)) ∧ Only (fun k => k = c ∨ w.heap.size ≤ k) w w' := by
  have q0 : w.cell? ⟨c, 0, none⟩ = some (.pointer (some ⟨t, 0, none⟩)) := by rw [blk_cell hc]; rfl
  have q1 : w.cell? ⟨c, 1, none⟩ = some (.pointer (some ⟨nd, 0, none⟩)) := by rw [blk_cell hc]; rfl
  have q3 : w.cell? ⟨c, 3, none⟩ = some (.pointer gp) := by rw [blk_cell hc]; rfl
  have HS := hide hspr
  have hcl := blk_lt hc
  have hq : ∀ m, (binOp .neq 25 (.pointer (some ⟨nd, 0, none⟩)) (.pointer gp)).run Yba.prog (w.drewN m) = .ok (.bool true) (w.drewN m) := fun m => neq25_apart (w := w.drewN m) hgp hnd
  clear hspr
  go_enter Yba.func7, Yba.ntmps7
  go_wp2
  go_quiet (fail)
  go_wp2
  go_region_held3 (fun w' => w'.cell? ⟨c, 0, none⟩ = some (.pointer (some ⟨t, 0, none⟩)) ∧ w'.cell? ⟨c, 1, none⟩ = some (.pointer (some ⟨nd, 0, none⟩))) (go_keep) (first | (go_at_call 11; refine (gather_no t nd gN n c0 c1 c2 c3 c5 k0 k1 k3 k4 bs f _ hn (by exact ht) (by exact hnd) (by exact hrow.of_block rfl) hf hbs HS.out).mono ?_; rintro e w1 ⟨rfl, hb1⟩; have hh1 : w1.heap[c]? = w.heap[c]? := hb1.block c hcl; have z0 := (cell_blk (i := 0) hh1).trans q0; have z1 := (cell_blk (i := 1) hh1).trans q1; have z3 := (cell_blk (i := 3) hh1).trans q3; have z4 := (free_blk (i := 3) hh1).trans (blk_free hc 3)))
  all_goals go_wp2
  go_end0
  refine ⟨rfl, ?_, ?_⟩
  · rw [blk_set (by rw [hh1]; exact hc)]; rfl
  · exact ((Only.of_below (below_of_drewN hb1) (fun k hk => .inr hk)).setCell (p := ⟨c, 3, none⟩) (.inl rfl) _)

set_option maxHeartbeats 1000000 in
theorem cur_yes (c t nd gN n pf : Nat) (caps : Array Value) (gp : Option Addr) (d2 c0 c1 c2 k0 k1 k3 k4 : Value) (bs last : Int) (f : Nat → Int) (pin : Nat → Bool) (w : World) (hn : n ≤ 1024)
    (hc : w.heap[c]? = some (.cells #[.pointer (some ⟨t, 0, none⟩), .pointer (some ⟨nd, 0, none⟩), d2, .pointer gp] 34 (0, 0))) (hgp : Apart w gp nd)
    (ht : w.heap[t]? = some (.cells #[c0, c1, c2, .int .u64 last, .int .u64 bs, .func (.func pf) #[] caps] 31 (0, 0))) (hnd : w.heap[nd]? = some (.cells #[k0, k1, .slice (some ⟨gN, 0, none⟩) n n, k3, k4] 40 (0, 0)))
    (hrow : Row .u64 24 w gN n f) (hf : ∀ j, 0 ≤ f j ∧ f j < 18446744073709551616) (hbs : 1 ≤ bs) (hspr : spr f bs n 0 [] = true)
    (htn : t ≠ nd) (htg : t ≠ gN) (hng : nd ≠ gN) (hct : c ≠ t) (hcg : c ≠ gN)
    (Inv : Nat → World → Prop) (S : Nat → Prop) (hS : ∀ k, w.heap.size ≤ k → S k) (hSt : ¬ S t) (hSn : ¬ S nd) (hSg : ¬ S gN) (hSc : ¬ S c)
    (hent : ∀ (v : Value) (w : World), (callFunc pf (#[v] ++ caps)).run Yba.prog w = .ok (.enter pf (#[v] ++ caps)) w)
    (hcall : ∀ i w1, i < n → Inv i w1 → Calls Yba.prog pf (#[.int .u64 (f i)] ++ caps) w1 fun e w' => e = .returned (.bool (pin i)) ∧ Inv (i + 1) w' ∧ Only S w1 w')
    (hstay : ∀ i w1 w2, Inv i w1 → w1.heap.size = w2.heap.size → Only (fun k => k = t ∨ k = gN ∨ k = c) w1 w2 → Inv i w2) (hnew : ∀ w2, Below w.heap.size w w2 → Inv 0 w2) :
    Calls Yba.prog 7 #[.pointer (some ⟨c, 0, none⟩)] w fun e w' => e = .returned (.tuple #[]) ∧ Inv n w' ∧ Row .u64 24 w' gN n (newNum pin last f) ∧
      w'.heap[t]? = some (.cells #[c0, c1, c2, .int .u64 (lastAt pin last n), .int .u64 bs, .func (.func pf) #[] caps] 31 (0, 0)) ∧
      w'.heap[c]? = some (.cells #[.pointer (some ⟨t, 0, none⟩), .pointer (some ⟨nd, 0, none⟩), d2, .pointer (some ⟨nd, 0, none⟩)] 34 (0, 0)) ∧ Only (fun k => k = t ∨ k = gN ∨ k = c ∨ S k) w w' := by
  have q0 : w.cell? ⟨c, 0, none⟩ = some (.pointer (some ⟨t, 0, none⟩)) := by rw [blk_cell hc]; rfl
  have q1 : w.cell? ⟨c, 1, none⟩ = some (.pointer (some ⟨nd, 0, none⟩)) := by rw [blk_cell hc]; rfl
  have q3 : w.cell? ⟨c, 3, none⟩ = some (.pointer gp) := by rw [blk_cell hc]; rfl
  have HS := hide hspr
  have HC := hide hcall
  have HST := hide hstay
  have HN := hide hnew
  have HE := hide hent
  have hcl := blk_lt hc
  have hq : ∀ m, (binOp .neq 25 (.pointer (some ⟨nd, 0, none⟩)) (.pointer gp)).run Yba.prog (w.drewN m) = .ok (.bool true) (w.drewN m) := fun m => neq25_apart (w := w.drewN m) hgp hnd
  clear hspr hcall hstay hnew hent
  go_enter Yba.func7, Yba.ntmps7
  go_wp2
  go_quiet (fail)
  go_wp2
  go_region_held3 (fun w' => w'.cell? ⟨c, 0, none⟩ = some (.pointer (some ⟨t, 0, none⟩)) ∧ w'.cell? ⟨c, 1, none⟩ = some (.pointer (some ⟨nd, 0, none⟩))) (go_keep) (first | (go_at_call 11; refine (gather_yes t nd gN n pf caps c0 c1 c2 k0 k1 k3 k4 bs last f pin _ hn (by exact ht) (by exact hnd) (by exact hrow.of_block rfl) hf hbs HS.out htn htg hng Inv S (by exact hS) hSt hSn hSg HE.out HC.out (fun i w1 w2 a b d => HST.out i w1 w2 a b (d.mono fun k hk => by rcases hk with h | h; exact .inl h; exact .inr (.inl h))) (fun w2 h => HN.out w2 (below_of_drewN h))).mono ?_; rintro e w1 ⟨rfl, hinv, hrw, htw, ho1⟩; have hh1 : w1.heap[c]? = w.heap[c]? := ho1.block c (by simp [hct, hcg, hSc]); have z0 := (cell_blk (i := 0) hh1).trans q0; have z1 := (cell_blk (i := 1) hh1).trans q1; have z3 := (cell_blk (i := 3) hh1).trans q3; have z4 := (free_blk (i := 3) hh1).trans (blk_free hc 3)))
  all_goals go_wp2
  go_end0
  refine ⟨rfl, ?_, ?_, ?_, ?_, ?_⟩
  · exact HST.out n w1 _ hinv (by simp) ((Only.refl _ w1).setCell (p := ⟨c, 3, none⟩) (.inr (.inr rfl)) _)
  · exact hrw.of_block (blk_set_far _ _ (Ne.symm hcg))
  · rw [blk_set_far _ _ (Ne.symm hct)]; exact htw
  · rw [blk_set (by rw [hh1]; exact hc)]; rfl
  · exact ((only_of_drewN ho1).mono (fun k hk => by rcases hk with h | h | h; exact .inl h; exact .inr (.inl h); exact .inr (.inr (.inr h)))).setCell (p := ⟨c, 3, none⟩) (.inr (.inr (.inl rfl))) _
end Go.Proofs.Ybulkbfvw
