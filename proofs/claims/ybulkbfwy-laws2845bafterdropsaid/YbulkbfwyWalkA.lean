/-
  OWN WORK. Walks: the law's own helpers, (*big.Int).Sign at nought.
-/
import Derived.Test.YbulkbfwyMaps
import Derived.BigQuiet
import Derived.Deep.QuietTactic
import Derived.Deep.RegionHeld3
import Derived.Deep.Light
namespace Go.Proofs.Ybulkbfwy
open Go.RowKit

theorem ret_int {k : IntKind} {a b : Int} (h : a = b) : Ending.returned (.int k a) = .returned (.int k b) := by rw [h]
theorem ret_bool {a b : Bool} (h : a = b) : Ending.returned (.bool a) = .returned (.bool b) := by rw [h]
theorem str_eq {s t : ByteArray} (h : s = t) : (s.toList == t.toList) = true := by rw [h]; simp
theorem str_ne {s t : ByteArray} (h : s ≠ t) : (s.toList == t.toList) = false := by
  rw [ByteArray.toList_eq, ByteArray.toList_eq]
  simp only [beq_eq_false_iff_ne, ne_eq]
  intro e
  apply h
  cases s; cases t
  simpa [Array.toList_inj] using e

set_option maxHeartbeats 400000 in
theorem find_hit (g cap m : Nat) (sn : Nat → ByteArray) (s : ByteArray) (i : Nat) (w : World) (hm : m ≤ 5000) (hc : ∀ j, j < m → w.cell? ⟨g, j, none⟩ = some (.string (sn j))) (hi : i < m) (he : sn i = s) (hne : ∀ j, j < i → sn j ≠ s) :
    Calls Yba.prog 7 #[.slice (some ⟨g, 0, none⟩) m cap, .string s] w fun e w' => e = .returned (.int .i64 i) ∧ w' = w := by
  have HE := hide he
  clear he
  go_enter Yba.func7, Yba.ntmps7
  go_wp2
  go_loop [5] (fun q => ∃ k : Nat, k ≤ i ∧ q = .int .i64 k) (fun q => m - (intOf q).toNat)
  case atStart => exact ⟨0, Nat.zero_le _, rfl⟩
  case round =>
    obtain ⟨k, hk, rfl⟩ := hrel
    have q1 := hc k (by omega)
    have hkm : k < m := by omega
    by_cases h : k = i
    · subst h
      have e1 : ((sn k).toList == s.toList) = true := str_eq HE.out
      go_wp2
      go_ret
      exact ⟨rfl, rfl⟩
    · have e1 : ((sn k).toList == s.toList) = false := str_ne (hne k (by omega))
      go_wp2
      go_round
      case rel => exact ⟨k + 1, by omega, by go_num⟩
      case measure => simp [intOf]; omega

set_option maxHeartbeats 400000 in
theorem find_zero (a : Option Addr) (cap : Nat) (s : ByteArray) (w : World) :
    Calls Yba.prog 7 #[.slice a 0 cap, .string s] w fun e w' => e = .returned (.int .i64 (-1)) ∧ w' = w := by
  go_enter Yba.func7, Yba.ntmps7
  go_wp2
  go_loop [5] (fun q => q = .int .i64 0) (fun q => (intOf q).toNat)
  case atStart => rfl
  case round =>
    subst hrel
    go_wp2
    go_ret
    exact ⟨rfl, rfl⟩

set_option maxHeartbeats 400000 in
theorem find_miss (g cap m : Nat) (sn : Nat → ByteArray) (s : ByteArray) (w : World) (hm : m ≤ 5000) (hc : ∀ j, j < m → w.cell? ⟨g, j, none⟩ = some (.string (sn j))) (hne : ∀ j, j < m → sn j ≠ s) :
    Calls Yba.prog 7 #[.slice (some ⟨g, 0, none⟩) m cap, .string s] w fun e w' => e = .returned (.int .i64 (-1)) ∧ w' = w := by
  go_enter Yba.func7, Yba.ntmps7
  go_wp2
  go_loop [5] (fun q => ∃ k : Nat, k ≤ m ∧ q = .int .i64 k) (fun q => m - (intOf q).toNat)
  case atStart => exact ⟨0, Nat.zero_le _, rfl⟩
  case round =>
    obtain ⟨k, hk, rfl⟩ := hrel
    by_cases hkm : k < m
    · have q1 := hc k hkm
      have e1 : ((sn k).toList == s.toList) = false := str_ne (hne k hkm)
      go_wp2
      go_round
      case rel => exact ⟨k + 1, by omega, by go_num⟩
      case measure => simp [intOf]; omega
    · go_wp2
      go_ret
      exact ⟨rfl, rfl⟩

/-- find, of a name that is there at place i, and of one that is not. -/
theorem find_yes {w : World} {base : Nat} {v : Value} {m : Nat} {sn : Nat → ByteArray} (h : OwnF w base 9 v m (fun j => .string (sn j))) (hm : m ≤ 5000) {s : ByteArray} {i : Nat} (hi : i < m) (he : sn i = s) (hne : ∀ j, j < i → sn j ≠ s) :
    Calls Yba.prog 7 #[v, .string s] w fun e w' => e = .returned (.int .i64 i) ∧ w' = w := by
  obtain ⟨g, cap, rfl, _, _, _, hc⟩ := h.cells (by omega)
  exact find_hit g cap m sn s i w hm hc hi he hne
theorem find_no {w : World} {base : Nat} {v : Value} {m : Nat} {sn : Nat → ByteArray} (h : OwnF w base 9 v m (fun j => .string (sn j))) (hm : m ≤ 5000) {s : ByteArray} (hne : ∀ j, j < m → sn j ≠ s) :
    Calls Yba.prog 7 #[v, .string s] w fun e w' => e = .returned (.int .i64 (-1)) ∧ w' = w := by
  rcases Nat.eq_zero_or_pos m with h0 | h0
  · subst h0
    obtain ⟨a, cap, rfl⟩ := h.form
    exact find_zero a cap s w
  · obtain ⟨g, cap, rfl, _, _, _, hc⟩ := h.cells h0
    exact find_miss g cap m sn s w hm hc hne

/-! ### Pointers to makerScores -/
theorem Yba.size48 : (Yba.prog.info? 48).map (·.size) = some 18 := by kernel_rfl
theorem size_parts {P : Program} {e : TypeId} {n : Nat} (h : (P.info? e).map (·.size) = some n) : ∃ j, P.info? e = some j ∧ j.size = n := by
  obtain ⟨i, hi, hz⟩ := Option.map_eq_some_iff.1 h
  exact ⟨i, hi, hz⟩
theorem eql32_same (a : Addr) (w : World) : (binOp .eql 32 (.pointer (some a)) (.pointer (some a))).run Yba.prog w = .ok (.bool true) w := by
  obtain ⟨j, h1, _⟩ := size_parts Yba.size48
  exact eql_ptr_same Yba.underlying32 h1 a w
theorem neq32_same (a : Addr) (w : World) : (binOp .neq 32 (.pointer (some a)) (.pointer (some a))).run Yba.prog w = .ok (.bool false) w := by
  obtain ⟨j, h1, _⟩ := size_parts Yba.size48
  exact neq_ptr_same Yba.underlying32 h1 a w
theorem eql32_other {w : World} {a b : Nat} {ca cb : Array Value} (hne : a ≠ b) (ha : w.heap[a]? = some (.cells ca 48 (0, 0))) (hb : w.heap[b]? = some (.cells cb 48 (0, 0))) : (binOp .eql 32 (.pointer (some ⟨a, 0, none⟩)) (.pointer (some ⟨b, 0, none⟩))).run Yba.prog w = .ok (.bool false) w := by
  obtain ⟨j, h1, h2⟩ := size_parts Yba.size48
  have hx := eqIn_ptr_other 9999 Yba.underlying32 h1 (by omega) (a := ⟨a, 0, none⟩) (b := ⟨b, 0, none⟩) w (fun e => hne (by cases e; rfl)) ha hb
  simp only [binOp]; simp [Op.equal, Op.maxDepth, hx]

set_option maxHeartbeats 400000 in
theorem in_some (g cap m p : Nat) (gs : Nat → Nat) (cp : Array Value) (w : World) (hm : m ≤ 5000) (hc : ∀ j, j < m → w.cell? ⟨g, j, none⟩ = some (.pointer (some ⟨gs j, 0, none⟩))) (hp : w.heap[p]? = some (.cells cp 48 (0, 0)))
    (hg : ∀ j, j < m → gs j ≠ p ∧ ∃ cs, w.heap[gs j]? = some (.cells cs 48 (0, 0))) :
    Calls Yba.prog 8 #[.slice (some ⟨g, 0, none⟩) m cap, .pointer (some ⟨p, 0, none⟩)] w fun e w' => e = .returned (.bool false) ∧ w' = w := by
  go_enter Yba.func8, Yba.ntmps8
  go_wp2
  go_loop [5] (fun q => ∃ k : Nat, k ≤ m ∧ q = .int .i64 k) (fun q => m - (intOf q).toNat)
  case atStart => exact ⟨0, Nat.zero_le _, rfl⟩
  case round =>
    obtain ⟨k, hk, rfl⟩ := hrel
    by_cases hkm : k < m
    · have q1 := hc k hkm
      obtain ⟨q2, cs, q3⟩ := hg k hkm
      have e1 := eql32_other q2 q3 hp
      go_wp2
      go_round
      case rel => exact ⟨k + 1, by omega, by go_num⟩
      case measure => simp [intOf]; omega
    · go_wp2
      go_ret
      exact ⟨rfl, rfl⟩
set_option maxHeartbeats 400000 in
theorem in_zero (a : Option Addr) (cap p : Nat) (w : World) :
    Calls Yba.prog 8 #[.slice a 0 cap, .pointer (some ⟨p, 0, none⟩)] w fun e w' => e = .returned (.bool false) ∧ w' = w := by
  go_enter Yba.func8, Yba.ntmps8
  go_wp2
  go_loop [5] (fun q => q = .int .i64 0) (fun q => (intOf q).toNat)
  case atStart => rfl
  case round =>
    subst hrel
    go_wp2
    go_ret
    exact ⟨rfl, rfl⟩
theorem in_no {w : World} {base : Nat} {v : Value} {m : Nat} {gs : Nat → Nat} (h : OwnF w base 32 v m (fun j => .pointer (some ⟨gs j, 0, none⟩))) (hm : m ≤ 5000) {p : Nat} {cp : Array Value} (hp : w.heap[p]? = some (.cells cp 48 (0, 0)))
    (hg : ∀ j, j < m → gs j ≠ p ∧ ∃ cs, w.heap[gs j]? = some (.cells cs 48 (0, 0))) :
    Calls Yba.prog 8 #[v, .pointer (some ⟨p, 0, none⟩)] w fun e w' => e = .returned (.bool false) ∧ w' = w := by
  rcases Nat.eq_zero_or_pos m with h0 | h0
  · subst h0
    obtain ⟨a, cap, rfl⟩ := h.form
    exact in_zero a cap p w
  · obtain ⟨g, cap, rfl, _, _, _, hc⟩ := h.cells h0
    exact in_some g cap m p gs cp w hm hc hp hg

/-! ### New scores -/
/-- The cells of new scores of maker s. -/
def freshC (s : ByteArray) : Array Value := #[.string s, .bool false, .slice none 0 0, .bool false, .slice none 0 0, .int .u64 0, .int .u64 0, .int .u64 0, .int .u64 0, .bool false, .slice none 0 0, .int .i64 0, .int .u64 0, .int .i64 0, .pointer none, .slice none 0 0, .bool false, .int .i64 0]

set_option maxHeartbeats 400000 in
theorem sign_zero (b o : Nat) (w : World) (h : w.cell? ⟨b, o + 1, none⟩ = some (.slice none 0 0)) :
    Calls Yba.prog 13 #[.pointer (some ⟨b, o, none⟩)] w fun e w' => e = .returned (.int .i64 0) ∧ w' = w := by
  go_enter Yba.func13, Yba.ntmps13
  go_wp2
  go_ret
  exact ⟨rfl, rfl⟩

set_option maxHeartbeats 1000000 in
theorem fresh_yes (b : Nat) (s : ByteArray) (w : World) (h : w.heap[b]? = some (.cells (freshC s) 48 (0, 0))) :
    Calls Yba.prog 9 #[.pointer (some ⟨b, 0, none⟩)] w fun e w' => e = .returned (.bool true) ∧ w' = w := by
  have c2 : w.cell? ⟨b, 2, none⟩ = some (.slice none 0 0) := by rw [blk_cell h]; rfl
  have c4 : w.cell? ⟨b, 4, none⟩ = some (.slice none 0 0) := by rw [blk_cell h]; rfl
  have c10 : w.cell? ⟨b, 10, none⟩ = some (.slice none 0 0) := by rw [blk_cell h]; rfl
  have c11 : w.cell? ⟨b, 11, none⟩ = some (.int .i64 0) := by rw [blk_cell h]; rfl
  have c15 : w.cell? ⟨b, 15, none⟩ = some (.slice none 0 0) := by rw [blk_cell h]; rfl
  have c16 : w.cell? ⟨b, 16, none⟩ = some (.bool false) := by rw [blk_cell h]; rfl
  have c17 : w.cell? ⟨b, 17, none⟩ = some (.int .i64 0) := by rw [blk_cell h]; rfl
  clear h
  go_enter Yba.func9, Yba.ntmps9
  go_wp2_with fail
  refine (sign_zero b 9 _ c10).mono ?_
  rintro e w1 ⟨rfl, rfl⟩
  go_wp2_with fail
  refine (sign_zero b 1 _ c2).mono ?_
  rintro e w2 ⟨rfl, rfl⟩
  go_wp2_with fail
  refine (sign_zero b 3 _ c4).mono ?_
  rintro e w3 ⟨rfl, rfl⟩
  go_wp2
  go_ret
  exact ⟨rfl, rfl⟩

/-! ### The market -/
/-- The market's block: what it keeps of scores, the index and the last maker. -/
def Mkt (w : World) (sM bm : Nat) (sv lv : Value) : Prop := ∃ cs : Array Value, w.heap[sM]? = some (.cells cs 56 (0, 0)) ∧ cs[41]? = some sv ∧ cs[42]? = some (.map (some bm)) ∧ cs[48]? = some lv
theorem Mkt.of_block {w w' : World} {sM bm : Nat} {sv lv : Value} (h : Mkt w sM bm sv lv) (hb : w'.heap[sM]? = w.heap[sM]?) : Mkt w' sM bm sv lv := by
  obtain ⟨cs, h1, h2⟩ := h; exact ⟨cs, by rw [hb]; exact h1, h2⟩
theorem Mkt.lt {w : World} {sM bm : Nat} {sv lv : Value} (h : Mkt w sM bm sv lv) : sM < w.heap.size := by obtain ⟨cs, h1, _⟩ := h; exact blk_lt h1
theorem Mkt.cells {w : World} {sM bm : Nat} {sv lv : Value} (h : Mkt w sM bm sv lv) : w.cell? ⟨sM, 41, none⟩ = some sv ∧ w.cell? ⟨sM, 42, none⟩ = some (.map (some bm)) ∧ w.cell? ⟨sM, 48, none⟩ = some lv ∧ w.frozen? ⟨sM, 41, none⟩ = false ∧ w.frozen? ⟨sM, 48, none⟩ = false := by
  obtain ⟨cs, h1, h2, h3, h4⟩ := h
  exact ⟨by rw [blk_cell h1]; exact h2, by rw [blk_cell h1]; exact h3, by rw [blk_cell h1]; exact h4, blk_free h1 _, blk_free h1 _⟩
theorem Mkt.set_scores {w : World} {sM bm : Nat} {sv lv : Value} (h : Mkt w sM bm sv lv) (x : Value) : Mkt (w.setCell ⟨sM, 41, none⟩ x) sM bm x lv := by
  obtain ⟨cs, h1, h2, h3, h4⟩ := h
  have hl : 41 < cs.size := (Array.getElem?_eq_some_iff.1 h2).1
  refine ⟨_, blk_set h1 41 x, by simp [hl], ?_, ?_⟩
  · rw [Array.getElem?_setIfInBounds, if_neg (by omega)]; exact h3
  · rw [Array.getElem?_setIfInBounds, if_neg (by omega)]; exact h4
theorem Mkt.set_last {w : World} {sM bm : Nat} {sv lv : Value} (h : Mkt w sM bm sv lv) (x : Value) : Mkt (w.setCell ⟨sM, 48, none⟩ x) sM bm sv x := by
  obtain ⟨cs, h1, h2, h3, h4⟩ := h
  have hl : 48 < cs.size := (Array.getElem?_eq_some_iff.1 h4).1
  refine ⟨_, blk_set h1 48 x, ?_, ?_, by simp [hl]⟩
  · rw [Array.getElem?_setIfInBounds, if_neg (by omega)]; exact h2
  · rw [Array.getElem?_setIfInBounds, if_neg (by omega)]; exact h3

-- check: the market holds m scores, gs 0 .. gs (m - 1), of the names sn.
set_option maxHeartbeats 1000000 in
theorem check_some (sM bm m gS capS gV cS gG cG : Nat) (lv : Value) (sn : Nat → ByteArray) (gs : Nat → Nat) (w : World) (hm : m ≤ 5000) (hM : Mkt w sM bm (.slice (some ⟨gS, 0, none⟩) m capS) lv) (hI : Idx w bm m sn) (hsz : ∀ j, j < m → (sn j).size ≤ maxLen)
    (h1 : ∀ j, j < m → w.cell? ⟨gS, j, none⟩ = some (.pointer (some ⟨gs j, 0, none⟩))) (h2 : ∀ j, j < m → w.cell? ⟨gV, j, none⟩ = some (.string (sn j))) (h3 : ∀ j, j < m → w.cell? ⟨gG, j, none⟩ = some (.pointer (some ⟨gs j, 0, none⟩))) :
    Calls Yba.prog 10 #[.pointer (some ⟨sM, 0, none⟩), .slice (some ⟨gV, 0, none⟩) m cS, .slice (some ⟨gG, 0, none⟩) m cG] w fun e w' => e = .returned (.bool true) ∧ ∃ d, w' = w.drewN d := by
  obtain ⟨c1, c2, _, _, _⟩ := hM.cells
  have hl := hI.len 3
  have hmm : ((m : Int) != (m : Int)) = false := by simp
  go_enter Yba.func10, Yba.ntmps10
  go_wp2
  go_loopw [7] (fun q wr => ∃ k d : Nat, k ≤ m ∧ q = .int .i64 k ∧ wr = w.drewN d) (fun q _ => m - (intOf q).toNat)
  case atStart => exact ⟨0, 0, Nat.zero_le _, rfl, rfl⟩
  case round =>
    obtain ⟨k, d, hk, rfl, rfl⟩ := hrel
    by_cases hkm : k < m
    · have q1 := h1 k hkm
      have q2 := h2 k hkm
      have q3 := h3 k hkm
      have hk0 : (0 : Int) ≤ (k : Int) := by omega
      have hkn : (k : Int) < (m : Int) := by omega
      have p1 := neq32_same
      have p2 : ∀ x, (Instr.lookup 52 (.map (some bm)) (.string (sn k)) true).run Yba.prog (w.drewN x) = .ok (.tuple #[.int .i64 k, .bool true]) (w.drewN x) := fun x => ((hI.of_block (w' := w.drewN x) rfl).look hkm (hsz k hkm)).1
      have p3 : ((k : Int) != (k : Int)) = false := by simp
      go_wp2
      go_quiet (fail)
      go_wp2
      go_quiet (fail)
      go_wp2
      go_roundw
      case rel => exact ⟨k + 1, _, by omega, by go_num, by simp [World.drewN, Nat.add_assoc]; rfl⟩
      case measure => simp [intOf]; omega
    · go_wp2
      go_ret
      exact ⟨rfl, _, rfl⟩

set_option maxHeartbeats 1000000 in
theorem check_zero (sM bm c1 c2 c3 : Nat) (a1 a2 a3 : Option Addr) (lv : Value) (sn : Nat → ByteArray) (w : World) (hM : Mkt w sM bm (.slice a1 0 c1) lv) (hI : Idx w bm 0 sn) :
    Calls Yba.prog 10 #[.pointer (some ⟨sM, 0, none⟩), .slice a2 0 c2, .slice a3 0 c3] w fun e w' => e = .returned (.bool true) ∧ ∃ d, w' = w.drewN d := by
  obtain ⟨q1, q2, _, _, _⟩ := hM.cells
  have hl := hI.len 3
  go_enter Yba.func10, Yba.ntmps10
  go_wp2
  go_loop [7] (fun q => q = .int .i64 0) (fun q => (intOf q).toNat)
  case atStart => rfl
  case round =>
    subst hrel
    go_wp2
    go_ret
    exact ⟨rfl, 0, rfl⟩

theorem check_yes {w : World} {base sM bm m : Nat} {sv lv v4 v5 : Value} {sn : Nat → ByteArray} {gs : Nat → Nat} (hm : m ≤ 5000) (hM : Mkt w sM bm sv lv) (hI : Idx w bm m sn) (hsz : ∀ j, j < m → (sn j).size ≤ maxLen)
    (h1 : OwnF w base 32 sv m (fun j => .pointer (some ⟨gs j, 0, none⟩))) (h2 : OwnF w base 9 v4 m (fun j => .string (sn j))) (h3 : OwnF w base 32 v5 m (fun j => .pointer (some ⟨gs j, 0, none⟩))) :
    Calls Yba.prog 10 #[.pointer (some ⟨sM, 0, none⟩), v4, v5] w fun e w' => e = .returned (.bool true) ∧ ∃ d, w' = w.drewN d := by
  rcases Nat.eq_zero_or_pos m with h0 | h0
  · subst h0
    obtain ⟨a1, c1, rfl⟩ := h1.form
    obtain ⟨a2, c2, rfl⟩ := h2.form
    obtain ⟨a3, c3, rfl⟩ := h3.form
    exact check_zero sM bm c1 c2 c3 a1 a2 a3 lv sn w hM hI
  · obtain ⟨g1, c1, rfl, _, _, _, q1⟩ := h1.cells h0
    obtain ⟨g2, c2, rfl, _, _, _, q2⟩ := h2.cells h0
    obtain ⟨g3, c3, rfl, _, _, _, q3⟩ := h3.cells h0
    exact check_some sM bm m g1 c1 g2 c2 g3 c3 lv sn gs w hm hM hI hsz q1 q2 q3
end Go.Proofs.Ybulkbfwy
