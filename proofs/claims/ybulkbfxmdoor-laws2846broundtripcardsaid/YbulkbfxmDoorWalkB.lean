/-
  OWN WORK. Walks: AppendOffset, slices.Clone.
-/
import Derived.Test.YbulkbfxmDoorWalkA
import Derived.Maps.AppendAt
namespace Go.Proofs.YbulkbfxmDoor
open Go.RowKit

theorem Ybad.info5 : (Ybad.prog.info? 5).map (fun i => (i.zero, i.size, i.bytes)) = some (some (.int .u8 0), 1, 1) := by kernel_rfl

theorem slice37 (b p q : Nat) (hp : p + q = 9) (w : World) : (Instr.sliceAt 37 (.pointer (some ⟨b, 0, none⟩)) (some (.int .i64 (p : Int))) none none).run Ybad.prog w = .ok (.slice (some ⟨b, p, none⟩) (q + 1) (q + 1)) w := by
  have h1 : Ybad.prog.arrayLen 37 = 10 := by kernel_rfl
  have h2 : Ybad.prog.elem 37 = 5 := by kernel_rfl
  have h3 : (sizeOf 5).run Ybad.prog w = .ok 1 w := by kernel_rfl
  rw [run_sliceAt_array_l w 37 ⟨b, 0, none⟩ (by rw [h1, h2]; kernel_rfl) .i64 p (by omega) (by rw [h1]; omega), h2, h3, h1]
  have e1 : ((p : Int)).toNat = p := by simp
  simp only [Result.andThen_ok, slicedAt, e1]
  rw [if_neg (by omega), addr_add, show 0 + p * 1 = p by omega, show 10 - p = q + 1 by omega]

theorem map_app {F G H : Nat → Value} {m n : Nat} (h1 : ∀ j, j < m → H j = F j) (h2 : ∀ j, j < n → H (m + j) = G j) : (List.range m).map F ++ (List.range n).map G = (List.range (m + n)).map H := by
  apply List.ext_getElem?
  intro j
  by_cases hj : j < m
  · rw [List.getElem?_append_left (by simpa using hj)]
    have : j < m + n := by omega
    simp [hj, this, h1 j hj]
  · rw [List.getElem?_append_right (by simpa using hj)]
    simp only [List.length_map, List.length_range]
    by_cases hk : j - m < n
    · have h3 := h2 (j - m) hk
      have h4 : j < m + n := by omega
      rw [show m + (j - m) = j by omega] at h3
      simp [hk, h4, h3]
    · have h4 : ¬ j < m + n := by omega
      simp [hk, h4]
theorem news_fn {w : World} {g o n : Nat} {G : Nat → Value} (hc : ∀ j, j < n → w.cell? ⟨g, o + j, none⟩ = some (G j)) : ∀ (j : Nat) (u : Value), ((List.range n).map G)[j]? = some u → w.cell? ((⟨g, o, none⟩ : Addr).add j) = some u := by
  intro j u hu
  by_cases hj : j < n
  · rw [addr_add, hc j hj]; simpa [hj] using hu
  · simp [hj] at hu
theorem ints_one (k : IntKind) (n : Nat) (f : Nat → Int) : ∀ u ∈ (List.range n).map (fun j => Value.int k (f j)), u.oneCell' = true := by
  intro u hu
  obtain ⟨j, _, rfl⟩ := List.mem_map.1 hu
  rfl
theorem only_then {w wr w2 : World} {row : Option Nat} (h : Only (· = w.heap.size) w wr) (hg : wr.grownBy w2 row) : w.grownBy w2 row :=
  ⟨hg.os.trans h.os, hg.tape.trans h.tape, hg.output.trans h.output, Nat.le_trans h.size hg.size, fun k hk hr => (hg.block k (Nat.lt_of_lt_of_le hk h.size) hr).trans (h.block k (by omega))⟩

/-- The buffer after k rounds. -/
def bufF (v k : Nat) (j : Nat) : Int := if 9 - k ≤ j then ((bt v (9 - j) : Nat) : Int) else 0

theorem bufF_end (v k j : Nat) (hk : k ≤ 9) (hj : j < k + 1) : bufF v k (9 - k + j) = ((bt v (k - j) : Nat) : Int) := by
  unfold bufF
  rw [if_pos (by omega), show 9 - (9 - k + j) = k - j by omega]
theorem bufF_step (v k : Nat) (hk : k < 9) : bufF v (k + 1) (8 - k) = ((bt v (k + 1) : Nat) : Int) := by
  unfold bufF
  rw [if_pos (by omega), show 9 - (8 - k) = k + 1 by omega]
theorem bufF_else (v k j : Nat) (hk : k < 9) (hj : j ≠ 8 - k) : bufF v (k + 1) j = bufF v k j := by
  unfold bufF
  by_cases h : 9 - k ≤ j
  · rw [if_pos h, if_pos (by omega)]
  · rw [if_neg h, if_neg (by omega)]
theorem k_lt (v k : Nat) (hv : v < 18446744073709551616) (hk : k ≤ 9) (h : vs v k / 128 ≠ 0) : k < 9 := by
  rcases Nat.lt_or_ge k 9 with h1 | h1
  · exact h1
  · obtain rfl : k = 9 := by omega
    have := vs_lt v hv 9 (by omega)
    simp at this
    omega

set_option maxHeartbeats 1000000 in
set_option maxRecDepth 20000 in
theorem append_run (base v m : Nat) (d : Value) (F : Nat → Value) (w : World) (hv : v < 18446744073709551616) (hm : m ≤ 4096) (hbase : base ≤ w.heap.size) (hown : OwnF w base 5 d m F) :
    Calls Ybad.prog 9 #[d, .int .u64 (v : Int)] w fun e w' => ∃ L g cap, e = .returned (.slice (some ⟨g, 0, none⟩) (m + (L + 1)) cap) ∧ L ≤ 9 ∧ vs v L / 128 = 0 ∧ (∀ j, j < L → vs v j / 128 ≠ 0) ∧
      OwnF w' base 5 (.slice (some ⟨g, 0, none⟩) (m + (L + 1)) cap) (m + (L + 1)) (fun j => if j < m then F j else .int .u8 ((bt v (L - (j - m)) : Nat) : Int)) ∧ w.grownBy w' d.ownBlock := by
  have b0 := u64_and127 v hv
  go_enter Ybad.func9, Ybad.ntmps9
  go_wp2
  go_loopw [1, 6] (fun x i wr => ∃ k : Nat, k ≤ 9 ∧ x = .int .u64 ((vs v k / 128 : Nat) : Int) ∧ i = .int .i64 ((9 - k : Nat) : Int) ∧ Row .u8 37 wr w.heap.size 10 (bufF v k) ∧ Only (· = w.heap.size) w wr ∧ w.heap.size < wr.heap.size ∧ (∀ j, j < k → vs v j / 128 ≠ 0)) (fun _ i _ => (intOf i).toNat)
  case atStart =>
    refine ⟨0, by omega, rfl, rfl, ⟨_, blk_new _ _, rfl, ?_⟩, Only.alloc (S := (· = w.heap.size)) (Only.refl _ w) rfl _, by simp, fun j hj => by omega⟩
    intro j hj
    obtain rfl | rfl | rfl | rfl | rfl | rfl | rfl | rfl | rfl | rfl : j = 0 ∨ j = 1 ∨ j = 2 ∨ j = 3 ∨ j = 4 ∨ j = 5 ∨ j = 6 ∨ j = 7 ∨ j = 8 ∨ j = 9 := by omega
    all_goals simp [bufF, bt_zero]
  case round =>
    obtain ⟨k, hk, rfl, rfl, hrow, honly, hlt, hmid⟩ := hrel
    by_cases h : vs v k / 128 = 0
    · have HH := hide h
      have HM := hide hmid
      have HO := hide honly
      rw [h]
      clear h hmid b0
      obtain ⟨i5, hi, hz0, hz1, hz2⟩ := info_parts Ybad.info5
      have hown1 : OwnF wr base 5 d m F := hown.kept (fun q hq => HO.out.block q (by have := (hown.at_block hq).2.1; omega))
      have hsz := HO.out.size
      have hsl := slice37 w.heap.size (9 - k) k (by omega)
      go_wp2_with (at_builtin; refine wpList_append_lies _ rfl (.tmp 28) (.tmp 30) 22 rfl base 5 i5 (.int .u8 0) 1 1 Ybad.underlying22 hi hz0 hz1 hz2 rfl (by decide) d m _ rfl hown1 ⟨w.heap.size, 9 - k, none⟩ (k + 1) (k + 1) ((List.range (k + 1)).map fun j => .int .u8 (bufF v k (9 - k + j))) rfl (by simp) (news_fn (fun j hj => hrow.cell (9 - k + j) (by omega))) (ints_one _ _ _) (by omega) (by unfold maxLen; omega) (by omega) (by omega) _ rfl ?_; intro g' cap' w2 hown2 hgrow hat hlt1)
      go_ret
      refine ⟨k, g', cap', rfl, hk, HH.out, HM.out, ?_, only_then HO.out hgrow⟩
      have e := map_app (F := F) (G := fun j => .int .u8 (bufF v k (9 - k + j))) (H := fun j => if j < m then F j else .int .u8 ((bt v (k - (j - m)) : Nat) : Int)) (m := m) (n := k + 1) (fun j hj => by simp [hj]) (fun j hj => by
        show (if m + j < m then _ else _) = _
        rw [if_neg (by omega), show m + j - m = j by omega, bufF_end v k j hk hj])
      unfold OwnF
      rw [← e]; exact hown2
    · have hk9 := k_lt v k hv hk h
      obtain ⟨p, hp⟩ : ∃ p, p = 8 - k := ⟨_, rfl⟩
      have e9 : 9 - k = p + 1 := by omega
      obtain ⟨z, hz⟩ : ∃ z, z = vs v (k + 1) := ⟨_, rfl⟩
      have ez : vs v k / 128 = z + 1 := by rw [hz, vs_succ]; omega
      have hzl : z < 18446744073709551615 := by have := vs_small v hv (k + 1) (by omega); omega
      have b1 := u64_and127 z (by omega)
      have b2 := u8_or128 (z % 128) (by omega)
      replace b1 : bits .and .u64 (z : Int) 127 = (z : Int) % 128 := by rw [b1]; simp
      replace b2 : bits .or .u8 128 ((z : Int) % 128) = 128 + (z : Int) % 128 := by rw [show ((z : Int) % 128) = ((z % 128 : Nat) : Int) by simp, b2]; simp
      rw [e9, ez]
      have HM := hide hmid
      have HO := hide honly
      have HR := hide hrow
      have HZ := hide hz
      have HP := hide hp
      have q1 : wr.cell? ⟨w.heap.size, p, none⟩ = some (.int .u8 (bufF v k p)) := hrow.cell p (by omega)
      have q2 : wr.frozen? ⟨w.heap.size, p, none⟩ = false := hrow.free p
      have HV := hide hv
      have HH := hide h
      clear hmid honly hrow hz hp b0 hv hown h ez
      have hzl' : ¬ (18446744073709551615 : Int) ≤ (z : Int) := by omega
      clear hzl
      go_wp2
      go_roundw
      case rel =>
        have hz := HZ.out
        have hp := HP.out
        have hv := HV.out
        refine ⟨k + 1, by omega, by rw [← hz]; simp, by rw [show 9 - (k + 1) = p by omega], HR.out.set p _ (fun _ => ?_) (fun j _ hj => bufF_else v k j hk9 (by omega)), HO.out.setCell rfl _, by simpa using hlt, fun j hj => ?_⟩
        · rw [hp, bufF_step v k hk9, bt_succ, ← hz]; simp
        · by_cases e : j = k
          · rw [e]; exact HH.out
          · exact HM.out j (by omega)
      case measure => simp [intOf]

theorem eql22 (a : Option Addr) (n c : Nat) (w : World) : (binOp .eql 22 (.slice a n c) (.slice none 0 0)).run Ybad.prog w = .ok (.bool a.isNone) w := Lib.run_eql_slice_nil w 22 5 a n c 0 0 Ybad.underlying22

theorem empty_own (w : World) : (w.alloc (.cells #[] 5)).ownsRow w.heap.size 5 1 (.slice (some ⟨w.heap.size, 0, none⟩) 0 0) 0 [] :=
  ⟨rfl, .inr ⟨w.heap.size, 0, #[], rfl, Nat.le_refl _, blk_new _ _, Nat.le_refl _, by unfold maxLen; omega, rfl, rfl⟩⟩
set_option maxHeartbeats 1000000 in
theorem clone_run (a : Option Addr) (n cap : Nat) (f : Nat → Int) (w : World) (hn : n ≤ 4096) (ha0 : a = none → n = 0) (hr : Reads .u8 w a n f) :
    Calls Ybad.prog 8 #[.slice a n cap] w fun e w' => ∃ v, e = .returned v ∧ OwnF w' w.heap.size 5 v n (fun j => .int .u8 (f j)) ∧ Below w.heap.size w w' := by
  have h0 := eql22
  cases a with
  | none =>
    obtain rfl : n = 0 := ha0 rfl
    go_enter Ybad.func8, Ybad.ntmps8
    go_wp2
    go_ret
    exact ⟨_, rfl, OwnF.nil _ _ _ _, Below.refl _ _⟩
  | some x =>
    obtain ⟨i5, hi, hz0, hz1, hz2⟩ := info_parts Ybad.info5
    have hr1 := hr.kept ((Below.refl _ w).alloc (Nat.le_refl _) (.cells #[] 5))
    have hnews : ∀ (j : Nat) (u : Value), ((List.range n).map fun j => Value.int .u8 (f j))[j]? = some u → (w.alloc (.cells #[] 5)).cell? (x.add j) = some u := by
      intro j u hu
      by_cases hj : j < n
      · obtain ⟨g, o, h1, h2⟩ := hr1 j hj
        obtain rfl : x = ⟨g, o, none⟩ := by simpa using h1
        rw [addr_add, h2]; simpa [hj] using hu
      · simp [hj] at hu
    clear hr hr1
    go_enter Ybad.func8, Ybad.ntmps8
    go_wp2_with (at_builtin; refine wpList_append_own_at _ rfl (.tmp 5) (.tmp 6) 22 rfl w.heap.size 5 i5 (.int .u8 0) 1 1 Ybad.underlying22 hi hz0 hz1 hz2 rfl (by decide) (.slice (some ⟨w.heap.size, 0, none⟩) 0 0) 0 [] rfl (empty_own w) x n cap ((List.range n).map fun j => .int .u8 (f j)) rfl (by simp) hnews (ints_one _ _ _) (by unfold maxLen; omega) (by omega) (by simp) ?_; intro v' w1 hown hgrow hnil hat)
    go_ret
    refine ⟨_, rfl, ?_, ?_⟩
    · simpa [OwnF] using hown
    · exact ⟨hgrow.os, hgrow.tape, hgrow.output, Nat.le_trans (by simp) hgrow.size, fun k hk => (hgrow.block k (by simp; omega) (by simp [Value.ownBlock]; omega)).trans (blk_old _ hk)⟩
end Go.Proofs.YbulkbfxmDoor
