/-
  OWN WORK. The law, walked.
-/
import Derived.Test.YbulkbfxmDoorWalkB
namespace Go.Proofs.YbulkbfxmDoor
open Go.RowKit

theorem nil_nil (w : World) : (binOp .eql 25 .nilIface .nilIface).run Ybad.prog w = .ok (.bool true) w := by
  have h : ∀ d : Nat, (Op.equalIn (d + 1) 25 .nilIface .nilIface).run Ybad.prog w = .ok true w := fun d => by simp [Op.equalIn]
  simp only [binOp]; simp [Op.equal, Op.maxDepth, h 9999]
set_option maxHeartbeats 1000000 in
theorem law_big (v : Int) (a : Option Addr) (n cap : Nat) (w : World) (hn : 4096 < n) :
    Calls Ybad.prog 4 #[.int .u64 v, .slice a n cap] w fun e w' => e = .returned (.bool true) ∧ Below w.heap.size w w' := by
  go_enter Ybad.func4, Ybad.ntmps4
  go_wp2
  go_ret
  exact ⟨rfl, Below.refl _ _⟩

set_option maxHeartbeats 1000000 in
set_option maxRecDepth 200000 in
theorem law_small (v : Nat) (a : Option Addr) (n cap : Nat) (f : Nat → Int) (w : World) (hv : v < 18446744073709551616) (hn : n ≤ 4096) (ha0 : a = none → n = 0) (hr : Reads .u8 w a n f) :
    Calls Ybad.prog 4 #[.int .u64 (v : Int), .slice a n cap] w fun e w' => e = .returned (.bool true) ∧ Below w.heap.size w w' := by
  have hclone := clone_run a n cap f w hn ha0 hr
  have HR := hide hr
  have HV := hide hv
  clear hr hv
  go_enter Ybad.func4, Ybad.ntmps4
  go_wp2_with fail
  refine hclone.mono ?_
  rintro e w1 ⟨c, rfl, hown1, hb1⟩
  clear hclone
  have happ := append_run w.heap.size v n c _ w1 HV.out hn hb1.size hown1
  have HO1 := hide hown1
  have HB1 := hide hb1
  clear hown1 hb1
  go_wp2_with fail
  refine happ.mono ?_
  rintro e w2 ⟨L, g, cp, rfl, hL, hend, hmid, hown2, hgrow⟩
  clear happ
  obtain ⟨g', cp', he, hbase, hcap, -, hcells⟩ := hown2.cells (by omega)
  obtain ⟨rfl, rfl⟩ : g = g' ∧ cp = cp' := by simpa using he
  clear he
  have hb2 : Below w.heap.size w w2 := HB1.out.trans ⟨hgrow.os, hgrow.tape, hgrow.output, hgrow.size, fun k hk => hgrow.block k (Nat.lt_of_lt_of_le hk HB1.out.size) (fun e => by have := (HO1.out.at_block e.symm).1; omega)⟩
  have hdec := decode_run g n (cp - n) v L w2 HV.out hL hend hmid (fun j hj => by
    rw [hcells (n + j) (by omega)]
    show some (if n + j < n then _ else _) = _
    rw [if_neg (by omega), show n + j - n = j by omega])
  have heq := equal_any g 0 cp a cap n f w2 hn (fun j hj => by rw [Nat.zero_add, hcells j (by omega)]; simp [hj]) (HR.out.kept hb2)
  have HB2 := hide hb2
  have HD := hide hdec
  have HQ := hide heq
  clear hb2 hcells hown2 hmid hend hgrow hdec heq
  go_wp2_with fail
  refine HD.out.mono ?_
  rintro e w3 ⟨rfl, rfl⟩
  have hnil := nil_nil
  have hg : ((L : Int) + 1 == (n : Int) + ((L : Int) + 1) - (n : Int)) = true := by rw [beq_iff_eq]; omega
  go_wp2_with fail
  refine HQ.out.mono ?_
  rintro e w4 ⟨rfl, hb4⟩
  go_wp2
  go_ret
  exact ⟨rfl, HB2.out.trans (Below.mono hb4 HB2.out.size)⟩
end Go.Proofs.YbulkbfxmDoor
