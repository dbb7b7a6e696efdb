/-
  OWN WORK. The offset encoding, plain: the chain of values, its bytes; the bit operations that the program does with them.
-/
import Derived.Test.YbulkbfxmDoorProg
import Derived.Test.YbulkbfxmDoorBase
import Derived.Laws.BitsAllLaws
namespace Go.Proofs.YbulkbfxmDoor
open Go.RowKit

/-- The value before k bytes are taken off. -/
def vs (v : Nat) : Nat → Nat
  | 0 => v
  | k + 1 => vs v k / 128 - 1
/-- The byte k, counted from the last. -/
def bt (v : Nat) (k : Nat) : Nat := if k = 0 then vs v 0 % 128 else 128 + vs v k % 128
theorem vs_succ (v k : Nat) : vs v (k + 1) = vs v k / 128 - 1 := rfl
theorem bt_zero (v : Nat) : bt v 0 = v % 128 := rfl
theorem bt_succ (v k : Nat) : bt v (k + 1) = 128 + vs v (k + 1) % 128 := by simp [bt]
theorem bt_lt (v k : Nat) : bt v k < 256 := by unfold bt; split <;> omega
theorem bt_mod (v k : Nat) : bt v k % 128 = vs v k % 128 := by unfold bt; split <;> simp_all
theorem bt_top (v k : Nat) : bt v k / 128 = if k = 0 then 0 else 1 := by unfold bt; split <;> omega
theorem vs_lt (v : Nat) (hv : v < 2 ^ 64) : ∀ k, k ≤ 9 → vs v k < 2 ^ (64 - 7 * k)
  | 0, _ => hv
  | k + 1, h => by
    have h1 := vs_lt v hv k (by omega)
    have h2 : 2 ^ (64 - 7 * k) = 128 * 2 ^ (64 - 7 * (k + 1)) := by
      have : 64 - 7 * k = 7 + (64 - 7 * (k + 1)) := by omega
      rw [this, Nat.pow_add]
    rw [vs_succ]
    omega
theorem vs_le (v : Nat) : ∀ k, vs v (k + 1) ≤ v / 128 - 1
  | 0 => Nat.le_refl _
  | k + 1 => by
    have := vs_le v k
    rw [vs_succ]; omega
theorem vs_small (v : Nat) (hv : v < 18446744073709551616) (k : Nat) (hk : 0 < k) : vs v k < 144115188075855871 := by
  obtain ⟨j, rfl⟩ : ∃ j, k = j + 1 := ⟨k - 1, by omega⟩
  have := vs_le v j
  omega
theorem vs_big (v : Nat) (hv : v < 18446744073709551616) (k : Nat) : vs v k < 18446744073709551616 := by
  cases k with
  | zero => exact hv
  | succ j => have := vs_le v j; omega
theorem vs_back (v k : Nat) (h : vs v k / 128 ≠ 0) : (vs v (k + 1) + 1) * 128 + vs v k % 128 = vs v k := by rw [vs_succ]; omega

/-! ### The bit operations -/
theorem nat_and127 (x : Nat) : x &&& 127 = x % 128 := Nat.and_two_pow_sub_one_eq_mod x 7
theorem nat_and128 (x : Nat) : x &&& 128 = x / 128 % 2 * 128 := nat_bit 7 x
theorem u8_and127 (a : Nat) (h : a < 256) : bits .and .u8 (a : Int) 127 = ((a % 128 : Nat) : Int) := by
  have := u8_and_nat a 127 h (by decide)
  rw [nat_and127] at this; exact this
theorem u8_and128 (a : Nat) (h : a < 256) : bits .and .u8 (a : Int) 128 = ((a / 128 * 128 : Nat) : Int) := by
  have := u8_and_nat a 128 h (by decide)
  rw [nat_and128, Nat.mod_eq_of_lt (by omega)] at this; exact this
theorem u8_or128 (a : Nat) (h : a < 128) : bits .or .u8 128 (a : Int) = ((128 + a : Nat) : Int) := by
  have := u8_or_nat 128 a (by decide) (by omega)
  rw [nat_join 7 128 a (by decide) (by omega)] at this; exact this
theorem u64_and127 (a : Nat) (h : a < 18446744073709551616) : bits .and .u64 (a : Int) 127 = ((a % 128 : Nat) : Int) := by
  have := u64_and_nat a 127 h (by decide)
  rw [nat_and127] at this; exact this
theorem u64_orlow (a b : Nat) (h : a * 128 < 18446744073709551616) (hb : b < 128) : bits .or .u64 ((a * 128 : Nat) : Int) (b : Int) = ((a * 128 + b : Nat) : Int) := by
  have := u64_or_nat (a * 128) b h (by omega)
  rw [nat_join 7 (a * 128) b (by omega) (by omega)] at this; exact this
end Go.Proofs.YbulkbfxmDoor
