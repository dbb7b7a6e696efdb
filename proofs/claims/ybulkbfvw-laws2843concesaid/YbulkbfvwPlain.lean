/-
  OWN WORK. The plain functions: no Go in sight.
-/
namespace Go.Proofs.Ybulkbfvw
/-- The first place of v among f i .. f (i + m - 1); -1 if there is none. -/
def idx (f : Nat → Int) (v : Int) : Nat → Nat → Int
  | 0, _ => -1
  | m + 1, i => if v = f i then (i : Int) else idx f v m (i + 1)
theorem idx_hit {f : Nat → Int} {v : Int} {m i : Nat} (hm : 0 < m) (h : v = f i) : idx f v m i = (i : Int) := by
  cases m with
  | zero => omega
  | succ m => rw [idx, if_pos h]
theorem idx_miss {f : Nat → Int} {v : Int} {m i : Nat} (hm : 0 < m) (h : ¬ v = f i) : idx f v m i = idx f v (m - 1) (i + 1) := by
  cases m with
  | zero => omega
  | succ m => rw [idx, if_neg h]; rfl
theorem idx_bd (f : Nat → Int) (v : Int) : ∀ m i : Nat, -1 ≤ idx f v m i ∧ idx f v m i ≤ ((i + m : Nat) : Int)
  | 0, i => by simp [idx]
  | m + 1, i => by
    have := idx_bd f v m (i + 1)
    rw [idx]; split <;> omega
/-- The k-th of a list. -/
def at0 (l : List Int) (j : Nat) : Int := l.getD j 0
/-- Is v in the list? -/
def has (l : List Int) (v : Int) : Bool := decide (0 ≤ idx (at0 l) v l.length 0)
/-- Do f i .. f (i + m - 1) lie in more than two blocks of bs, with those of bl? -/
def spr (f : Nat → Int) (bs : Int) : Nat → Nat → List Int → Bool
  | 0, _, _ => false
  | m + 1, i, bl => if has bl (f i / bs) = true then spr f bs m (i + 1) bl else if bl.length = 2 then true else spr f bs m (i + 1) (bl ++ [f i / bs])
theorem spr_has {f : Nat → Int} {bs : Int} {m i : Nat} {bl : List Int} (hm : 0 < m) (h : has bl (f i / bs) = true) : spr f bs m i bl = spr f bs (m - 1) (i + 1) bl := by
  cases m with
  | zero => omega
  | succ m => rw [spr, if_pos h]; rfl
theorem spr_full {f : Nat → Int} {bs : Int} {m i : Nat} {bl : List Int} (hm : 0 < m) (h : has bl (f i / bs) = false) (h2 : bl.length = 2) : spr f bs m i bl = true := by
  cases m with
  | zero => omega
  | succ m => rw [spr, if_neg (by simp [h]), if_pos h2]
theorem spr_more {f : Nat → Int} {bs : Int} {m i : Nat} {bl : List Int} (hm : 0 < m) (h : has bl (f i / bs) = false) (h2 : bl.length ≠ 2) : spr f bs m i bl = spr f bs (m - 1) (i + 1) (bl ++ [f i / bs]) := by
  cases m with
  | zero => omega
  | succ m => rw [spr, if_neg (by simp [h]), if_neg h2]; rfl
/-- The last number handed out, after i entries. -/
def lastAt (pin : Nat → Bool) (last : Int) : Nat → Int
  | 0 => last
  | i + 1 => if pin i = true then lastAt pin last i else (lastAt pin last i + 1) % 18446744073709551616
theorem lastAt_pin {pin : Nat → Bool} {last : Int} {i : Nat} (h : pin i = true) : lastAt pin last (i + 1) = lastAt pin last i := by rw [lastAt, if_pos h]
theorem lastAt_new {pin : Nat → Bool} {last : Int} {i : Nat} (h : pin i = false) : lastAt pin last (i + 1) = (lastAt pin last i + 1) % 18446744073709551616 := by rw [lastAt, if_neg (by simp [h])]
/-- Entry j's number when the leaf has been gathered. -/
def newNum (pin : Nat → Bool) (last : Int) (f : Nat → Int) (j : Nat) : Int := if pin j = true then f j else lastAt pin last (j + 1)
/-- Entry j's number after i entries. -/
def midNum (pin : Nat → Bool) (last : Int) (f : Nat → Int) (i j : Nat) : Int := if j < i then newNum pin last f j else f j
theorem midNum_pin {pin : Nat → Bool} {last : Int} {f : Nat → Int} {i : Nat} (h : pin i = true) (j : Nat) : midNum pin last f i j = midNum pin last f (i + 1) j := by
  unfold midNum
  by_cases h1 : j < i
  · rw [if_pos h1, if_pos (by omega)]
  · by_cases h2 : j = i
    · subst h2; rw [if_neg h1, if_pos (by omega), newNum, if_pos h]
    · rw [if_neg h1, if_neg (by omega)]
theorem midNum_same {pin : Nat → Bool} {last : Int} {f : Nat → Int} {i : Nat} (h : pin i = false) : midNum pin last f (i + 1) i = lastAt pin last (i + 1) := by
  unfold midNum; rw [if_pos (by omega), newNum, if_neg (by simp [h])]
theorem midNum_other {pin : Nat → Bool} {last : Int} {f : Nat → Int} {i j : Nat} (h : j ≠ i) : midNum pin last f (i + 1) j = midNum pin last f i j := by
  unfold midNum
  by_cases h1 : j < i
  · rw [if_pos h1, if_pos (by omega)]
  · rw [if_neg h1, if_neg (by omega)]
end Go.Proofs.Ybulkbfvw
