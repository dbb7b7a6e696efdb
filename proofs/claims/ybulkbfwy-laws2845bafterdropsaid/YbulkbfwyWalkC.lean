/-
  OWN WORK. Walks: NewMarket, LawS2845BFirstSeen.
-/
import Derived.Test.YbulkbfwyWalkB
namespace Go.Proofs.Ybulkbfwy
open Go.RowKit

-- NewMarket, as the laws call it.
set_option maxRecDepth 100000 in
set_option maxHeartbeats 1000000 in
theorem newMarket_any (w : World) :
    Calls Yba.prog 5 #[.pointer none, .agg #[.string ⟨#[]⟩, .string ⟨#[]⟩, .pointer none, .int .i64 0, .pointer none, .int .i64 0, .int .i64 0, .pointer none, .int .i64 0, .int .i64 0, .pointer none, .int .i64 0, .int .i64 0, .pointer none, .int .i64 0]] w fun e w' =>
      e = .returned (.pointer (some ⟨w.heap.size + 1 + 1, 0, none⟩)) ∧ St w' w.heap.size (w.heap.size + 1 + 1) (w.heap.size + 1) 0 (.slice none 0 0) (.pointer none) (fun _ => ⟨#[]⟩) (fun _ => 0) ∧ Below w.heap.size w w' := by
  have hmm := @run_makeMap Yba.prog
  go_enter Yba.func5, Yba.ntmps5
  go_wp2
  go_ret
  refine ⟨rfl, ⟨?_, OwnF.nil _ _ _ _, ?_, fun j hj => by omega, ⟨by omega, by omega, fun j hj => by omega⟩, fun j hj => by omega, .inl rfl⟩, ?_⟩
  · apply Exists.intro
    apply And.intro
    rw [show w.heap.size + 1 + 1 = ((w.alloc (.cells #[.string ⟨#[]⟩, .string ⟨#[]⟩, .pointer none, .int .i64 0, .pointer none, .int .i64 0, .int .i64 0, .pointer none, .int .i64 0, .int .i64 0, .pointer none, .int .i64 0, .int .i64 0, .pointer none, .int .i64 0] 30)).alloc (.map #[] 0)).heap.size by simp]
    exact blk_new _ _
    exact ⟨rfl, rfl, rfl⟩
  · have h1 := Idx.made (w.alloc (.cells #[.string ⟨#[]⟩, .string ⟨#[]⟩, .pointer none, .int .i64 0, .pointer none, .int .i64 0, .int .i64 0, .pointer none, .int .i64 0, .int .i64 0, .pointer none, .int .i64 0, .int .i64 0, .pointer none, .int .i64 0] 30)) (fun _ => ⟨#[]⟩)
    rw [World.size_alloc] at h1
    exact h1.of_block (blk_old _ (by simp))
  · exact (((Below.refl _ _).alloc (Nat.le_refl _) _).alloc (by simp) _).alloc (by simp; omega) _

/-- The round's state: the market; the names and the pointers that the law keeps itself. -/
structure Rnd (w : World) (B sM bm m : Nat) (v4 v5 : Value) (sn : Nat → ByteArray) (gs : Nat → Nat) : Prop where
  st : ∃ sv lv, St w B sM bm m sv lv sn gs ∧ ∀ k, sv.ownBlock = some k → v5.ownBlock ≠ some k
  seen : OwnF w B 9 v4 m (fun j => .string (sn j))
  got : OwnF w B 32 v5 m (fun j => .pointer (some ⟨gs j, 0, none⟩))

theorem St.drewN {w : World} {B sM bm m : Nat} {sv lv : Value} {sn : Nat → ByteArray} {gs : Nat → Nat} (h : St w B sM bm m sv lv sn gs) (d : Nat) : St (w.drewN d) B sM bm m sv lv sn gs :=
  h.kept (S := fun _ => False) ⟨rfl, rfl, rfl, Nat.le_refl _, fun _ _ => rfl⟩ (fun h => h) (fun h => h) (fun _ _ h => h) (fun _ _ h => h)
theorem OwnF.drewN {w : World} {base : Nat} {T : TypeId} {v : Value} {m : Nat} {F : Nat → Value} (h : OwnF w base T v m F) (d : Nat) : OwnF (w.drewN d) base T v m F := h.kept (fun _ _ => rfl)

/-- A row of another kind than St's blocks. -/
theorem St.far9 {w : World} {B sM bm m m' : Nat} {sv lv v : Value} {sn : Nat → ByteArray} {gs : Nat → Nat} {F : Nat → Value} (h : St w B sM bm m sv lv sn gs) (hv : OwnF w B 9 v m' F) {k : Nat} (hk : v.ownBlock = some k) : k ≠ sM ∧ k ≠ bm ∧ sv.ownBlock ≠ some k ∧ ∀ j, j < m → gs j ≠ k := by
  obtain ⟨_, _, cur, h3⟩ := hv.at_block hk
  obtain ⟨cs, h1, _⟩ := h.mkt
  obtain ⟨es, c, h2⟩ := h.idx.is_map
  refine ⟨types_apart h3 h1 (by decide), map_apart h3 h2, fun e => ?_, fun j hj => types_apart (h.made j hj) h3 (by decide)⟩
  obtain ⟨_, _, cur', h4⟩ := h.scores.at_block e
  exact types_apart h3 h4 (by decide) rfl
theorem St.far32 {w : World} {B sM bm m m' : Nat} {sv lv v : Value} {sn : Nat → ByteArray} {gs : Nat → Nat} {F : Nat → Value} (h : St w B sM bm m sv lv sn gs) (hv : OwnF w B 32 v m' F) {k : Nat} (hk : v.ownBlock = some k) : k ≠ sM ∧ k ≠ bm ∧ ∀ j, j < m → gs j ≠ k := by
  obtain ⟨_, _, cur, h3⟩ := hv.at_block hk
  obtain ⟨cs, h1, _⟩ := h.mkt
  obtain ⟨es, c, h2⟩ := h.idx.is_map
  exact ⟨types_apart h3 h1 (by decide), map_apart h3 h2, fun j hj => types_apart (h.made j hj) h3 (by decide)⟩

theorem keep_grown {w w4 : World} {o : Obj} {row : Option Nat} (hg : (w.alloc o).grownBy w4 row) {k : Nat} (hk : k < w.heap.size) (hr : row ≠ some k) : w4.heap[k]? = w.heap[k]? := by
  rw [hg.block k (by simp; omega) (fun e => hr e.symm), blk_old _ hk]
theorem only_grown {w w4 : World} {o : Obj} {row : Option Nat} (hg : (w.alloc o).grownBy w4 row) : Only (fun k => row = some k ∨ w.heap.size ≤ k) w w4 :=
  ((Only.refl _ w).alloc (.inr (Nat.le_refl _)) o).grown hg (fun k hk => .inr (by simp at hk; omega)) (fun k hk => .inl hk)
theorem St.grown {w w4 : World} {o : Obj} {row : Option Nat} {B sM bm m : Nat} {sv lv : Value} {sn : Nat → ByteArray} {gs : Nat → Nat} (h : St w B sM bm m sv lv sn gs) (hg : (w.alloc o).grownBy w4 row)
    (hr : ∀ k, row = some k → k ≠ sM ∧ k ≠ bm ∧ sv.ownBlock ≠ some k ∧ ∀ j, j < m → gs j ≠ k) : St w4 B sM bm m sv lv sn gs := by
  have h1 := h.mkt.lt
  have h2 := h.idx.lt
  refine h.kept (only_grown hg) ?_ ?_ (fun k hk => ?_) (fun j hj => ?_)
  · rintro (e | e)
    · exact (hr _ e).1 rfl
    · omega
  · rintro (e | e)
    · exact (hr _ e).2.1 rfl
    · omega
  · have h3 := (h.scores.at_block hk).2.1
    rintro (e | e)
    · exact (hr _ e).2.2.1 hk
    · omega
  · have h3 := blk_lt (h.made j hj)
    rintro (e | e)
    · exact (hr _ e).2.2.2 j hj rfl
    · omega
theorem apart9 {w : World} {B m m' : Nat} {v v' : Value} {F F' : Nat → Value} (h : OwnF w B 9 v m F) (h' : OwnF w B 32 v' m' F') {k : Nat} (hk : v'.ownBlock = some k) : v.ownBlock ≠ some k := fun e => by
  obtain ⟨_, _, c, h1⟩ := h.at_block e
  obtain ⟨_, _, c', h2⟩ := h'.at_block hk
  exact types_apart h1 h2 (by decide) rfl
theorem owns_snoc {w : World} {B T m : Nat} {v : Value} {F G : Nat → Value} {x : Value} (h : w.ownsRow B T 1 v (m + 1) ((List.range m).map F ++ [x])) (h1 : G m = x) (h2 : ∀ j, j < m → G j = F j) : OwnF w B T v (m + 1) G := by
  unfold OwnF; rw [← map_snoc h1 h2]; exact h

/-- Is the name among them? -/
theorem name_cases (m : Nat) (sn : Nat → ByteArray) (s : ByteArray) : (∃ i, i < m ∧ sn i = s ∧ ∀ j, j < i → sn j ≠ s) ∨ ∀ j, j < m → sn j ≠ s := by
  induction m with
  | zero => exact .inr fun j hj => by omega
  | succ m ih =>
    rcases ih with ⟨i, h1, h2, h3⟩ | h
    · exact .inl ⟨i, by omega, h2, h3⟩
    · by_cases e : sn m = s
      · exact .inl ⟨m, by omega, e, h⟩
      · exact .inr fun j hj => by
          by_cases ej : j = m
          · rw [ej]; exact e
          · exact h j (by omega)

set_option maxRecDepth 100000 in
set_option maxHeartbeats 2000000 in
theorem law3_some (g o n cap : Nat) (ss : Nat → ByteArray) (w : World) (hn : n ≤ 1024) (hg : 0 < n → g < w.heap.size) (hc : ∀ j, j < n → w.cell? ⟨g, o + j, none⟩ = some (.string (ss j))) (hs : ∀ j, j < n → (ss j).size ≤ maxLen) :
    Calls Yba.prog 3 #[.slice (some ⟨g, o, none⟩) n cap] w fun e w' => e = .returned (.bool true) ∧ Below w.heap.size w w' := by
  obtain ⟨i32, hi, hz0, hz1, hz2⟩ := info_parts Yba.info32
  obtain ⟨i9, ki, kz0, kz1, kz2⟩ := info_parts Yba.info9
  have h1' : ¬ (1024 : Int) < (n : Int) := by omega
  go_enter Yba.func3, Yba.ntmps3
  go_wp2_with (go_at_call 5; refine (newMarket_any _).mono ?_; rintro e w1 ⟨rfl, hst1, hb1⟩)
  go_loopw [4, 5, 17] (fun v4 v5 i wr => ∃ (k m : Nat) (sn : Nat → ByteArray) (gs : Nat → Nat), k ≤ n ∧ i = .int .i64 k ∧ m ≤ k ∧ Rnd wr w.heap.size (w.heap.size + 1 + 1) (w.heap.size + 1) m v4 v5 sn gs ∧ Below w.heap.size w wr) (fun _ _ i _ => n - (intOf i).toNat)
  case atStart => exact ⟨0, 0, _, _, Nat.zero_le _, rfl, Nat.le_refl _, ⟨⟨_, _, hst1, fun k hk => by cases hk⟩, OwnF.nil _ _ _ _, OwnF.nil _ _ _ _⟩, hb1⟩
  case round =>
    obtain ⟨k, m, sn, gs, hk, rfl, hmk, ⟨⟨sv, lv, hst, hsep⟩, hseen, hgot⟩, hbel⟩ := hrel
    by_cases hkn : k < n
    · have q1 : wr.cell? ⟨g, o + k, none⟩ = some (.string (ss k)) := (cell_blk (hbel.block g (hg (by omega)))).trans (hc k hkn)
      rcases name_cases m sn (ss k) with ⟨i, hi1, hi2, hi3⟩ | hnew
      · rw [← hi2] at q1 hi3
        clear hi2
        have hsl := hst.mkt.lt
        go_wp2_with fail
        refine (maker_hit hst hi1).mono ?_
        rintro e w2 ⟨rfl, hst2, ho2⟩
        have hseen2 : OwnF w2 w.heap.size 9 u4 m (fun j => .string (sn j)) := hseen.kept (fun q hq => ho2.block q (hst.far9 hseen hq).1)
        have hgot2 : OwnF w2 w.heap.size 32 u5 m (fun j => .pointer (some ⟨gs j, 0, none⟩)) := hgot.kept (fun q hq => ho2.block q (hst.far32 hgot hq).1)
        have hbel2 : Below w.heap.size w w2 := hbel.trans (ho2.below (fun q hq => by have := hst.own.1; omega))
        clear hst hseen hgot hbel ho2
        obtain ⟨c1, c2, c3, _, _⟩ := hst2.mkt.cells
        have p0 := hst2.name hi1
        have p1 := neq32_same
        have p2 : ((sn i).toList == (sn i).toList) = true := by simp
        obtain ⟨gg, cg, rfl, _, _, _, hcg⟩ := hgot2.cells (by omega)
        have p3 := hcg i hi1
        have p4 : (0 : Int) ≤ (i : Int) := by omega
        have p5 : (i : Int) < (m : Int) := by omega
        go_wp2_with (first
          | (go_at_call 7; refine (find_yes hseen2 (by omega) hi1 rfl hi3).mono ?_; rintro e w3 ⟨rfl, rfl⟩)
          | (go_at_call 10; refine (check_yes (by omega) hst2.mkt hst2.idx hst2.names hst2.scores hseen2 hgot2).mono ?_; rintro e w3 ⟨rfl, d, rfl⟩))
        go_roundw
        case rel => exact ⟨k + 1, m, sn, gs, by omega, by go_num, by omega, ⟨⟨_, _, hst2.drewN d, hsep⟩, hseen2.drewN d, hgot2.drewN d⟩, below_drewN hbel2 d⟩
        case measure => simp [intOf]; omega
      · have hsl := hst.mkt.lt
        have hwsz := hbel.size
        go_wp2_with fail
        refine (maker_miss hst (by omega) hwsz (hs k hkn) hnew).mono ?_
        rintro e w2 ⟨rfl, g', cap', hst2, ho2, hat⟩
        have hzo2 := ho2.size
        have hseen2 : OwnF w2 w.heap.size 9 u4 m (fun j => .string (sn j)) := hseen.kept (fun q hq => ho2.block q (by
          have h1 := hst.far9 hseen hq
          have h2 := (hseen.at_block hq).2.1
          simp only [not_or]
          exact ⟨h1.1, h1.2.1, h1.2.2.1, by omega⟩))
        have hgot2 : OwnF w2 w.heap.size 32 u5 m (fun j => .pointer (some ⟨gs j, 0, none⟩)) := hgot.kept (fun q hq => ho2.block q (by
          have h1 := hst.far32 hgot hq
          have h2 := (hgot.at_block hq).2.1
          simp only [not_or]
          exact ⟨h1.1, h1.2.1, fun e => hsep q e hq, by omega⟩))
        have hsep2 : ∀ q, u5.ownBlock = some q → q ≠ g' ∧ q < wr.heap.size := fun q hq => by
          have h2 := (hgot.at_block hq).2.1
          refine ⟨fun e => ?_, h2⟩
          rcases hat with h | h
          · exact hsep g' h (by rw [← e]; exact hq)
          · omega
        have hbel2 : Below w.heap.size w w2 := hbel.trans (ho2.below (fun q hq => by
          have h1 := hst.own
          simp only [not_or]
          exact ⟨by omega, by omega, fun e => by have := (hst.scores.at_block e).1; omega, by omega⟩))
        have hgl : ∀ j, j < m → gs j < wr.heap.size := fun j hj => blk_lt (hst.made j hj)
        have hnewb : w2.heap[wr.heap.size]? = some (.cells (freshC (ss k)) 48 (0, 0)) := by have := hst2.made m (by omega); simpa using this
        have hoth : ∀ j, j < m → gs j ≠ wr.heap.size ∧ ∃ cs, w2.heap[gs j]? = some (.cells cs 48 (0, 0)) := fun j hj => ⟨by have := hgl j hj; omega, _, by have := hst2.made j (by omega); rw [if_neg (by omega), if_neg (by omega)] at this; exact this⟩
        obtain ⟨c1, c2, c3, _, _⟩ := hst2.mkt.cells
        have p0 : w2.cell? ⟨wr.heap.size, 0, none⟩ = some (.string (ss k)) := by rw [blk_cell hnewb]; rfl
        have p1 := neq32_same
        have p2 : ((ss k).toList == (ss k).toList) = true := by simp
        have HST := hide hst2
        have HHT := hide hat
        clear hst hseen hgot hbel ho2 hst2 hat hsep hgl
        go_wp2_with (first
          | (go_at_call 7; refine (find_no hseen2 (by omega) hnew).mono ?_; rintro e w3 ⟨rfl, rfl⟩)
          | (go_at_call 8; refine (in_no hgot2 (by omega) hnewb hoth).mono ?_; rintro e w3 ⟨rfl, rfl⟩)
          | (go_at_call 9; refine (fresh_yes _ _ _ hnewb).mono ?_; rintro e w3 ⟨rfl, rfl⟩)
          | (at_builtin; refine wpList_append_lies _ rfl (.tmp 61) (.tmp 63) 22 rfl w.heap.size 9 i9 (.string ⟨#[]⟩) 1 16 Yba.underlying22 ki kz0 kz1 kz2 rfl (by decide) u4 m _ rfl (World.ownsRow.alloc hseen2 _) ⟨w3.heap.size, 0, none⟩ 1 1 [.string (ss k)] rfl rfl (cell_one_new _ _ _) (fun u hu => by simp at hu; subst hu; rfl) (by decide) (by unfold maxLen; omega) (by omega) (by simp; omega) _ rfl ?_; intro g4 c4 w4 hown4 hgrow4 hat4 hlt4; have hgot4 : OwnF w4 w.heap.size 32 u5 m (fun j => .pointer (some ⟨gs j, 0, none⟩)) := hgot2.kept (fun q hq => keep_grown hgrow4 (hgot2.at_block hq).2.1 (apart9 hseen2 hgot2 hq)); have hz4 : w3.heap.size + 1 ≤ w4.heap.size := (by have := hgrow4.size; simpa using this))
          | (at_builtin; refine wpList_append_lies _ rfl (.tmp 65) (.tmp 67) 31 rfl w.heap.size 32 i32 (.pointer none) 1 8 Yba.underlying31 hi hz0 hz1 hz2 rfl (by decide) u5 m _ rfl (World.ownsRow.alloc hgot4 _) ⟨w4.heap.size, 0, none⟩ 1 1 [.pointer (some ⟨wr.heap.size, 0, none⟩)] rfl rfl (cell_one_new _ _ _) (fun u hu => by simp at hu; subst hu; rfl) (by decide) (by unfold maxLen; omega) (by omega) (by simp; omega) _ rfl ?_; intro g5 c5 w5 hown5 hgrow5 hat5 hlt5))
        have hz5 : w4.heap.size + 1 ≤ w5.heap.size := by have := hgrow5.size; simpa using this
        have hst3 := HST.out
        have hst4 := hst3.grown hgrow4 (fun q hq => hst3.far9 hseen2 hq)
        have hst5 := hst4.grown hgrow5 (fun q hq => by
          have h1 := hst4.far32 hgot4 hq
          exact ⟨h1.1, h1.2.1, fun e => (hsep2 q hq).1 (by simpa [Value.ownBlock] using e.symm), h1.2.2⟩)
        have hseen4 : OwnF w4 w.heap.size 9 (.slice (some ⟨g4, 0, none⟩) (m + 1) c4) (m + 1) (fun j => .string (if j = m then ss k else sn j)) := owns_snoc hown4 (by simp) (fun j hj => by rw [if_neg (by omega)])
        have hseen5 : OwnF w5 w.heap.size 9 (.slice (some ⟨g4, 0, none⟩) (m + 1) c4) (m + 1) (fun j => .string (if j = m then ss k else sn j)) := hseen4.kept (fun q hq => keep_grown hgrow5 (hseen4.at_block hq).2.1 (fun e => apart9 hseen4 hgot4 e hq))
        have hgot5 : OwnF w5 w.heap.size 32 (.slice (some ⟨g5, 0, none⟩) (m + 1) c5) (m + 1) (fun j => .pointer (some ⟨if j = m then wr.heap.size else gs j, 0, none⟩)) := owns_snoc hown5 (by simp) (fun j hj => by rw [if_neg (by omega)])
        have hsep5 : ∀ q, (Value.slice (some ⟨g', 0, none⟩) (m + 1) cap').ownBlock = some q → (Value.slice (some ⟨g5, 0, none⟩) (m + 1) c5).ownBlock ≠ some q := fun q hq e => by
          simp only [Value.ownBlock, Option.some.injEq] at hq e
          have hg3 := (hst3.scores.at_block (k := g') rfl).2.1
          rcases hat5 with h | h
          · exact (hsep2 g5 h).1 (by omega)
          · simp at h; omega
        have hbel5 : Below w.heap.size w w5 := (hbel2.trans ((only_grown hgrow4).below (fun q hq => by
          rintro (e | e)
          · have := (hseen2.at_block e).1; omega
          · omega))).trans ((only_grown hgrow5).below (fun q hq => by
          rintro (e | e)
          · have := (hgot4.at_block e).1; omega
          · omega))
        refine (check_yes (by omega) hst5.mkt hst5.idx hst5.names hst5.scores hseen5 hgot5).mono ?_
        rintro e w6 ⟨rfl, d, rfl⟩
        go_wp2
        go_roundw
        case rel => exact ⟨k + 1, m + 1, _, _, by omega, by go_num, by omega, ⟨⟨_, _, hst5.drewN d, hsep5⟩, hseen5.drewN d, hgot5.drewN d⟩, below_drewN hbel5 d⟩
        case measure => simp [intOf]; omega
    · go_wp2
      go_ret
      exact ⟨rfl, hbel⟩


set_option maxRecDepth 100000 in
set_option maxHeartbeats 1000000 in
theorem law3_big (a : Option Addr) (n cap : Nat) (w : World) (hn : 1024 < n) :
    Calls Yba.prog 3 #[.slice a n cap] w fun e w' => e = .returned (.bool true) ∧ Below w.heap.size w w' := by
  have h1' : (1024 : Int) < (n : Int) := by omega
  go_enter Yba.func3, Yba.ntmps3
  go_wp2
  go_ret
  exact ⟨rfl, Below.refl _ _⟩

set_option maxRecDepth 100000 in
set_option maxHeartbeats 1000000 in
theorem law3_zero (a : Option Addr) (cap : Nat) (w : World) :
    Calls Yba.prog 3 #[.slice a 0 cap] w fun e w' => e = .returned (.bool true) ∧ Below w.heap.size w w' := by
  go_enter Yba.func3, Yba.ntmps3
  go_wp2_with (go_at_call 5; refine (newMarket_any _).mono ?_; rintro e w1 ⟨rfl, hst1, hb1⟩)
  go_loop [4, 5, 17] (fun _ _ i => i = .int .i64 0) (fun _ _ i => (intOf i).toNat)
  case atStart => rfl
  case round =>
    subst hrel
    go_wp2
    go_ret
    exact ⟨rfl, hb1⟩

/-- A slice of strings that is read. -/
def ReadsS (w : World) (a : Option Addr) (n : Nat) (ss : Nat → ByteArray) : Prop := ∀ j, j < n → (∃ g o, a = some ⟨g, o, none⟩ ∧ w.cell? ⟨g, o + j, none⟩ = some (.string (ss j))) ∧ (ss j).size ≤ maxLen

theorem law3_any (a : Option Addr) (n cap : Nat) (ss : Nat → ByteArray) (w : World) (hr : ReadsS w a n ss) :
    Calls Yba.prog 3 #[.slice a n cap] w fun e w' => e = .returned (.bool true) ∧ Below w.heap.size w w' := by
  by_cases h1 : 1024 < n
  · exact law3_big a n cap w h1
  rcases Nat.eq_zero_or_pos n with h0 | h0
  · subst h0; exact law3_zero a cap w
  · obtain ⟨⟨g, o, rfl, hc0⟩, _⟩ := hr 0 h0
    refine law3_some g o n cap ss w (by omega) (fun _ => World.block_lt_of_cell? w _ hc0) (fun j hj => ?_) (fun j hj => (hr j hj).2)
    obtain ⟨⟨g', o', h2, h3⟩, _⟩ := hr j hj
    simp only [Option.some.injEq, Addr.mk.injEq, and_true] at h2
    obtain ⟨rfl, rfl⟩ := h2
    exact h3
end Go.Proofs.Ybulkbfwy
