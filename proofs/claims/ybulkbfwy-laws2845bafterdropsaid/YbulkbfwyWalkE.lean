/-
  OWN WORK. Walks: LawS2845BAfterDrop.
-/
import Derived.Test.YbulkbfwyWalkD
namespace Go.Proofs.Ybulkbfwy
open Go.RowKit

/-- The round's state: the market; the names and the pointers that the law keeps itself; those that were dropped. -/
structure Rnd4 (w : World) (B sM bm m r : Nat) (sv lv v4 v5 v6 : Value) (sn : Nat → ByteArray) (gs go : Nat → Nat) : Prop where
  st : St w B sM bm m sv lv sn gs
  seen : OwnF w B 9 v4 m (fun j => .string (sn j))
  got : OwnF w B 32 v5 m (fun j => .pointer (some ⟨gs j, 0, none⟩))
  gone : OwnF w B 32 v6 r (fun j => .pointer (some ⟨go j, 0, none⟩))
  goneAt : ∀ j, j < r → ∃ cs, w.heap[go j]? = some (.cells cs 48 (0, 0))
  sep5 : ∀ k, sv.ownBlock = some k → v5.ownBlock ≠ some k
  sep6 : ∀ k, sv.ownBlock = some k → v6.ownBlock ≠ some k
  sep56 : ∀ k, v5.ownBlock = some k → v6.ownBlock ≠ some k

section
variable {w w' : World} {B sM bm m r : Nat} {sv lv v4 v5 v6 : Value} {sn : Nat → ByteArray} {gs go : Nat → Nat}
theorem Rnd4.kept (h : Rnd4 w B sM bm m r sv lv v4 v5 v6 sn gs go) (hb : ∀ k, k < w.heap.size → w'.heap[k]? = w.heap[k]?) : Rnd4 w' B sM bm m r sv lv v4 v5 v6 sn gs go := by
  obtain ⟨h1, h2, h3, h4, h5, h6, h7, h8⟩ := h
  exact ⟨⟨h1.mkt.of_block (hb _ h1.mkt.lt), h1.scores.kept (fun k hk => hb k (h1.scores.at_block hk).2.1), h1.idx.of_block (hb _ h1.idx.lt), fun j hj => by rw [hb _ (blk_lt (h1.made j hj))]; exact h1.made j hj, h1.own, h1.names, h1.last⟩,
    h2.kept (fun k hk => hb k (h2.at_block hk).2.1), h3.kept (fun k hk => hb k (h3.at_block hk).2.1), h4.kept (fun k hk => hb k (h4.at_block hk).2.1), fun j hj => by
      obtain ⟨cs, hc⟩ := h5 j hj
      exact ⟨cs, by rw [hb _ (blk_lt hc)]; exact hc⟩, h6, h7, h8⟩
end

theorem swap_row {w : World} {B T g c m i : Nat} {F G : Nat → Value} (h : OwnF w B T (.slice (some ⟨g, 0, none⟩) (m + 1) c) (m + 1) F) (x : Value) (hx : x = F m) (hG : ∀ j, j < m → G j = cutAt F i m j) : OwnF (w.setCell ⟨g, i, none⟩ x) B T (.slice (some ⟨g, 0, none⟩) m c) m G := by
  have h1 : OwnF (w.setCell ⟨g, i, none⟩ x) B T (.slice (some ⟨g, 0, none⟩) (m + 1) c) (m + 1) (cutAt F i m) := h.stored i x (fun _ => by rw [hx]; simp [cutAt]) (fun j _ hj => by simp [cutAt, hj])
  exact h1.pop.congr (fun j hj => (hG j hj).symm)
theorem cut_string (sn : Nat → ByteArray) (i m j : Nat) : Value.string (cutAt sn i m j) = cutAt (fun j => Value.string (sn j)) i m j := by unfold cutAt; split <;> rfl
theorem cut_ptr (gs : Nat → Nat) (i m j : Nat) : Value.pointer (some ⟨cutAt gs i m j, 0, none⟩) = cutAt (fun j => Value.pointer (some ⟨gs j, 0, none⟩)) i m j := by unfold cutAt; split <;> rfl
theorem neq32_self (lp : Option Addr) (w : World) : (binOp .neq 32 (.pointer lp) (.pointer lp)).run Yba.prog w = .ok (.bool false) w := by
  cases lp with
  | some a => exact neq32_same a w
  | none =>
    have h : ∀ d : Nat, (Op.equalIn (d + 1) 32 (.pointer none) (.pointer none)).run Yba.prog w = .ok true w := fun d => by simp [Op.equalIn, run_underlying Yba.underlying32]
    simp only [binOp]; simp [Op.equal, Op.maxDepth, h 9999]
theorem news_at {w : World} {n : Nat} (hn : w.heap.size = n) (v : Value) (T : TypeId) : ∀ j u, [v][j]? = some u → (w.alloc (.cells #[v] T)).cell? ((⟨n, 0, none⟩ : Addr).add j) = some u := by
  subst hn; exact cell_one_new _ _ _
/-- Is 'last' the i-th? -/
theorem St.lastIs {w w' : World} {B sM bm m i : Nat} {sv lv : Value} {sn : Nat → ByteArray} {gs : Nat → Nat} (h : St w B sM bm m sv lv sn gs) (hi : i < m) (hmd : ∀ j, j < m → w'.heap[gs j]? = some (.cells (freshC (sn j)) 48 (0, 0))) :
    (lv = .pointer (some ⟨gs i, 0, none⟩) ∧ LastIs w' lv (gs i) true) ∨ (lv ≠ .pointer (some ⟨gs i, 0, none⟩) ∧ LastIs w' lv (gs i) false) := by
  rcases h.last with rfl | ⟨j, hj, rfl⟩
  · exact .inr ⟨by simp, .inr ⟨rfl, .inl rfl⟩⟩
  · by_cases e : j = i
    · subst e; exact .inl ⟨rfl, .inl ⟨rfl, rfl⟩⟩
    · have hne : gs j ≠ gs i := fun q => e (h.inj hj hi q)
      exact .inr ⟨fun q => hne (by simp only [Value.pointer.injEq, Option.some.injEq, Addr.mk.injEq, and_true] at q; exact q), .inr ⟨rfl, .inr ⟨gs j, _, _, rfl, hne, hmd j hj, hmd i hi⟩⟩⟩
theorem St.last_form {w : World} {B sM bm m : Nat} {sv lv : Value} {sn : Nat → ByteArray} {gs : Nat → Nat} (h : St w B sM bm m sv lv sn gs) : ∃ lp, lv = .pointer lp := by
  rcases h.last with e | ⟨j, _, e⟩
  · exact ⟨_, e⟩
  · exact ⟨_, e⟩

set_option maxRecDepth 100000 in
set_option maxHeartbeats 2000000 in
theorem law4_some (g o n cap : Nat) (fo fk : Nat → Int) (w : World) (hn : n ≤ 1024) (hg : 0 < n → g < w.heap.size) (hc : ∀ j, j < n → w.cell? ⟨g, o + j * 2, none⟩ = some (.int .u8 (fo j)) ∧ w.cell? ⟨g, o + j * 2 + 1, none⟩ = some (.int .u8 (fk j))) (hf : ∀ j, 0 ≤ fo j ∧ fo j < 256 ∧ 0 ≤ fk j ∧ fk j < 256) :
    Calls Yba.prog 4 #[.slice (some ⟨g, o, none⟩) n cap] w fun e w' => e = .returned (.bool true) ∧ Below w.heap.size w w' := by
  obtain ⟨i32, hi, hz0, hz1, hz2⟩ := info_parts Yba.info32
  obtain ⟨i9, ki, kz0, kz1, kz2⟩ := info_parts Yba.info9
  have h1' : ¬ (1024 : Int) < (n : Int) := by omega
  go_enter Yba.func4, Yba.ntmps4
  go_wp2_with (go_at_call 5; refine (newMarket_any _).mono ?_; rintro e w1 ⟨rfl, hst1, hb1⟩)
  go_loopw [4, 5, 6, 22] (fun v4 v5 v6 i wr => ∃ (k m r : Nat) (sv lv : Value) (sn : Nat → ByteArray) (gs go : Nat → Nat), k ≤ n ∧ i = .int .i64 k ∧ m ≤ k ∧ r ≤ k ∧ Rnd4 wr w.heap.size (w.heap.size + 1 + 1) (w.heap.size + 1) m r sv lv v4 v5 v6 sn gs go ∧ Below w.heap.size w wr) (fun _ _ _ i _ => n - (intOf i).toNat)
  case atStart => exact ⟨0, 0, 0, _, _, _, _, fun _ => 0, Nat.zero_le _, rfl, Nat.le_refl _, Nat.le_refl _, ⟨hst1, OwnF.nil _ _ _ _, OwnF.nil _ _ _ _, OwnF.nil _ _ _ _, fun j hj => by omega, (fun k hk => by cases hk), (fun k hk => by cases hk), (fun k hk => by cases hk)⟩, hb1⟩
  case round =>
    obtain ⟨k, m, r, sv, lv, sn, gs, go, hk, rfl, hmk, hrk, R, hbel⟩ := hrel
    by_cases hkn : k < n
    · have q1 : wr.cell? ⟨g, o + k * 2, none⟩ = some (.int .u8 (fo k)) := (cell_blk (hbel.block g (hg (by omega)))).trans (hc k hkn).1
      have q2 : wr.cell? ⟨g, o + k * 2 + 1, none⟩ = some (.int .u8 (fk k)) := (cell_blk (hbel.block g (hg (by omega)))).trans (hc k hkn).2
      obtain ⟨p1, p2, p3, p4⟩ := hf k
      go_wp2_with fail
      refine (name_any (fk k) p3 _).mono ?_
      rintro e W ⟨⟨s, hs, rfl⟩, hW⟩
      have t1 : W.cell? ⟨wr.heap.size, 0, none⟩ = some (.int .u8 (fo k)) := by rw [hW]; simp
      have R' : Rnd4 W w.heap.size (w.heap.size + 1 + 1) (w.heap.size + 1) m r sv lv u4 u5 u6 sn gs go := R.kept (fun q hq => by rw [hW]; exact blk_old _ hq)
      have hbel' : Below w.heap.size w W := by rw [hW]; exact hbel.alloc hbel.size _
      have hWs : wr.heap.size < W.heap.size := by rw [hW]; simp
      have hWt : ∃ cs, W.heap[wr.heap.size]? = some (.cells cs 64 (0, 0)) := ⟨_, by rw [hW]; exact blk_new _ _⟩
      clear hW R hbel q1 q2
      obtain ⟨hst, hseen, hgot, hgone, hgoneAt, hsep5, hsep6, hsep56⟩ := R'
      obtain ⟨c1, c2, c3, f1, f2⟩ := hst.mkt.cells
      rcases name_cases m sn s with ⟨i, hi1, hi2, hi3⟩ | hnew
      · rw [← hi2] at hs hi3
        have HI2 := hide hi2
        clear hi2
        obtain rfl : sn i = s := HI2.out
        by_cases hop : fo k % 3 = 2
        · have hop' : (fo k % 3 == 2) = true := by simp [hop]
          clear hop
          obtain ⟨m, rfl⟩ : ∃ q, m = q + 1 := ⟨m - 1, by omega⟩
          obtain ⟨lp, rfl⟩ := hst.last_form
          obtain ⟨g4, c4, rfl, _, hcap4, ⟨cur4, hcur4, _⟩, hcs4⟩ := hseen.cells (by omega)
          obtain ⟨gg, cg, rfl, _, hcapg, ⟨curg, hcurg, _⟩, hcsg⟩ := hgot.cells (by omega)
          have hi0 : (0 : Int) ≤ (i : Int) := by omega
          have him : (i : Int) < (m : Int) + 1 := by omega
          have hm0 : (0 : Int) ≤ (m : Int) := by omega
          have hm1 : (m : Int) < (m : Int) + 1 := by omega
          have r1 := hcsg i hi1
          go_wp2_with (go_at_call 7; refine (find_yes hseen (by omega) hi1 rfl hi3).mono ?_; rintro e w3 ⟨rfl, rfl⟩)
          refine (drop_any (by omega) hi1 hst).mono ?_
          rintro e w4 ⟨rfl, sv', lv', hst4, hsv, hl1, hl2, hmade4, ho4⟩
          have hzo := ho4.size
          have hf4 := hst.far9 hseen (k := g4) rfl
          have hfg := hst.far32 hgot (k := gg) rfl
          have hne4g : g4 ≠ gg := fun e => apart9 hseen hgot (k := gg) rfl (by rw [e]; rfl)
          have hneg4 := Ne.symm hne4g
          have hB4 : w4.heap[g4]? = w3.heap[g4]? := ho4.block g4 (by simp only [not_or]; exact ⟨hf4.1, hf4.2.1, hf4.2.2.1, by have := blk_lt hcur4; omega⟩)
          have hBg : w4.heap[gg]? = w3.heap[gg]? := ho4.block gg (by simp only [not_or]; exact ⟨hfg.1, hfg.2.1, fun e => hsep5 gg e rfl, by have := blk_lt hcurg; omega⟩)
          have hseen4 : OwnF w4 w.heap.size 9 (.slice (some ⟨g4, 0, none⟩) (m + 1) c4) (m + 1) (fun j => .string (sn j)) := hseen.kept (fun q hq => by simp only [Value.ownBlock, Option.some.injEq] at hq; subst hq; exact hB4)
          have hgot4 : OwnF w4 w.heap.size 32 (.slice (some ⟨gg, 0, none⟩) (m + 1) cg) (m + 1) (fun j => .pointer (some ⟨gs j, 0, none⟩)) := hgot.kept (fun q hq => by simp only [Value.ownBlock, Option.some.injEq] at hq; subst hq; exact hBg)
          have hgone4 : OwnF w4 w.heap.size 32 u6 r (fun j => .pointer (some ⟨go j, 0, none⟩)) := hgone.kept (fun q hq => ho4.block q (by
            have h1 := hst.far32 hgone hq
            have h2 := (hgone.at_block hq).2.1
            simp only [not_or]
            exact ⟨h1.1, h1.2.1, fun e => hsep6 q e hq, by omega⟩))
          have hgoneAt4 : ∀ j, j < r → ∃ cs, w4.heap[go j]? = some (.cells cs 48 (0, 0)) := fun j hj => by
            obtain ⟨cs, hcs⟩ := hgoneAt j hj
            refine ⟨cs, (ho4.block _ ?_).trans hcs⟩
            have h2 := blk_lt hcs
            obtain ⟨ms, hms, _⟩ := hst.mkt
            obtain ⟨es, cc, hes⟩ := hst.idx.is_map
            simp only [not_or]
            refine ⟨types_apart hcs hms (by decide), map_apart hcs hes, fun e => ?_, by omega⟩
            obtain ⟨_, _, cx, hx⟩ := hst.scores.at_block e
            exact types_apart hcs hx (by decide) rfl
          have hbel4 : Below w.heap.size w w4 := hbel'.trans (ho4.below (fun q hq => by
            have h1 := hst.own
            have h2 := hbel'.size
            simp only [not_or]
            exact ⟨by omega, by omega, fun e => by have := (hst.scores.at_block e).1; omega, by omega⟩))
          have hgone5 : OwnF ((w4.setCell ⟨g4, i, none⟩ (.string (sn m))).setCell ⟨gg, i, none⟩ (.pointer (some ⟨gs m, 0, none⟩))) w.heap.size 32 u6 r (fun j => .pointer (some ⟨go j, 0, none⟩)) := hgone4.kept (fun q hq => by
            rw [blk_set_far _ _ (fun e => hsep56 gg rfl (by rw [← e]; exact hq)), blk_set_far _ _ (fun e => apart9 hseen4 hgone4 hq (by rw [e]; rfl))])
          have y1 : w4.cell? ⟨g4, m, none⟩ = some (.string (sn m)) := (cell_blk hB4).trans (hcs4 m (by omega))
          have y2 : w4.cell? ⟨g4, i, none⟩ = some (.string (sn i)) := (cell_blk hB4).trans (hcs4 i hi1)
          have y3 : w4.frozen? ⟨g4, i, none⟩ = false := (free_blk hB4).trans (blk_free hcur4 i)
          have y4 : w4.cell? ⟨gg, m, none⟩ = some (.pointer (some ⟨gs m, 0, none⟩)) := (cell_blk hBg).trans (hcsg m (by omega))
          have y5 : w4.cell? ⟨gg, i, none⟩ = some (.pointer (some ⟨gs i, 0, none⟩)) := (cell_blk hBg).trans r1
          have y6 : w4.frozen? ⟨gg, i, none⟩ = false := (free_blk hBg).trans (blk_free hcurg i)
          obtain ⟨e1, e2, e3, _, _⟩ := hst4.mkt.cells
          have hcap4' : (m : Int) ≤ (c4 : Int) := by omega
          have hcapg' : (m : Int) ≤ (cg : Int) := by omega
          have self := neq32_self lp
          have hsz4 := hbel4.size
          have HST4 := hide hst4
          have HL := hst.lastIs (w' := w4) hi1 hmade4
          have HMI : Hid (w4.heap[gs i]? = some (.cells (freshC (sn i)) 48 (0, 0))) := hmade4 i hi1
          have HF4 : Hid (g4 ≠ w.heap.size + 1 + 1 ∧ g4 ≠ w.heap.size + 1 ∧ sv'.ownBlock ≠ some g4 ∧ ∀ j, j < m + 1 → gs j ≠ g4) := by rw [Hid, hsv]; exact hf4
          have HFG : Hid (gg ≠ w.heap.size + 1 + 1 ∧ gg ≠ w.heap.size + 1 ∧ sv'.ownBlock ≠ some gg ∧ ∀ j, j < m + 1 → gs j ≠ gg) := by rw [Hid, hsv]; exact ⟨hfg.1, hfg.2.1, fun e => hsep5 gg e rfl, hfg.2.2⟩
          have hsep6' : ∀ q, u6.ownBlock = some q → sv'.ownBlock ≠ some q := fun q hq e => hsep6 q (by rw [← hsv]; exact e) hq
          have hgl6 : ∀ q, u6.ownBlock = some q → q < w4.heap.size := fun q hq => (hgone4.at_block hq).2.1
          clear hst hseen hgot hgone hgoneAt hbel' ho4 hst4 hf4 hfg hB4 hBg hcs4 hcsg hcur4 hcurg hmade4 c1 c2 c3 f1 f2 t1 hWs hWt hsep5 hsep6 hgone4 hsv HI2
          rcases HL with ⟨hlp, HLR⟩ | ⟨hlp, HLR⟩
          all_goals
            have hcmp := HLR.run
            have hlv : Hid _ := hlp
            first | (have hlv' := hl1 hlp) | (have hlv' := hl2 hlp)
            subst hlv'
            clear hl1 hl2 HLR hlp
            go_wp2_with (at_builtin; refine wpList_append_lies _ rfl (.tmp 86) (.tmp 88) 31 rfl w.heap.size 32 i32 (.pointer none) 1 8 Yba.underlying31 hi hz0 hz1 hz2 rfl (by decide) u6 r _ rfl (World.ownsRow.alloc hgone5 _) ⟨w4.heap.size, 0, none⟩ 1 1 [.pointer (some ⟨gs i, 0, none⟩)] rfl rfl (news_at (by simp) _ _) (fun u hu => by simp at hu; subst hu; rfl) (by decide) (by unfold maxLen; omega) (by omega) (by simp; omega) _ rfl ?_; intro g6 c6 w6 hown6 hgrow6 hat6 hlt6)
            have F4 := HF4.out
            have FG := HFG.out
            have hcut : ∀ (x : Nat), (∀ j, j < m + 1 → gs j ≠ x) → ∀ j, j < m → cutAt gs i m j ≠ x := fun x hx j hj => by
              unfold cutAt; split
              · exact hx m (by omega)
              · exact hx j (by omega)
            have hst5 := HST4.out.kept (S := fun q => q = g4 ∨ q = gg) (((Only.refl _ w4).setCell (p := ⟨g4, i, none⟩) (.inl rfl) (.string (sn m))).setCell (p := ⟨gg, i, none⟩) (.inr rfl) (.pointer (some ⟨gs m, 0, none⟩)))
              (by rintro (e | e); exact F4.1 e.symm; exact FG.1 e.symm) (by rintro (e | e); exact F4.2.1 e.symm; exact FG.2.1 e.symm)
              (fun q hq => by rintro (e | e); exact F4.2.2.1 (by rw [← e]; exact hq); exact FG.2.2.1 (by rw [← e]; exact hq))
              (fun j hj => by rintro (e | e); exact hcut g4 F4.2.2.2 j hj e; exact hcut gg FG.2.2.2 j hj e)
            have hst6 := hst5.grown hgrow6 (fun q hq => by
              have h1 := hst5.far32 hgone5 hq
              exact ⟨h1.1, h1.2.1, hsep6' q hq, h1.2.2⟩)
            have hse5 : OwnF ((w4.setCell ⟨g4, i, none⟩ (.string (sn m))).setCell ⟨gg, i, none⟩ (.pointer (some ⟨gs m, 0, none⟩))) w.heap.size 9 (.slice (some ⟨g4, 0, none⟩) m c4) m (fun j => .string (cutAt sn i m j)) :=
              (swap_row (G := fun j => .string (cutAt sn i m j)) hseen4 (.string (sn m)) rfl (fun j _ => cut_string sn i m j)).kept (fun q hq => by simp only [Value.ownBlock, Option.some.injEq] at hq; subst hq; exact blk_set_far _ _ hne4g)
            have hgo4 : OwnF (w4.setCell ⟨g4, i, none⟩ (.string (sn m))) w.heap.size 32 (.slice (some ⟨gg, 0, none⟩) (m + 1) cg) (m + 1) (fun j => .pointer (some ⟨gs j, 0, none⟩)) := hgot4.kept (fun q hq => by simp only [Value.ownBlock, Option.some.injEq] at hq; subst hq; exact blk_set_far _ _ hneg4)
            have hgo5 : OwnF ((w4.setCell ⟨g4, i, none⟩ (.string (sn m))).setCell ⟨gg, i, none⟩ (.pointer (some ⟨gs m, 0, none⟩))) w.heap.size 32 (.slice (some ⟨gg, 0, none⟩) m cg) m (fun j => .pointer (some ⟨cutAt gs i m j, 0, none⟩)) :=
              swap_row (G := fun j => .pointer (some ⟨cutAt gs i m j, 0, none⟩)) hgo4 (.pointer (some ⟨gs m, 0, none⟩)) rfl (fun j _ => cut_ptr gs i m j)
            have hse6 : OwnF w6 w.heap.size 9 (.slice (some ⟨g4, 0, none⟩) m c4) m (fun j => .string (cutAt sn i m j)) := hse5.kept (fun q hq => keep_grown hgrow6 (hse5.at_block hq).2.1 (fun e => apart9 hse5 hgone5 e hq))
            have hgo6 : OwnF w6 w.heap.size 32 (.slice (some ⟨gg, 0, none⟩) m cg) m (fun j => .pointer (some ⟨cutAt gs i m j, 0, none⟩)) := hgo5.kept (fun q hq => keep_grown hgrow6 (hgo5.at_block hq).2.1 (hsep56 q (by simpa [Value.ownBlock] using hq)))
            have hgn6 : OwnF w6 w.heap.size 32 (.slice (some ⟨g6, 0, none⟩) (r + 1) c6) (r + 1) (fun j => .pointer (some ⟨if j = r then gs i else go j, 0, none⟩)) := owns_snoc hown6 (by simp) (fun j hj => by rw [if_neg (by omega)])
            have hfar6 : ∀ (q : Nat) (cs : Array Value), w4.heap[q]? = some (Obj.cells cs 48 (0, 0)) → w6.heap[q]? = some (Obj.cells cs 48 (0, 0)) := fun q cs hq => by
              have n4 : q ≠ g4 := fun e => by obtain ⟨_, _, cx, hx⟩ := hseen4.at_block (k := g4) rfl; exact types_apart hq hx (by decide) e
              have ng : q ≠ gg := fun e => by obtain ⟨_, _, cx, hx⟩ := hgot4.at_block (k := gg) rfl; exact types_apart hq hx (by decide) e
              have h5 : ((w4.setCell ⟨g4, i, none⟩ (.string (sn m))).setCell ⟨gg, i, none⟩ (.pointer (some ⟨gs m, 0, none⟩))).heap[q]? = some (.cells cs 48 (0, 0)) := by rw [blk_set_far _ _ ng, blk_set_far _ _ n4]; exact hq
              rw [keep_grown hgrow6 (blk_lt h5) (fun e => by obtain ⟨_, _, cx, hx⟩ := hgone5.at_block e; exact types_apart h5 hx (by decide) rfl)]
              exact h5
            have hga6 : ∀ j, j < r + 1 → ∃ cs, w6.heap[if j = r then gs i else go j]? = some (.cells cs 48 (0, 0)) := fun j hj => by
              split
              · exact ⟨_, hfar6 _ _ HMI.out⟩
              · obtain ⟨cs, hcs⟩ := hgoneAt4 j (by omega)
                exact ⟨cs, hfar6 _ _ hcs⟩
            have hs66 : ∀ q, sv'.ownBlock = some q → (Value.slice (some ⟨g6, 0, none⟩) (r + 1) c6).ownBlock ≠ some q := fun q hq e => by
              simp only [Value.ownBlock, Option.some.injEq] at e
              rcases hat6 with h | h
              · exact hsep6' g6 h (by rw [e]; exact hq)
              · have := (HST4.out.scores.at_block hq).2.1
                simp at h; omega
            have hs56 : ∀ q, (Value.slice (some ⟨gg, 0, none⟩) m cg).ownBlock = some q → (Value.slice (some ⟨g6, 0, none⟩) (r + 1) c6).ownBlock ≠ some q := fun q hq e => by
              simp only [Value.ownBlock, Option.some.injEq] at hq e
              rcases hat6 with h | h
              · exact hsep56 gg rfl (by rw [hq, ← e]; exact h)
              · have := (hgot4.at_block (k := gg) rfl).2.1
                simp at h; omega
            have hb6 : Below w.heap.size w w6 := (((hbel4.setCell (p := ⟨g4, i, none⟩) (hseen4.at_block (k := g4) rfl).1 (.string (sn m))).setCell (p := ⟨gg, i, none⟩) (hgot4.at_block (k := gg) rfl).1 (.pointer (some ⟨gs m, 0, none⟩)))).trans ((only_grown hgrow6).below (fun q hq => by
              rintro (e | e)
              · have := (hgone5.at_block e).1; omega
              · simp at e; omega))
            refine (check_yes (by omega) hst6.mkt hst6.idx hst6.names hst6.scores hse6 hgo6).mono ?_
            rintro e w7 ⟨rfl, d, rfl⟩
            go_wp2
            go_roundw
            case rel => exact ⟨k + 1, m, r + 1, sv', _, cutAt sn i m, cutAt gs i m, fun j => if j = r then gs i else go j, by omega, by go_num, by omega, by omega, ⟨hst6.drewN d, hse6.drewN d, hgo6.drewN d, hgn6.drewN d, hga6, fun q hq e => HFG.out.2.2.1 (by simp only [Value.ownBlock, Option.some.injEq] at e; rw [e]; exact hq), hs66, hs56⟩, below_drewN hb6 d⟩
            case measure => simp [intOf]; omega
        · have hop' : (fo k % 3 == 2) = false := by simp [hop]
          clear hop
          obtain ⟨gg, cg, rfl, _, _, ⟨curg, hcurg, _⟩, hcsg⟩ := hgot.cells (by omega)
          have hi0 : (0 : Int) ≤ (i : Int) := by omega
          have him : (i : Int) < (m : Int) := by omega
          have P1 := neq32_same
          have P2 : ((sn i).toList == (sn i).toList) = true := by simp
          go_wp2_with (go_at_call 7; refine (find_yes hseen (by omega) hi1 rfl hi3).mono ?_; rintro e w3 ⟨rfl, rfl⟩)
          refine (maker_hit hst hi1).mono ?_
          rintro e w4 ⟨rfl, hst4, ho4⟩
          have hseen4 : OwnF w4 w.heap.size 9 u4 m (fun j => .string (sn j)) := hseen.kept (fun q hq => ho4.block q (hst.far9 hseen hq).1)
          have hgot4 : OwnF w4 w.heap.size 32 (.slice (some ⟨gg, 0, none⟩) m cg) m (fun j => .pointer (some ⟨gs j, 0, none⟩)) := hgot.kept (fun q hq => ho4.block q (hst.far32 hgot hq).1)
          have hgone4 : OwnF w4 w.heap.size 32 u6 r (fun j => .pointer (some ⟨go j, 0, none⟩)) := hgone.kept (fun q hq => ho4.block q (hst.far32 hgone hq).1)
          have hgoneAt4 : ∀ j, j < r → ∃ cs, w4.heap[go j]? = some (.cells cs 48 (0, 0)) := fun j hj => by
            obtain ⟨cs, hcs⟩ := hgoneAt j hj
            obtain ⟨ms, hms, _⟩ := hst.mkt
            exact ⟨cs, (ho4.block _ (types_apart hcs hms (by decide))).trans hcs⟩
          have hbel4 : Below w.heap.size w w4 := hbel'.trans (ho4.below (fun q hq => by have := hst.own.1; omega))
          have y5 : w4.cell? ⟨gg, i, none⟩ = some (.pointer (some ⟨gs i, 0, none⟩)) := (cell_blk (ho4.block gg (hst.far32 hgot (k := gg) rfl).1)).trans (hcsg i hi1)
          obtain ⟨e1, e2, e3, _, _⟩ := hst4.mkt.cells
          have P0 := hst4.name hi1
          clear hst hseen hgot hgone hgoneAt hbel' ho4 hcsg hcurg c1 c2 c3 f1 f2 t1 hWs hWt HI2
          go_wp2_with (go_at_call 10; refine (check_yes (by omega) hst4.mkt hst4.idx hst4.names hst4.scores hseen4 hgot4).mono ?_; rintro e w5 ⟨rfl, d, rfl⟩)
          go_roundw
          case rel => exact ⟨k + 1, m, r, sv, _, sn, gs, go, by omega, by go_num, by omega, by omega, ⟨hst4.drewN d, hseen4.drewN d, hgot4.drewN d, hgone4.drewN d, hgoneAt4, hsep5, hsep6, hsep56⟩, below_drewN hbel4 d⟩
          case measure => simp [intOf]; omega
      · by_cases hop : fo k % 3 = 2
        · have hop' : (fo k % 3 == 2) = true := by simp [hop]
          clear hop
          go_wp2_with (go_at_call 7; refine (find_no hseen (by omega) hnew).mono ?_; rintro e w3 ⟨rfl, rfl⟩)
          go_roundw
          case rel => exact ⟨k + 1, m, r, sv, lv, sn, gs, go, by omega, by go_num, by omega, by omega, ⟨hst, hseen, hgot, hgone, hgoneAt, hsep5, hsep6, hsep56⟩, hbel'⟩
          case measure => simp [intOf]; omega
        · have hop' : (fo k % 3 == 2) = false := by simp [hop]
          clear hop
          have P1 := neq32_same
          have P2 : (s.toList == s.toList) = true := by simp
          go_wp2_with (go_at_call 7; refine (find_no hseen (by omega) hnew).mono ?_; rintro e w3 ⟨rfl, rfl⟩)
          have hwsz := hbel'.size
          refine (maker_miss hst (by omega) hwsz hs hnew).mono ?_
          rintro e w4 ⟨rfl, g', cap', hst4, ho4, hat⟩
          have hzo4 := ho4.size
          have hseen4 : OwnF w4 w.heap.size 9 u4 m (fun j => .string (sn j)) := hseen.kept (fun q hq => ho4.block q (by
            have h1 := hst.far9 hseen hq
            have h2 := (hseen.at_block hq).2.1
            simp only [not_or]
            exact ⟨h1.1, h1.2.1, h1.2.2.1, by omega⟩))
          have hgot4 : OwnF w4 w.heap.size 32 u5 m (fun j => .pointer (some ⟨gs j, 0, none⟩)) := hgot.kept (fun q hq => ho4.block q (by
            have h1 := hst.far32 hgot hq
            have h2 := (hgot.at_block hq).2.1
            simp only [not_or]
            exact ⟨h1.1, h1.2.1, fun e => hsep5 q e hq, by omega⟩))
          have hgone4 : OwnF w4 w.heap.size 32 u6 r (fun j => .pointer (some ⟨go j, 0, none⟩)) := hgone.kept (fun q hq => ho4.block q (by
            have h1 := hst.far32 hgone hq
            have h2 := (hgone.at_block hq).2.1
            simp only [not_or]
            exact ⟨h1.1, h1.2.1, fun e => hsep6 q e hq, by omega⟩))
          have hgoneAt4 : ∀ j, j < r → go j ≠ w3.heap.size ∧ ∃ cs, w4.heap[go j]? = some (.cells cs 48 (0, 0)) := fun j hj => by
            obtain ⟨cs, hcs⟩ := hgoneAt j hj
            have h2 := blk_lt hcs
            obtain ⟨ms, hms, _⟩ := hst.mkt
            obtain ⟨es, cc, hes⟩ := hst.idx.is_map
            refine ⟨by omega, cs, (ho4.block _ ?_).trans hcs⟩
            simp only [not_or]
            refine ⟨types_apart hcs hms (by decide), map_apart hcs hes, fun e => ?_, by omega⟩
            obtain ⟨_, _, cx, hx⟩ := hst.scores.at_block e
            exact types_apart hcs hx (by decide) rfl
          have hsep2 : ∀ q, u5.ownBlock = some q → q ≠ g' ∧ q < w3.heap.size := fun q hq => by
            have h2 := (hgot.at_block hq).2.1
            refine ⟨fun e => ?_, h2⟩
            rcases hat with h | h
            · exact hsep5 g' h (by rw [← e]; exact hq)
            · omega
          have hsep3 : ∀ q, u6.ownBlock = some q → q ≠ g' ∧ q < w3.heap.size := fun q hq => by
            have h2 := (hgone.at_block hq).2.1
            refine ⟨fun e => ?_, h2⟩
            rcases hat with h | h
            · exact hsep6 g' h (by rw [← e]; exact hq)
            · omega
          have hbel4 : Below w.heap.size w w4 := hbel'.trans (ho4.below (fun q hq => by
            have h1 := hst.own
            simp only [not_or]
            exact ⟨by omega, by omega, fun e => by have := (hst.scores.at_block e).1; omega, by omega⟩))
          have hgl : ∀ j, j < m → gs j < w3.heap.size := fun j hj => blk_lt (hst.made j hj)
          have hnewb : w4.heap[w3.heap.size]? = some (.cells (freshC s) 48 (0, 0)) := by have := hst4.made m (by omega); simpa using this
          have hoth : ∀ j, j < m → gs j ≠ w3.heap.size ∧ ∃ cs, w4.heap[gs j]? = some (.cells cs 48 (0, 0)) := fun j hj => ⟨by have := hgl j hj; omega, _, by have := hst4.made j (by omega); rw [if_neg (by omega), if_neg (by omega)] at this; exact this⟩
          obtain ⟨e1, e2, e3, _, _⟩ := hst4.mkt.cells
          have P0 : w4.cell? ⟨w3.heap.size, 0, none⟩ = some (.string s) := by rw [blk_cell hnewb]; rfl
          have HST := hide hst4
          clear hst hseen hgot hgone hgoneAt hbel' ho4 hst4 hat hsep5 hsep6 hgl c1 c2 c3 f1 f2 t1 hWs hWt
          go_wp2_with fail
          refine (in_no hgot4 (by omega) hnewb hoth).mono ?_
          rintro e w5 ⟨rfl, rfl⟩
          go_wp2_with fail
          refine (in_no hgone4 (by omega) hnewb hgoneAt4).mono ?_
          rintro e w6 ⟨rfl, rfl⟩
          go_wp2_with fail
          refine (fresh_yes _ _ _ hnewb).mono ?_
          rintro e w7 ⟨rfl, rfl⟩
          go_wp2_with (first
            | (at_builtin; refine wpList_append_lies _ rfl (.tmp 132) (.tmp 134) 22 rfl w.heap.size 9 i9 (.string ⟨#[]⟩) 1 16 Yba.underlying22 ki kz0 kz1 kz2 rfl (by decide) u4 m _ rfl (World.ownsRow.alloc hseen4 _) ⟨w7.heap.size, 0, none⟩ 1 1 [.string s] rfl rfl (cell_one_new _ _ _) (fun u hu => by simp at hu; subst hu; rfl) (by decide) (by unfold maxLen; omega) (by omega) (by simp; omega) _ rfl ?_; intro g8 c8 w8 hown8 hgrow8 hat8 hlt8; have hgot8 : OwnF w8 w.heap.size 32 u5 m (fun j => .pointer (some ⟨gs j, 0, none⟩)) := hgot4.kept (fun q hq => keep_grown hgrow8 (hgot4.at_block hq).2.1 (apart9 hseen4 hgot4 hq)); have hz8 : w7.heap.size + 1 ≤ w8.heap.size := (by have := hgrow8.size; simpa using this))
            | (at_builtin; refine wpList_append_lies _ rfl (.tmp 136) (.tmp 138) 31 rfl w.heap.size 32 i32 (.pointer none) 1 8 Yba.underlying31 hi hz0 hz1 hz2 rfl (by decide) u5 m _ rfl (World.ownsRow.alloc hgot8 _) ⟨w8.heap.size, 0, none⟩ 1 1 [.pointer (some ⟨w3.heap.size, 0, none⟩)] rfl rfl (cell_one_new _ _ _) (fun u hu => by simp at hu; subst hu; rfl) (by decide) (by unfold maxLen; omega) (by omega) (by simp; omega) _ rfl ?_; intro g9 c9 w9 hown9 hgrow9 hat9 hlt9))
          have hz9 : w8.heap.size + 1 ≤ w9.heap.size := by have := hgrow9.size; simpa using this
          have hst7 := HST.out
          have hst8 := hst7.grown hgrow8 (fun q hq => hst7.far9 hseen4 hq)
          have hst9 := hst8.grown hgrow9 (fun q hq => by
            have h1 := hst8.far32 hgot8 hq
            exact ⟨h1.1, h1.2.1, fun e => (hsep2 q hq).1 (by simpa [Value.ownBlock] using e.symm), h1.2.2⟩)
          have hseen8 : OwnF w8 w.heap.size 9 (.slice (some ⟨g8, 0, none⟩) (m + 1) c8) (m + 1) (fun j => .string (if j = m then s else sn j)) := owns_snoc hown8 (by simp) (fun j hj => by rw [if_neg (by omega)])
          have hseen9 : OwnF w9 w.heap.size 9 (.slice (some ⟨g8, 0, none⟩) (m + 1) c8) (m + 1) (fun j => .string (if j = m then s else sn j)) := hseen8.kept (fun q hq => keep_grown hgrow9 (hseen8.at_block hq).2.1 (fun e => apart9 hseen8 hgot8 e hq))
          have hgot9 : OwnF w9 w.heap.size 32 (.slice (some ⟨g9, 0, none⟩) (m + 1) c9) (m + 1) (fun j => .pointer (some ⟨if j = m then w3.heap.size else gs j, 0, none⟩)) := owns_snoc hown9 (by simp) (fun j hj => by rw [if_neg (by omega)])
          have hgone8 : OwnF w8 w.heap.size 32 u6 r (fun j => .pointer (some ⟨go j, 0, none⟩)) := hgone4.kept (fun q hq => keep_grown hgrow8 (hgone4.at_block hq).2.1 (apart9 hseen4 hgone4 hq))
          have hgone9 : OwnF w9 w.heap.size 32 u6 r (fun j => .pointer (some ⟨go j, 0, none⟩)) := hgone8.kept (fun q hq => keep_grown hgrow9 (hgone8.at_block hq).2.1 (fun e => hsep56 q e hq))
          have hga9 : ∀ j, j < r → ∃ cs, w9.heap[go j]? = some (.cells cs 48 (0, 0)) := fun j hj => by
            obtain ⟨_, cs, hcs⟩ := hgoneAt4 j hj
            have h8 : w8.heap[go j]? = some (.cells cs 48 (0, 0)) := by
              rw [keep_grown hgrow8 (blk_lt hcs) (fun e => by obtain ⟨_, _, cx, hx⟩ := hseen4.at_block e; exact types_apart hcs hx (by decide) rfl)]; exact hcs
            refine ⟨cs, ?_⟩
            rw [keep_grown hgrow9 (blk_lt h8) (fun e => by obtain ⟨_, _, cx, hx⟩ := hgot8.at_block e; exact types_apart h8 hx (by decide) rfl)]; exact h8
          have hg3 := (hst7.scores.at_block (k := g') rfl).2.1
          have hsep9 : ∀ q, (Value.slice (some ⟨g', 0, none⟩) (m + 1) cap').ownBlock = some q → (Value.slice (some ⟨g9, 0, none⟩) (m + 1) c9).ownBlock ≠ some q := fun q hq e => by
            simp only [Value.ownBlock, Option.some.injEq] at hq e
            rcases hat9 with h | h
            · exact (hsep2 g9 h).1 (by omega)
            · simp at h; omega
          have hsep96 : ∀ q, (Value.slice (some ⟨g9, 0, none⟩) (m + 1) c9).ownBlock = some q → u6.ownBlock ≠ some q := fun q hq e => by
            simp only [Value.ownBlock, Option.some.injEq] at hq
            have h6 := hsep3 q e
            rcases hat9 with h | h
            · exact hsep56 g9 h (by rw [hq]; exact e)
            · simp at h; omega
          have hsep69 : ∀ q, (Value.slice (some ⟨g', 0, none⟩) (m + 1) cap').ownBlock = some q → u6.ownBlock ≠ some q := fun q hq e => by
            simp only [Value.ownBlock, Option.some.injEq] at hq
            exact (hsep3 q e).1 hq.symm
          have hbel9 : Below w.heap.size w w9 := (hbel4.trans ((only_grown hgrow8).below (fun q hq => by
            rintro (e | e)
            · have := (hseen4.at_block e).1; omega
            · omega))).trans ((only_grown hgrow9).below (fun q hq => by
            rintro (e | e)
            · have := (hgot8.at_block e).1; omega
            · omega))
          refine (check_yes (by omega) hst9.mkt hst9.idx hst9.names hst9.scores hseen9 hgot9).mono ?_
          rintro e wA ⟨rfl, d, rfl⟩
          go_wp2
          go_roundw
          case rel => exact ⟨k + 1, m + 1, r, _, _, _, _, go, by omega, by go_num, by omega, by omega, ⟨hst9.drewN d, hseen9.drewN d, hgot9.drewN d, hgone9.drewN d, hga9, hsep9, hsep69, hsep96⟩, below_drewN hbel9 d⟩
          case measure => simp [intOf]; omega
    · go_wp2
      go_ret
      exact ⟨rfl, hbel⟩


set_option maxRecDepth 100000 in
set_option maxHeartbeats 1000000 in
theorem law4_big (a : Option Addr) (n cap : Nat) (w : World) (hn : 1024 < n) :
    Calls Yba.prog 4 #[.slice a n cap] w fun e w' => e = .returned (.bool true) ∧ Below w.heap.size w w' := by
  have h1' : (1024 : Int) < (n : Int) := by omega
  go_enter Yba.func4, Yba.ntmps4
  go_wp2
  go_ret
  exact ⟨rfl, Below.refl _ _⟩

set_option maxRecDepth 100000 in
set_option maxHeartbeats 1000000 in
theorem law4_zero (a : Option Addr) (cap : Nat) (w : World) :
    Calls Yba.prog 4 #[.slice a 0 cap] w fun e w' => e = .returned (.bool true) ∧ Below w.heap.size w w' := by
  go_enter Yba.func4, Yba.ntmps4
  go_wp2_with (go_at_call 5; refine (newMarket_any _).mono ?_; rintro e w1 ⟨rfl, hst1, hb1⟩)
  go_loop [4, 5, 6, 22] (fun _ _ _ i => i = .int .i64 0) (fun _ _ _ i => (intOf i).toNat)
  case atStart => rfl
  case round =>
    subst hrel
    go_wp2
    go_ret
    exact ⟨rfl, hb1⟩

/-- A slice of steps that is read. -/
def ReadsP (w : World) (a : Option Addr) (n : Nat) (fo fk : Nat → Int) : Prop := ∀ j, j < n → ∃ g o, a = some ⟨g, o, none⟩ ∧ w.cell? ⟨g, o + j * 2, none⟩ = some (.int .u8 (fo j)) ∧ w.cell? ⟨g, o + j * 2 + 1, none⟩ = some (.int .u8 (fk j))

theorem law4_any (a : Option Addr) (n cap : Nat) (fo fk : Nat → Int) (w : World) (hr : ReadsP w a n fo fk) (hf : ∀ j, 0 ≤ fo j ∧ fo j < 256 ∧ 0 ≤ fk j ∧ fk j < 256) :
    Calls Yba.prog 4 #[.slice a n cap] w fun e w' => e = .returned (.bool true) ∧ Below w.heap.size w w' := by
  by_cases h1 : 1024 < n
  · exact law4_big a n cap w h1
  rcases Nat.eq_zero_or_pos n with h0 | h0
  · subst h0; exact law4_zero a cap w
  · obtain ⟨g, o, rfl, hc0, _⟩ := hr 0 h0
    refine law4_some g o n cap fo fk w (by omega) (fun _ => World.block_lt_of_cell? w _ hc0) (fun j hj => ?_) hf
    obtain ⟨g', o', h2, h3⟩ := hr j hj
    simp only [Option.some.injEq, Addr.mk.injEq, and_true] at h2
    obtain ⟨rfl, rfl⟩ := h2
    exact h3
end Go.Proofs.Ybulkbfwy
