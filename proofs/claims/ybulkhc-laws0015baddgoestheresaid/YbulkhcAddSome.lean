/-
  (*builder).add of a variable's node where a tag is open.
-/
import Derived.Test.YbulkhcAdd
namespace Go.Proofs.Ybulkhc.Build
open Go.RowKit

/-- What the law reads behind the call of add, where n + 1 tags are open. -/
structure After (H rl n : Nat) (zs : List Int) (P : Nat → Nat) (g cp ad : Nat) (w : World) : Prop where
  rootc : w.cell? ⟨H + 1, 2, none⟩ = some (.slice (some ⟨H, 0, none⟩) rl rl)
  openc : w.cell? ⟨H + 1, 3, none⟩ = some (.slice (some ⟨g, 0, none⟩) (n + 1) cp)
  kind : ∀ i, i ≤ n → w.cell? ⟨g, i * 10, none⟩ = some (.int .u8 (zs[i]?.getD 0 % 8))
  nestp : ∀ i, i ≤ n → w.cell? ⟨g, i * 10 + 7, none⟩ = some (.pointer (some ⟨P i, 0, none⟩))
  kids : ∀ i, i ≤ n → ∃ c m, w.cell? ⟨P i, 3, none⟩ = some (.slice c (i % 3 + if i = n then ad else 0) m)

section
variable {H rl n : Nat} {zs : List Int} {P : Nat → Nat} {g cp : Nat} {xs : List Value} {w w3 w4 : World}

theorem nest_cell {q c m : Nat} {w : World} (h : w.heap[q]? = some (.cells (nest c m) 41 (0, 0))) : w.cell? ⟨q, 3, none⟩ = some (.slice (some ⟨c, 0, none⟩) m m) ∧ w.frozen? ⟨q, 3, none⟩ = false := by
  simp [World.cell?, World.frozen?, h, nest]

theorem Inv.cells (h : Inv H rl (n + 1) zs P (some ⟨g, 0, none⟩) cp xs w) : (∀ i, i ≤ n → w.cell? ⟨g, i * 10, none⟩ = some (.int .u8 (zs[i]?.getD 0 % 8))) ∧ ∀ i, i ≤ n → w.cell? ⟨g, i * 10 + 7, none⟩ = some (.pointer (some ⟨P i, 0, none⟩)) := by
  obtain ⟨g', e, _, _, hc⟩ := h.opened (by omega)
  injection e with e
  injection e with e
  subst e
  exact ⟨fun i hi => by simpa [tag] using hc i (by omega) 0 (by omega), fun i hi => by simpa [tag] using hc i (by omega) 7 (by omega)⟩

theorem After.of (h : Inv H rl (n + 1) zs P (some ⟨g, 0, none⟩) cp xs w) : After H rl n zs P g cp 0 w := by
  refine ⟨(top_cell2 h.top).1, (top_cell h.top).1, h.cells.1, h.cells.2, fun i hi => ?_⟩
  obtain ⟨_, c, _, h3, _⟩ := h.nst i (by omega)
  exact ⟨some ⟨c, 0, none⟩, i % 3, by rw [(nest_cell h3).1]; simp⟩

theorem Inv.row (h : Inv H rl (n + 1) zs P (some ⟨g, 0, none⟩) cp xs w) : ∃ cur, w.heap[g]? = some (.cells cur 37 (0, 0)) := by
  rcases h.opn.2 with ⟨e, _⟩ | ⟨g', cap, cur, e, _, hh, _⟩
  · cases e
  · injection e with e
    injection e with e
    injection e with e
    exact ⟨cur, by rw [e]; exact hh⟩

theorem After.app (h : Inv H rl (n + 1) zs P (some ⟨g, 0, none⟩) cp xs w3) {c g4 cp1 : Nat} (hc2 : H + 2 ≤ c) (hnest : w3.heap[P n]? = some (.cells (nest c (n % 3)) 41 (0, 0))) (hkids : w3.heap[c]? = some (.cells (mk8 (n % 3)) 35 (0, 0)))
    (hgrow : (wN w3).grownBy w4 (Value.ownBlock (.slice (some ⟨c, 0, none⟩) (n % 3) (n % 3)))) (hb : Below H w w3) :
    After H rl n zs P g cp 1 (w4.setCell ⟨P n, 3, none⟩ (.slice (some ⟨g4, 0, none⟩) (n % 3 + 1) cp1)) ∧ Below H w (w4.setCell ⟨P n, 3, none⟩ (.slice (some ⟨g4, 0, none⟩) (n % 3 + 1) cp1)) := by
  have hown := wN_own (show n % 3 ≤ 3 by omega) hkids
  have hl := h.lt
  obtain ⟨cur, hrow⟩ := h.row
  have hPn := (h.nst n (by omega)).1
  have t4 := keep35 hown hgrow (heap_al h.top (.cells nodeA 35)) (by decide)
  have n4 := keep35 hown hgrow (heap_al hnest (.cells nodeA 35)) (by decide)
  have r4 := keep35 hown hgrow (heap_al hrow (.cells nodeA 35)) (by decide)
  have hgP : g ≠ P n := by
    intro e
    rw [← e, hrow] at hnest
    injection hnest with e1
    injection e1 with _ e2 _
    exact absurd e2 (by decide)
  have rowsame : ∀ x, (w4.setCell ⟨P n, 3, none⟩ (.slice (some ⟨g4, 0, none⟩) (n % 3 + 1) cp1)).cell? ⟨g, x, none⟩ = w3.cell? ⟨g, x, none⟩ := by
    intro x
    refine World.cell?_of_block (w := w3) ?_
    rw [Below.heap_setCell _ _ _ _ hgP]
    exact r4.trans hrow.symm
  have topsame : ∀ x, (w4.setCell ⟨P n, 3, none⟩ (.slice (some ⟨g4, 0, none⟩) (n % 3 + 1) cp1)).cell? ⟨H + 1, x, none⟩ = w3.cell? ⟨H + 1, x, none⟩ := by
    intro x
    refine World.cell?_of_block (w := w3) ?_
    rw [Below.heap_setCell _ _ _ _ (show H + 1 ≠ P n by omega)]
    exact t4.trans h.top.symm
  refine ⟨⟨by rw [topsame]; exact (top_cell2 h.top).1, by rw [topsame]; exact (top_cell h.top).1, fun i hi => by rw [rowsame]; exact h.cells.1 i hi, fun i hi => by rw [rowsame]; exact h.cells.2 i hi, fun i hi => ?_⟩, ?_⟩
  · by_cases e : i = n
    · subst e
      refine ⟨some ⟨g4, 0, none⟩, cp1, ?_⟩
      rw [if_pos rfl]
      simp [World.cell?, set_same n4, nest]
    · obtain ⟨_, c', _, h3, _⟩ := h.nst i (by omega)
      have hlt := h.inj i n (by omega) (by omega)
      have k4 := keep35 hown hgrow (heap_al h3 (.cells nodeA 35)) (by decide)
      refine ⟨some ⟨c', 0, none⟩, i % 3, ?_⟩
      rw [if_neg e]
      refine (nest_cell (c := c') (m := i % 3) ?_).1
      rw [Below.heap_setCell _ _ _ _ (show P i ≠ P n by omega)]
      exact k4
  · have hA : Below H w (wN w3) := (hb.alloc (by omega) _).drew
    refine (hA.grown hgrow (by rw [wN_size]; omega) ?_).setCell (by simp; omega) _
    intro q hq
    have : c = q := by simpa [Value.ownBlock] using hq
    omega
end

/-- list, where n + 1 tags are open, told by what the builder is. -/
theorem list_inv (H rl n : Nat) (zs : List Int) (P : Nat → Nat) (g cp : Nat) (xs : List Value) (w : World) (hn : n < 1024) (h : Inv H rl (n + 1) zs P (some ⟨g, 0, none⟩) cp xs w) :
    Calls Yba.prog 8 #[.pointer (some ⟨H + 1, 0, none⟩)] w fun e w3 => e = .returned (.pointer (if zs[n]?.getD 0 % 8 = 3 then none else some ⟨P n, 3, none⟩)) ∧ Inv H rl (n + 1) zs P (some ⟨g, 0, none⟩) cp xs w3 ∧ Below w.heap.size w w3 := by
  obtain ⟨g', e, _, _, hc⟩ := h.opened (by omega)
  injection e with e
  injection e with e
  subst e
  have ht := fun j (hj : j < 8) => hc n (by omega) j (by omega)
  by_cases hk : zs[n]?.getD 0 % 8 = 3
  · rw [if_pos hk]
    refine (list_parent (H + 1) g n cp (P n) _ w hn (top_cell h.top).1 ht (by simp [hk])).mono fun e w3 ⟨he, hw⟩ => ⟨he, ?_, below_new hw⟩
    obtain ⟨o, rfl⟩ := hw
    exact (h.alloc o).drew
  · rw [if_neg hk]
    refine (list_some (H + 1) g n cp (P n) _ w hn (top_cell h.top).1 ht (by simp [hk])).mono fun e w3 ⟨he, hw⟩ => ⟨he, ?_, below_new hw⟩
    obtain ⟨o, rfl⟩ := hw
    exact (h.alloc o).drew

set_option maxHeartbeats 1000000 in
set_option maxRecDepth 100000 in
theorem add_parent (H rl n : Nat) (zs : List Int) (P : Nat → Nat) (g cp : Nat) (xs : List Value) (w : World) (hn : n < 1024) (hinv : Inv H rl (n + 1) zs P (some ⟨g, 0, none⟩) cp xs w) (hk : zs[n]?.getD 0 % 8 = 3) :
    Calls Yba.prog 9 #[.pointer (some ⟨H + 1, 0, none⟩), .agg #[.int .u8 1, .bool false, .bool false, .bool false, .string ⟨#[120]⟩, .slice none 0 0, .int .i64 0, .pointer none]] w fun e w' => e = .returned (.tuple #[]) ∧ After H rl n zs P g cp 0 w' ∧ Below H w w' := by
  have hlt := hinv.lt
  have hc := (top_cell hinv.top).1
  have hcA := fun o => cell_al hc o
  have L := list_inv H rl n zs P g cp xs (w.alloc (.cells nodeA 35)) hn (hinv.alloc _)
  rw [if_pos hk] at L
  have hb1 : Below H w (w.alloc (.cells nodeA 35)) := (Below.refl _ _).alloc (by omega) _
  have LL := hide (show Calls Yba.prog 8 #[.pointer (some ⟨H + 1, 0, none⟩)] (w.alloc (.cells nodeA 35)) fun e w3 => e = .returned (.pointer none) ∧ After H rl n zs P g cp 0 w3 ∧ Below H w w3 from
    L.mono fun e w3 ⟨he, hi, hw⟩ => ⟨he, After.of hi, hb1.trans (hw.mono (by simp; omega))⟩)
  clear hc L hb1 hinv hk
  go_enter Yba.func9, Yba.ntmps9
  go_wp2_with fail
  refine LL.out.mono ?_
  rintro e w3 ⟨rfl, hinv3, hbel⟩
  clear LL hcA
  go_wp2
  go_end0
  exact ⟨rfl, hinv3, hbel⟩

set_option maxHeartbeats 1000000 in
set_option maxRecDepth 100000 in
theorem add_some (H rl n : Nat) (zs : List Int) (P : Nat → Nat) (g cp : Nat) (xs : List Value) (w : World) (hn : n < 1024) (hinv : Inv H rl (n + 1) zs P (some ⟨g, 0, none⟩) cp xs w) (hk : ¬ zs[n]?.getD 0 % 8 = 3) :
    Calls Yba.prog 9 #[.pointer (some ⟨H + 1, 0, none⟩), .agg #[.int .u8 1, .bool false, .bool false, .bool false, .string ⟨#[120]⟩, .slice none 0 0, .int .i64 0, .pointer none]] w fun e w' => e = .returned (.tuple #[]) ∧ After H rl n zs P g cp 1 w' ∧ Below H w w' := by
  have hlt := hinv.lt
  have hc := (top_cell hinv.top).1
  have hcA := fun o => cell_al hc o
  obtain ⟨i0, hi, hz0, hz1, hz2⟩ := info_parts info35
  have hnew : (w.alloc (.cells nodeA 35)).heap[w.heap.size]? = some (.cells nodeA 35 (0, 0)) := heap_alloc_new w _
  have L := list_inv H rl n zs P g cp xs (w.alloc (.cells nodeA 35)) hn (hinv.alloc _)
  rw [if_neg hk] at L
  have hb1 : Below H w (w.alloc (.cells nodeA 35)) := (Below.refl _ _).alloc (by omega) _
  have LL := hide (show Calls Yba.prog 8 #[.pointer (some ⟨H + 1, 0, none⟩)] (w.alloc (.cells nodeA 35)) fun e w3 => e = .returned (.pointer (some ⟨P n, 3, none⟩)) ∧ Inv H rl (n + 1) zs P (some ⟨g, 0, none⟩) cp xs w3 ∧ Box w.heap.size w3 ∧ Below H w w3 from
    L.mono fun e w3 ⟨he, hi, hw⟩ => ⟨he, hi, Box.below hnew hw, hb1.trans (hw.mono (by simp; omega))⟩)
  clear hc L hb1 hinv hk hnew
  go_enter Yba.func9, Yba.ntmps9
  go_wp2_with fail
  refine LL.out.mono ?_
  rintro e w3 ⟨rfl, hinv3, ⟨b0, b1, b2, b3, b4, b5, b6, b7⟩, hbel⟩
  clear LL hcA
  obtain ⟨_, c, hc2, hnest, hkids⟩ := hinv3.nst n (by omega)
  have l2 := (nest_cell hnest).1
  have l2A := fun o => cell_al l2 o
  have hown3 := wN_own (show n % 3 ≤ 3 by omega) hkids
  go_wp2
  go_region_law (refine step_append_lies (wN w3) rfl (.tmp 52) (.tmp 54) 27 rfl 0 35 i0 _ 8 64 Yba.underlying27 hi hz0 hz1 hz2 rfl (by decide) (.slice (some ⟨c, 0, none⟩) (n % 3) (n % 3)) (n % 3) (mk8 (n % 3)).toList (by simp [Act.eval]) hown3 ⟨w3.heap.size, 0, none⟩ 1 1 nodeA.toList (by simp [Act.eval]) rfl (wN_news _) node_one (by omega) (by unfold maxLen; omega) (by omega) (Nat.zero_le _) _ rfl ?_; intro g4 cp1 w4 hown4 hgrow4 _ _; have hc4 : w4.cell? ⟨P n, 3, none⟩ = some (.slice (some ⟨c, 0, none⟩) (n % 3) (n % 3)) := (nest_cell (keep35 hown3 hgrow4 (heap_al hnest _) (by decide))).1; have hf4 : w4.frozen? ⟨P n, 3, none⟩ = false := (nest_cell (keep35 hown3 hgrow4 (heap_al hnest _) (by decide))).2)
  all_goals
    have R := After.app hinv3 (g4 := g4) (cp1 := cp1) hc2 hnest hkids hgrow4 hbel
    go_wp2
    go_end0
    exact ⟨rfl, R.1, R.2⟩
end Go.Proofs.Ybulkhc.Build
