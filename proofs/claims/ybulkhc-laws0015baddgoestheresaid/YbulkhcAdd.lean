/-
  (*builder).add of a variable's node, by contracts.
-/
import Derived.Test.YbulkhcTarget
import Derived.Deep.RegionLaw
namespace Go.Proofs.Ybulkhc.Build
open Go.RowKit

def nodeA : Array Value := #[.int .u8 1, .bool false, .bool false, .bool false, .string ⟨#[120]⟩, .slice none 0 0, .int .i64 0, .pointer none]

theorem heap_al {w : World} {q : Nat} {x : Obj} (h : w.heap[q]? = some x) (o : Obj) : (w.alloc o).heap[q]? = some x := by
  rw [Below.heap_alloc _ _ _ (Array.getElem?_eq_some_iff.1 h).1]; exact h

section
variable {H rl k : Nat} {zs : List Int} {P : Nat → Nat} {ao : Option Addr} {cp : Nat} {xs : List Value} {w : World}
theorem Inv.alloc (h : Inv H rl k zs P ao cp xs w) (o : Obj) : Inv H rl k zs P ao cp xs (w.alloc o) := by
  refine ⟨heap_al h.top o, heap_al h.root o, h.opn.alloc o, h.tags, fun i hi => ?_, h.inj⟩
  obtain ⟨h1, c, h2, h3, h4⟩ := h.nst i hi
  exact ⟨h1, c, h2, heap_al h3 o, heap_al h4 o⟩
theorem Inv.drew (h : Inv H rl k zs P ao cp xs w) : Inv H rl k zs P ao cp xs w.drew := ⟨h.top, h.root, h.opn, h.tags, h.nst, h.inj⟩
end

/-- The world ahead of the append: the node to be appended lies in a block of its own. -/
def wN (w3 : World) : World := (w3.alloc (.cells nodeA 35)).drew
theorem wN_size (w3 : World) : (wN w3).heap.size = w3.heap.size + 1 := by simp [wN]
theorem wN_new (w3 : World) : (wN w3).heap[w3.heap.size]? = some (.cells nodeA 35 (0, 0)) := heap_alloc_new w3 _
theorem wN_news (w3 : World) : ∀ j u, nodeA.toList[j]? = some u → (wN w3).cell? ((⟨w3.heap.size, 0, none⟩ : Addr).add j) = some u := World.news_of_block (wN_new w3)
theorem node_one : ∀ u ∈ nodeA.toList, u.oneCell' = true := by
  intro u hu
  simp only [nodeA, List.mem_cons, List.not_mem_nil, or_false] at hu
  rcases hu with rfl | rfl | rfl | rfl | rfl | rfl | rfl | rfl <;> rfl
theorem wN_own {w3 : World} {c m : Nat} (hm : m ≤ 3) (hc : w3.heap[c]? = some (.cells (mk8 m) 35 (0, 0))) : (wN w3).ownsRow 0 35 8 (.slice (some ⟨c, 0, none⟩) m m) m (mk8 m).toList := by
  have hs : (mk8 m).size = m * 8 := size_madeCells _ _
  refine ⟨by simpa using hs, .inr ⟨c, m, mk8 m, rfl, Nat.zero_le _, heap_al hc _, Nat.le_refl _, by unfold maxLen; omega, hs, List.take_of_length_le (by simp [hs])⟩⟩
theorem keep35 {wa w1 : World} {v : Value} {n : Nat} {xs : List Value} (hopn : wa.ownsRow 0 35 8 v n xs) (hgrow : wa.grownBy w1 v.ownBlock) {q : Nat} {cs : Array Value} {t : TypeId} {fr : Nat × Nat}
    (hq : wa.heap[q]? = some (.cells cs t fr)) (ht : t ≠ 35) : w1.heap[q]? = some (.cells cs t fr) := by
  rw [hgrow.block q (Array.getElem?_eq_some_iff.1 hq).1 ?_]
  · exact hq
  · intro e
    rcases hopn.2 with ⟨rfl, _⟩ | ⟨g, cap, cur, rfl, _, hg, _⟩
    · simp [Value.ownBlock] at e
    · have e' : q = g := by simpa [Value.ownBlock] using e
      subst e'
      rw [hg] at hq
      injection hq with hq
      injection hq with _ h2 _
      exact ht h2.symm

/-- The box of the node that is handed in. -/
structure Box (B : Nat) (w : World) : Prop where
  c0 : w.cell? ⟨B, 0, none⟩ = some (.int .u8 1)
  c1 : w.cell? ⟨B, 1, none⟩ = some (.bool false)
  c2 : w.cell? ⟨B, 2, none⟩ = some (.bool false)
  c3 : w.cell? ⟨B, 3, none⟩ = some (.bool false)
  c4 : w.cell? ⟨B, 4, none⟩ = some (.string ⟨#[120]⟩)
  c5 : w.cell? ⟨B, 5, none⟩ = some (.slice none 0 0)
  c6 : w.cell? ⟨B, 6, none⟩ = some (.int .i64 0)
  c7 : w.cell? ⟨B, 7, none⟩ = some (.pointer none)
theorem Box.of {B : Nat} {w : World} (h : w.heap[B]? = some (.cells nodeA 35 (0, 0))) : Box B w := by
  constructor <;> simp [World.cell?, h, nodeA]

theorem Box.below {B : Nat} {w w' : World} (h : w.heap[B]? = some (.cells nodeA 35 (0, 0))) (hb : Below w.heap.size w w') : Box B w' :=
  Box.of (by rw [hb.block B (Array.getElem?_eq_some_iff.1 h).1]; exact h)

theorem top_cell2 {H rl : Nat} {w1 : World} {v : Value} (h : w1.heap[H + 1]? = some (.cells (bld H rl v) 30 (0, 0))) : w1.cell? ⟨H + 1, 2, none⟩ = some (.slice (some ⟨H, 0, none⟩) rl rl) ∧ w1.frozen? ⟨H + 1, 2, none⟩ = false := by
  simp [World.cell?, World.frozen?, h, bld]

/-- What the append to the root's list leaves. -/
theorem root_after {H rl k : Nat} {zs : List Int} {P : Nat → Nat} {ao : Option Addr} {cp : Nat} {xs : List Value} {w3 w4 : World} (hinv : Inv H rl k zs P ao cp xs w3) (hrl : rl ≤ 3) {g cp1 : Nat}
    (hown : w4.ownsRow 0 35 8 (.slice (some ⟨g, 0, none⟩) (rl + 1) cp1) (rl + 1) ((mk8 rl).toList ++ nodeA.toList)) (hgrow : (wN w3).grownBy w4 (Value.ownBlock (.slice (some ⟨H, 0, none⟩) rl rl))) {w : World} (hb : Below H w w3) :
    (w4.setCell ⟨H + 1, 2, none⟩ (.slice (some ⟨g, 0, none⟩) (rl + 1) cp1)).cell? ⟨H + 1, 2, none⟩ = some (.slice (some ⟨g, 0, none⟩) (rl + 1) cp1) ∧
    (w4.setCell ⟨H + 1, 2, none⟩ (.slice (some ⟨g, 0, none⟩) (rl + 1) cp1)).cell? ⟨g, rl * 8 + 4, none⟩ = some (.string ⟨#[120]⟩) ∧
    Below H w (w4.setCell ⟨H + 1, 2, none⟩ (.slice (some ⟨g, 0, none⟩) (rl + 1) cp1)) := by
  have t4 : w4.heap[H + 1]? = some (.cells (bld H rl (.slice ao k cp)) 30 (0, 0)) := keep35 (wN_own hrl hinv.root) hgrow (heap_al hinv.top _) (by decide)
  have hg : g ≠ H + 1 := by
    rintro rfl
    rcases hown.2 with ⟨h, _⟩ | ⟨g', cap, cur, h, _, hh, _⟩
    · cases h
    · injection h with h1 h2 h3
      injection h1 with h1
      injection h1 with h1
      rw [← h1, t4] at hh
      injection hh with hh
      injection hh with _ h2 _
      exact absurd h2 (by decide)
  have hl := hinv.lt
  have hmk : (mk8 rl).toList.length = rl * 8 := by rw [Array.length_toList]; exact size_madeCells _ _
  refine ⟨?_, ?_, ?_⟩
  · simp [World.cell?, set_same t4, bld]
  · have hcell := hown.cells (g := g) rfl (rl * 8 + 4) (.string ⟨#[120]⟩) (by rw [List.getElem?_append_right (by omega), hmk]; simp [nodeA])
    rw [Addr.add_lit, Nat.zero_add] at hcell
    rw [World.cell?_of_block (w := w4) (Below.heap_setCell _ _ _ _ hg)]
    exact hcell
  · have hA : Below H w (wN w3) := (hb.alloc (by omega) _).drew
    refine (hA.grown hgrow (by rw [wN_size]; omega) ?_).setCell (by simp) _
    intro q hq
    have : H = q := by simpa [Value.ownBlock] using hq
    omega

set_option maxHeartbeats 1000000 in
set_option maxRecDepth 100000 in
theorem add_none (H rl : Nat) (zs : List Int) (P : Nat → Nat) (ao : Option Addr) (cp : Nat) (xs : List Value) (w : World) (hrl : rl ≤ 3) (hinv : Inv H rl 0 zs P ao cp xs w) :
    Calls Yba.prog 9 #[.pointer (some ⟨H + 1, 0, none⟩), .agg #[.int .u8 1, .bool false, .bool false, .bool false, .string ⟨#[120]⟩, .slice none 0 0, .int .i64 0, .pointer none]] w fun e w' => e = .returned (.tuple #[]) ∧
      ∃ g cap, w'.cell? ⟨H + 1, 2, none⟩ = some (.slice (some ⟨g, 0, none⟩) (rl + 1) cap) ∧ w'.cell? ⟨g, rl * 8 + 4, none⟩ = some (.string ⟨#[120]⟩) ∧ Below H w w' := by
  have hlt := hinv.lt
  have hc := (top_cell hinv.top).1
  have hcA := fun o => cell_al hc o
  obtain ⟨i0, hi, hz0, hz1, hz2⟩ := info_parts info35
  have hinv1 := hinv.alloc (.cells nodeA 35)
  have hnew : (w.alloc (.cells nodeA 35)).heap[w.heap.size]? = some (.cells nodeA 35 (0, 0)) := heap_alloc_new w _
  have L := list_none (H + 1) ao cp (w.alloc (.cells nodeA 35)) (hcA _)
  have hb1 : Below H w (w.alloc (.cells nodeA 35)) := (Below.refl _ _).alloc (by omega) _
  have LL := hide (show Calls Yba.prog 8 #[.pointer (some ⟨H + 1, 0, none⟩)] (w.alloc (.cells nodeA 35)) fun e w3 => e = .returned (.pointer (some ⟨H + 1, 2, none⟩)) ∧ Inv H rl 0 zs P ao cp xs w3 ∧ Box w.heap.size w3 ∧ Below H w w3 from
    L.mono fun e w3 ⟨he, hw⟩ => ⟨he, by rw [hw]; exact hinv1, by rw [hw]; exact Box.of hnew, by rw [hw]; exact hb1⟩)
  clear hc hinv1 hnew L hb1 hinv
  go_enter Yba.func9, Yba.ntmps9
  go_wp2_with fail
  refine LL.out.mono ?_
  rintro e w3 ⟨rfl, hinv3, ⟨b0, b1, b2, b3, b4, b5, b6, b7⟩, hbel⟩
  clear LL hcA
  have l2 := (top_cell2 hinv3.top).1
  have l2A := fun o => cell_al l2 o
  go_wp2
  go_region_law (refine step_append_lies (wN w3) rfl (.tmp 52) (.tmp 54) 27 rfl 0 35 i0 _ 8 64 Yba.underlying27 hi hz0 hz1 hz2 rfl (by decide) (.slice (some ⟨H, 0, none⟩) rl rl) rl (mk8 rl).toList (by simp [Act.eval]) (wN_own hrl hinv3.root) ⟨w3.heap.size, 0, none⟩ 1 1 nodeA.toList (by simp [Act.eval]) rfl (wN_news _) node_one (by omega) (by unfold maxLen; omega) (by omega) (Nat.zero_le _) _ rfl ?_; intro g cp1 w4 hown4 hgrow4 _ _; have hc4 : w4.cell? ⟨H + 1, 2, none⟩ = some (.slice (some ⟨H, 0, none⟩) rl rl) := (top_cell2 (keep35 (wN_own hrl hinv3.root) hgrow4 (heap_al hinv3.top _) (by decide))).1; have hf4 : w4.frozen? ⟨H + 1, 2, none⟩ = false := (top_cell2 (keep35 (wN_own hrl hinv3.root) hgrow4 (heap_al hinv3.top _) (by decide))).2)
  all_goals
    have R := root_after hinv3 hrl hown4 hgrow4 hbel
    go_wp2
    go_end0
    exact ⟨rfl, g, cp1, R.1, R.2.1, R.2.2⟩
end Go.Proofs.Ybulkhc.Build
