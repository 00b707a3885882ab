/-
  (*timerHeap).Push by a contract; the walk of LawS0016BPushPop.
-/
import Derived.Test.YbulkhqLast
import Derived.Deep.AppendLies
namespace Go.Proofs.Ybulkhq.Timers
open Go.RowKit

def fresh (z : Int) : Array Value := #[.int .i64 z, .int .i64 0, .nilIface, .int .u64 0, .pointer none, .bool false, .int .i64 0]

/-- Ahead of Push: the heap's variable lies at B, the new timer at T, the heap's array at H (full), the pointers at H + 1. -/
structure Ready (H B T n : Nat) (z : Int) (W : World) : Prop where
  hB : W.heap[B]? = some (.cells #[.slice (some ⟨H, 0, none⟩) n n] 24 (0, 0))
  hT : W.heap[T]? = some (.cells (fresh z) 37 (0, 0))
  hrow : W.rowIs H 28 n (slot H n)
  prow : W.rowIs (H + 1) 28 n (slot H n)
  nB : H + 1 < B
  nT : B < T

structure Pushed (H B T n : Nat) (z : Int) (g cp : Nat) (w : World) : Prop where
  hv : w.cell? ⟨B, 0, none⟩ = some (.slice (some ⟨g, 0, none⟩) (n + 1) cp)
  hf : w.frozen? ⟨B, 0, none⟩ = false
  hcap : n + 1 ≤ cp
  gr : ∀ j, j < n → w.cell? ⟨g, j, none⟩ = some (.pointer (some ⟨H + 2 + j, 0, none⟩))
  gn : w.cell? ⟨g, n, none⟩ = some (.pointer (some ⟨T, 0, none⟩))
  gf : w.frozen? ⟨g, n, none⟩ = false
  pr : ∀ j, j < n → w.cell? ⟨H + 1, j, none⟩ = some (.pointer (some ⟨H + 2 + j, 0, none⟩))
  tw : w.cell? ⟨T, 0, none⟩ = some (.int .i64 z)
  ti : w.cell? ⟨T, 6, none⟩ = some (.int .i64 n)
  ne : g ≠ B ∧ g ≠ T ∧ g ≠ H + 1
  low : H ≤ g

theorem row_owns {w : World} {b n : Nat} {f : Nat → Value} (h : w.rowIs b 28 n f) (hn : n ≤ 2000) : w.ownsRow 0 28 1 (.slice (some ⟨b, 0, none⟩) n n) n ((List.range n).map f) := by
  obtain ⟨c, hc, hs, hf⟩ := h
  refine ⟨by simp, .inr ⟨b, n, c, rfl, Nat.zero_le _, hc, Nat.le_refl _, by unfold maxLen; omega, by omega, ?_⟩⟩
  apply List.ext_getElem?
  intro i
  by_cases hi : i < n
  · rw [List.getElem?_take_of_lt (by omega), Array.getElem?_toList, hf i hi]
    simp [hi]
  · rw [List.getElem?_eq_none (by simp; omega), List.getElem?_eq_none (by simp; omega)]

/-- The world ahead of Push's append. -/
def wX (W : World) (T n : Nat) : World := (W.setCell ⟨T, 6, none⟩ (.int .i64 n)).alloc (.cells #[.pointer (some ⟨T, 0, none⟩)] 28)
theorem wX_size (W : World) (T n : Nat) : (wX W T n).heap.size = W.heap.size + 1 := by simp [wX, World.setCell]
theorem wX_new (W : World) (T n : Nat) : (wX W T n).heap[W.heap.size]? = some (.cells #[.pointer (some ⟨T, 0, none⟩)] 28 (0, 0)) := by
  have h := heap_alloc_new (W.setCell ⟨T, 6, none⟩ (.int .i64 n)) (.cells #[.pointer (some ⟨T, 0, none⟩)] 28)
  have e : (W.setCell ⟨T, 6, none⟩ (.int .i64 n)).heap.size = W.heap.size := by simp [World.setCell]
  rw [e] at h
  exact h
theorem wX_news (W : World) (T n : Nat) : ∀ j u, [Value.pointer (some ⟨T, 0, none⟩)][j]? = some u → (wX W T n).cell? ((⟨W.heap.size, 0, none⟩ : Addr).add j) = some u :=
  World.news_of_block (wX_new W T n)
theorem wX_other (W : World) (T n q : Nat) (h : q < W.heap.size) (hq : q ≠ T) : (wX W T n).heap[q]? = W.heap[q]? := by
  unfold wX
  rw [Below.heap_alloc _ _ _ (by simpa [World.setCell] using h), Below.heap_setCell _ _ _ _ hq]

section
variable {H B T n : Nat} {z : Int} {W w4 : World}
theorem Ready.lts (h : Ready H B T n z W) : B < W.heap.size ∧ T < W.heap.size ∧ H + 1 < W.heap.size := ⟨(Array.getElem?_eq_some_iff.1 h.hB).1, (Array.getElem?_eq_some_iff.1 h.hT).1, h.prow.lt⟩
theorem Ready.own (h : Ready H B T n z W) (hn : n ≤ 2000) : (wX W T n).ownsRow 0 28 1 (.slice (some ⟨H, 0, none⟩) n n) n ((List.range n).map (slot H n)) := by
  have := h.nB
  have := h.nT
  exact row_owns ((h.hrow.setOther (a := ⟨T, 6, none⟩) (by simp; omega) _).alloc _) hn
theorem fresh_cells {w : World} {T : Nat} (h : w.heap[T]? = some (.cells (fresh z) 37 (0, 0))) : w.cell? ⟨T, 6, none⟩ = some (.int .i64 0) ∧ w.frozen? ⟨T, 6, none⟩ = false := by
  simp [World.cell?, World.frozen?, h, fresh]

theorem Ready.hB4 (h : Ready H B T n z W) (hgrow : (wX W T n).grownBy w4 (Value.ownBlock (.slice (some ⟨H, 0, none⟩) n n))) : w4.heap[B]? = some (.cells #[.slice (some ⟨H, 0, none⟩) n n] 24 (0, 0)) := by
  obtain ⟨h1, h2, h3⟩ := h.lts
  have := h.nB
  have := h.nT
  rw [hgrow.block B (by rw [wX_size]; omega) (by simp [Value.ownBlock]; omega), wX_other _ _ _ _ h1 (by omega)]
  exact h.hB

theorem Ready.pushed (h : Ready H B T n z W) {g cp : Nat} (hown : w4.ownsRow 0 28 1 (.slice (some ⟨g, 0, none⟩) (n + 1) cp) (n + 1) ((List.range n).map (slot H n) ++ [.pointer (some ⟨T, 0, none⟩)]))
    (hgrow : (wX W T n).grownBy w4 (Value.ownBlock (.slice (some ⟨H, 0, none⟩) n n))) (hat : Value.ownBlock (.slice (some ⟨H, 0, none⟩) n n) = some g ∨ g = (wX W T n).heap.size) :
    Pushed H B T n z g cp (w4.setCell ⟨B, 0, none⟩ (.slice (some ⟨g, 0, none⟩) (n + 1) cp)) := by
  obtain ⟨h1, h2, h3⟩ := h.lts
  have nB := h.nB
  have nT := h.nT
  have hg4 : g ≠ B ∧ g ≠ T ∧ g ≠ H + 1 ∧ H ≤ g := by
    rcases hat with e | e
    · have e' : H = g := by simpa [Value.ownBlock] using e
      omega
    · rw [wX_size] at e
      omega
  have hg : g ≠ B ∧ g ≠ T ∧ g ≠ H + 1 := ⟨hg4.1, hg4.2.1, hg4.2.2.1⟩
  have hB4 := h.hB4 hgrow
  have cells : ∀ j u, ((List.range n).map (slot H n) ++ [.pointer (some ⟨T, 0, none⟩)])[j]? = some u → (w4.setCell ⟨B, 0, none⟩ (.slice (some ⟨g, 0, none⟩) (n + 1) cp)).cell? ⟨g, j, none⟩ = some u := by
    intro j u hu
    have := hown.cells (g := g) rfl j u hu
    rw [Addr.add_lit, Nat.zero_add] at this
    rw [cell_set_other hg.1]
    exact this
  obtain ⟨hcap, hgf⟩ : n + 1 ≤ cp ∧ w4.frozen? ⟨g, n, none⟩ = false := by
    rcases hown.2 with ⟨e, _⟩ | ⟨g', cap', cur, e, _, hh, hle, _⟩
    · cases e
    · injection e with e1 e2 e3
      injection e1 with e1
      injection e1 with e1
      subst e1 e3
      exact ⟨hle, by simp [World.frozen?, hh]⟩
  have hT4 : ∀ x, (w4.setCell ⟨B, 0, none⟩ (.slice (some ⟨g, 0, none⟩) (n + 1) cp)).cell? ⟨T, x, none⟩ = ((fresh z).setIfInBounds 6 (.int .i64 n))[x]? := by
    intro x
    rw [cell_set_other (by omega)]
    have e1 : w4.heap[T]? = (W.setCell ⟨T, 6, none⟩ (.int .i64 n)).heap[T]? := by
      rw [hgrow.block T (by rw [wX_size]; omega) (by simp [Value.ownBlock]; omega)]
      unfold wX
      rw [Below.heap_alloc _ _ _ (by simpa [World.setCell] using h2)]
    have e2 : (W.setCell ⟨T, 6, none⟩ (.int .i64 n)).heap[T]? = some (.cells ((fresh z).setIfInBounds 6 (.int .i64 n)) 37 (0, 0)) := by
      simp [World.setCell, Array.getElem?_modify, h.hT]
    exact cell_of_row w4 T x _ 37 (0, 0) (e1.trans e2)
  refine ⟨cell_of_one (one_setCell hB4), free_of_one (one_setCell hB4), hcap, fun j hj => ?_, ?_, ?_, fun j hj => ?_, ?_, ?_, hg, hg4.2.2.2⟩
  · exact cells j _ (by rw [List.getElem?_append_left (by simp; omega)]; simp [hj, slot])
  · exact cells n _ (by rw [List.getElem?_append_right (by simp)]; simp)
  · rw [World.frozen?_of_block (w := w4) (Below.heap_setCell _ _ _ _ hg.1)]; exact hgf
  · rw [cell_set_other (by omega), World.cell?_of_block (w := W) ?_, h.prow.cell hj, slot, if_pos hj]
    show w4.heap[H + 1]? = W.heap[H + 1]?
    rw [hgrow.block (H + 1) (by rw [wX_size]; omega) (by simp [Value.ownBlock]), wX_other _ _ _ _ h3 (by omega)]
  · rw [hT4]; simp [fresh]
  · rw [hT4]; simp [fresh]

theorem Ready.below (h : Ready H B T n z W) {w : World} (hb : Below H w W) (hgrow : (wX W T n).grownBy w4 (Value.ownBlock (.slice (some ⟨H, 0, none⟩) n n))) (u : Value) : Below H w (w4.setCell ⟨B, 0, none⟩ u) := by
  obtain ⟨h1, h2, h3⟩ := h.lts
  have nB := h.nB
  have nT := h.nT
  have hX : Below H w (wX W T n) := (hb.setCell (by simp; omega) _).alloc (by simp [World.setCell]; omega) _
  refine (hX.grown hgrow (by rw [wX_size]; omega) ?_).setCell (by simp; omega) u
  intro q hq
  have : H = q := by simpa [Value.ownBlock] using hq
  omega
end

set_option maxHeartbeats 1000000 in
set_option maxRecDepth 100000 in
theorem push_any (H B T n : Nat) (z : Int) (w W : World) (hn : n ≤ 1024) (h : Ready H B T n z W) (hb : Below H w W) :
    Calls Yba.prog 9 #[.pointer (some ⟨B, 0, none⟩), .iface 28 (.pointer (some ⟨T, 0, none⟩))] W fun e w' => e = .returned (.tuple #[]) ∧ ∃ g cp, Pushed H B T n z g cp w' ∧ Below H w w' := by
  obtain ⟨i0, hi, hz0, hz1, hz2⟩ := info_parts info28
  have ta := assert28'
  have nT := h.nT
  have cB : W.cell? ⟨B, 0, none⟩ = some (.slice (some ⟨H, 0, none⟩) n n) := cell_of_one h.hB
  have cT := (fresh_cells h.hT).1
  have fT := (fresh_cells h.hT).2
  have cB2 : ∀ v, (W.setCell ⟨T, 6, none⟩ v).cell? ⟨B, 0, none⟩ = some (.slice (some ⟨H, 0, none⟩) n n) := fun v => by rw [cell_set_other (by omega)]; exact cB
  go_enter Yba.func9, Yba.ntmps9
  go_wp2_with (at_builtin; (refine wpList_append_lies (wX W T n) rfl (.tmp 17) (.tmp 19) 24 rfl 0 28 i0 _ 1 8 Yba.underlying24 hi hz0 hz1 hz2 rfl (by decide) (.slice (some ⟨H, 0, none⟩) n n) n _ rfl (h.own (by omega)) ⟨W.heap.size, 0, none⟩ 1 1 [.pointer (some ⟨T, 0, none⟩)] rfl rfl (wX_news W T n) ?c1 (by omega) (by unfold maxLen; omega) (by omega) (Nat.zero_le _) _ rfl ?_))
  case c1 => intro u hu; simp at hu; subst hu; rfl
  intro g cp w4 hown4 hgrow4 hat4 _
  have hp := h.pushed hown4 hgrow4 hat4
  have hbel := h.below hb hgrow4 (.slice (some ⟨g, 0, none⟩) (n + 1) cp)
  have c4 := cell_of_one (h.hB4 hgrow4)
  have f4 := free_of_one (h.hB4 hgrow4)
  clear hown4 hgrow4 hat4 cB2
  go_wp2
  go_end0
  exact ⟨rfl, g, cp, hp, hbel⟩
end Go.Proofs.Ybulkhq.Timers
