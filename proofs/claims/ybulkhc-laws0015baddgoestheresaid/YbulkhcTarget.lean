/-
  The walk of LawS0015BTarget.
-/
import Derived.Test.YbulkhcList
import Derived.LaidEqlPtr
namespace Go.Proofs.Ybulkhc.Build
open Go.RowKit

theorem Inv.opened {H rl k : Nat} {zs : List Int} {P : Nat → Nat} {ao : Option Addr} {cp : Nat} {xs : List Value} {w : World} (h : Inv H rl k zs P ao cp xs w) (hk : 0 < k) :
    ∃ g, ao = some ⟨g, 0, none⟩ ∧ H + 2 ≤ g ∧ g < w.heap.size ∧ ∀ i, i < k → ∀ j, j < 10 → w.cell? ⟨g, i * 10 + j, none⟩ = (tag (zs[i]?.getD 0 % 8) i (P i))[j]? := by
  obtain ⟨g, cap, hv, hb, hlt⟩ := h.opn.form hk
  injection hv with h1 h2 h3
  subst h1 h3
  refine ⟨g, rfl, hb, hlt, fun i hi j hj => ?_⟩
  rw [← h.tags i hi j hj]
  have hl : xs.length = k * 10 := h.opn.1
  have hlt : i * 10 + j < xs.length := by omega
  have := h.opn.cells (g := g) rfl (i * 10 + j) xs[i * 10 + j] (List.getElem?_eq_getElem hlt)
  rw [Addr.add_lit, Nat.zero_add] at this
  rw [this, List.getElem?_eq_getElem hlt]

theorem below_new {w w' : World} (h : ∃ o, w' = (w.alloc o).drew) : Below w.heap.size w w' := by
  obtain ⟨o, rfl⟩ := h
  exact ((Below.refl _ _).alloc (Nat.le_refl _) _).drew

theorem hide {p : Prop} (h : p) : Hid p := h
theorem info27 : (Yba.prog.info? 27).map (fun i => (i.zero, i.size, i.bytes)) = some (some (.slice none 0 0), 1, 24) := by kernel_rfl
theorem eq25 (a : Addr) (W : World) : (binOp .eql 25 (.pointer (some a)) (.pointer (some a))).run Yba.prog W = .ok (.bool true) W := by
  obtain ⟨i, hi, _⟩ := info_parts info27
  exact run_eql_ptr_same W a Yba.underlying25 hi
theorem target_long (a0 : Option Addr) (len cap : Nat) (r : Int) (w : World) (h : 1024 < len) :
    Calls Yba.prog 3 #[.slice a0 len cap, .int .u8 r] w fun e w' => e = .returned (.bool true) ∧ w' = w := by
  have h' : (1024 : Int) < (len : Int) := by omega
  go_enter Yba.func3, Yba.ntmps3
  go_wp2
  go_ret
  exact ⟨rfl, rfl⟩

set_option maxHeartbeats 1000000 in
theorem target_none (a0 : Option Addr) (cap : Nat) (zs : List Int) (r : Int) (w : World) (hr0 : 0 ≤ r) (hr1 : r ≤ 255) (hrow : RowOK w a0 0 zs) :
    Calls Yba.prog 3 #[.slice a0 0 cap, .int .u8 r] w fun e w' => e = .returned (.bool true) ∧ Below w.heap.size w w' := by
  have C := build a0 0 cap zs r w (by omega) hr0 hr1 hrow
  clear hrow
  go_enter Yba.func3, Yba.ntmps3
  go_wp2_with fail
  refine C.mono ?_
  rintro e w1 ⟨rl, P, ao, cp, xs, hrl, rfl, hinv, hbel⟩
  clear C
  have hc := (top_cell hinv.top).1
  have L := list_none (w.heap.size + 1) ao cp w1 hc
  clear hinv hc
  go_wp2_with fail
  refine L.mono ?_
  rintro e w2 ⟨rfl, rfl⟩
  clear L
  have pe := eq25
  go_wp2
  go_ret
  exact ⟨by simp, hbel⟩

set_option maxHeartbeats 2000000 in
set_option maxRecDepth 100000 in
theorem target_some (a0 : Option Addr) (n cap : Nat) (zs : List Int) (r : Int) (w : World) (hn : n < 1024) (hr0 : 0 ≤ r) (hr1 : r ≤ 255) (hrow : RowOK w a0 (n + 1) zs) :
    Calls Yba.prog 3 #[.slice a0 (n + 1) cap, .int .u8 r] w fun e w' => e = .returned (.bool true) ∧ Below w.heap.size w w' := by
  have C := hide (build a0 (n + 1) cap zs r w (by omega) hr0 hr1 hrow)
  clear hrow
  go_enter Yba.func3, Yba.ntmps3
  go_wp2_with fail
  refine C.out.mono ?_
  rintro e w1 ⟨rl, P, ao, cp, xs, hrl, rfl, hinv, hbel⟩
  clear C
  obtain ⟨g, rfl, hg1, hg2, hcells⟩ := hinv.opened (by omega)
  have hc := (top_cell hinv.top).1
  have hlt1 := hinv.lt
  have ht := fun j (hj : j < 8) => hcells n (by omega) j (by omega)
  generalize P n = p at ht
  generalize zs[n]?.getD 0 % 8 = kd at ht
  clear hinv hcells
  go_wp2_with fail
  have wn : IntKind.i64.wrap (n : Int) = n := by rw [IntKind.wrap_i64]; omega
  by_cases hk : kd = 3
  · have L := list_parent (w.heap.size + 1) g n cp p kd w1 hn hc ht (by simp [hk])
    have hk' : (kd == 3) = true := by simp [hk]
    clear hk
    refine L.mono ?_
    rintro e w2 ⟨rfl, hw2⟩
    clear L
    have hb2 := below_new hw2
    clear hw2
    have hc2 := (hb2.cell (p := ⟨w.heap.size + 1, 3, none⟩) hlt1).trans hc
    have ht2 := fun j (hj : j < 8) => (hb2.cell (p := ⟨g, n * 10 + j, none⟩) hg2).trans (ht j hj)
    have hbel2 : Below w.heap.size w w2 := hbel.trans (hb2.mono hbel.size)
    clear hc ht hb2 hbel
    have t0 : w2.cell? ⟨g, n * 10, none⟩ = some (.int .u8 kd) := by simpa [tag] using ht2 0 (by omega)
    have t1 : w2.cell? ⟨g, n * 10 + 1, none⟩ = some (.bool false) := by simpa [tag] using ht2 1 (by omega)
    have t2 : w2.cell? ⟨g, n * 10 + 2, none⟩ = some (.bool false) := by simpa [tag] using ht2 2 (by omega)
    have t3 : w2.cell? ⟨g, n * 10 + 3, none⟩ = some (.bool false) := by simpa [tag] using ht2 3 (by omega)
    have t4 : w2.cell? ⟨g, n * 10 + 4, none⟩ = some (.string ⟨#[]⟩) := by simpa [tag] using ht2 4 (by omega)
    have t5 : w2.cell? ⟨g, n * 10 + 5, none⟩ = some (.slice none 0 0) := by simpa [tag] using ht2 5 (by omega)
    have t6 : w2.cell? ⟨g, n * 10 + 6, none⟩ = some (.int .i64 n) := by simpa [tag] using ht2 6 (by omega)
    have t7 : w2.cell? ⟨g, n * 10 + 7, none⟩ = some (.pointer (some ⟨p, 0, none⟩)) := by simpa [tag] using ht2 7 (by omega)
    clear ht2
    have hcA := fun o => cell_al hc2 o
    have t0A := fun o => cell_al t0 o
    have t1A := fun o => cell_al t1 o
    have t2A := fun o => cell_al t2 o
    have t3A := fun o => cell_al t3 o
    have t4A := fun o => cell_al t4 o
    have t5A := fun o => cell_al t5 o
    have t6A := fun o => cell_al t6 o
    have t7A := fun o => cell_al t7 o
    go_wp2
    go_region
    have pe := eq25
    go_wp2
    go_ret
    exact ⟨by simp, (hbel2.alloc hbel2.size _).drew⟩
  · have L := list_some (w.heap.size + 1) g n cp p kd w1 hn hc ht (by simp [hk])
    have hk' : (kd == 3) = false := by simp [hk]
    clear hk
    refine L.mono ?_
    rintro e w2 ⟨rfl, hw2⟩
    clear L
    have hb2 := below_new hw2
    clear hw2
    have hc2 := (hb2.cell (p := ⟨w.heap.size + 1, 3, none⟩) hlt1).trans hc
    have ht2 := fun j (hj : j < 8) => (hb2.cell (p := ⟨g, n * 10 + j, none⟩) hg2).trans (ht j hj)
    have hbel2 : Below w.heap.size w w2 := hbel.trans (hb2.mono hbel.size)
    clear hc ht hb2 hbel
    have t0 : w2.cell? ⟨g, n * 10, none⟩ = some (.int .u8 kd) := by simpa [tag] using ht2 0 (by omega)
    have t1 : w2.cell? ⟨g, n * 10 + 1, none⟩ = some (.bool false) := by simpa [tag] using ht2 1 (by omega)
    have t2 : w2.cell? ⟨g, n * 10 + 2, none⟩ = some (.bool false) := by simpa [tag] using ht2 2 (by omega)
    have t3 : w2.cell? ⟨g, n * 10 + 3, none⟩ = some (.bool false) := by simpa [tag] using ht2 3 (by omega)
    have t4 : w2.cell? ⟨g, n * 10 + 4, none⟩ = some (.string ⟨#[]⟩) := by simpa [tag] using ht2 4 (by omega)
    have t5 : w2.cell? ⟨g, n * 10 + 5, none⟩ = some (.slice none 0 0) := by simpa [tag] using ht2 5 (by omega)
    have t6 : w2.cell? ⟨g, n * 10 + 6, none⟩ = some (.int .i64 n) := by simpa [tag] using ht2 6 (by omega)
    have t7 : w2.cell? ⟨g, n * 10 + 7, none⟩ = some (.pointer (some ⟨p, 0, none⟩)) := by simpa [tag] using ht2 7 (by omega)
    clear ht2
    have hcA := fun o => cell_al hc2 o
    have t0A := fun o => cell_al t0 o
    have t1A := fun o => cell_al t1 o
    have t2A := fun o => cell_al t2 o
    have t3A := fun o => cell_al t3 o
    have t4A := fun o => cell_al t4 o
    have t5A := fun o => cell_al t5 o
    have t6A := fun o => cell_al t6 o
    have t7A := fun o => cell_al t7 o
    go_wp2
    go_region
    have pe := eq25
    go_wp2
    go_ret
    exact ⟨by simp, (hbel2.alloc hbel2.size _).drew⟩
end Go.Proofs.Ybulkhc.Build
