/-
  zzs0016bbuild by a contract: the heap and the pointers that it makes.
-/
import Derived.Test.YbulkhqRows
import Derived.WalkKit
import Derived.WalkSpells
import Derived.Deep.OwnRows
namespace Go.Proofs.Ybulkhq.Timers
open Go.RowKit

theorem hide {p : Prop} (h : p) : Hid p := h
theorem info28 : (Yba.prog.info? 28).map (fun i => (i.zero, i.size, i.bytes)) = some (some (.pointer none), 1, 8) := by kernel_rfl
def mkp (n : Nat) : Array Value := madeCells #[.pointer none] n
theorem make24 (n : Nat) (hn : n ≤ 2000) (w : World) :
    (Instr.makeSlice 24 (.int .i64 (n : Int)) (.int .i64 (n : Int))).run Yba.prog w = .ok (.slice (some ⟨w.heap.size, 0, none⟩) n n) (w.alloc (.cells (mkp n) 28)) :=
  run_make_row' (P := Yba.prog) 24 28 (.pointer none) 8 Yba.underlying24 info28 rfl .i64 .i64 n (by omega) (by omega) w
theorem make23 (n : Nat) (hn : n ≤ 2000) (w : World) :
    (Instr.makeSlice 23 (.int .i64 (n : Int)) (.int .i64 (n : Int))).run Yba.prog w = .ok (.slice (some ⟨w.heap.size, 0, none⟩) n n) (w.alloc (.cells (mkp n) 28)) :=
  run_make_row' (P := Yba.prog) 23 28 (.pointer none) 8 Yba.underlying23 info28 rfl .i64 .i64 n (by omega) (by omega) w

def timer (z : Int) (i : Nat) : Array Value := #[.int .i64 z, .int .i64 0, .nilIface, .int .u64 i, .pointer none, .bool false, .int .i64 i]
def slot (H k j : Nat) : Value := if j < k then .pointer (some ⟨H + 2 + j, 0, none⟩) else .pointer none

structure TInv (H n k : Nat) (zs : List Int) (w : World) : Prop where
  size : w.heap.size = H + 2 + k
  hrow : w.rowIs H 28 n (slot H k)
  prow : w.rowIs (H + 1) 28 n (slot H k)
  tim : ∀ i, i < k → w.heap[H + 2 + i]? = some (.cells (timer (zs[i]?.getD 0) i) 37 (0, 0))

theorem TInv.start (w : World) (n : Nat) (zs : List Int) : TInv w.heap.size n 0 zs ((w.alloc (.cells (mkp n) 28)).alloc (.cells (mkp n) 28)) := by
  refine ⟨by simp, ?_, ?_, fun i hi => by omega⟩
  · exact ((World.rowIs_made w (.pointer none) n 28).alloc _).congr (fun i _ => by simp [slot])
  · have h := (World.rowIs_made (w.alloc (.cells (mkp n) 28)) (.pointer none) n 28).congr (g := slot w.heap.size 0) (fun i _ => by simp [slot])
    simp only [World.size_alloc] at h
    exact h

theorem TInv.step {H n k : Nat} {zs : List Int} {wr : World} (h : TInv H n k zs wr) (hk : k < n) :
    TInv H n (k + 1) zs (((wr.alloc (.cells (timer (zs[k]?.getD 0) k) 37)).setCell ⟨H, k, none⟩ (.pointer (some ⟨wr.heap.size, 0, none⟩))).setCell ⟨H + 1, k, none⟩ (.pointer (some ⟨wr.heap.size, 0, none⟩))) := by
  have hs := h.size
  have sl : ∀ j, j < n → (if j = k then Value.pointer (some ⟨wr.heap.size, 0, none⟩) else slot H k j) = slot H (k + 1) j := by
    intro j _
    unfold slot
    by_cases e : j = k
    · subst e; rw [if_pos rfl, if_pos (by omega), hs]
    · rw [if_neg e]
      by_cases e2 : j < k
      · rw [if_pos e2, if_pos (by omega)]
      · rw [if_neg e2, if_neg (by omega)]
  have hk' := hk
  refine ⟨by simp [World.setCell, hs]; omega, ?_, ?_, ?_⟩
  · exact (((h.hrow.alloc _).set k _).setOther (by simp) _).congr sl
  · exact (((h.prow.alloc _).setOther (by simp) _).set k _).congr sl
  · intro i hi
    rw [Below.heap_setCell _ _ _ _ (by simp; omega), Below.heap_setCell _ _ _ _ (by simp; omega)]
    by_cases e : i = k
    · subst e
      rw [← hs]
      exact heap_alloc_new wr _
    · rw [Below.heap_alloc _ _ _ (by omega)]
      exact h.tim i (by omega)

set_option maxHeartbeats 1000000 in
theorem build_any (b off len cap : Nat) (zs : List Int) (w : World) (h0 : len ≤ 1024)
    (hb : b < w.heap.size) (hc : ∀ t : Nat, t < len → w.cell? ⟨b, off + t, none⟩ = some (.int .i64 (zs[t]?.getD 0))) :
    Calls Yba.prog 7 #[.slice (some ⟨b, off, none⟩) len cap] w fun e w' => e = .returned (.tuple #[.slice (some ⟨w.heap.size, 0, none⟩) len len, .slice (some ⟨w.heap.size + 1, 0, none⟩) len len]) ∧ TInv w.heap.size len len zs w' ∧ Below w.heap.size w w' := by
  have m1 := make24 len (by omega)
  have m2 := make23 len (by omega)
  go_enter Yba.func7, Yba.ntmps7
  go_wp2
  clear m1 m2
  go_loopw [7] (fun i wr => ∃ k : Nat, k ≤ len ∧ i = .int .i64 k ∧ TInv w.heap.size len k zs wr ∧ Below w.heap.size w wr) (fun i _ => len - (intOf i).toNat)
  case atStart => exact ⟨0, Nat.zero_le _, rfl, TInv.start w len zs, ((Below.refl _ _).alloc (Nat.le_refl _) _).alloc (by simp) _⟩
  case round =>
    obtain ⟨k, hk, rfl, hinv, hnx⟩ := hrel
    by_cases hlt : k < len
    · have hck : wr.cell? ⟨b, off + k, none⟩ = some (.int .i64 (zs[k]?.getD 0)) := (hnx.cell (by exact hb)).trans (hc k hlt)
      have hsz : w.heap.size + 1 < wr.heap.size := by have := hinv.size; omega
      have c1 : ∀ o, (wr.alloc o).cell? ⟨w.heap.size, k, none⟩ = some (slot w.heap.size k k) := fun o => (hinv.hrow.alloc o).cell hlt
      have f1 : ∀ o, (wr.alloc o).frozen? ⟨w.heap.size, k, none⟩ = false := fun o => (hinv.hrow.alloc o).frozen k
      have c2 : ∀ o, (wr.alloc o).cell? ⟨w.heap.size + 1, k, none⟩ = some (slot w.heap.size k k) := fun o => (hinv.prow.alloc o).cell hlt
      have f2 : ∀ o, (wr.alloc o).frozen? ⟨w.heap.size + 1, k, none⟩ = false := fun o => (hinv.prow.alloc o).frozen k
      have hs := hinv.step hlt
      have hbel : Below w.heap.size w (((wr.alloc (.cells (timer (zs[k]?.getD 0) k) 37)).setCell ⟨w.heap.size, k, none⟩ (.pointer (some ⟨wr.heap.size, 0, none⟩))).setCell ⟨w.heap.size + 1, k, none⟩ (.pointer (some ⟨wr.heap.size, 0, none⟩))) :=
        ((hnx.alloc (by omega) _).setCell (by simp) _).setCell (by simp) _
      clear hinv hnx
      go_wp2
      go_roundw
      case rel => exact ⟨k + 1, by omega, by go_num, hs, hbel⟩
      case measure => simp [intOf]; omega
    · obtain rfl : k = len := by omega
      go_wp2
      go_ret2
      exact ⟨rfl, hinv, hnx⟩
set_option maxHeartbeats 1000000 in
theorem build_none (a0 : Option Addr) (len cap : Nat) (zs : List Int) (w : World) (h0 : len ≤ 1024) (hl0 : Hid (len = 0)) :
    Calls Yba.prog 7 #[.slice a0 len cap] w fun e w' => e = .returned (.tuple #[.slice (some ⟨w.heap.size, 0, none⟩) len len, .slice (some ⟨w.heap.size + 1, 0, none⟩) len len]) ∧ TInv w.heap.size len len zs w' ∧ Below w.heap.size w w' := by
  have m1 := make24 len (by omega)
  have m2 := make23 len (by omega)
  go_enter Yba.func7, Yba.ntmps7
  go_wp2
  clear m1 m2
  go_loopw [7] (fun i wr => ∃ k : Nat, k ≤ len ∧ i = .int .i64 k ∧ TInv w.heap.size len k zs wr ∧ Below w.heap.size w wr) (fun i _ => len - (intOf i).toNat)
  case atStart => exact ⟨0, Nat.zero_le _, rfl, TInv.start w len zs, ((Below.refl _ _).alloc (Nat.le_refl _) _).alloc (by simp) _⟩
  case round =>
    obtain ⟨k, hk, rfl, hinv, hnx⟩ := hrel
    by_cases hlt : k < len
    · exact absurd hlt (by have := hl0.out; omega)
    · obtain rfl : k = len := by omega
      go_wp2
      go_ret2
      exact ⟨rfl, hinv, hnx⟩

/-- A slice of numbers that came in: it has no elements; or its elements lie at a plain address. -/
def RowOK (w : World) (a0 : Option Addr) (len : Nat) (zs : List Int) : Prop :=
  len = 0 ∨ ∃ b off, a0 = some ⟨b, off, none⟩ ∧ b < w.heap.size ∧ ∀ t : Nat, t < len → w.cell? ⟨b, off + t, none⟩ = some (.int .i64 (zs[t]?.getD 0))

theorem build (a0 : Option Addr) (len cap : Nat) (zs : List Int) (w : World) (h0 : len ≤ 1024) (hrow : RowOK w a0 len zs) :
    Calls Yba.prog 7 #[.slice a0 len cap] w fun e w' => e = .returned (.tuple #[.slice (some ⟨w.heap.size, 0, none⟩) len len, .slice (some ⟨w.heap.size + 1, 0, none⟩) len len]) ∧ TInv w.heap.size len len zs w' ∧ Below w.heap.size w w' := by
  rcases hrow with h | ⟨b, off, rfl, hb, hc⟩
  · exact build_none a0 len cap zs w h0 h
  · exact build_any b off len cap zs w h0 hb hc

set_option maxHeartbeats 400000 in
set_option maxRecDepth 100000 in
theorem pop_any (B H m cap : Nat) (p : Option Addr) (w : World) (hm : m ≤ 1024) (hcap : m + 1 ≤ cap) (hne : H ≠ B) (hc : w.cell? ⟨B, 0, none⟩ = some (.slice (some ⟨H, 0, none⟩) (m + 1) cap)) (hf : w.frozen? ⟨B, 0, none⟩ = false)
    (hl : w.cell? ⟨H, m, none⟩ = some (.pointer p)) (hlf : w.frozen? ⟨H, m, none⟩ = false) :
    Calls Yba.prog 8 #[.pointer (some ⟨B, 0, none⟩)] w fun e w' => e = .returned (.iface 28 (.pointer p)) ∧ w' = (w.setCell ⟨H, m, none⟩ (.pointer none)).setCell ⟨B, 0, none⟩ (.slice (some ⟨H, 0, none⟩) m cap) := by
  go_enter Yba.func8, Yba.ntmps8
  go_wp2
  go_ret
  exact ⟨rfl, rfl⟩
end Go.Proofs.Ybulkhq.Timers
