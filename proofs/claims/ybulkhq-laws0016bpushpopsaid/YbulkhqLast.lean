/-
  The walk of LawS0016BLast.
-/
import Derived.Test.YbulkhqTimers
import Derived.LaidEqlPtr
import Derived.Deep.QuietTactic
import Derived.BigQuiet
namespace Go.Proofs.Ybulkhq.Timers
open Go.RowKit

theorem info37 : (Yba.prog.info? 37).map (fun i => (i.zero, i.size, i.bytes)) = some (some (.agg #[.int .i64 0, .int .i64 0, .nilIface, .int .u64 0, .pointer none, .bool false, .int .i64 0]), 7, 64) := by kernel_rfl
theorem neq28 (a : Addr) (W : World) : (binOp .neq 28 (.pointer (some a)) (.pointer (some a))).run Yba.prog W = .ok (.bool false) W := by
  obtain ⟨i, hi, _⟩ := info_parts info37
  have h : ∀ d : Nat, (Op.equalIn (d + 1) 28 (.pointer (some a)) (.pointer (some a))).run Yba.prog W = .ok true W := fun d => by
    simp [Op.equalIn, run_underlying Yba.underlying28, sizeOf, typeInfo, hi, run_sameAddr_same]
  simp only [binOp]
  simp [Op.equal, Op.maxDepth, h 9999]

theorem assert28 (p : Option Addr) (w : World) : (Instr.typeAssert (.iface 28 (.pointer p)) 20 28 true).run Yba.prog w = .ok (.tuple #[.pointer p, .bool true]) w := by kernel_rfl
theorem assert28' (p : Option Addr) (w : World) : (Instr.typeAssert (.iface 28 (.pointer p)) 20 28 false).run Yba.prog w = .ok (.pointer p) w := by kernel_rfl

/-- What the law reads behind Pop: the heap's variable lies at block B, its array at H, the pointers at H + 1, timer i at H + 2 + i. -/
structure Popped (H B m : Nat) (zs : List Int) (w : World) : Prop where
  hv : w.cell? ⟨B, 0, none⟩ = some (.slice (some ⟨H, 0, none⟩) m (m + 1))
  hr : ∀ j, j < m → w.cell? ⟨H, j, none⟩ = some (.pointer (some ⟨H + 2 + j, 0, none⟩))
  hl : w.cell? ⟨H, m, none⟩ = some (.pointer none)
  pr : ∀ j, j ≤ m → w.cell? ⟨H + 1, j, none⟩ = some (.pointer (some ⟨H + 2 + j, 0, none⟩))
  tw : w.cell? ⟨H + 2 + m, 0, none⟩ = some (.int .i64 (zs[m]?.getD 0))
  ti : w.cell? ⟨H + 2 + m, 6, none⟩ = some (.int .i64 m)

theorem cell_set_other {w : World} {b o c p : Nat} {v : Value} (h : c ≠ b) : (w.setCell ⟨b, o, none⟩ v).cell? ⟨c, p, none⟩ = w.cell? ⟨c, p, none⟩ :=
  World.cell?_of_block (w := w) (Below.heap_setCell _ _ _ _ h)

theorem TInv.popped {H m : Nat} {zs : List Int} {w1 : World} (h : TInv H (m + 1) (m + 1) zs w1) :
    Popped H w1.heap.size m zs (((w1.alloc (.cells #[.slice (some ⟨H, 0, none⟩) (m + 1) (m + 1)] 24)).setCell ⟨H, m, none⟩ (.pointer none)).setCell ⟨w1.heap.size, 0, none⟩ (.slice (some ⟨H, 0, none⟩) m (m + 1))) := by
  have hs := h.size
  have hr := (h.hrow.alloc (.cells #[.slice (some ⟨H, 0, none⟩) (m + 1) (m + 1)] 24)).set m (.pointer none)
  have pr := (h.prow.alloc (.cells #[.slice (some ⟨H, 0, none⟩) (m + 1) (m + 1)] 24)).setOther (a := ⟨H, m, none⟩) (by simp) (.pointer none)
  have tm : ∀ x, (((w1.alloc (.cells #[.slice (some ⟨H, 0, none⟩) (m + 1) (m + 1)] 24)).setCell ⟨H, m, none⟩ (.pointer none)).setCell ⟨w1.heap.size, 0, none⟩ (.slice (some ⟨H, 0, none⟩) m (m + 1))).cell? ⟨H + 2 + m, x, none⟩ = (timer (zs[m]?.getD 0) m)[x]? := by
    intro x
    rw [cell_set_other (by omega), cell_set_other (by omega), World.cell?_alloc_lt _ _ _ (by simp; omega)]
    simp [World.cell?, h.tim m (by omega)]
  refine ⟨?_, fun j hj => ?_, ?_, fun j hj => ?_, ?_, ?_⟩
  · have hb : ((w1.alloc (.cells #[.slice (some ⟨H, 0, none⟩) (m + 1) (m + 1)] 24)).setCell ⟨H, m, none⟩ (.pointer none)).heap[w1.heap.size]? = some (.cells #[.slice (some ⟨H, 0, none⟩) (m + 1) (m + 1)] 24 (0, 0)) := by
      rw [Below.heap_setCell _ _ _ _ (by simp; omega)]
      exact heap_alloc_new w1 _
    exact cell_of_one (one_setCell hb)
  · rw [cell_set_other (by omega), hr.cell (by omega), if_neg (by omega), slot, if_pos (by omega)]
  · rw [cell_set_other (by omega), hr.cell (by omega), if_pos rfl]
  · rw [cell_set_other (by omega), pr.cell (by omega), slot, if_pos (by omega)]
  · rw [tm]; simp [timer]
  · rw [tm]; simp [timer]

theorem Popped.drewN {H B m : Nat} {zs : List Int} {w : World} (h : Popped H B m zs w) (q : Nat) : Popped H B m zs (w.drewN q) := by
  obtain ⟨a, b, c, d, e, f⟩ := h
  exact ⟨by simpa using a, fun j hj => by simpa using b j hj, by simpa using c, fun j hj => by simpa using d j hj, by simpa using e, by simpa using f⟩
theorem below_drewN {H : Nat} {w w1 : World} (h : Below H w w1) (q : Nat) : Below H w (w1.drewN q) := by
  induction q generalizing w1 with
  | zero => exact h
  | succ q ih => exact (ih h).drew

theorem last_short (a0 : Option Addr) (cap : Nat) (w : World) :
    Calls Yba.prog 3 #[.slice a0 0 cap] w fun e w' => e = .returned (.bool true) ∧ w' = w := by
  go_enter Yba.func3, Yba.ntmps3
  go_wp2
  go_ret
  exact ⟨rfl, rfl⟩
theorem last_long (a0 : Option Addr) (len cap : Nat) (w : World) (h : 1024 < len) :
    Calls Yba.prog 3 #[.slice a0 len cap] w fun e w' => e = .returned (.bool true) ∧ w' = w := by
  have h' : (1024 : Int) < (len : Int) := by omega
  have h2 : ((len : Int) == 0) = false := by simp; omega
  go_enter Yba.func3, Yba.ntmps3
  go_wp2
  go_ret
  exact ⟨rfl, rfl⟩

set_option maxHeartbeats 2000000 in
set_option maxRecDepth 100000 in
theorem last_main (b off m cap : Nat) (zs : List Int) (w : World) (hm : m < 1024) (hb : b < w.heap.size) (hc : ∀ t : Nat, t < m + 1 → w.cell? ⟨b, off + t, none⟩ = some (.int .i64 (zs[t]?.getD 0))) :
    Calls Yba.prog 3 #[.slice (some ⟨b, off, none⟩) (m + 1) cap] w fun e w' => e = .returned (.bool true) ∧ Below w.heap.size w w' := by
  have C := hide (build (some ⟨b, off, none⟩) (m + 1) cap zs w (by omega) (.inr ⟨b, off, rfl, hb, hc⟩))
  have hcm := hc m (by omega)
  clear hc
  have d0 : (((m : Int) + 1) == 0) = false := by simp; omega
  have d1 : decide ((1024 : Int) < (m : Int) + 1) = false := decide_eq_false (by omega)
  go_enter Yba.func3, Yba.ntmps3
  go_wp2_with fail
  refine C.out.mono ?_
  rintro e w1 ⟨rfl, hinv, hbel⟩
  clear C
  have hs := hinv.size
  have LL := hide (show Calls Yba.prog 8 #[.pointer (some ⟨w1.heap.size, 0, none⟩)] (w1.alloc (.cells #[.slice (some ⟨w.heap.size, 0, none⟩) (m + 1) (m + 1)] 24)) fun e w2 => e = .returned (.iface 28 (.pointer (some ⟨w.heap.size + 2 + m, 0, none⟩))) ∧ Popped w.heap.size w1.heap.size m zs w2 ∧ Below w.heap.size w w2 from
    (pop_any w1.heap.size w.heap.size m (m + 1) (some ⟨w.heap.size + 2 + m, 0, none⟩) _ (by omega) (Nat.le_refl _) (by omega) (cell_of_one (heap_alloc_new w1 _)) (free_of_one (heap_alloc_new w1 _)) ((hinv.hrow.alloc _).cell (by omega) |>.trans (by rw [slot, if_pos (by omega)])) ((hinv.hrow.alloc _).frozen m)).mono
      fun e w2 ⟨he, hw⟩ => ⟨he, by rw [hw]; exact hinv.popped, by rw [hw]; exact ((hbel.alloc (by omega) _).setCell (by simp) _).setCell (by simp; omega) _⟩)
  clear hinv hbel hs
  go_wp2_with fail
  refine LL.out.mono ?_
  rintro e w2 ⟨rfl, hp, hbel⟩
  clear LL
  have pe := neq28
  have ta := assert28
  have c2 := (hbel.cell (p := ⟨b, off + m, none⟩) hb).trans hcm
  have pm := hp.pr m (Nat.le_refl _)
  have tw := hp.tw
  have ti := hp.ti
  have hv := hp.hv
  go_wp2
  have wn : IntKind.i64.wrap (m : Int) = m := by rw [IntKind.wrap_i64]; omega
  have hlt0 : (m : Int) < (m : Int) + 1 := by omega
  go_quiet (fail)
  go_wp2
  clear c2 pm tw ti hv
  go_loopw [10] (fun i wr => ∃ k : Nat, k ≤ m ∧ i = .int .i64 k ∧ Popped w.heap.size w1.heap.size m zs wr ∧ Below w.heap.size w wr) (fun i _ => m - (intOf i).toNat)
  case atStart => exact ⟨0, Nat.zero_le _, rfl, hp.drewN _, below_drewN hbel _⟩
  case round =>
    clear hp hbel
    obtain ⟨k, hk, rfl, hp, hbel⟩ := hrel
    by_cases hlt : k < m
    · have hv := hp.hv
      have hr := hp.hr k hlt
      have pr := hp.pr k (by omega)
      have i1 : (k : Int) < (m : Int) := by omega
      have i2 : (k : Int) < (m : Int) + 1 := by omega
      go_wp2
      go_quiet (fail)
      go_wp2
      go_roundw
      case rel => exact ⟨k + 1, by omega, by go_num, hp.drewN _, below_drewN hbel _⟩
      case measure => simp [intOf]; omega
    · obtain rfl : k = m := by omega
      have hl := hp.hl
      go_wp2
      go_ret
      exact ⟨by simp, hbel⟩
end Go.Proofs.Ybulkhq.Timers
