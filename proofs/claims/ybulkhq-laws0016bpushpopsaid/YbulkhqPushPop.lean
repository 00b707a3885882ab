/-
  The walk of LawS0016BPushPop.
-/
import Derived.Test.YbulkhqPush
namespace Go.Proofs.Ybulkhq.Timers
open Go.RowKit

theorem TInv.ready {H n : Nat} {zs : List Int} {w1 : World} (h : TInv H n n zs w1) (z : Int) :
    Ready H w1.heap.size (w1.heap.size + 1) n z ((w1.alloc (.cells #[.slice (some ⟨H, 0, none⟩) n n] 24)).alloc (.cells (fresh z) 37)) := by
  have hs := h.size
  refine ⟨?_, ?_, (h.hrow.alloc _).alloc _, (h.prow.alloc _).alloc _, by omega, by omega⟩
  · rw [Below.heap_alloc _ _ _ (by simp)]
    exact heap_alloc_new w1 _
  · have e := heap_alloc_new (w1.alloc (.cells #[.slice (some ⟨H, 0, none⟩) n n] 24)) (.cells (fresh z) 37)
    rw [World.size_alloc] at e
    exact e

/-- What the law reads behind Push and Pop. -/
structure Back (H B T n : Nat) (z : Int) (g cp : Nat) (w : World) : Prop where
  hv : w.cell? ⟨B, 0, none⟩ = some (.slice (some ⟨g, 0, none⟩) n cp)
  gr : ∀ j, j < n → w.cell? ⟨g, j, none⟩ = some (.pointer (some ⟨H + 2 + j, 0, none⟩))
  pr : ∀ j, j < n → w.cell? ⟨H + 1, j, none⟩ = some (.pointer (some ⟨H + 2 + j, 0, none⟩))
  tw : w.cell? ⟨T, 0, none⟩ = some (.int .i64 z)
  ti : w.cell? ⟨T, 6, none⟩ = some (.int .i64 n)

theorem Pushed.back {H B T n : Nat} {z : Int} {g cp : Nat} {w : World} (h : Pushed H B T n z g cp w) (h1 : H + 1 < B) (h2 : B < T) :
    Back H B T n z g cp ((w.setCell ⟨g, n, none⟩ (.pointer none)).setCell ⟨B, 0, none⟩ (.slice (some ⟨g, 0, none⟩) n cp)) := by
  obtain ⟨n1, n2, n3⟩ := h.ne
  refine ⟨?_, fun j hj => ?_, fun j hj => ?_, ?_, ?_⟩
  · have hb : (w.setCell ⟨g, n, none⟩ (.pointer none)).cell? ⟨B, 0, none⟩ = some (.slice (some ⟨g, 0, none⟩) (n + 1) cp) := by rw [cell_set_other (fun e => n1 e.symm), h.hv]
    exact World.cell?_setCell_same _ _ _ hb
  · rw [cell_set_other n1, World.cell?_setCell_other]
    · exact h.gr j hj
    · intro e; injection e with _ e; omega
  · rw [cell_set_other (by omega), cell_set_other (fun e => n3 e.symm)]; exact h.pr j hj
  · rw [cell_set_other (by omega), cell_set_other (fun e => n2 e.symm)]; exact h.tw
  · rw [cell_set_other (by omega), cell_set_other (fun e => n2 e.symm)]; exact h.ti

theorem Back.drewN {H B T n : Nat} {z : Int} {g cp : Nat} {w : World} (h : Back H B T n z g cp w) (q : Nat) : Back H B T n z g cp (w.drewN q) := by
  obtain ⟨a, b, c, d, e⟩ := h
  exact ⟨by simpa using a, fun j hj => by simpa using b j hj, fun j hj => by simpa using c j hj, by simpa using d, by simpa using e⟩

theorem pp_long (a0 : Option Addr) (len cap : Nat) (z : Int) (w : World) (h : 1024 < len) :
    Calls Yba.prog 4 #[.slice a0 len cap, .int .i64 z] w fun e w' => e = .returned (.bool true) ∧ w' = w := by
  have h' : (1024 : Int) < (len : Int) := by omega
  go_enter Yba.func4, Yba.ntmps4
  go_wp2
  go_ret
  exact ⟨rfl, rfl⟩

set_option maxHeartbeats 2000000 in
set_option maxRecDepth 100000 in
theorem pp_main (a0 : Option Addr) (n cap : Nat) (zs : List Int) (z : Int) (w : World) (hn : n ≤ 1024) (hrow : RowOK w a0 n zs) :
    Calls Yba.prog 4 #[.slice a0 n cap, .int .i64 z] w fun e w' => e = .returned (.bool true) ∧ Below w.heap.size w w' := by
  have C := hide (build a0 n cap zs w hn hrow)
  clear hrow
  have d1 : decide ((1024 : Int) < (n : Int)) = false := decide_eq_false (by omega)
  go_enter Yba.func4, Yba.ntmps4
  go_wp2_with fail
  refine C.out.mono ?_
  rintro e w1 ⟨rfl, hinv, hbel⟩
  clear C
  have hs : w.heap.size + 2 ≤ w1.heap.size := by have := hinv.size; omega
  have LL := hide (push_any w.heap.size w1.heap.size (w1.heap.size + 1) n z w _ hn (hinv.ready z) ((hbel.alloc (by omega) _).alloc (by simp; omega) _))
  clear hinv hbel
  go_wp2_with fail
  refine LL.out.mono ?_
  rintro e w3 ⟨rfl, g, cp, hp, hbel⟩
  clear LL
  have PL := hide (show Calls Yba.prog 8 #[.pointer (some ⟨w1.heap.size, 0, none⟩)] w3 fun e w5 => e = .returned (.iface 28 (.pointer (some ⟨w1.heap.size + 1, 0, none⟩))) ∧ Back w.heap.size w1.heap.size (w1.heap.size + 1) n z g cp w5 ∧ Below w.heap.size w w5 from
    (pop_any w1.heap.size g n cp (some ⟨w1.heap.size + 1, 0, none⟩) w3 hn hp.hcap hp.ne.1 hp.hv hp.hf hp.gn hp.gf).mono
      fun e w5 ⟨he, hw⟩ => ⟨he, by rw [hw]; exact hp.back (by omega) (by omega), by rw [hw]; exact (hbel.setCell (hp.low) _).setCell (by simp; omega) _⟩)
  clear hp hbel
  go_wp2_with fail
  refine PL.out.mono ?_
  rintro e w5 ⟨rfl, hp, hbel⟩
  clear PL
  have pe := neq28
  have ta := assert28
  have tw := hp.tw
  have ti := hp.ti
  have hv := hp.hv
  go_wp2
  clear tw ti hv
  go_loopw [12] (fun i wr => ∃ k : Nat, k ≤ n ∧ i = .int .i64 k ∧ Back w.heap.size w1.heap.size (w1.heap.size + 1) n z g cp wr ∧ Below w.heap.size w wr) (fun i _ => n - (intOf i).toNat)
  case atStart => exact ⟨0, Nat.zero_le _, rfl, hp, hbel⟩
  case round =>
    clear hp hbel
    obtain ⟨k, hk, rfl, hp, hbel⟩ := hrel
    by_cases hlt : k < n
    · have hv := hp.hv
      have hr := hp.gr k hlt
      have pr := hp.pr k (by omega)
      have i1 : (k : Int) < (n : Int) := by omega
      go_wp2
      go_quiet (fail)
      go_wp2
      go_roundw
      case rel => exact ⟨k + 1, by omega, by go_num, hp.drewN _, below_drewN hbel _⟩
      case measure => simp [intOf]; omega
    · obtain rfl : k = n := by omega
      go_wp2
      go_ret
      exact ⟨rfl, hbel⟩
end Go.Proofs.Ybulkhq.Timers
