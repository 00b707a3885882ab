/-
  (*Machine).newG by a contract.
-/
import Derived.Test.YbulkhqVals
import Derived.Laws.CopyOwn
import Derived.Laws.EntriesVeiled
namespace Go.Proofs.Ybulkhq.Vals
open Go.RowKit

/-- 'copy(dst, src)' of registers (two cells each) onto the head of a row that is known whole. -/
theorem run_copy2 (w : World) (ty : TypeId) (g dLen dCap : Nat) (a : Addr) (sLen sCap : Nat) (cur : Array Value) (t : TypeId) (cs : List Value)
    (hg : w.heap[g]? = some (.cells cur t (0, 0))) (hn : cs.length = Nat.min sLen dLen * 2)
    (hsrc : ∀ j v, cs[j]? = some v → w.cell? (a.add j) = some v) (hfit : cs.length ≤ cur.size) (h1 : ∀ v ∈ cs, v.oneCell' = true) :
    (Builtin.copy_ #[43, 43] ty #[.slice (some ⟨g, 0, none⟩) dLen dCap, .slice (some a) sLen sCap]).run Yba.prog w =
      .ok (goInt (Nat.min sLen dLen)) (w.setRow g (cs ++ cur.toList.drop cs.length).toArray) := by
  obtain ⟨i, hi, _, hz1, _⟩ := info_parts info79
  have hl := run_loadCells_list (P := Yba.prog) w a cs hsrc
  have hst := run_storeCells_at Yba.prog g 0 t cs 0 cur w hg (by simpa using hfit) h1
  simp only [Nat.zero_add, List.take_zero, List.nil_append] at hst
  simp [Builtin.copy_, run_underlying Yba.underlying43, Builtin.lenOf, Builtin.firstCells, sizeOf, typeInfo, hi, hz1, ← hn, hl, hst]

theorem run_copy_nil2 (w : World) (ty : TypeId) (a : Addr) (dLen dCap : Nat) :
    (Builtin.copy_ #[43, 43] ty #[.slice (some a) dLen dCap, .slice none 0 0]).run Yba.prog w = .ok (goInt 0) w :=
  run_copy_nil Yba.prog w 43 43 ty 79 a dLen dCap Yba.underlying43 (by obtain ⟨i, hi, _⟩ := info_parts info79; simp [hi])

def frameA (F : Nat) : Array Value := #[.pointer (some ⟨F, 0, none⟩), .int .i64 0, .int .i64 0, .bool false]
def gA (M : Addr) (R nr : Nat) : Array Value := #[.pointer none, .pointer (some M), .int .i64 0, .int .i64 0, .pointer none, .string ⟨#[]⟩, .string ⟨#[]⟩, .nilIface, .slice (some ⟨R, 0, none⟩) nr nr, .slice (some ⟨R + 1, 0, none⟩) 1 1, .int .i64 0, .slice none 0 0, .pointer none, .int .i32 0, .int .i64 0, .pointer none, .bool false, .bool false, .nilFunc, .slice none 0 0, .pointer none]

theorem vc_one (N : Nat → Int) (S : Nat → ByteArray) (j : Nat) : (vc N S j).oneCell' = true := by
  unfold vc rv
  split
  · rfl
  · split <;> rfl

/-- What the copy into the new registers leaves. -/
theorem copied (w : World) (R nr len V : Nat) (vo : Option Addr) (N : Nat → Int) (S : Nat → ByteArray) (hR : w.rowIs R 79 (nr * 2) zc) (hV : VsOK w V len vo N S) :
    ∃ r w4, Sem.run Yba.prog (Builtin.copy_ #[43, 43] 3 #[.slice (some ⟨R, 0, none⟩) nr nr, .slice vo len len]) w = .ok r w4 ∧ w4.rowIs R 79 (nr * 2) (part N S len) ∧ w.grownBy w4 (some R) := by
  rcases hV with ⟨rfl, rfl⟩ | ⟨rfl, hrow⟩
  · exact ⟨_, w, run_copy_nil2 w 3 ⟨R, 0, none⟩ nr nr, hR.congr (fun j _ => by simp [part]), ⟨rfl, rfl, rfl, Nat.le_refl _, fun _ _ _ => rfl⟩⟩
  · obtain ⟨cur, hg, hs, hc⟩ := hR
    have hcl : ((List.range (Nat.min len nr * 2)).map (vc N S)).length = Nat.min len nr * 2 := by simp
    have hmin : Nat.min len nr ≤ len ∧ Nat.min len nr ≤ nr := ⟨Nat.min_le_left _ _, Nat.min_le_right _ _⟩
    have hrun := run_copy2 w 3 R nr nr ⟨V, 0, none⟩ len len cur 79 ((List.range (Nat.min len nr * 2)).map (vc N S)) hg hcl (by
      intro j v hj
      have hjl : j < Nat.min len nr * 2 := by
        have := (List.getElem?_eq_some_iff.1 hj).1
        omega
      rw [Addr.add_lit, Nat.zero_add, hrow.cell (by omega)]
      simpa [hjl] using hj) (by omega) (by
      intro v hv
      obtain ⟨j, _, rfl⟩ := List.mem_map.1 hv
      exact vc_one N S j)
    refine ⟨_, _, hrun, ⟨_, setRow_heap w R cur _ 79 _ hg, ?_, ?_⟩, ⟨rfl, rfl, rfl, by simp [World.setRow], fun q _ hq => setRow_other w R q _ (fun e => hq (by rw [e]))⟩⟩
    · simp [hs]
      omega
    · intro j hj
      rw [List.getElem?_toArray]
      by_cases h : j < Nat.min len nr * 2
      · rw [List.getElem?_append_left (by omega)]
        unfold part
        rw [if_pos (by omega)]
        simp [h]
      · rw [List.getElem?_append_right (by omega), hcl, List.getElem?_drop, show Nat.min len nr * 2 + (j - Nat.min len nr * 2) = j by omega, Array.getElem?_toList, hc j hj]
        unfold part
        have h2 : ¬ j < len * 2 := by
          intro h3
          have : Nat.min len nr = len ∨ Nat.min len nr = nr := by
            rcases Nat.le_total len nr with h4 | h4
            · exact .inl (Nat.min_eq_left h4)
            · exact .inr (Nat.min_eq_right h4)
          omega
        rw [if_neg h2]

/-- A goroutine as newG makes it: at block R + 2, its registers at R, its frames at R + 1. -/
structure GOK (R nr len : Nat) (M : Addr) (F : Nat) (N : Nat → Int) (S : Nat → ByteArray) (w : World) : Prop where
  regs : w.rowIs R 79 (nr * 2) (part N S len)
  frames : w.heap[R + 1]? = some (.cells (frameA F) 81 (0, 0))
  g : w.heap[R + 2]? = some (.cells (gA M R nr) 77 (0, 0))

def wG (w : World) (M : Addr) (F nr : Nat) : World := ((w.alloc (.cells (mk2 nr) 79)).alloc (.cells (frameA F) 81)).alloc (.cells (gA M w.heap.size nr) 77)
theorem wG_frames (w : World) (M : Addr) (F nr : Nat) : (wG w M F nr).heap[w.heap.size + 1]? = some (.cells (frameA F) 81 (0, 0)) := by
  show (((w.heap.push _).push _).push _)[w.heap.size + 1]? = _
  simp only [Array.getElem?_push, Array.size_push]
  rw [if_neg (by omega), if_pos trivial]
theorem wG_g (w : World) (M : Addr) (F nr : Nat) : (wG w M F nr).heap[w.heap.size + 2]? = some (.cells (gA M w.heap.size nr) 77 (0, 0)) := by
  show (((w.heap.push _).push _).push _)[w.heap.size + 2]? = _
  simp only [Array.getElem?_push, Array.size_push]
  rw [if_pos trivial]
theorem wG_size (w : World) (M : Addr) (F nr : Nat) : (wG w M F nr).heap.size = w.heap.size + 3 := by simp [wG]

theorem GOK.made {w w4 : World} {M : Addr} {F nr len : Nat} {N : Nat → Int} {S : Nat → ByteArray} (h : w4.rowIs w.heap.size 79 (nr * 2) (part N S len)) (hg : (wG w M F nr).grownBy w4 (some w.heap.size)) : GOK w.heap.size nr len M F N S w4 := by
  refine ⟨h, ?_, ?_⟩
  · rw [hg.block _ (by rw [wG_size]; omega) (by simp)]; exact wG_frames _ _ _ _
  · rw [hg.block _ (by rw [wG_size]; omega) (by simp)]; exact wG_g _ _ _ _

theorem VsOK.wG {w : World} {V len : Nat} {vo : Option Addr} {N : Nat → Int} {S : Nat → ByteArray} (h : VsOK w V len vo N S) (M : Addr) (F nr : Nat) : VsOK (wG w M F nr) V len vo N S := by
  rcases h with h | ⟨h1, h2⟩
  · exact .inl h
  · exact .inr ⟨h1, ((h2.alloc _).alloc _).alloc _⟩

set_option maxHeartbeats 1000000 in
set_option maxRecDepth 100000 in
theorem newG_any (M : Addr) (F nr len V : Nat) (vo : Option Addr) (N : Nat → Int) (S : Nat → ByteArray) (w : World) (hnr : nr ≤ 300) (hF : w.cell? ⟨F, 4, none⟩ = some (.int .i64 nr)) (hV : VsOK w V len vo N S) :
    Calls Yba.prog 11 #[.pointer (some M), .pointer (some ⟨F, 0, none⟩), .slice vo len len] w fun e w' => e = .returned (.pointer (some ⟨w.heap.size + 2, 0, none⟩)) ∧ GOK w.heap.size nr len M F N S w' ∧ w.grownBy w' none := by
  have hmk := fun W => make43 nr (nr : Int) rfl (by omega) W
  obtain ⟨r, w4, hcp, hrow, hgrow⟩ := copied (wG w M F nr) w.heap.size nr len V vo N S (((made_row w nr).alloc _).alloc _) (hV.wG M F nr)
  have hok := GOK.made hrow hgrow
  have hgr : w.grownBy w4 none := ⟨hgrow.os, hgrow.tape, hgrow.output, by have := hgrow.size; rw [wG_size] at this; omega, fun q hq _ => by
    rw [hgrow.block q (by rw [wG_size]; omega) (by simp; omega)]
    show (((w.heap.push _).push _).push _)[q]? = _
    simp only [Array.getElem?_push, Array.size_push]
    rw [if_neg (by omega), if_neg (by omega), if_neg (by omega)]⟩
  have hcp' : Sem.run Yba.prog (Builtin.copy_ #[43, 43] 3 #[.slice (some ⟨w.heap.size, 0, none⟩) nr nr, .slice vo len len]) (((w.alloc (.cells (mk2 nr) 79)).alloc (.cells #[.pointer (some ⟨F, 0, none⟩), .int .i64 0, .int .i64 0, .bool false] 81)).alloc
      (.cells #[.pointer none, .pointer (some M), .int .i64 0, .int .i64 0, .pointer none, .string ⟨#[]⟩, .string ⟨#[]⟩, .nilIface, .slice (some ⟨w.heap.size, 0, none⟩) nr nr, .slice (some ⟨w.heap.size + 1, 0, none⟩) 1 1, .int .i64 0, .slice none 0 0, .pointer none, .int .i32 0, .int .i64 0, .pointer none, .bool false, .bool false, .nilFunc, .slice none 0 0, .pointer none] 77)) = .ok r w4 := hcp
  clear hcp hrow hgrow hV
  go_enter Yba.func11, Yba.ntmps11
  go_wp2
  go_ret
  exact ⟨rfl, hok, hgr⟩
end Go.Proofs.Ybulkhq.Vals
