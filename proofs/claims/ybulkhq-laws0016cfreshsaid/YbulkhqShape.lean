/-
  The walk of LawS0016CShape.
-/
import Derived.Test.YbulkhqNewG
import Derived.LaidEqlPtr
import Derived.Deep.QuietTactic
import Derived.BigQuiet
namespace Go.Proofs.Ybulkhq.Vals
open Go.RowKit

def isAgg : Value → Bool
  | .agg _ => true
  | _ => false
theorem zero64_agg : (match Yba.prog.info? 64 with | some i => (match i.zero with | some v => isAgg v | none => false) | none => false) = true := by kernel_rfl
/-- The zero Machine's cells: the walk never looks inside. -/
theorem zero64 : ∃ mz : Array Value, ∀ W : World, Sem.run Yba.prog (zeroValue 64) W = .ok (.agg mz) W := by
  have h := zero64_agg
  cases hi : Yba.prog.info? 64 with
  | none => simp [hi] at h
  | some i =>
    cases hz : i.zero with
    | none => simp [hi, hz] at h
    | some v =>
      simp only [hi, hz] at h
      cases v with
      | agg cs => exact ⟨cs, fun W => by simp [zeroValue, typeInfo, hi, hz]⟩
      | _ => simp [isAgg] at h

set_option maxRecDepth 100000 in
theorem shape_long (name : ByteArray) (r : Int) (a0 : Option Addr) (len cap : Nat) (w : World) (h : 1024 < len) :
    Calls Yba.prog 5 #[.string name, .int .u16 r, .slice a0 len cap] w fun e w' => e = .returned (.bool true) ∧ w' = w := by
  have h' : (1024 : Int) < (len : Int) := by omega
  go_enter Yba.func5, Yba.ntmps5
  go_wp2
  go_ret
  exact ⟨rfl, rfl⟩

theorem info64s : (Yba.prog.info? 64).map (fun i => i.size) = some 530 := by kernel_rfl
theorem info49s : (Yba.prog.info? 49).map (fun i => i.size) = some 7 := by kernel_rfl
theorem neq_same {tp te : TypeId} {n : Nat} (a : Addr) (W : World) (hp : Yba.prog.underlying tp = some (.pointer te)) (hi : (Yba.prog.info? te).map (fun i => i.size) = some n) : (binOp .neq tp (.pointer (some a)) (.pointer (some a))).run Yba.prog W = .ok (.bool false) W := by
  obtain ⟨i, hi, _⟩ := Option.map_eq_some_iff.1 hi
  have h : ∀ d : Nat, (Op.equalIn (d + 1) tp (.pointer (some a)) (.pointer (some a))).run Yba.prog W = .ok true W := fun d => by
    simp [Op.equalIn, run_underlying hp, sizeOf, typeInfo, hi, run_sameAddr_same]
  simp only [binOp]
  simp [Op.equal, Op.maxDepth, h 9999]
theorem neq50 (a : Addr) (W : World) : (binOp .neq 50 (.pointer (some a)) (.pointer (some a))).run Yba.prog W = .ok (.bool false) W := neq_same a W Yba.underlying50 info64s
theorem neq45 (a : Addr) (W : World) : (binOp .neq 45 (.pointer (some a)) (.pointer (some a))).run Yba.prog W = .ok (.bool false) W := neq_same a W Yba.underlying45 info49s

theorem neq43z (W : World) : Sem.run Yba.prog (binOp .neq 43 (.slice none 0 0) (.slice none 0 0)) W = .ok (.bool false) W := by kernel_rfl
theorem neq75z (W : World) : Sem.run Yba.prog (binOp .neq 75 (.slice none 0 0) (.slice none 0 0)) W = .ok (.bool false) W := by kernel_rfl
theorem neq74z (W : World) : Sem.run Yba.prog (binOp .neq 74 .nilFunc .nilFunc) W = .ok (.bool false) W := by kernel_rfl
theorem info9c : (Yba.prog.info? 9).map (fun i => i.comparable) = some true := by kernel_rfl
theorem eq20n (d : Nat) (W : World) : Sem.run Yba.prog (Op.equalIn (d + 1) 20 .nilIface .nilIface) W = .ok true W := by
  simp [Op.equalIn, run_underlying Yba.underlying20]
theorem eq20s (d : Nat) (s : ByteArray) (W : World) : Sem.run Yba.prog (Op.equalIn (d + 2) 20 (.iface 9 (.string s)) (.iface 9 (.string s))) W = .ok true W := by
  obtain ⟨i, hi, hc⟩ := Option.map_eq_some_iff.1 info9c
  rw [Op.equalIn]
  simp only [Sem.run_bind, run_underlying Yba.underlying20, Result.andThen_ok]
  rw [Op.equalIn]
  simp [run_underlying Yba.underlying9, typeInfo, hi, hc]
  rw [beq_toListBytes]
  simp
/-- Two registers of the same content are equal. -/
theorem neq79n (n : Int) (W : World) : Sem.run Yba.prog (binOp .neq 79 (.agg #[.int .u64 n, .nilIface]) (.agg #[.int .u64 n, .nilIface])) W = .ok (.bool false) W := by
  have h := eq20n 9998 W
  go_simp
theorem neq79s (n : Int) (s : ByteArray) (W : World) : Sem.run Yba.prog (binOp .neq 79 (.agg #[.int .u64 n, .iface 9 (.string s)]) (.agg #[.int .u64 n, .iface 9 (.string s)])) W = .ok (.bool false) W := by
  have h := eq20s 9997 s W
  go_simp

/-- What stands while the law reads: the goroutine, the registers that were handed on, and old memory as it was. -/
structure Sh (H V R nr len : Nat) (vo : Option Addr) (M : Addr) (F : Nat) (N : Nat → Int) (S : Nat → ByteArray) (w wr : World) : Prop where
  gok : GOK R nr len M F N S wr
  vs : VsOK wr V len vo N S
  bel : Below H w wr
  low : H ≤ R

section
variable {H V R nr len : Nat} {vo : Option Addr} {M : Addr} {F : Nat} {N : Nat → Int} {S : Nat → ByteArray} {w wr : World}
theorem heap_al {w : World} {q : Nat} {x : Obj} (h : w.heap[q]? = some x) (o : Obj) : (w.alloc o).heap[q]? = some x := by
  rw [Below.heap_alloc _ _ _ (Array.getElem?_eq_some_iff.1 h).1]; exact h
theorem Sh.size (h : Sh H V R nr len vo M F N S w wr) : R + 2 < wr.heap.size := (Array.getElem?_eq_some_iff.1 h.gok.g).1
theorem Sh.alloc (h : Sh H V R nr len vo M F N S w wr) (o : Obj) : Sh H V R nr len vo M F N S w (wr.alloc o) := by
  have := h.size
  have := h.low
  refine ⟨⟨h.gok.regs.alloc o, heap_al h.gok.frames o, heap_al h.gok.g o⟩, ?_, h.bel.alloc (by omega) o, h.low⟩
  rcases h.vs with e | ⟨e1, e2⟩
  · exact .inl e
  · exact .inr ⟨e1, e2.alloc o⟩
theorem Sh.drewN (h : Sh H V R nr len vo M F N S w wr) (q : Nat) : Sh H V R nr len vo M F N S w (wr.drewN q) := by
  refine ⟨⟨h.gok.regs, h.gok.frames, h.gok.g⟩, h.vs, ?_, h.low⟩
  induction q with
  | zero => exact h.bel
  | succ q ih => exact ih.drew
theorem GOK.reg_lt (h : GOK R nr len M F N S wr) {k : Nat} (hk : k < nr) (hl : k < len) : wr.cell? ⟨R, k * 2, none⟩ = some (.int .u64 (N k)) ∧ wr.cell? ⟨R, k * 2 + 1, none⟩ = some (rv (S k)) := by
  refine ⟨(h.regs.cell (by omega)).trans ?_, (h.regs.cell (by omega)).trans ?_⟩
  · rw [part, if_pos (by omega), vc, if_pos (by omega), show k * 2 / 2 = k by omega]
  · rw [part, if_pos (by omega), vc, if_neg (by omega), show (k * 2 + 1) / 2 = k by omega]
theorem GOK.reg_ge (h : GOK R nr len M F N S wr) {k : Nat} (hk : k < nr) (hl : ¬ k < len) : wr.cell? ⟨R, k * 2, none⟩ = some (.int .u64 0) ∧ wr.cell? ⟨R, k * 2 + 1, none⟩ = some .nilIface := by
  refine ⟨(h.regs.cell (by omega)).trans ?_, (h.regs.cell (by omega)).trans ?_⟩
  · rw [part, if_neg (by omega), zc, if_pos (by omega)]
  · rw [part, if_neg (by omega), zc, if_neg (by omega)]
theorem VsOK.cells (h : VsOK wr V len vo N S) {k : Nat} (hl : k < len) : vo = some ⟨V, 0, none⟩ ∧ wr.cell? ⟨V, k * 2, none⟩ = some (.int .u64 (N k)) ∧ wr.cell? ⟨V, k * 2 + 1, none⟩ = some (rv (S k)) := by
  rcases h with ⟨_, e⟩ | ⟨e, hr⟩
  · omega
  · refine ⟨e, (hr.cell (by omega)).trans ?_, (hr.cell (by omega)).trans ?_⟩
    · rw [vc, if_pos (by omega), show k * 2 / 2 = k by omega]
    · rw [vc, if_neg (by omega), show (k * 2 + 1) / 2 = k by omega]
theorem g_cell {j : Nat} (h : wr.heap[R + 2]? = some (.cells (gA M R nr) 77 (0, 0))) : wr.cell? ⟨R + 2, j, none⟩ = (gA M R nr)[j]? := cell_of_row wr (R + 2) j _ 77 (0, 0) h
theorem cell_al {w : World} {a : Addr} {v : Value} (h : w.cell? a = some v) (o : Obj) : (w.alloc o).cell? a = some v := by
  rw [World.cell?_alloc_lt _ _ _ (World.block_lt_of_cell? w a h)]; exact h
end

set_option maxHeartbeats 4000000 in
set_option maxRecDepth 100000 in
theorem shape_main (name : ByteArray) (r : Int) (a0 : Option Addr) (len cap : Nat) (N : Nat → Int) (S : Nat → ByteArray) (w : World) (hlen : len ≤ 1024) (hr0 : 0 ≤ r) (hr1 : r ≤ 65535) (hnil : a0 = none → len = 0 ∧ cap = 0) (hA : ArgsOK w a0 len N S) :
    Calls Yba.prog 5 #[.string name, .int .u16 r, .slice a0 len cap] w fun e w' => e = .returned (.bool true) ∧ Below w.heap.size w w' := by
  obtain ⟨nr, hnr⟩ : ∃ nr : Nat, r % 300 = (nr : Int) := ⟨(r % 300).toNat, by omega⟩
  have hn3 : nr ≤ 300 := by omega
  have C := hide (vals a0 len cap N S w hlen hnil hA)
  have d1 : decide ((1024 : Int) < (len : Int)) = false := decide_eq_false (by omega)
  clear hnil hA
  go_enter Yba.func5, Yba.ntmps5
  go_wp2_with fail
  refine C.out.mono ?_
  rintro e w1 ⟨vo, rfl, hvs, hbel⟩
  clear C
  obtain ⟨mz, z64⟩ := zero64
  have G := hide (newG_any ⟨w1.heap.size + 1, 0, none⟩ w1.heap.size nr len w.heap.size vo N S
    ((w1.alloc (.cells #[.string name, .int .i64 0, .int .i64 0, .int .i64 0, .int .i64 nr, .slice none 0 0, .slice none 0 0] 49)).alloc (.cells mz 64)) hn3 (cell_al (by rw [cell_of_row _ _ _ _ _ _ (heap_alloc_new w1 _)]; rfl) _)
    (by rcases hvs with e | ⟨e1, e2⟩
        · exact .inl e
        · exact .inr ⟨e1, (e2.alloc _).alloc _⟩))
  have hb2 : Below w.heap.size w ((w1.alloc (.cells #[.string name, .int .i64 0, .int .i64 0, .int .i64 0, .int .i64 nr, .slice none 0 0, .slice none 0 0] 49)).alloc (.cells mz 64)) := (hbel.alloc hbel.size _).alloc (by have := hbel.size; simp; omega) _
  have hsz := hbel.size
  have G' := hide (show Calls Yba.prog 11 #[.pointer (some ⟨w1.heap.size + 1, 0, none⟩), .pointer (some ⟨w1.heap.size, 0, none⟩), .slice vo len len] ((w1.alloc (.cells #[.string name, .int .i64 0, .int .i64 0, .int .i64 0, .int .i64 nr, .slice none 0 0, .slice none 0 0] 49)).alloc (.cells mz 64))
      fun e w3 => e = .returned (.pointer (some ⟨w1.heap.size + 2 + 2, 0, none⟩)) ∧ Sh w.heap.size w.heap.size (w1.heap.size + 2) nr len vo ⟨w1.heap.size + 1, 0, none⟩ w1.heap.size N S w w3 from
    G.out.mono fun e w3 ⟨he, hg, hgr⟩ => by
      simp only [World.size_alloc] at he hg
      refine ⟨he, hg, ?_, hb2.grown hgr (by simp; omega) (fun q h => by cases h), by omega⟩
      rcases hvs with e | ⟨e1, e2⟩
      · exact .inl e
      · exact .inr ⟨e1, ((e2.alloc _).alloc _).of_block (hgr.block _ ((e2.alloc _).alloc _).lt (by simp))⟩)
  clear G hvs hbel hb2
  go_wp2_with fail
  refine G'.out.mono ?_
  rintro e w3 ⟨rfl, hsh⟩
  clear G' z64
  have p50 := neq50
  have gc1 : w3.cell? ⟨w1.heap.size + 2 + 2, 1, none⟩ = some (.pointer (some ⟨w1.heap.size + 1, 0, none⟩)) := (g_cell hsh.gok.g).trans rfl
  have gc8 : w3.cell? ⟨w1.heap.size + 2 + 2, 8, none⟩ = some (.slice (some ⟨w1.heap.size + 2, 0, none⟩) nr nr) := (g_cell hsh.gok.g).trans rfl
  go_wp2
  clear gc1 gc8 p50
  go_loopw [12] (fun i wr => ∃ k : Nat, k ≤ nr ∧ i = .int .i64 k ∧ Sh w.heap.size w.heap.size (w1.heap.size + 2) nr len vo ⟨w1.heap.size + 1, 0, none⟩ w1.heap.size N S w wr) (fun i _ => nr - (intOf i).toNat)
  case atStart => exact ⟨0, Nat.zero_le _, rfl, hsh⟩
  case round =>
    clear hsh
    obtain ⟨k, hk, rfl, hsh⟩ := hrel
    by_cases hlt : k < nr
    · have gc8 : ∀ o, (wr.alloc o).cell? ⟨w1.heap.size + 2 + 2, 8, none⟩ = some (.slice (some ⟨w1.heap.size + 2, 0, none⟩) nr nr) := fun o => cell_al ((g_cell hsh.gok.g).trans rfl) o
      have ik : (k : Int) < (nr : Int) := by omega
      by_cases hkl : k < len
      · have rc := hsh.gok.reg_lt hlt hkl
        obtain ⟨hvo, vcl⟩ := hsh.vs.cells hkl
        subst hvo
        by_cases he : (S k).toList.isEmpty = true
        · have e : rv (S k) = .nilIface := by rw [rv, if_pos he]
          clear he
          rw [e] at rc vcl
          have rc0 := fun o => cell_al rc.1 o
          have rc1 := fun o => cell_al rc.2 o
          have v0 := fun o => cell_al vcl.1 o
          have v1 := fun o => cell_al vcl.2 o
          clear rc vcl e
          have pe := neq79n
          go_wp2
          go_quiet (fail)
          go_wp2
          go_roundw
          case rel => exact ⟨k + 1, by omega, by go_num, (hsh.alloc _).drewN _⟩
          case measure => simp [intOf]; omega
        · have e : rv (S k) = .iface 9 (.string (S k)) := by rw [rv, if_neg he]
          clear he
          rw [e] at rc vcl
          have rc0 := fun o => cell_al rc.1 o
          have rc1 := fun o => cell_al rc.2 o
          have v0 := fun o => cell_al vcl.1 o
          have v1 := fun o => cell_al vcl.2 o
          clear rc vcl e
          have pe := neq79s
          go_wp2
          go_quiet (fail)
          go_wp2
          go_roundw
          case rel => exact ⟨k + 1, by omega, by go_num, (hsh.alloc _).drewN _⟩
          case measure => simp [intOf]; omega
      · have rc := hsh.gok.reg_ge hlt hkl
        have rc0 := fun o => cell_al rc.1 o
        have rc1 := fun o => cell_al rc.2 o
        clear rc
        have pe := neq79n
        go_wp2
        go_quiet (fail)
        go_wp2
        go_roundw
        case rel => exact ⟨k + 1, by omega, by go_num, (hsh.alloc _).drewN _⟩
        case measure => simp [intOf]; omega
    · have hg := hsh.gok.g
      have g9 : wr.cell? ⟨w1.heap.size + 2 + 2, 9, none⟩ = some (.slice (some ⟨w1.heap.size + 2 + 1, 0, none⟩) 1 1) := (g_cell hg).trans rfl
      have f0 : wr.cell? ⟨w1.heap.size + 2 + 1, 0, none⟩ = some (.pointer (some ⟨w1.heap.size, 0, none⟩)) := (cell_of_row wr _ 0 _ 81 (0, 0) hsh.gok.frames).trans rfl
      have f1 : wr.cell? ⟨w1.heap.size + 2 + 1, 1, none⟩ = some (.int .i64 0) := (cell_of_row wr _ 1 _ 81 (0, 0) hsh.gok.frames).trans rfl
      have f2 : wr.cell? ⟨w1.heap.size + 2 + 1, 2, none⟩ = some (.int .i64 0) := (cell_of_row wr _ 2 _ 81 (0, 0) hsh.gok.frames).trans rfl
      have f3 : wr.cell? ⟨w1.heap.size + 2 + 1, 3, none⟩ = some (.bool false) := (cell_of_row wr _ 3 _ 81 (0, 0) hsh.gok.frames).trans rfl
      have g0 : ∀ o, (wr.alloc o).cell? ⟨w1.heap.size + 2 + 2, 0, none⟩ = some (.pointer none) := fun o => cell_al ((g_cell hsh.gok.g).trans rfl) o
      have g2 : ∀ o, (wr.alloc o).cell? ⟨w1.heap.size + 2 + 2, 2, none⟩ = some (.int .i64 0) := fun o => cell_al ((g_cell hsh.gok.g).trans rfl) o
      have g3 : ∀ o, (wr.alloc o).cell? ⟨w1.heap.size + 2 + 2, 3, none⟩ = some (.int .i64 0) := fun o => cell_al ((g_cell hsh.gok.g).trans rfl) o
      have g4 : ∀ o, (wr.alloc o).cell? ⟨w1.heap.size + 2 + 2, 4, none⟩ = some (.pointer none) := fun o => cell_al ((g_cell hsh.gok.g).trans rfl) o
      have g5 : ∀ o, (wr.alloc o).cell? ⟨w1.heap.size + 2 + 2, 5, none⟩ = some (.string ⟨#[]⟩) := fun o => cell_al ((g_cell hsh.gok.g).trans rfl) o
      have g6 : ∀ o, (wr.alloc o).cell? ⟨w1.heap.size + 2 + 2, 6, none⟩ = some (.string ⟨#[]⟩) := fun o => cell_al ((g_cell hsh.gok.g).trans rfl) o
      have g7 : ∀ o, (wr.alloc o).cell? ⟨w1.heap.size + 2 + 2, 7, none⟩ = some (.nilIface) := fun o => cell_al ((g_cell hsh.gok.g).trans rfl) o
      have g10 : ∀ o, (wr.alloc o).cell? ⟨w1.heap.size + 2 + 2, 10, none⟩ = some (.int .i64 0) := fun o => cell_al ((g_cell hsh.gok.g).trans rfl) o
      have g11 : ∀ o, (wr.alloc o).cell? ⟨w1.heap.size + 2 + 2, 11, none⟩ = some (.slice none 0 0) := fun o => cell_al ((g_cell hsh.gok.g).trans rfl) o
      have g15 : ∀ o, (wr.alloc o).cell? ⟨w1.heap.size + 2 + 2, 15, none⟩ = some (.pointer none) := fun o => cell_al ((g_cell hsh.gok.g).trans rfl) o
      have g16 : ∀ o, (wr.alloc o).cell? ⟨w1.heap.size + 2 + 2, 16, none⟩ = some (.bool false) := fun o => cell_al ((g_cell hsh.gok.g).trans rfl) o
      have g17 : ∀ o, (wr.alloc o).cell? ⟨w1.heap.size + 2 + 2, 17, none⟩ = some (.bool false) := fun o => cell_al ((g_cell hsh.gok.g).trans rfl) o
      have g18 : ∀ o, (wr.alloc o).cell? ⟨w1.heap.size + 2 + 2, 18, none⟩ = some (.nilFunc) := fun o => cell_al ((g_cell hsh.gok.g).trans rfl) o
      have g19 : ∀ o, (wr.alloc o).cell? ⟨w1.heap.size + 2 + 2, 19, none⟩ = some (.slice none 0 0) := fun o => cell_al ((g_cell hsh.gok.g).trans rfl) o
      have g20 : ∀ o, (wr.alloc o).cell? ⟨w1.heap.size + 2 + 2, 20, none⟩ = some (.pointer none) := fun o => cell_al ((g_cell hsh.gok.g).trans rfl) o
      clear hg
      have p45 := neq45
      have hbel := hsh.bel
      have hsR := hsh.size
      have hfin := hbel.alloc (by omega) (.cells (frameA w1.heap.size) 81)
      clear hsh hbel
      have q1 := neq43z
      have q2 := neq75z
      have q3 := neq74z
      go_wp2
      go_ret
      exact ⟨rfl, hfin⟩
end Go.Proofs.Ybulkhq.Vals
