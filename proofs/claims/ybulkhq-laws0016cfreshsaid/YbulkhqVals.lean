/-
  zzs0016cval and zzs0016cvals by contracts.
-/
import Derived.Test.YbulkhqRows
import Derived.WalkKit
import Derived.WalkSpells
import Derived.Deep.OwnRows
namespace Go.Proofs.Ybulkhq.Vals
open Go.RowKit

theorem hide {p : Prop} (h : p) : Hid p := h
/-- What a string becomes in a register's reference. -/
def rv (s : ByteArray) : Value := if s.toList.isEmpty then .nilIface else .iface 9 (.string s)

set_option maxHeartbeats 400000 in
theorem val_any (n : Int) (s : ByteArray) (w : World) :
    Calls Yba.prog 12 #[.agg #[.int .u64 n, .string s]] w fun e w' => e = .returned (.agg #[.int .u64 n, rv s]) ∧ Below w.heap.size w w' := by
  by_cases h : s.toList.isEmpty = true
  · have e : rv s = .nilIface := by simp [rv, h]
    rw [e]
    clear e
    go_enter Yba.func12, Yba.ntmps12
    go_wp2
    exact bodyPost_ret (v := .agg #[.int .u64 n, .nilIface]) (by simp [results, Yba.results12, go_sem]) rfl ⟨rfl, ((Below.refl _ _).alloc (Nat.le_refl _) _).alloc (by simp) _⟩
  · have h' : s.toList.isEmpty = false := by simpa using h
    have e : rv s = .iface 9 (.string s) := by simp [rv, h']
    rw [e]
    clear e h
    go_enter Yba.func12, Yba.ntmps12
    go_wp2
    exact bodyPost_ret (v := .agg #[.int .u64 n, .iface 9 (.string s)]) (by simp [results, Yba.results12, go_sem]) rfl ⟨rfl, ((Below.refl _ _).alloc (Nat.le_refl _) _).alloc (by simp) _⟩

theorem info79 : (Yba.prog.info? 79).map (fun i => (i.zero, i.size, i.bytes)) = some (some (.agg #[.int .u64 0, .nilIface]), 2, 24) := by kernel_rfl
def mk2 (n : Nat) : Array Value := madeCells #[.int .u64 0, .nilIface] (n * 2)
theorem make43 (n : Nat) (x : Int) (hx : x = (n : Int)) (hn : n ≤ 2000) (w : World) :
    (Instr.makeSlice 43 (.int .i64 x) (.int .i64 x)).run Yba.prog w = .ok (.slice (some ⟨w.heap.size, 0, none⟩) n n) (w.alloc (.cells (mk2 n) 79)) := by
  obtain ⟨i, hi, hz0, hz1, hz2⟩ := info_parts info79
  subst hx
  have := run_make (P := Yba.prog) w 43 79 i _ Yba.underlying43 hi hz0 .i64 .i64 n n (by omega) (by omega) (by rw [hz2]; omega) (by omega)
  rw [this, hz1]
  rfl
/-- A zero register's cells; a made one's. -/
def zc (j : Nat) : Value := if j % 2 = 0 then .int .u64 0 else .nilIface
def vc (N : Nat → Int) (S : Nat → ByteArray) (j : Nat) : Value := if j % 2 = 0 then .int .u64 (N (j / 2)) else rv (S (j / 2))
/-- The first k registers made, the rest zero. -/
def part (N : Nat → Int) (S : Nat → ByteArray) (k j : Nat) : Value := if j < k * 2 then vc N S j else zc j
theorem made_row (w : World) (n : Nat) : (w.alloc (.cells (mk2 n) 79)).rowIs w.heap.size 79 (n * 2) zc :=
  ⟨_, heap_alloc_new w _, size_madeCells _ _, fun i hi => by
    unfold mk2 madeCells zc
    have e : i % 2 = 0 ∨ i % 2 = 1 := by omega
    rcases e with e | e <;> simp [hi, e]⟩

theorem store_rv (a : Addr) (s : ByteArray) (W : World) (h : (W.cell? a).isSome = true) (hf : W.frozen? a = false) : Sem.run Yba.prog (store a (rv s)) W = .ok () (W.setCell a (rv s)) := by
  obtain ⟨u, hu⟩ := Option.isSome_iff_exists.1 h
  unfold rv
  split
  · go_simp
  · go_simp
theorem part_step {w2 : World} {V len k : Nat} {N : Nat → Int} {S : Nat → ByteArray} (h : w2.rowIs V 79 (len * 2) (part N S k)) (_hk : k < len) :
    ((w2.setCell ⟨V, k * 2, none⟩ (.int .u64 (N k))).setCell ⟨V, k * 2 + 1, none⟩ (rv (S k))).rowIs V 79 (len * 2) (part N S (k + 1)) := by
  refine ((h.set (k * 2) _).set (k * 2 + 1) _).congr (fun j _ => ?_)
  unfold part vc
  by_cases e1 : j = k * 2 + 1
  · subst e1
    rw [if_pos rfl, if_pos (by omega), if_neg (by omega), show (k * 2 + 1) / 2 = k by omega]
  · rw [if_neg e1]
    by_cases e2 : j = k * 2
    · subst e2
      rw [if_pos rfl, if_pos (by omega), if_pos (by omega), show k * 2 / 2 = k by omega]
    · rw [if_neg e2]
      by_cases e3 : j < k * 2
      · rw [if_pos e3, if_pos (show j < (k + 1) * 2 by omega)]
      · rw [if_neg e3, if_neg (show ¬ j < (k + 1) * 2 by omega)]

set_option maxHeartbeats 1000000 in
theorem vals_any (b off len cap : Nat) (N : Nat → Int) (S : Nat → ByteArray) (w : World) (h0 : len ≤ 1024) (hb : b < w.heap.size)
    (hN : ∀ i, i < len → w.cell? ⟨b, off + i * 2, none⟩ = some (.int .u64 (N i))) (hS : ∀ i, i < len → w.cell? ⟨b, off + i * 2 + 1, none⟩ = some (.string (S i))) :
    Calls Yba.prog 10 #[.slice (some ⟨b, off, none⟩) len cap] w fun e w' => e = .returned (.slice (some ⟨w.heap.size, 0, none⟩) len len) ∧ w'.rowIs w.heap.size 79 (len * 2) (vc N S) ∧ Below w.heap.size w w' := by
  have hmk := fun W => make43 len (len : Int) rfl (by omega) W
  have he := fun W (a : Option Addr) (n c : Nat) => Lib.run_eql_slice_nil (P := Yba.prog) W 42 85 a n c 0 0 Yba.underlying42
  go_enter Yba.func10, Yba.ntmps10
  go_wp2
  clear hmk he
  go_loopw [4] (fun i wr => ∃ k : Nat, k ≤ len ∧ i = .int .i64 k ∧ wr.rowIs w.heap.size 79 (len * 2) (part N S k) ∧ Below w.heap.size w wr) (fun i _ => len - (intOf i).toNat)
  case atStart => exact ⟨0, Nat.zero_le _, rfl, (made_row w len).congr (fun j _ => by simp [part]), (Below.refl _ _).alloc (Nat.le_refl _) _⟩
  case round =>
    obtain ⟨k, hk, rfl, hrow, hnx⟩ := hrel
    by_cases hlt : k < len
    · have hNk : wr.cell? ⟨b, off + k * 2, none⟩ = some (.int .u64 (N k)) := (hnx.cell (by exact hb)).trans (hN k hlt)
      have hSk : wr.cell? ⟨b, off + k * 2 + 1, none⟩ = some (.string (S k)) := (hnx.cell (by exact hb)).trans (hS k hlt)
      have V := hide (val_any (N k) (S k) wr)
      go_wp2_with fail
      refine V.out.mono ?_
      rintro e w2 ⟨rfl, hb2⟩
      clear V hNk hSk
      have hrow2 : w2.rowIs w.heap.size 79 (len * 2) (part N S k) := hrow.of_block (hb2.block _ hrow.lt)
      have c0 := hrow2.cell (i := k * 2) (by omega)
      have f0 := hrow2.frozen (k * 2)
      have c1 := hrow2.cell (i := k * 2 + 1) (by omega)
      have f1 := hrow2.frozen (k * 2 + 1)
      have st := store_rv ⟨w.heap.size, k * 2 + 1, none⟩ (S k) (w2.setCell ⟨w.heap.size, k * 2, none⟩ (.int .u64 (N k))) (by rw [((hrow2.set (k * 2) _).cell (i := k * 2 + 1) (by omega))]; rfl) ((hrow2.set (k * 2) _).frozen _)
      have hs := part_step hrow2 hlt
      have hbel : Below w.heap.size w ((w2.setCell ⟨w.heap.size, k * 2, none⟩ (.int .u64 (N k))).setCell ⟨w.heap.size, k * 2 + 1, none⟩ (rv (S k))) := ((hnx.trans (hb2.mono hnx.size)).setCell (by simp) _).setCell (by simp) _
      clear hrow hnx hb2 hrow2
      go_wp2
      go_roundw
      case rel => exact ⟨k + 1, by omega, by go_num, hs, hbel⟩
      case measure => simp [intOf]; omega
    · obtain rfl : k = len := by omega
      go_wp2
      go_ret
      exact ⟨rfl, hrow.congr (fun j hj => by simp [part, hj]), hnx⟩
set_option maxHeartbeats 1000000 in
theorem vals_none (x : Addr) (len cap : Nat) (N : Nat → Int) (S : Nat → ByteArray) (w : World) (h0 : len ≤ 1024) (hl0 : Hid (len = 0)) :
    Calls Yba.prog 10 #[.slice (some x) len cap] w fun e w' => e = .returned (.slice (some ⟨w.heap.size, 0, none⟩) len len) ∧ w'.rowIs w.heap.size 79 (len * 2) (vc N S) ∧ Below w.heap.size w w' := by
  have hmk := fun W => make43 len (len : Int) rfl (by omega) W
  have he := fun W (a : Option Addr) (n c : Nat) => Lib.run_eql_slice_nil (P := Yba.prog) W 42 85 a n c 0 0 Yba.underlying42
  go_enter Yba.func10, Yba.ntmps10
  go_wp2
  clear hmk he
  go_loopw [4] (fun i wr => ∃ k : Nat, k ≤ len ∧ i = .int .i64 k ∧ wr.rowIs w.heap.size 79 (len * 2) (part N S k) ∧ Below w.heap.size w wr) (fun i _ => len - (intOf i).toNat)
  case atStart => exact ⟨0, Nat.zero_le _, rfl, (made_row w len).congr (fun j _ => by simp [part]), (Below.refl _ _).alloc (Nat.le_refl _) _⟩
  case round =>
    obtain ⟨k, hk, rfl, hrow, hnx⟩ := hrel
    by_cases hlt : k < len
    · exact absurd hlt (by have := hl0.out; omega)
    · obtain rfl : k = len := by omega
      go_wp2
      go_ret
      exact ⟨rfl, hrow.congr (fun j hj => by simp [part, hj]), hnx⟩

/-- nil in, nil out. -/
theorem vals_nil (w : World) : Calls Yba.prog 10 #[.slice none 0 0] w fun e w' => e = .returned (.slice none 0 0) ∧ w' = w := by
  have he := fun W (a : Option Addr) (n c : Nat) => Lib.run_eql_slice_nil (P := Yba.prog) W 42 85 a n c 0 0 Yba.underlying42
  go_enter Yba.func10, Yba.ntmps10
  go_wp2
  go_ret
  exact ⟨rfl, rfl⟩

/-- The arguments as they came in: no element; or the elements' cells at a plain address. -/
def ArgsOK (w : World) (a0 : Option Addr) (len : Nat) (N : Nat → Int) (S : Nat → ByteArray) : Prop :=
  len = 0 ∨ ∃ b off, a0 = some ⟨b, off, none⟩ ∧ b < w.heap.size ∧ (∀ i, i < len → w.cell? ⟨b, off + i * 2, none⟩ = some (.int .u64 (N i))) ∧ ∀ i, i < len → w.cell? ⟨b, off + i * 2 + 1, none⟩ = some (.string (S i))

/-- The registers that are handed on: nil or not, its elements' cells where it has any. -/
def VsOK (w : World) (V len : Nat) (vo : Option Addr) (N : Nat → Int) (S : Nat → ByteArray) : Prop :=
  (vo = none ∧ len = 0) ∨ (vo = some ⟨V, 0, none⟩ ∧ w.rowIs V 79 (len * 2) (vc N S))

theorem vals (a0 : Option Addr) (len cap : Nat) (N : Nat → Int) (S : Nat → ByteArray) (w : World) (h0 : len ≤ 1024) (hnil : a0 = none → len = 0 ∧ cap = 0) (h : ArgsOK w a0 len N S) :
    Calls Yba.prog 10 #[.slice a0 len cap] w fun e w' => ∃ vo, e = .returned (.slice vo len len) ∧ VsOK w' w.heap.size len vo N S ∧ Below w.heap.size w w' := by
  cases a0 with
  | none =>
    obtain ⟨rfl, rfl⟩ := hnil rfl
    exact (vals_nil w).mono fun e w' ⟨he, hw⟩ => ⟨none, he, .inl ⟨rfl, rfl⟩, by rw [hw]; exact Below.refl _ _⟩
  | some x =>
    rcases h with h | ⟨b, off, e, hb, hN, hS⟩
    · exact (vals_none x len cap N S w h0 h).mono fun e w' ⟨he, hr, hb⟩ => ⟨_, he, .inr ⟨rfl, hr⟩, hb⟩
    · injection e with e
      subst e
      exact (vals_any b off len cap N S w h0 hb hN hS).mono fun e w' ⟨he, hr, hb⟩ => ⟨_, he, .inr ⟨rfl, hr⟩, hb⟩
end Go.Proofs.Ybulkhq.Vals
