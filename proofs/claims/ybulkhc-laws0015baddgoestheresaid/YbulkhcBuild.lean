/-
  zzs0015bbuild by a contract: the builder that it makes.
-/
import Derived.Test.YbulkhcRows
import Derived.WalkKit
import Derived.WalkSpells
import Derived.Deep.RegionLaw
import Derived.Deep.AppendLies
namespace Go.Proofs.Ybulkhc.Build
open Go.RowKit

theorem info35 : (Yba.prog.info? 35).map (fun i => (i.zero, i.size, i.bytes)) = some (some (.agg #[.int .u8 0, .bool false, .bool false, .bool false, .string ⟨#[]⟩, .slice none 0 0, .int .i64 0, .pointer none]), 8, 64) := by kernel_rfl
theorem info37 : (Yba.prog.info? 37).map (fun i => (i.zero, i.size, i.bytes)) = some (some (.agg #[.int .u8 0, .bool false, .bool false, .bool false, .string ⟨#[]⟩, .slice none 0 0, .int .i64 0, .pointer none, .int .i64 0, .string ⟨#[]⟩]), 10, 88) := by kernel_rfl

def mk8 (m : Nat) : Array Value := madeCells #[.int .u8 0, .bool false, .bool false, .bool false, .string ⟨#[]⟩, .slice none 0 0, .int .i64 0, .pointer none] (m * 8)

theorem make27 (m : Nat) (x : Int) (hx : x = (m : Int)) (hm : m ≤ 1000) (w : World) :
    (Instr.makeSlice 27 (.int .i64 x) (.int .i64 x)).run Yba.prog w = .ok (.slice (some ⟨w.heap.size, 0, none⟩) m m) (w.alloc (.cells (mk8 m) 35)) := by
  obtain ⟨i, hi, hz0, hz1, hz2⟩ := info_parts info35
  subst hx
  have := run_make (P := Yba.prog) w 27 35 i _ Yba.underlying27 hi hz0 .i64 .i64 m m (by omega) (by omega) (by rw [hz2]; omega) (by omega)
  rw [this, hz1]
  rfl

def tag (kd : Int) (i : Nat) (p : Nat) : List Value := [.int .u8 kd, .bool false, .bool false, .bool false, .string ⟨#[]⟩, .slice none 0 0, .int .i64 i, .pointer (some ⟨p, 0, none⟩), .int .i64 0, .string ⟨#[]⟩]
def nest (c m : Nat) : Array Value := #[.bool false, .string ⟨#[]⟩, .string ⟨#[]⟩, .slice (some ⟨c, 0, none⟩) m m, .string ⟨#[]⟩, .string ⟨#[]⟩, .string ⟨#[]⟩]
def bld (H rl : Nat) (v : Value) : Array Value := #[.string ⟨#[]⟩, .string ⟨#[]⟩, .slice (some ⟨H, 0, none⟩) rl rl, v, .bool false]

/-- The builder lies at block H + 1, its root's array at H; k tags are open; the nested struct of tag i lies at block P i. -/
structure Inv (H rl k : Nat) (zs : List Int) (P : Nat → Nat) (ao : Option Addr) (cp : Nat) (xs : List Value) (w : World) : Prop where
  top : w.heap[H + 1]? = some (.cells (bld H rl (.slice ao k cp)) 30 (0, 0))
  root : w.heap[H]? = some (.cells (mk8 rl) 35 (0, 0))
  opn : w.ownsRow (H + 2) 37 10 (.slice ao k cp) k xs
  tags : ∀ i, i < k → ∀ j, j < 10 → xs[i * 10 + j]? = (tag (zs[i]?.getD 0 % 8) i (P i))[j]?
  nst : ∀ i, i < k → H + 2 ≤ P i ∧ ∃ c, H + 2 ≤ c ∧ w.heap[P i]? = some (.cells (nest c (i % 3)) 41 (0, 0)) ∧ w.heap[c]? = some (.cells (mk8 (i % 3)) 35 (0, 0))
  inj : ∀ i j, i < j → j < k → P i < P j

theorem cell_al {w : World} {a : Addr} {v : Value} (h : w.cell? a = some v) (o : Obj) : (w.alloc o).cell? a = some v := by
  rw [World.cell?_alloc_lt _ _ _ (World.block_lt_of_cell? w a h)]; exact h

/-- The world ahead of the append of a round. -/
def wA (wr : World) (m : Nat) (kd : Int) (k : Nat) : World := (((wr.alloc (.cells (mk8 m) 35)).alloc (.cells (nest wr.heap.size m) 41)).alloc (.cells (tag kd k (wr.heap.size + 1)).toArray 37)).drew
theorem wA_size (wr : World) (m : Nat) (kd : Int) (k : Nat) : (wA wr m kd k).heap.size = wr.heap.size + 3 := by simp [wA]
theorem wA_old (wr : World) (m : Nat) (kd : Int) (k : Nat) (q : Nat) (hq : q < wr.heap.size) : (wA wr m kd k).heap[q]? = wr.heap[q]? := by
  show (((wr.heap.push _).push _).push _)[q]? = _
  simp only [Array.getElem?_push, Array.size_push]
  rw [if_neg (by omega), if_neg (by omega), if_neg (by omega)]
theorem wA_kids (wr : World) (m : Nat) (kd : Int) (k : Nat) : (wA wr m kd k).heap[wr.heap.size]? = some (.cells (mk8 m) 35 (0, 0)) := by
  show (((wr.heap.push _).push _).push _)[wr.heap.size]? = _
  simp only [Array.getElem?_push, Array.size_push]
  rw [if_neg (by omega), if_neg (by omega), if_pos trivial]
theorem wA_nest (wr : World) (m : Nat) (kd : Int) (k : Nat) : (wA wr m kd k).heap[wr.heap.size + 1]? = some (.cells (nest wr.heap.size m) 41 (0, 0)) := by
  show (((wr.heap.push _).push _).push _)[wr.heap.size + 1]? = _
  simp only [Array.getElem?_push, Array.size_push]
  rw [if_neg (by omega), if_pos trivial]
theorem wA_tag (wr : World) (m : Nat) (kd : Int) (k : Nat) : (wA wr m kd k).heap[wr.heap.size + 2]? = some (.cells (tag kd k (wr.heap.size + 1)).toArray 37 (0, 0)) := by
  show (((wr.heap.push _).push _).push _)[wr.heap.size + 2]? = _
  simp only [Array.getElem?_push, Array.size_push]
  rw [if_pos trivial]
theorem wA_news (wr : World) (m : Nat) (kd : Int) (k : Nat) : ∀ j u, (tag kd k (wr.heap.size + 1))[j]? = some u → (wA wr m kd k).cell? ((⟨wr.heap.size + 2, 0, none⟩ : Addr).add j) = some u := by
  intro j u hu
  exact World.news_of_block (wA_tag wr m kd k) j u (by simpa using hu)
theorem tag_one (kd : Int) (k p : Nat) : ∀ u ∈ tag kd k p, u.oneCell' = true := by
  intro u hu
  simp only [tag, List.mem_cons, List.not_mem_nil, or_false] at hu
  rcases hu with rfl | rfl | rfl | rfl | rfl | rfl | rfl | rfl | rfl | rfl <;> rfl

/-- What is no row of tags is as it was behind the append. -/
theorem keep37 {wa w1 : World} {H : Nat} {v : Value} {n : Nat} {xs : List Value} (hopn : wa.ownsRow H 37 10 v n xs) (hgrow : wa.grownBy w1 v.ownBlock) {q : Nat} {cs : Array Value} {t : TypeId} {fr : Nat × Nat}
    (hq : wa.heap[q]? = some (.cells cs t fr)) (ht : t ≠ 37) : w1.heap[q]? = some (.cells cs t fr) := by
  rw [hgrow.block q (Array.getElem?_eq_some_iff.1 hq).1 ?_]
  · exact hq
  · intro e
    rcases hopn.2 with ⟨rfl, _⟩ | ⟨g, cap, cur, rfl, _, hg, _⟩
    · simp [Value.ownBlock] at e
    · have e' : q = g := by simpa [Value.ownBlock] using e
      subst e'
      rw [hg] at hq
      injection hq with hq
      injection hq with _ h2 _
      exact ht h2.symm

variable {H rl k : Nat} {zs : List Int} {P : Nat → Nat} {ao : Option Addr} {cp : Nat} {xs : List Value} {wr w1 : World}

theorem Inv.own (h : Inv H rl k zs P ao cp xs wr) (m : Nat) (kd : Int) : (wA wr m kd k).ownsRow (H + 2) 37 10 (.slice ao k cp) k xs := ((h.opn.alloc _).alloc _).alloc _
theorem Inv.lt (h : Inv H rl k zs P ao cp xs wr) : H + 1 < wr.heap.size := (Array.getElem?_eq_some_iff.1 h.top).1

theorem Inv.top1 (h : Inv H rl k zs P ao cp xs wr) {m : Nat} {kd : Int} (hgrow : (wA wr m kd k).grownBy w1 (Value.ownBlock (.slice ao k cp))) : w1.heap[H + 1]? = some (.cells (bld H rl (.slice ao k cp)) 30 (0, 0)) :=
  keep37 (h.own m kd) hgrow ((wA_old wr m kd k _ h.lt).trans h.top) (by decide)

theorem top_cell {w1 : World} {v : Value} (h : w1.heap[H + 1]? = some (.cells (bld H rl v) 30 (0, 0))) : w1.cell? ⟨H + 1, 3, none⟩ = some v ∧ w1.frozen? ⟨H + 1, 3, none⟩ = false := by
  simp [World.cell?, World.frozen?, h, bld]

theorem set_same {w1 : World} {b j : Nat} {cs : Array Value} {t : TypeId} {u : Value} (h : w1.heap[b]? = some (.cells cs t (0, 0))) : (w1.setCell ⟨b, j, none⟩ u).heap[b]? = some (.cells (cs.setIfInBounds j u) t (0, 0)) := by
  have hlt := (Array.getElem?_eq_some_iff.1 h).1
  have h' : w1.heap[b] = .cells cs t (0, 0) := (Array.getElem?_eq_some_iff.1 h).2
  show (w1.heap.modify b _)[b]? = _
  rw [Array.getElem?_eq_getElem (by simpa using hlt), Array.getElem_modify_self, h']
  simp

theorem Inv.step (h : Inv H rl k zs P ao cp xs wr) {g cp1 : Nat} (hown : w1.ownsRow (H + 2) 37 10 (.slice (some ⟨g, 0, none⟩) (k + 1) cp1) (k + 1) (xs ++ tag (zs[k]?.getD 0 % 8) k (wr.heap.size + 1)))
    (hgrow : (wA wr (k % 3) (zs[k]?.getD 0 % 8) k).grownBy w1 (Value.ownBlock (.slice ao k cp))) :
    Inv H rl (k + 1) zs (fun i => if i = k then wr.heap.size + 1 else P i) (some ⟨g, 0, none⟩) cp1 (xs ++ tag (zs[k]?.getD 0 % 8) k (wr.heap.size + 1)) (w1.setCell ⟨H + 1, 3, none⟩ (.slice (some ⟨g, 0, none⟩) (k + 1) cp1)) := by
  have hl := h.lt
  have hx : xs.length = k * 10 := h.opn.1
  have t1 := h.top1 hgrow
  have hgl := hown.lt g rfl
  have far : ∀ {q : Nat} {cs : Array Value} {t : TypeId} {fr : Nat × Nat}, q ≠ H + 1 → t ≠ 37 → (wA wr (k % 3) (zs[k]?.getD 0 % 8) k).heap[q]? = some (.cells cs t fr) → (w1.setCell ⟨H + 1, 3, none⟩ (.slice (some ⟨g, 0, none⟩) (k + 1) cp1)).heap[q]? = some (.cells cs t fr) := by
    intro q cs t fr hq ht hh
    rw [Below.heap_setCell _ _ _ _ hq]
    exact keep37 (h.own _ _) hgrow hh ht
  refine ⟨?_, ?_, ?_, ?_, ?_, ?_⟩
  · rw [set_same t1]; simp [bld]
  · exact far (by omega) (by decide) ((wA_old _ _ _ _ _ (by omega)).trans h.root)
  · exact ownsRow_setCell_other hown (by simp [Value.ownBlock]; omega) _
  · intro i hi j hj
    by_cases e : i = k
    · subst e
      rw [List.getElem?_append_right (by omega), hx]
      simp
    · rw [List.getElem?_append_left (by omega), if_neg e]
      exact h.tags i (by omega) j hj
  · intro i hi
    by_cases e : i = k
    · subst e
      rw [if_pos rfl]
      exact ⟨by omega, wr.heap.size, by omega, far (by omega) (by decide) (wA_nest _ _ _ _), far (by omega) (by decide) (wA_kids _ _ _ _)⟩
    · rw [if_neg e]
      obtain ⟨h1, c, h2, h3, h4⟩ := h.nst i (by omega)
      exact ⟨h1, c, h2, far (by omega) (by decide) ((wA_old _ _ _ _ _ (Array.getElem?_eq_some_iff.1 h3).1).trans h3), far (by omega) (by decide) ((wA_old _ _ _ _ _ (Array.getElem?_eq_some_iff.1 h4).1).trans h4)⟩
  · intro i j hij hj
    have hi : ¬ i = k := by omega
    rw [if_neg hi]
    by_cases e : j = k
    · rw [if_pos e]
      obtain ⟨_, c, _, h3, _⟩ := h.nst i (by omega)
      have := (Array.getElem?_eq_some_iff.1 h3).1
      omega
    · rw [if_neg e]
      exact h.inj i j hij (by omega)

theorem Inv.below (h : Inv H rl k zs P ao cp xs wr) {w : World} (hnx : Below H w wr) {m : Nat} {kd : Int} (hgrow : (wA wr m kd k).grownBy w1 (Value.ownBlock (.slice ao k cp))) (u : Value) : Below H w (w1.setCell ⟨H + 1, 3, none⟩ u) := by
  have hl := h.lt
  have hA : Below H w (wA wr m kd k) := (((hnx.alloc (by omega) _).alloc (by simp; omega) _).alloc (by simp; omega) _).drew
  refine (hA.grown hgrow (by rw [wA_size]; omega) ?_).setCell (by simp) u
  intro q hq
  have := h.opn.lt q hq
  omega

theorem Inv.start (w : World) (rl : Nat) (zs : List Int) :
    Inv w.heap.size rl 0 zs (fun _ => 0) none 0 [] ((w.alloc (.cells (mk8 rl) 35)).alloc (.cells #[.string ⟨#[]⟩, .string ⟨#[]⟩, .slice (some ⟨w.heap.size, 0, none⟩) rl rl, .slice none 0 0, .bool false] 30)) := by
  refine ⟨?_, ?_, World.ownsRow_nil _ _ _ _, fun i hi => by omega, fun i hi => by omega, fun i j _ hj => by omega⟩
  · show ((w.heap.push _).push _)[w.heap.size + 1]? = _
    simp only [Array.getElem?_push, Array.size_push]
    rw [if_pos trivial]; rfl
  · show ((w.heap.push _).push _)[w.heap.size]? = _
    simp only [Array.getElem?_push, Array.size_push]
    rw [if_neg (by omega), if_pos trivial]

set_option maxHeartbeats 1000000 in
theorem build_any (b off len cap : Nat) (zs : List Int) (r : Int) (w : World) (h0 : len ≤ 1024) (hr0 : 0 ≤ r) (hr1 : r ≤ 255)
    (hb : b < w.heap.size) (hbd : ∀ j : Nat, 0 ≤ zs[j]?.getD 0 ∧ zs[j]?.getD 0 ≤ 255)
    (hc : ∀ t : Nat, t < len → w.cell? ⟨b, off + t, none⟩ = some (.int .u8 (zs[t]?.getD 0))) :
    Calls Yba.prog 7 #[.slice (some ⟨b, off, none⟩) len cap, .int .u8 r] w fun e w' => ∃ rl P ao cp xs, rl ≤ 3 ∧ e = .returned (.pointer (some ⟨w.heap.size + 1, 0, none⟩)) ∧ Inv w.heap.size rl len zs P ao cp xs w' ∧ Below w.heap.size w w' := by
  obtain ⟨rl, hrl⟩ : ∃ rl : Nat, r % 4 = (rl : Int) := ⟨(r % 4).toNat, by omega⟩
  have hmk := fun W => make27 rl (r % 4) hrl (by omega) W
  have HRL : rl ≤ 3 := by omega
  clear hrl
  obtain ⟨i0, hi, hz0, hz1, hz2⟩ := info_parts info37
  go_enter Yba.func7, Yba.ntmps7
  go_wp2
  clear hmk
  go_loopw [16] (fun i wr => ∃ (k : Nat) (P : Nat → Nat) (ao : Option Addr) (cp : Nat) (xs : List Value), k ≤ len ∧ i = .int .i64 k ∧ Inv w.heap.size rl k zs P ao cp xs wr ∧ Below w.heap.size w wr)
    (fun i _ => len - (intOf i).toNat)
  case atStart => exact ⟨0, _, _, _, _, Nat.zero_le _, rfl, Inv.start w rl zs, ((Below.refl _ _).alloc (Nat.le_refl _) _).alloc (by simp) _⟩
  case round =>
    obtain ⟨k, P, ao, cp, xs, hk, rfl, hinv, hnx⟩ := hrel
    by_cases hlt : k < len
    · have hck : wr.cell? ⟨b, off + k, none⟩ = some (.int .u8 (zs[k]?.getD 0)) := (hnx.cell (by exact hb)).trans (hc k hlt)
      have hbk := hbd k
      have hmk := fun W => make27 (k % 3) ((k : Int) % 3) (by omega) (by omega) W
      have t3 : ((k : Int).tmod 3) = (k : Int) % 3 := Int.tmod_eq_emod_of_nonneg (by omega)
      have t8 : (zs[k]?.getD 0).tmod 8 = zs[k]?.getD 0 % 8 := Int.tmod_eq_emod_of_nonneg hbk.1
      have hcell : wr.cell? ⟨w.heap.size + 1, 3, none⟩ = some (.slice ao k cp) := (top_cell hinv.top).1
      have hcA : ∀ o, (wr.alloc o).cell? ⟨w.heap.size + 1, 3, none⟩ = some (.slice ao k cp) := fun o => cell_al hcell o
      have hcB : ∀ o p, ((wr.alloc o).alloc p).cell? ⟨w.heap.size + 1, 3, none⟩ = some (.slice ao k cp) := fun o p => cell_al (cell_al hcell o) p
      have hcC : ∀ o p q, (((wr.alloc o).alloc p).alloc q).cell? ⟨w.heap.size + 1, 3, none⟩ = some (.slice ao k cp) := fun o p q => cell_al (cell_al (cell_al hcell o) p) q
      go_wp2
      go_region_law (refine step_append_lies (wA wr (k % 3) (zs[k]?.getD 0 % 8) k) rfl (.tmp 25) (.tmp 36) 28 rfl (w.heap.size + 2) 37 i0 _ 10 88 Yba.underlying28 hi hz0 hz1 hz2 rfl (by decide) (.slice ao k cp) k xs (by simp [Act.eval]) (hinv.own _ _) ⟨wr.heap.size + 2, 0, none⟩ 1 1 (tag (zs[k]?.getD 0 % 8) k (wr.heap.size + 1)) (by simp [Act.eval]) rfl (wA_news _ _ _ _) (tag_one _ _ _) (by omega) (by unfold maxLen; omega) (by omega) (by rw [wA_size]; have := hinv.lt; omega) _ rfl ?_; intro g cp1 w1 hown1 hgrow1 _ _; have hc1 : w1.cell? ⟨w.heap.size + 1, 3, none⟩ = some (.slice ao k cp) := (top_cell (hinv.top1 hgrow1)).1; have hf1 : w1.frozen? ⟨w.heap.size + 1, 3, none⟩ = false := (top_cell (hinv.top1 hgrow1)).2)
      all_goals
        have hstep := hinv.step hown1 hgrow1
        have hbel := hinv.below hnx hgrow1 (.slice (some ⟨g, 0, none⟩) (k + 1) cp1)
        clear hown1 hgrow1 hc1 hf1 hcA hcB hcC hcell hck t3 t8 hinv hmk hnx
        go_wp2
        go_roundw
        case rel => exact ⟨k + 1, _, _, _, _, by omega, by go_num, hstep, hbel⟩
        case measure => simp [intOf]; omega
    · obtain rfl : k = len := by omega
      go_wp2
      go_ret
      exact ⟨rl, P, ao, cp, xs, HRL, rfl, hinv, hnx⟩
set_option maxHeartbeats 1000000 in
theorem build_none (a0 : Option Addr) (len cap : Nat) (zs : List Int) (r : Int) (w : World) (h0 : len ≤ 1024) (hr0 : 0 ≤ r) (hr1 : r ≤ 255) (hl0 : Hid (len = 0)) :
    Calls Yba.prog 7 #[.slice a0 len cap, .int .u8 r] w fun e w' => ∃ rl P ao cp xs, rl ≤ 3 ∧ e = .returned (.pointer (some ⟨w.heap.size + 1, 0, none⟩)) ∧ Inv w.heap.size rl len zs P ao cp xs w' ∧ Below w.heap.size w w' := by
  obtain ⟨rl, hrl⟩ : ∃ rl : Nat, r % 4 = (rl : Int) := ⟨(r % 4).toNat, by omega⟩
  have hmk := fun W => make27 rl (r % 4) hrl (by omega) W
  have HRL : rl ≤ 3 := by omega
  clear hrl
  go_enter Yba.func7, Yba.ntmps7
  go_wp2
  clear hmk
  go_loopw [16] (fun i wr => ∃ (k : Nat) (P : Nat → Nat) (ao : Option Addr) (cp : Nat) (xs : List Value), k ≤ len ∧ i = .int .i64 k ∧ Inv w.heap.size rl k zs P ao cp xs wr ∧ Below w.heap.size w wr)
    (fun i _ => len - (intOf i).toNat)
  case atStart => exact ⟨0, _, _, _, _, Nat.zero_le _, rfl, Inv.start w rl zs, ((Below.refl _ _).alloc (Nat.le_refl _) _).alloc (by simp) _⟩
  case round =>
    obtain ⟨k, P, ao, cp, xs, hk, rfl, hinv, hnx⟩ := hrel
    by_cases hlt : k < len
    · exact absurd hlt (by have := hl0.out; omega)
    · obtain rfl : k = len := by omega
      go_wp2
      go_ret
      exact ⟨rl, P, ao, cp, xs, HRL, rfl, hinv, hnx⟩

/-- A slice of bytes that came in: it has no elements; or its elements lie at a plain address. -/
def RowOK (w : World) (a0 : Option Addr) (len : Nat) (zs : List Int) : Prop :=
  len = 0 ∨ ∃ b off, a0 = some ⟨b, off, none⟩ ∧ b < w.heap.size ∧ (∀ j : Nat, 0 ≤ zs[j]?.getD 0 ∧ zs[j]?.getD 0 ≤ 255) ∧ ∀ t : Nat, t < len → w.cell? ⟨b, off + t, none⟩ = some (.int .u8 (zs[t]?.getD 0))

theorem build (a0 : Option Addr) (len cap : Nat) (zs : List Int) (r : Int) (w : World) (h0 : len ≤ 1024) (hr0 : 0 ≤ r) (hr1 : r ≤ 255) (hrow : RowOK w a0 len zs) :
    Calls Yba.prog 7 #[.slice a0 len cap, .int .u8 r] w fun e w' => ∃ rl P ao cp xs, rl ≤ 3 ∧ e = .returned (.pointer (some ⟨w.heap.size + 1, 0, none⟩)) ∧ Inv w.heap.size rl len zs P ao cp xs w' ∧ Below w.heap.size w w' := by
  rcases hrow with h | ⟨b, off, rfl, hb, hbd, hc⟩
  · exact build_none a0 len cap zs r w h0 hr0 hr1 h
  · exact build_any b off len cap zs r w h0 hr0 hr1 hb hbd hc
end Go.Proofs.Ybulkhc.Build
