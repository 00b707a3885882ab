/-
  The walk of LawS0016CFresh.
-/
import Derived.Test.YbulkhqShape
namespace Go.Proofs.Ybulkhq.Vals
open Go.RowKit

set_option maxRecDepth 100000 in
theorem fresh_long (r : Int) (a0 : Option Addr) (len cap : Nat) (w : World) (h : 1024 < len) :
    Calls Yba.prog 6 #[.int .u16 r, .slice a0 len cap] w fun e w' => e = .returned (.bool true) ∧ w' = w := by
  have h' : (1024 : Int) < (len : Int) := by omega
  go_enter Yba.func6, Yba.ntmps6
  go_wp2
  go_ret
  exact ⟨rfl, rfl⟩

/-- The goroutine stands, and old memory as it was. -/
structure Fr (H R nr len : Nat) (M : Addr) (F : Nat) (N : Nat → Int) (S : Nat → ByteArray) (w wr : World) : Prop where
  gok : GOK R nr len M F N S wr
  bel : Below H w wr
  low : H ≤ R

/-- The handed-on registers: rows of a number and something. -/
def Vrow (V len : Nat) (vo : Option Addr) (wr : World) : Prop := (vo = none ∧ len = 0) ∨ (vo = some ⟨V, 0, none⟩ ∧ ∃ f, wr.rowIs V 79 (len * 2) f ∧ ∀ j, j < len → ∃ z, f (j * 2) = .int .u64 z)

section
variable {H V R nr len : Nat} {vo : Option Addr} {M : Addr} {F : Nat} {N : Nat → Int} {S : Nat → ByteArray} {w wr w2 : World}
theorem Fr.size (h : Fr H R nr len M F N S w wr) : R + 2 < wr.heap.size := (Array.getElem?_eq_some_iff.1 h.gok.g).1
theorem Fr.later (h : Fr H R nr len M F N S w wr) (hb : Below wr.heap.size wr w2) : Fr H R nr len M F N S w w2 := by
  have hs := h.size
  have hl := h.low
  refine ⟨⟨h.gok.regs.of_block (hb.block _ (by omega)), ?_, ?_⟩, h.bel.trans (hb.mono (by omega)), hl⟩
  · rw [hb.block _ (by omega)]; exact h.gok.frames
  · rw [hb.block _ (by omega)]; exact h.gok.g
theorem below_drewN' {B : Nat} {w w1 : World} (h : Below B w w1) (q : Nat) : Below B w (w1.drewN q) := by
  induction q with
  | zero => exact h
  | succ q ih => exact ih.drew
theorem Fr.set (h : Fr H R nr len M F N S w wr) {a : Addr} (h1 : H ≤ a.block) (h2 : R ≠ a.block) (h3 : R + 1 ≠ a.block) (h4 : R + 2 ≠ a.block) (v : Value) : Fr H R nr len M F N S w (wr.setCell a v) := by
  refine ⟨⟨h.gok.regs.setOther h2 v, ?_, ?_⟩, h.bel.setCell h1 v, h.low⟩
  · rw [Below.heap_setCell _ _ _ _ h3]; exact h.gok.frames
  · rw [Below.heap_setCell _ _ _ _ h4]; exact h.gok.g
theorem Sh.fr (h : Sh H V R nr len vo M F N S w wr) : Fr H R nr len M F N S w wr := ⟨h.gok, h.bel, h.low⟩
theorem Sh.vrow (h : Sh H V R nr len vo M F N S w wr) : Vrow V len vo wr := by
  rcases h.vs with e | ⟨e, hr⟩
  · exact .inl e
  · exact .inr ⟨e, _, hr, fun j _ => ⟨N j, by rw [vc, if_pos (by omega), show j * 2 / 2 = j by omega]⟩⟩
theorem Vrow.set (h : Vrow V len vo wr) (k : Nat) (z : Int) : Vrow V len vo ((wr.setCell ⟨V, k * 2, none⟩ (.int .u64 z)).setCell ⟨V, k * 2 + 1, none⟩ .nilIface) := by
  rcases h with e | ⟨e, f, hr, hf⟩
  · exact .inl e
  · refine .inr ⟨e, _, (hr.set (k * 2) _).set (k * 2 + 1) _, fun j hj => ?_⟩
    obtain ⟨z', hz'⟩ := hf j hj
    have n1 : ¬ j * 2 = k * 2 + 1 := by omega
    by_cases e2 : j * 2 = k * 2
    · exact ⟨z, by simp only [if_neg n1, if_pos e2]⟩
    · exact ⟨z', by simp only [if_neg n1, if_neg e2]; exact hz'⟩
theorem Vrow.cells (h : Vrow V len vo wr) {k : Nat} (hk : k < len) : vo = some ⟨V, 0, none⟩ ∧ (∃ z, wr.cell? ⟨V, k * 2, none⟩ = some (.int .u64 z)) ∧ (∃ u, wr.cell? ⟨V, k * 2 + 1, none⟩ = some u) ∧ wr.frozen? ⟨V, k * 2, none⟩ = false ∧ wr.frozen? ⟨V, k * 2 + 1, none⟩ = false := by
  rcases h with ⟨_, e⟩ | ⟨e, f, hr, hf⟩
  · omega
  · obtain ⟨z, hz⟩ := hf k hk
    exact ⟨e, ⟨z, by rw [hr.cell (by omega), hz]⟩, ⟨_, hr.cell (by omega)⟩, hr.frozen _, hr.frozen _⟩
end

/-- The variable 'want', a new block behind wr, set in a later world. -/
theorem want_set {H R nr len : Nat} {M : Addr} {F : Nat} {N : Nat → Int} {S : Nat → ByteArray} {w wr w2 : World} (h : Fr H R nr len M F N S w wr)
    (hb : Below (wr.alloc (.cells #[.int .u64 0, .nilIface] 79)).heap.size (wr.alloc (.cells #[.int .u64 0, .nilIface] 79)) w2) (v0 v1 : Value) :
    Fr H R nr len M F N S w ((w2.setCell ⟨wr.heap.size, 0, none⟩ v0).setCell ⟨wr.heap.size, 1, none⟩ v1) ∧
    ((w2.setCell ⟨wr.heap.size, 0, none⟩ v0).setCell ⟨wr.heap.size, 1, none⟩ v1).cell? ⟨wr.heap.size, 0, none⟩ = some v0 ∧
    ((w2.setCell ⟨wr.heap.size, 0, none⟩ v0).setCell ⟨wr.heap.size, 1, none⟩ v1).cell? ⟨wr.heap.size, 1, none⟩ = some v1 ∧
    w2.cell? ⟨wr.heap.size, 0, none⟩ = some (.int .u64 0) ∧ (w2.setCell ⟨wr.heap.size, 0, none⟩ v0).cell? ⟨wr.heap.size, 1, none⟩ = some .nilIface ∧
    w2.frozen? ⟨wr.heap.size, 0, none⟩ = false ∧ w2.frozen? ⟨wr.heap.size, 1, none⟩ = false := by
  have hs := h.size
  have hl := h.low
  have hn : w2.heap[wr.heap.size]? = some (.cells #[.int .u64 0, .nilIface] 79 (0, 0)) := by
    rw [hb.block _ (by simp)]; exact heap_alloc_new wr _
  have c0 : w2.cell? ⟨wr.heap.size, 0, none⟩ = some (.int .u64 0) := (cell_of_row w2 _ 0 _ 79 (0, 0) hn).trans rfl
  have c1 : w2.cell? ⟨wr.heap.size, 1, none⟩ = some .nilIface := (cell_of_row w2 _ 1 _ 79 (0, 0) hn).trans rfl
  have d1 : (w2.setCell ⟨wr.heap.size, 0, none⟩ v0).cell? ⟨wr.heap.size, 1, none⟩ = some .nilIface := by
    rw [World.cell?_setCell_other]
    · exact c1
    · intro e; injection e with _ e; omega
  have hA := h.later (w2 := wr.alloc (.cells #[.int .u64 0, .nilIface] 79)) ((Below.refl _ _).alloc (Nat.le_refl _) _)
  have h2 := hA.later hb
  refine ⟨(h2.set (by simp; omega) (by simp; omega) (by simp; omega) (by simp; omega) _).set (by simp; omega) (by simp; omega) (by simp; omega) (by simp; omega) _, ?_, ?_, c0, d1, ?_, ?_⟩
  · rw [World.cell?_setCell_other]
    · exact World.cell?_setCell_same _ _ _ c0
    · intro e; injection e with _ e; omega
  · exact World.cell?_setCell_same _ _ _ d1
  · simp [World.frozen?, hn]
  · simp [World.frozen?, hn]

set_option maxHeartbeats 4000000 in
set_option maxRecDepth 100000 in
theorem fresh_main (r : Int) (a0 : Option Addr) (len cap : Nat) (N : Nat → Int) (S : Nat → ByteArray) (w : World) (hlen : len ≤ 1024) (hr0 : 0 ≤ r) (hr1 : r ≤ 65535) (hnil : a0 = none → len = 0 ∧ cap = 0) (hA : ArgsOK w a0 len N S) :
    Calls Yba.prog 6 #[.int .u16 r, .slice a0 len cap] w fun e w' => e = .returned (.bool true) ∧ Below w.heap.size w w' := by
  obtain ⟨nr, hnr⟩ : ∃ nr : Nat, r % 300 = (nr : Int) := ⟨(r % 300).toNat, by omega⟩
  have hn3 : nr ≤ 300 := by omega
  have C := hide (vals a0 len cap N S w hlen hnil hA)
  have HA := hide hA
  have d1 : decide ((1024 : Int) < (len : Int)) = false := decide_eq_false (by omega)
  clear hnil hA
  go_enter Yba.func6, Yba.ntmps6
  go_wp2_with fail
  refine C.out.mono ?_
  rintro e w1 ⟨vo, rfl, hvs, hbel⟩
  clear C
  obtain ⟨mz, z64⟩ := zero64
  have G := hide (newG_any ⟨w1.heap.size + 1, 0, none⟩ w1.heap.size nr len w.heap.size vo N S
    ((w1.alloc (.cells #[.string ⟨#[]⟩, .int .i64 0, .int .i64 0, .int .i64 0, .int .i64 nr, .slice none 0 0, .slice none 0 0] 49)).alloc (.cells mz 64)) hn3 (cell_al (by rw [cell_of_row _ _ _ _ _ _ (heap_alloc_new w1 _)]; rfl) _)
    (by rcases hvs with e | ⟨e1, e2⟩
        · exact .inl e
        · exact .inr ⟨e1, (e2.alloc _).alloc _⟩))
  have hb2 : Below w.heap.size w ((w1.alloc (.cells #[.string ⟨#[]⟩, .int .i64 0, .int .i64 0, .int .i64 0, .int .i64 nr, .slice none 0 0, .slice none 0 0] 49)).alloc (.cells mz 64)) := (hbel.alloc hbel.size _).alloc (by have := hbel.size; simp; omega) _
  have hsz := hbel.size
  have hVlt : vo ≠ none → w.heap.size < w1.heap.size := fun h => by
    rcases hvs with ⟨e, _⟩ | ⟨_, e2⟩
    · exact absurd e h
    · exact e2.lt
  have G' := hide (show Calls Yba.prog 11 #[.pointer (some ⟨w1.heap.size + 1, 0, none⟩), .pointer (some ⟨w1.heap.size, 0, none⟩), .slice vo len len] ((w1.alloc (.cells #[.string ⟨#[]⟩, .int .i64 0, .int .i64 0, .int .i64 0, .int .i64 nr, .slice none 0 0, .slice none 0 0] 49)).alloc (.cells mz 64))
      fun e w3 => e = .returned (.pointer (some ⟨w1.heap.size + 2 + 2, 0, none⟩)) ∧ Sh w.heap.size w.heap.size (w1.heap.size + 2) nr len vo ⟨w1.heap.size + 1, 0, none⟩ w1.heap.size N S w w3 from
    G.out.mono fun e w3 ⟨he, hg, hgr⟩ => by
      simp only [World.size_alloc] at he hg
      refine ⟨he, hg, ?_, hb2.grown hgr (by simp; omega) (fun q h => by cases h), by omega⟩
      rcases hvs with e | ⟨e1, e2⟩
      · exact .inl e
      · exact .inr ⟨e1, ((e2.alloc _).alloc _).of_block (hgr.block _ ((e2.alloc _).alloc _).lt (by simp))⟩)
  have HV := hide hVlt
  clear G hvs hbel hb2 hVlt
  go_wp2_with fail
  refine G'.out.mono ?_
  rintro e w3 ⟨rfl, hsh⟩
  clear G' z64
  have gc8 : w3.cell? ⟨w1.heap.size + 2 + 2, 8, none⟩ = some (.slice (some ⟨w1.heap.size + 2, 0, none⟩) nr nr) := (g_cell hsh.gok.g).trans rfl
  go_wp2
  clear gc8
  go_loopw [10] (fun i wr => ∃ k : Nat, k ≤ len ∧ i = .int .i64 k ∧ Fr w.heap.size (w1.heap.size + 2) nr len ⟨w1.heap.size + 1, 0, none⟩ w1.heap.size N S w wr ∧ Vrow w.heap.size len vo wr) (fun i _ => len - (intOf i).toNat)
  case atStart => exact ⟨0, Nat.zero_le _, rfl, hsh.fr, hsh.vrow⟩
  case round =>
    clear hsh
    obtain ⟨k, hk, rfl, hfr, hvr⟩ := hrel
    by_cases hlt : k < len
    · obtain ⟨hvo, ⟨z, c0⟩, ⟨u, c1⟩, f0, f1⟩ := hvr.cells hlt
      have hV := HV.out (by rw [hvo]; simp)
      have st1 : ∀ x, (wr.setCell ⟨w.heap.size, k * 2, none⟩ x).cell? ⟨w.heap.size, k * 2 + 1, none⟩ = some u := fun x => by
        rw [World.cell?_setCell_other]
        · exact c1
        · intro e; injection e with _ e; omega
      have step : ∀ x, Fr w.heap.size (w1.heap.size + 2) nr len ⟨w1.heap.size + 1, 0, none⟩ w1.heap.size N S w ((wr.setCell ⟨w.heap.size, k * 2, none⟩ (.int .u64 x)).setCell ⟨w.heap.size, k * 2 + 1, none⟩ .nilIface) ∧ Vrow w.heap.size len vo ((wr.setCell ⟨w.heap.size, k * 2, none⟩ (.int .u64 x)).setCell ⟨w.heap.size, k * 2 + 1, none⟩ .nilIface) := fun x =>
        ⟨(hfr.set (by simp) (by simp; omega) (by simp; omega) (by simp; omega) _).set (by simp) (by simp; omega) (by simp; omega) (by simp; omega) _, hvr.set k x⟩
      have ST := hide step
      clear step hfr hvr
      subst hvo
      go_wp2
      go_roundw
      case rel => exact ⟨k + 1, by omega, by go_num, (ST.out _).1, (ST.out _).2⟩
      case measure => simp [intOf]; omega
    · go_wp2
      clear hvr HV
      obtain ⟨wq, hwq⟩ : ∃ wq : World, wq = wr := ⟨_, rfl⟩
      rw [← hwq] at hfr ⊢
      clear hwq
      go_loopw [11] (fun i wo => ∃ k : Nat, k ≤ nr ∧ i = .int .i64 k ∧ Fr w.heap.size (w1.heap.size + 2) nr len ⟨w1.heap.size + 1, 0, none⟩ w1.heap.size N S w wo) (fun i _ => nr - (intOf i).toNat)
      case atStart => exact ⟨0, Nat.zero_le _, rfl, hfr⟩
      case round =>
        clear hfr hk hlt
        obtain ⟨j, hj, rfl, hfr⟩ := hrel
        by_cases hlt : j < nr
        · have ij : (j : Int) < (nr : Int) := by omega
          by_cases hkl : j < len
          · obtain ⟨b, off, ha0, hb, hN, hS⟩ : ∃ b off, a0 = some ⟨b, off, none⟩ ∧ b < w.heap.size ∧ (∀ i, i < len → w.cell? ⟨b, off + i * 2, none⟩ = some (.int .u64 (N i))) ∧ ∀ i, i < len → w.cell? ⟨b, off + i * 2 + 1, none⟩ = some (.string (S i)) := by
              rcases HA.out with h | h
              · omega
              · exact h
            clear HA
            have n0 := fun o => cell_al ((hfr.bel.cell (p := ⟨b, off + j * 2, none⟩) hb).trans (hN j hkl)) o
            have s0 := fun o => cell_al ((hfr.bel.cell (p := ⟨b, off + j * 2 + 1, none⟩) hb).trans (hS j hkl)) o
            clear hN hS
            subst ha0
            by_cases he : (S j).toList.isEmpty = true
            · have V := val_any (N j) (S j) (wr.alloc (.cells #[.int .u64 0, .nilIface] 79))
              have er : rv (S j) = .nilIface := by rw [rv, if_pos he]
              rw [er] at V
              have ER := hide er
              have V' := hide V
              clear V er he
              go_wp2_with fail
              refine V'.out.mono ?_
              rintro e w2 ⟨rfl, hb2⟩
              clear V' n0 s0
              obtain ⟨hfrX, x0, x1, q0, q1, g0, g1⟩ := want_set hfr hb2 (.int .u64 (N j)) (.nilIface)
              have rc := hfrX.gok.reg_lt hlt hkl
              rw [ER.out] at rc
              have rc0 := rc.1
              have rc1 := rc.2
              have gX : ((w2.setCell ⟨wr.heap.size, 0, none⟩ (.int .u64 (N j))).setCell ⟨wr.heap.size, 1, none⟩ (.nilIface)).cell? ⟨w1.heap.size + 2 + 2, 8, none⟩ = some (.slice (some ⟨w1.heap.size + 2, 0, none⟩) nr nr) := (g_cell hfrX.gok.g).trans rfl
              have pe := neq79n
              clear rc ER hfr hb2
              go_wp2
              go_quiet (fail)
              go_wp2
              go_roundw
              case rel => exact ⟨j + 1, by omega, by go_num, hfrX.later (below_drewN' (Below.refl _ _) _)⟩
              case measure => simp [intOf]; omega
            · have V := val_any (N j) (S j) (wr.alloc (.cells #[.int .u64 0, .nilIface] 79))
              have er : rv (S j) = .iface 9 (.string (S j)) := by rw [rv, if_neg he]
              rw [er] at V
              have ER := hide er
              have V' := hide V
              clear V er he
              go_wp2_with fail
              refine V'.out.mono ?_
              rintro e w2 ⟨rfl, hb2⟩
              clear V' n0 s0
              obtain ⟨hfrX, x0, x1, q0, q1, g0, g1⟩ := want_set hfr hb2 (.int .u64 (N j)) (.iface 9 (.string (S j)))
              have rc := hfrX.gok.reg_lt hlt hkl
              rw [ER.out] at rc
              have rc0 := rc.1
              have rc1 := rc.2
              have gX : ((w2.setCell ⟨wr.heap.size, 0, none⟩ (.int .u64 (N j))).setCell ⟨wr.heap.size, 1, none⟩ (.iface 9 (.string (S j)))).cell? ⟨w1.heap.size + 2 + 2, 8, none⟩ = some (.slice (some ⟨w1.heap.size + 2, 0, none⟩) nr nr) := (g_cell hfrX.gok.g).trans rfl
              have pe := neq79s
              clear rc ER hfr hb2
              go_wp2
              go_quiet (fail)
              go_wp2
              go_roundw
              case rel => exact ⟨j + 1, by omega, by go_num, hfrX.later (below_drewN' (Below.refl _ _) _)⟩
              case measure => simp [intOf]; omega
          · have rc := hfr.gok.reg_ge hlt hkl
            have rc0 := fun o => cell_al rc.1 o
            have rc1 := fun o => cell_al rc.2 o
            have gc8 : ∀ o, (wr.alloc o).cell? ⟨w1.heap.size + 2 + 2, 8, none⟩ = some (.slice (some ⟨w1.heap.size + 2, 0, none⟩) nr nr) := fun o => cell_al ((g_cell hfr.gok.g).trans rfl) o
            clear rc HA
            have pe := neq79n
            go_wp2
            go_quiet (fail)
            go_wp2
            go_roundw
            case rel => exact ⟨j + 1, by omega, by go_num, hfr.later (below_drewN' ((Below.refl _ _).alloc (Nat.le_refl _) _) _)⟩
            case measure => simp [intOf]; omega
        · go_wp2
          go_ret
          exact ⟨rfl, hfr.bel⟩
end Go.Proofs.Ybulkhq.Vals
