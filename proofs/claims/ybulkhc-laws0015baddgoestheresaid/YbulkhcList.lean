/-
  (*builder).list by contracts.
-/
import Derived.Test.YbulkhcBuild
import Derived.BigRegion
namespace Go.Proofs.Ybulkhc.Build
open Go.RowKit

/-- No tag is open: the root's list. -/
theorem list_none (B : Nat) (ao : Option Addr) (cp : Nat) (w : World) (hc : w.cell? ⟨B, 3, none⟩ = some (.slice ao 0 cp)) :
    Calls Yba.prog 8 #[.pointer (some ⟨B, 0, none⟩)] w fun e w' => e = .returned (.pointer (some ⟨B, 2, none⟩)) ∧ w' = w := by
  go_enter Yba.func8, Yba.ntmps8
  go_wp2
  go_ret
  exact ⟨rfl, rfl⟩

set_option maxHeartbeats 1000000 in
theorem list_some (B g n cp p : Nat) (kd : Int) (w : World) (hn : n < 1024) (hc : w.cell? ⟨B, 3, none⟩ = some (.slice (some ⟨g, 0, none⟩) (n + 1) cp))
    (ht : ∀ j, j < 8 → w.cell? ⟨g, n * 10 + j, none⟩ = (tag kd n p)[j]?) (hk : (kd != 3) = true) :
    Calls Yba.prog 8 #[.pointer (some ⟨B, 0, none⟩)] w fun e w' => e = .returned (.pointer (some ⟨p, 3, none⟩)) ∧ ∃ o, w' = (w.alloc o).drew := by
  have t0 : w.cell? ⟨g, n * 10, none⟩ = some (.int .u8 kd) := by simpa [tag] using ht 0 (by omega)
  have t1 : w.cell? ⟨g, n * 10 + 1, none⟩ = some (.bool false) := by simpa [tag] using ht 1 (by omega)
  have t2 : w.cell? ⟨g, n * 10 + 2, none⟩ = some (.bool false) := by simpa [tag] using ht 2 (by omega)
  have t3 : w.cell? ⟨g, n * 10 + 3, none⟩ = some (.bool false) := by simpa [tag] using ht 3 (by omega)
  have t4 : w.cell? ⟨g, n * 10 + 4, none⟩ = some (.string ⟨#[]⟩) := by simpa [tag] using ht 4 (by omega)
  have t5 : w.cell? ⟨g, n * 10 + 5, none⟩ = some (.slice none 0 0) := by simpa [tag] using ht 5 (by omega)
  have t6 : w.cell? ⟨g, n * 10 + 6, none⟩ = some (.int .i64 n) := by simpa [tag] using ht 6 (by omega)
  have t7 : w.cell? ⟨g, n * 10 + 7, none⟩ = some (.pointer (some ⟨p, 0, none⟩)) := by simpa [tag] using ht 7 (by omega)
  clear ht
  have wn : IntKind.i64.wrap (n : Int) = n := by rw [IntKind.wrap_i64]; omega
  have hcA : ∀ o, (w.alloc o).cell? ⟨B, 3, none⟩ = some (.slice (some ⟨g, 0, none⟩) (n + 1) cp) := fun o => cell_al hc o
  have t0A := fun o => cell_al t0 o
  have t1A := fun o => cell_al t1 o
  have t2A := fun o => cell_al t2 o
  have t3A := fun o => cell_al t3 o
  have t4A := fun o => cell_al t4 o
  have t5A := fun o => cell_al t5 o
  have t6A := fun o => cell_al t6 o
  have t7A := fun o => cell_al t7 o
  go_enter Yba.func8, Yba.ntmps8
  go_wp2
  go_region
  go_wp2
  go_ret
  exact ⟨rfl, _, rfl⟩

set_option maxHeartbeats 1000000 in
theorem list_parent (B g n cp p : Nat) (kd : Int) (w : World) (hn : n < 1024) (hc : w.cell? ⟨B, 3, none⟩ = some (.slice (some ⟨g, 0, none⟩) (n + 1) cp))
    (ht : ∀ j, j < 8 → w.cell? ⟨g, n * 10 + j, none⟩ = (tag kd n p)[j]?) (hk : (kd != 3) = false) :
    Calls Yba.prog 8 #[.pointer (some ⟨B, 0, none⟩)] w fun e w' => e = .returned (.pointer none) ∧ ∃ o, w' = (w.alloc o).drew := by
  have t0 : w.cell? ⟨g, n * 10, none⟩ = some (.int .u8 kd) := by simpa [tag] using ht 0 (by omega)
  have t1 : w.cell? ⟨g, n * 10 + 1, none⟩ = some (.bool false) := by simpa [tag] using ht 1 (by omega)
  have t2 : w.cell? ⟨g, n * 10 + 2, none⟩ = some (.bool false) := by simpa [tag] using ht 2 (by omega)
  have t3 : w.cell? ⟨g, n * 10 + 3, none⟩ = some (.bool false) := by simpa [tag] using ht 3 (by omega)
  have t4 : w.cell? ⟨g, n * 10 + 4, none⟩ = some (.string ⟨#[]⟩) := by simpa [tag] using ht 4 (by omega)
  have t5 : w.cell? ⟨g, n * 10 + 5, none⟩ = some (.slice none 0 0) := by simpa [tag] using ht 5 (by omega)
  have t6 : w.cell? ⟨g, n * 10 + 6, none⟩ = some (.int .i64 n) := by simpa [tag] using ht 6 (by omega)
  have t7 : w.cell? ⟨g, n * 10 + 7, none⟩ = some (.pointer (some ⟨p, 0, none⟩)) := by simpa [tag] using ht 7 (by omega)
  clear ht
  have wn : IntKind.i64.wrap (n : Int) = n := by rw [IntKind.wrap_i64]; omega
  have hcA : ∀ o, (w.alloc o).cell? ⟨B, 3, none⟩ = some (.slice (some ⟨g, 0, none⟩) (n + 1) cp) := fun o => cell_al hc o
  have t0A := fun o => cell_al t0 o
  have t1A := fun o => cell_al t1 o
  have t2A := fun o => cell_al t2 o
  have t3A := fun o => cell_al t3 o
  have t4A := fun o => cell_al t4 o
  have t5A := fun o => cell_al t5 o
  have t6A := fun o => cell_al t6 o
  have t7A := fun o => cell_al t7 o
  go_enter Yba.func8, Yba.ntmps8
  go_wp2
  go_region
  go_wp2
  go_ret
  exact ⟨rfl, _, rfl⟩
end Go.Proofs.Ybulkhc.Build
