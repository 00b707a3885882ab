/-
  The slice of ZzS0016CArg that comes in, opened.
-/
import Derived.Test.YbulkhqVals
import Derived.ProofKit
import Derived.Deep.SlicePairs
namespace Go.Proofs.Ybulkhq.Vals
open Go.ChangeShapes Go.WideShapes Go.ChangeAt Go.RowKit

theorem open_args {H : Type} {enc : TypeId × Value → H} {W : World} {sp : Nat → Bool} {fuel : Nat} {a0 : Option Addr} {len cap : Nat} {x : DataW H × List MemPlace}
    (hf : DataW.trod enc Yba.prog W 0 sp true fuel 42 [.slice a0 len cap] = some x) :
    (a0 = none → len = 0 ∧ cap = 0) ∧ ∃ N S, ArgsOK W a0 len N S := by
  rcases Deep.open_slice_pairs Yba.underlying42 Yba.underlying85 (by kernel_rfl) rfl rfl (by kernel_rfl) (by kernel_rfl) hf with ⟨hcs, _⟩ | ⟨a, l, c, m, n, V0, V1, D0, D1, P0, P1, hcs, _, hl, _, hm, _, hcell⟩
  · simp at hcs
    obtain ⟨rfl, rfl, rfl⟩ := hcs
    exact ⟨fun _ => ⟨rfl, rfl⟩, fun _ => 0, fun _ => ByteArray.empty, .inl rfl⟩
  · simp at hcs
    obtain ⟨rfl, rfl, rfl⟩ := hcs
    refine ⟨(fun h => by cases h), ?_⟩
    have hlm : len ≤ m := by rw [hm]; split <;> omega
    have each : ∀ i, i < len → ∃ q : Int × ByteArray, W.cell? (a.add (i * 2)) = some (.int .u64 q.1) ∧ W.cell? (a.add (i * 2 + 1)) = some (.string q.2) := by
      intro i hi
      obtain ⟨h0, h1, t0, t1⟩ := hcell i (by omega)
      obtain ⟨z, e0, _, _⟩ := DataW.trod_int Yba.underlying34 t0
      obtain ⟨s, e1, _, _⟩ := DataW.trod_string Yba.underlying9 t1
      simp at e0 e1
      exact ⟨(z, s), by rw [h0, e0], by rw [h1, e1]⟩
    by_cases hz : len = 0
    · exact ⟨fun _ => 0, fun _ => ByteArray.empty, .inl hz⟩
    obtain ⟨q, hq⟩ := Deep.choose_lt each
    obtain ⟨b, off, spot⟩ := a
    have h00 := (hq 0 (by omega)).1
    have hspot : spot = none := by simpa [Addr.add] using World.cell?_spot h00
    subst hspot
    refine ⟨fun i => (q i).1, fun i => (q i).2, .inr ⟨b, off, rfl, ?_, fun i hi => ?_, fun i hi => ?_⟩⟩
    · rw [Go.WideShapes.add_plain] at h00
      exact World.block_lt_of_cell? W ⟨b, off + 0 * 2, none⟩ h00
    · rw [← Go.WideShapes.add_plain]; exact (hq i hi).1
    · rw [Nat.add_assoc, ← Go.WideShapes.add_plain]; exact (hq i hi).2
end Go.Proofs.Ybulkhq.Vals
