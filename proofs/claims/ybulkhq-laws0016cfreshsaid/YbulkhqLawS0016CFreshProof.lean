/-
  'Rows.LawS0016CFreshSaid' proved: the frame after the seat's shells (no shell was given for this law); the walk by YbulkhqFresh.
-/
import Derived.Test.YbulkhqRows
import Derived.WalkKit
import Derived.ProofKit
import Derived.OpenShut
import Derived.ShutString
import Derived.ChangeOld
import Derived.Below
import Derived.Test.YbulkhqArgs
import Derived.Test.YbulkhqFresh
namespace Go.Proofs.Ybulkhq.lawS0016CFresh
open Go.ChangeShapes Go.WideShapes Go.ChangeAt Go.RowKit
open Go.ChangeMaps (open_string shut_string)
open Go.Proofs.Ybulkhq.Vals (ArgsOK)
set_option linter.unusedVariables false

theorem own : ownKnob Yba.prog.godebug = none := by kernel_rfl
theorem laidOut : laidOutB Yba.prog = true := by kernel_rfl

theorem walk (a0 : Int) (a1 : Option Addr) (len1 cap1 : Nat) (N : Nat → Int) (S : Nat → ByteArray) (w : World) (w0 : (Lit.int .u16 a0).wf = true) (hnil : a1 = none → len1 = 0 ∧ cap1 = 0) (hargs : ArgsOK w a1 len1 N S) :
    Calls Yba.prog 6 #[.int .u16 a0, .slice a1 len1 cap1] w fun e w' => e = .returned (.bool true) ∧ Below w.heap.size w w' := by
  have hb0 := bounds_u16 w0
  by_cases g0 : 1024 < len1
  · exact (Vals.fresh_long a0 a1 len1 cap1 w g0).mono fun e w' ⟨he, hw⟩ => ⟨he, by subst hw; exact Below.refl _ _⟩
  · exact Vals.fresh_main a0 a1 len1 cap1 N S w (by omega) hb0.1 hb0.2 hnil hargs


set_option maxRecDepth 100000 in
theorem lifted (os : Os) (started : os.Started) (H : Type) (enc : TypeId × Value → H) :
    ReturnsInHanded {} Yba.checked os 6 .any (Rows.lawS0016CFreshSpec.pre6 enc Yba.prog Yba.f6 Rows.lawS0016CFreshRow.domain false) (Rows.lawS0016CFreshSpec.post enc Yba.prog Yba.f6 false true false false) := by
  refine returnsInHanded_of_change (C := Yba.checked) own started (by kernel_rfl) Yba.func6
    (ChangeSpec.witness6 (enc := enc) (C := Yba.checked) false ⟨#[], #[.int .u16 0, .slice none 0 0], []⟩ 8 (by kernel_rfl) (by kernel_rfl) (by kernel_rfl) (by kernel_rfl)) ?_
  intro W base args ds gs before hval0 hW hcnd _
  have hval : ∀ (j : Nat) t v, Yba.f6.params[j]? = some t → args[j]? = some v → Value.okWide Yba.prog W .any base t v := hval0
  have hW' := hW
  obtain ⟨p, q, hA0, hV, rfl, hfz, hnd⟩ := hW
  have hA : DataW.TrodAll enc Yba.prog W 0 (fun _ => true) true Yba.f6.params.toList args.toList ds p := hA0
  rw [Yba.params6] at hA hval
  obtain ⟨v0, vs0, d0, ds0, p0, q0, hargs, rfl, rfl, h0, r0⟩ := trodAll_cons hA
  obtain ⟨v1, vs1, d1, ds1, p1, q1, rfl, rfl, rfl, h1, r1⟩ := trodAll_cons r0
  obtain ⟨rfl, rfl, rfl⟩ := trodAll_nil r1
  obtain rfl : args = #[v0, v1] := by cases args; simp_all
  obtain ⟨rfl, rfl⟩ := trodVars_none hV
  obtain ⟨a0, rfl, rfl, rfl, w0⟩ := open_int Yba.underlying41 (hval 0 41 v0 rfl rfl) h0
  obtain ⟨a1, len1, cap1, rfl⟩ := okWide_slice Yba.underlying42 (hval 1 42 v1 rfl rfl)
  have k1 := h1
  have lt1 : ∀ x ∈ p1, x.block < W.heap.size := by obtain ⟨m, hm⟩ := k1; exact DataW.trod_lt m _ _ _ hm
  obtain ⟨hnil, N, S, hargsok⟩ : (a1 = none → len1 = 0 ∧ cap1 = 0) ∧ ∃ N S, ArgsOK W a1 len1 N S := by
    obtain ⟨fuel, hf⟩ := h1
    exact Vals.open_args (by simpa [Value.cells] using hf)
  clear hA0 hval0
  refine (walk a0 a1 len1 cap1 N S W w0 hnil hargsok).mono fun e W' ⟨he, bel⟩ => ?_
  subst he
  exact ⟨_, rfl, _, _, _, [], _, [], hW', trodAll_mk1 (shut_bool Yba.underlying4 _), (trodAll_cons_mk (shut_int Yba.underlying41 w0) (trodAll_cons_mk (Below.trod laidOut (by kernel_rfl) (of_decide_eq_true (by kernel_rfl)) k1 bel lt1) trodAll_mk0)), rfl, bel.frame _, fun h => by cases h⟩

theorem over : Rows.lawS0016CFreshRow.holds Yba.pinned (OpenSpec.ofChange Rows.lawS0016CFreshSpec) :=
  OpenClaim.holds_of_wide 6 Yba.f6 rfl rfl rfl rfl rfl rfl rfl ⟨rfl, rfl, rfl, rfl, rfl⟩ rfl rfl rfl rfl rfl (by kernel_rfl) Yba.func6 (by kernel_rfl)
    (of_decide_eq_true (by kernel_rfl)) (by unfold Func.isWrapper; first | (rw [if_pos (by decide +kernel)]; kernel_rfl) | (rw [if_neg (by decide +kernel)]; exact ⟨rfl, rfl⟩))
    (fun os started H enc _ => lifted os started H enc)

/-- The statement. -/
theorem proved : Rows.LawS0016CFreshSaid := over
#print axioms proved
end Go.Proofs.Ybulkhq.lawS0016CFresh
