/-
  'Rows.LawS0015CExactSaid' proved: the frame as the seat's shell has it; the walk by the contracts of YbulkhcLead.
-/
import Derived.Test.YbulkhcRows
import Derived.WalkKit
import Derived.ProofKit
import Derived.OpenShut
import Derived.ShutString
import Derived.Test.YbulkhcLead
namespace Go.Proofs.Ybulkhc.lawS0015CExact
open Go.Proofs.Ybulkhc.Lead
open Go.ChangeShapes Go.WideShapes Go.ChangeAt Go.RowKit
open Go.ChangeMaps (open_string shut_string)
set_option linter.unusedVariables false      -- a walk need not use every 'w<i>' (that an integer argument fits its kind)

theorem own : ownKnob Yba.prog.godebug = none := by kernel_rfl

/-! ### STEP 1: THE WALK: the Go text returns true. 'Grown w w'': the world has at most new blocks (Derived/RowKit3.lean). Part the cases AHEAD of 'go_enter' where a test parts the walk; take each callee by a contract of your own. -/
theorem walk (a0 : ByteArray) (w0 : a0.size ≤ maxLen) (w : World) :
    Calls Yba.prog 5 #[.string a0] w fun e w' => e = .returned (.bool true) ∧ Grown w w' := by
  unfold maxLen at w0
  by_cases hb : 4096 < a0.size
  · have hb' : (4096 : Int) < (a0.size : Int) := by omega
    go_enter Yba.func5, Yba.ntmps5
    go_wp2
    go_ret
    exact ⟨rfl, Grown.refl _⟩
  · have hle := ld_le a0.data.toList
    have hsz : a0.data.toList.length = a0.size := by simp
    rw [hsz] at hle
    clear hsz
    have hbef := ld_before a0
    have hat := ld_at a0
    have hc := lead_any a0 w (by unfold maxLen; omega)
    obtain ⟨n, hn⟩ : ∃ n, n = ld a0.data.toList := ⟨_, rfl⟩
    have hat' : Hid (∀ hs : n < a0.size, (a0[n].toNat : Int) < 48 ∨ 57 < (a0[n].toNat : Int)) := hat n hn
    rw [← hn] at hle hc hbef
    have hbef' : Hid (∀ (j : Nat) (_ : j < n) (hs : j < a0.size), 48 ≤ (a0[j].toNat : Int) ∧ (a0[j].toNat : Int) ≤ 57) := hbef
    have HC := hc
    clear hc hn hbef hat
    have d1 : decide ((n : Int) < 0) = false := decide_eq_false (by omega)
    have d2 : decide (a0.size < n) = false := decide_eq_false (by omega)
    go_enter Yba.func5, Yba.ntmps5
    go_wp2_with fail
    refine HC.mono ?_
    rintro e w' ⟨rfl, rfl⟩
    clear HC
    go_wp2_with fail
    go_loop [4] (fun i => ∃ k : Nat, k ≤ n ∧ i = .int .i64 k) (fun i => n - (intOf i).toNat)
    case atStart => exact ⟨0, Nat.zero_le _, rfl⟩
    case round =>
      obtain ⟨k, hk, rfl⟩ := hrel
      by_cases hlt : k < n
      · have hks : k < a0.size := by omega
        have hd := hbef'.out k hlt hks
        go_wp2_with (go_at_call 11; refine (digit_yes _ (by omega) (by omega) _).mono ?_; rintro e w' ⟨rfl, rfl⟩)
        go_round
        case rel => exact ⟨k + 1, by omega, by go_num⟩
        case measure => simp [intOf]; omega
      · by_cases hns : n < a0.size
        · have hd := hat'.out hns
          go_wp2_with (go_at_call 11; refine (digit_no _ (by omega) _).mono ?_; rintro e w' ⟨rfl, rfl⟩)
          go_ret
          exact ⟨rfl, Grown.refl _⟩
        · go_wp2
          go_ret
          exact ⟨rfl, Grown.refl _⟩

/-! ### THE ROW's STEP: WRITTEN OUT: LEAVE IT -/
set_option maxRecDepth 100000 in
theorem lifted (os : Os) (started : os.Started) (H : Type) (enc : TypeId × Value → H) :
    ReturnsInHanded {} Yba.checked os 5 .any (Rows.lawS0015CExactSpec.pre6 enc Yba.prog Yba.f5 Rows.lawS0015CExactRow.domain false) (Rows.lawS0015CExactSpec.post enc Yba.prog Yba.f5 false true false false) := by
  refine returnsInHanded_of_change (C := Yba.checked) own started (by kernel_rfl) Yba.func5
    (ChangeSpec.witness6 (enc := enc) (C := Yba.checked) false ⟨#[], #[.string ByteArray.empty], []⟩ 8 (by kernel_rfl) (by kernel_rfl) (by kernel_rfl) (by kernel_rfl)) ?_
  intro W base args ds gs before hval0 hW hcnd _
  have hval : ∀ (j : Nat) t v, Yba.f5.params[j]? = some t → args[j]? = some v → Value.okWide Yba.prog W .any base t v := hval0
  have hW' := hW
  obtain ⟨p, q, hA0, hV, rfl, hfz, hnd⟩ := hW
  have hA : DataW.TrodAll enc Yba.prog W 0 (fun _ => true) true Yba.f5.params.toList args.toList ds p := hA0
  rw [Yba.params5] at hA hval
  obtain ⟨v0, vs0, d0, ds0, p0, q0, hargs, rfl, rfl, h0, r0⟩ := trodAll_cons hA
  obtain ⟨rfl, rfl, rfl⟩ := trodAll_nil r0
  obtain rfl : args = #[v0] := by cases args; simp_all
  obtain ⟨rfl, rfl⟩ := trodVars_none hV
  obtain ⟨a0, rfl, rfl, rfl, w0⟩ := open_string Yba.underlying9 (hval 0 9 v0 rfl rfl) h0
  clear hA0 hval0
  simp only [List.append_nil] at hW'
  refine (walk a0 w0 W).mono fun e W' ⟨he, hg⟩ => ?_
  subst he
  exact ⟨_, rfl, post_of_same (pa := []) (pv := []) hW' (fun _ _ _ => (trodAll_cons_mk (shut_bool Yba.underlying4 _) trodAll_mk0)) (fun sp _ => (trodAll_cons_mk (shut_string Yba.underlying9 w0) trodAll_mk0)) (fun _ _ => rfl) rfl
    (hg.frame _) hg.2.1 (ok_one (by kernel_rfl) rfl (okWide_bool_mk Yba.underlying4 _))⟩

theorem over : Rows.lawS0015CExactRow.holds Yba.pinned (OpenSpec.ofChange Rows.lawS0015CExactSpec) :=
  OpenClaim.holds_of_wide 5 Yba.f5 rfl rfl rfl rfl rfl rfl rfl ⟨rfl, rfl, rfl, rfl, rfl⟩ rfl rfl rfl rfl rfl (by kernel_rfl) Yba.func5 (by kernel_rfl)
    (of_decide_eq_true (by kernel_rfl)) (by unfold Func.isWrapper; first | (rw [if_pos (by decide +kernel)]; kernel_rfl) | (rw [if_neg (by decide +kernel)]; exact ⟨rfl, rfl⟩))
    (fun os started H enc _ => lifted os started H enc)

/-- ████ THE STATEMENT ████ -/
theorem proved : Rows.LawS0015CExactSaid :=
  over
#print axioms proved
end Go.Proofs.Ybulkhc.lawS0015CExact
