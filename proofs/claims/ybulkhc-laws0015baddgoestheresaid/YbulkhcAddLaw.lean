/-
  The walk of LawS0015BAddGoesThere.
-/
import Derived.Test.YbulkhcAddSome
namespace Go.Proofs.Ybulkhc.Build
open Go.RowKit

theorem goes_long (a0 : Option Addr) (len cap : Nat) (r : Int) (w : World) (h : 1024 < len) :
    Calls Yba.prog 4 #[.slice a0 len cap, .int .u8 r] w fun e w' => e = .returned (.bool true) ∧ w' = w := by
  have h' : (1024 : Int) < (len : Int) := by omega
  go_enter Yba.func4, Yba.ntmps4
  go_wp2
  go_ret
  exact ⟨rfl, rfl⟩

set_option maxHeartbeats 1000000 in
set_option maxRecDepth 100000 in
theorem goes_none (a0 : Option Addr) (cap : Nat) (zs : List Int) (r : Int) (w : World) (hr0 : 0 ≤ r) (hr1 : r ≤ 255) (hrow : RowOK w a0 0 zs) :
    Calls Yba.prog 4 #[.slice a0 0 cap, .int .u8 r] w fun e w' => e = .returned (.bool true) ∧ Below w.heap.size w w' := by
  have C := hide (build a0 0 cap zs r w (by omega) hr0 hr1 hrow)
  clear hrow
  go_enter Yba.func4, Yba.ntmps4
  go_wp2_with fail
  refine C.out.mono ?_
  rintro e w1 ⟨rl, P, ao, cp, xs, hrl, rfl, hinv, hbel⟩
  clear C
  have hroot := (top_cell2 hinv.top).1
  have A := hide (add_none w.heap.size rl zs P ao cp xs w1 hrl hinv)
  clear hinv
  go_wp2_with fail
  refine A.out.mono ?_
  rintro e w2 ⟨rfl, g, cp1, hc2, hx, hbel2⟩
  clear A hroot
  have hbel3 := hbel.trans hbel2
  clear hbel hbel2
  go_wp2_with fail
  go_loop [8] (fun i => i = .int .i64 0) (fun _ => 0)
  case atStart => rfl
  case round =>
    subst hrel
    go_wp2
    go_ret
    exact ⟨by simp, hbel3⟩

set_option maxHeartbeats 2000000 in
set_option maxRecDepth 100000 in
theorem goes_parent (a0 : Option Addr) (n cap : Nat) (zs : List Int) (r : Int) (w : World) (hn : n < 1024) (hr0 : 0 ≤ r) (hr1 : r ≤ 255) (hrow : RowOK w a0 (n + 1) zs) (hk : zs[n]?.getD 0 % 8 = 3) :
    Calls Yba.prog 4 #[.slice a0 (n + 1) cap, .int .u8 r] w fun e w' => e = .returned (.bool true) ∧ Below w.heap.size w w' := by
  have C := hide (build a0 (n + 1) cap zs r w (by omega) hr0 hr1 hrow)
  have HK := hide hk
  clear hrow hk
  go_enter Yba.func4, Yba.ntmps4
  go_wp2_with fail
  refine C.out.mono ?_
  rintro e w1 ⟨rl, P, ao, cp, xs, hrl, rfl, hinv, hbel⟩
  clear C
  obtain ⟨g, rfl, hg1, hg2, hcells⟩ := hinv.opened (by omega)
  clear hcells
  have hroot := (top_cell2 hinv.top).1
  have A := hide (add_parent w.heap.size rl n zs P g cp xs w1 hn hinv HK.out)
  clear hinv
  go_wp2_with fail
  refine A.out.mono ?_
  rintro e w2 ⟨rfl, ⟨rootc, openc, kindc, nestc, kidc⟩, hbel2⟩
  clear A hroot hg1 hg2
  have hbel3 := hbel.trans hbel2
  have hkn := kindc n (Nat.le_refl _)
  have hkd : ((zs[n]?.getD 0 % 8) != 3) = false := by simpa using HK.out
  generalize zs[n]?.getD 0 % 8 = kd at hkn hkd
  clear hbel hbel2 kindc HK
  go_wp2_with fail
  go_loop [8] (fun i => ∃ k : Nat, k ≤ n + 1 ∧ i = .int .i64 k) (fun i => n + 1 - (intOf i).toNat)
  case atStart => exact ⟨0, Nat.zero_le _, rfl⟩
  case round =>
    obtain ⟨k, hkn1, rfl⟩ := hrel
    by_cases hlt : k < n + 1
    · obtain ⟨c, m, hkid⟩ := kidc k (by omega)
      have hnk := nestc k (by omega)
      clear kidc nestc
      by_cases e : k = n
      · subst e
        rw [if_pos rfl] at hkid
        go_wp2
        go_round
        case rel => exact ⟨k + 1, by omega, by go_num⟩
        case measure => simp [intOf]
      · rw [if_neg e, Nat.add_zero] at hkid
        have hne : ((k : Int) == (n : Int)) = false := by simp; omega
        clear e
        go_wp2
        go_round
        case rel => exact ⟨k + 1, by omega, by go_num⟩
        case measure => simp [intOf]; omega
    · clear kidc nestc
      obtain rfl : k = n + 1 := by omega
      go_wp2
      go_ret
      exact ⟨by simp, hbel3⟩

set_option maxHeartbeats 2000000 in
set_option maxRecDepth 100000 in
theorem goes_child (a0 : Option Addr) (n cap : Nat) (zs : List Int) (r : Int) (w : World) (hn : n < 1024) (hr0 : 0 ≤ r) (hr1 : r ≤ 255) (hrow : RowOK w a0 (n + 1) zs) (hk : ¬ zs[n]?.getD 0 % 8 = 3) :
    Calls Yba.prog 4 #[.slice a0 (n + 1) cap, .int .u8 r] w fun e w' => e = .returned (.bool true) ∧ Below w.heap.size w w' := by
  have C := hide (build a0 (n + 1) cap zs r w (by omega) hr0 hr1 hrow)
  have HK := hide hk
  clear hrow hk
  go_enter Yba.func4, Yba.ntmps4
  go_wp2_with fail
  refine C.out.mono ?_
  rintro e w1 ⟨rl, P, ao, cp, xs, hrl, rfl, hinv, hbel⟩
  clear C
  obtain ⟨g, rfl, hg1, hg2, hcells⟩ := hinv.opened (by omega)
  clear hcells
  have hroot := (top_cell2 hinv.top).1
  have A := hide (add_some w.heap.size rl n zs P g cp xs w1 hn hinv HK.out)
  clear hinv
  go_wp2_with fail
  refine A.out.mono ?_
  rintro e w2 ⟨rfl, ⟨rootc, openc, kindc, nestc, kidc⟩, hbel2⟩
  clear A hroot hg1 hg2
  have hbel3 := hbel.trans hbel2
  have hkn := kindc n (Nat.le_refl _)
  have hkd : ((zs[n]?.getD 0 % 8) != 3) = true := by simpa using HK.out
  generalize zs[n]?.getD 0 % 8 = kd at hkn hkd
  clear hbel hbel2 kindc HK
  go_wp2_with fail
  go_loop [8] (fun i => ∃ k : Nat, k ≤ n + 1 ∧ i = .int .i64 k) (fun i => n + 1 - (intOf i).toNat)
  case atStart => exact ⟨0, Nat.zero_le _, rfl⟩
  case round =>
    obtain ⟨k, hkn1, rfl⟩ := hrel
    by_cases hlt : k < n + 1
    · obtain ⟨c, m, hkid⟩ := kidc k (by omega)
      have hnk := nestc k (by omega)
      clear kidc nestc
      by_cases e : k = n
      · subst e
        rw [if_pos rfl] at hkid
        go_wp2
        go_round
        case rel => exact ⟨k + 1, by omega, by go_num⟩
        case measure => simp [intOf]
      · rw [if_neg e, Nat.add_zero] at hkid
        have hne : ((k : Int) == (n : Int)) = false := by simp; omega
        clear e
        go_wp2
        go_round
        case rel => exact ⟨k + 1, by omega, by go_num⟩
        case measure => simp [intOf]; omega
    · clear kidc nestc
      obtain rfl : k = n + 1 := by omega
      go_wp2
      go_ret
      exact ⟨by simp, hbel3⟩

theorem goes_some (a0 : Option Addr) (n cap : Nat) (zs : List Int) (r : Int) (w : World) (hn : n < 1024) (hr0 : 0 ≤ r) (hr1 : r ≤ 255) (hrow : RowOK w a0 (n + 1) zs) :
    Calls Yba.prog 4 #[.slice a0 (n + 1) cap, .int .u8 r] w fun e w' => e = .returned (.bool true) ∧ Below w.heap.size w w' := by
  by_cases hk : zs[n]?.getD 0 % 8 = 3
  · exact goes_parent a0 n cap zs r w hn hr0 hr1 hrow hk
  · exact goes_child a0 n cap zs r w hn hr0 hr1 hrow hk
end Go.Proofs.Ybulkhc.Build
