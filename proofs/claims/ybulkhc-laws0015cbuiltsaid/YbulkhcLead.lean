/-
  leadingDigits and zzs0015cdigit by contracts.
-/
import Derived.Test.YbulkhcRows
import Derived.WalkKit
import Derived.WalkSpells
namespace Go.Proofs.Ybulkhc.Lead
open Go.RowKit

def isD (c : UInt8) : Bool := decide (48 ≤ c.toNat ∧ c.toNat ≤ 57)
def ld (l : List UInt8) : Nat := (l.takeWhile isD).length

theorem isD_true {c : UInt8} (h1 : 48 ≤ c.toNat) (h2 : c.toNat ≤ 57) : isD c = true := by simp [isD, h1, h2]
theorem isD_false {c : UInt8} (h : c.toNat < 48 ∨ 57 < c.toNat) : isD c = false := by simp [isD]; omega
theorem isD_iff {c : UInt8} : isD c = true ↔ 48 ≤ c.toNat ∧ c.toNat ≤ 57 := by simp [isD]

theorem ld_app : ∀ (l r : List UInt8), (∀ c ∈ l, isD c = true) → ld (l ++ r) = l.length + ld r
  | [], r, _ => by simp [ld]
  | c :: l, r, h => by
    have hc : isD c = true := h c (by simp)
    have ih := ld_app l r (fun d hd => h d (by simp [hd]))
    simp only [ld, List.cons_append, List.takeWhile_cons, hc, if_true, List.length_cons] at ih ⊢
    omega
theorem ld_stop (c : UInt8) (r : List UInt8) (h : isD c = false) : ld (c :: r) = 0 := by simp [ld, h]
theorem ld_nil : ld [] = 0 := rfl
theorem ld_le (l : List UInt8) : ld l ≤ l.length := by
  unfold ld
  induction l with
  | nil => simp
  | cons c l ih => rw [List.takeWhile_cons]; split <;> simp <;> omega

theorem take_snoc (s : ByteArray) (k : Nat) (h : k < s.size) : s.data.toList.take (k + 1) = s.data.toList.take k ++ [s[k]] := by
  rw [List.take_succ_eq_append_getElem (by simpa using h)]; rfl
theorem split_at (s : ByteArray) (k : Nat) (h : k < s.size) : s.data.toList = s.data.toList.take k ++ s[k] :: s.data.toList.drop (k + 1) := by
  have := List.take_append_drop (k + 1) s.data.toList
  rw [take_snoc s k h] at this
  simpa using this.symm

theorem len_take (s : ByteArray) (k : Nat) (h : k ≤ s.size) : (s.data.toList.take k).length = k := by
  have : s.data.toList.length = s.size := by simp
  rw [List.length_take]; omega

/-- The first k bytes are digits, the next is none. -/
theorem ld_here (s : ByteArray) (k : Nat) (h : k < s.size) (hall : ∀ c ∈ s.data.toList.take k, isD c = true) (hn : (s[k].toNat : Int) < 48 ∨ 57 < (s[k].toNat : Int)) : ld s.data.toList = k := by
  have hf : isD s[k] = false := isD_false (by omega)
  rw [split_at s k h, ld_app _ _ hall, ld_stop _ _ hf, len_take s k (by omega)]; rfl
theorem ld_whole (s : ByteArray) (k : Nat) (h : k = s.size) (hall : ∀ c ∈ s.data.toList.take k, isD c = true) : ld s.data.toList = s.size := by
  have e : s.data.toList.take k = s.data.toList := List.take_of_length_le (by subst h; simp)
  rw [e] at hall
  have := ld_app s.data.toList [] hall
  rw [List.append_nil] at this
  rw [this, ld_nil]; simp
theorem all_snoc (s : ByteArray) (k : Nat) (h : k < s.size) (hall : ∀ c ∈ s.data.toList.take k, isD c = true) (h1 : 48 ≤ (s[k].toNat : Int)) (h2 : (s[k].toNat : Int) ≤ 57) : ∀ c ∈ s.data.toList.take (k + 1), isD c = true := by
  intro c hc
  rw [take_snoc s k h] at hc
  rcases List.mem_append.1 hc with hc | hc
  · exact hall c hc
  · simp at hc; subst hc; exact isD_true (by omega) (by omega)
theorem ret_int {k : IntKind} {a b : Int} (h : a = b) : Ending.returned (.int k a) = .returned (.int k b) := by rw [h]

set_option maxHeartbeats 400000 in
theorem lead_any (s : ByteArray) (w : World) (hs : s.size ≤ maxLen) :
    Calls Yba.prog 10 #[.string s] w fun e w' => e = .returned (.int .i64 (ld s.data.toList)) ∧ w' = w := by
  unfold maxLen at hs
  go_enter Yba.func10, Yba.ntmps10
  go_wp2
  go_loop [6] (fun i => ∃ k : Nat, k ≤ s.size ∧ i = .int .i64 k ∧ Hid (∀ c ∈ s.data.toList.take k, isD c = true)) (fun i => s.size - (intOf i).toNat)
  case atStart => exact ⟨0, Nat.zero_le _, rfl, by intro c hc; simp at hc⟩
  case round =>
    obtain ⟨k, hk, rfl, hall⟩ := hrel
    by_cases hlt : k < s.size
    · by_cases h1 : (s[k].toNat : Int) < 48
      · go_wp2
        go_ret
        exact ⟨ret_int (by rw [ld_here s k hlt hall.out (.inl h1)]), rfl⟩
      · by_cases h2 : 57 < (s[k].toNat : Int)
        · go_wp2
          go_ret
          exact ⟨ret_int (by rw [ld_here s k hlt hall.out (.inr h2)]), rfl⟩
        · go_wp2
          go_round
          case rel => exact ⟨k + 1, by omega, by go_num, all_snoc s k hlt hall.out (by omega) (by omega)⟩
          case measure => simp [intOf]; omega
    · go_wp2
      go_ret
      exact ⟨ret_int (by rw [ld_whole s k (by omega) hall.out]), rfl⟩

theorem digit_yes (c : Int) (h1 : 48 ≤ c) (h2 : c ≤ 57) (w : World) :
    Calls Yba.prog 11 #[.int .u8 c] w fun e w' => e = .returned (.bool true) ∧ w' = w := by
  go_enter Yba.func11, Yba.ntmps11
  go_wp2
  go_ret
  exact ⟨rfl, rfl⟩
theorem digit_no (c : Int) (h : c < 48 ∨ 57 < c) (w : World) :
    Calls Yba.prog 11 #[.int .u8 c] w fun e w' => e = .returned (.bool false) ∧ w' = w := by
  by_cases h1 : 48 ≤ c
  · have h2 : decide (c ≤ 57) = false := decide_eq_false (by omega)
    go_enter Yba.func11, Yba.ntmps11
    go_wp2
    go_ret
    exact ⟨rfl, rfl⟩
  · go_enter Yba.func11, Yba.ntmps11
    go_wp2
    go_ret
    exact ⟨rfl, rfl⟩

theorem mem_tw {p : UInt8 → Bool} : ∀ {l : List UInt8} {c : UInt8}, c ∈ l.takeWhile p → p c = true
  | [], _, h => by simp at h
  | d :: l, c, h => by
    rw [List.takeWhile_cons] at h
    split at h
    · rcases List.mem_cons.1 h with rfl | h
      · assumption
      · exact mem_tw h
    · simp at h
/-- What 'ld' says of the bytes of a string, by index. -/
theorem ld_before (s : ByteArray) (j : Nat) (h : j < ld s.data.toList) (hs : j < s.size) : 48 ≤ (s[j].toNat : Int) ∧ (s[j].toNat : Int) ≤ 57 := by
  have hm : s[j] ∈ s.data.toList.takeWhile isD := by
    have hp : s.data.toList.takeWhile isD <+: s.data.toList := List.takeWhile_prefix _
    have e := hp.getElem (i := j) h
    have e2 : s.data.toList[j]'(by simpa using hs) = s[j] := rfl
    rw [← e2, ← e]
    exact List.getElem_mem _
  have hd := mem_tw hm
  have := isD_iff.1 hd
  omega
theorem ld_at (s : ByteArray) (n : Nat) (hn : n = ld s.data.toList) (hs : n < s.size) : (s[n].toNat : Int) < 48 ∨ 57 < (s[n].toNat : Int) := by
  have hall : ∀ c ∈ s.data.toList.take n, isD c = true := by
    intro c hc
    obtain ⟨j, hj, rfl⟩ := List.mem_iff_getElem.1 hc
    have hl := len_take s n (by omega)
    have := ld_before s j (by omega) (by omega)
    rw [List.getElem_take]
    have e2 : s.data.toList[j]'(by simp; omega) = s[j]'(by omega) := rfl
    rw [e2]
    exact isD_true (by omega) (by omega)
  by_cases h : isD s[n] = true
  · exfalso
    have e := split_at s n hs
    have h1 := ld_app (s.data.toList.take n) (s[n] :: s.data.toList.drop (n + 1)) hall
    rw [← e, len_take s n (by omega)] at h1
    have h2 : ld (s[n] :: s.data.toList.drop (n + 1)) = 0 := by omega
    simp [ld, h] at h2
  · have h' : ¬ (48 ≤ s[n].toNat ∧ s[n].toNat ≤ 57) := fun k => h (isD_iff.2 k)
    omega
end Go.Proofs.Ybulkhc.Lead
