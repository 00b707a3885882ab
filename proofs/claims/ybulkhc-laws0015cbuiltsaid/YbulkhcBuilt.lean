/-
  The walk of LawS0015CBuilt.
-/
import Derived.Test.YbulkhcLead
import Derived.Room.AppendFits
import Derived.Laws.BytesArg
namespace Go.Proofs.Ybulkhc.Built
open Go.RowKit Go.Proofs.Ybulkhc.Lead

theorem info5 : (Yba.prog.info? 5).map (fun i => (i.zero, i.size, i.bytes)) = some (some (.int .u8 0), 1, 1) := by kernel_rfl

def dg (z : Int) : Int := 48 + z % 10
def D (zs : List Int) (k : Nat) : List Value := ((zs.take k).map dg).map (Value.int .u8)
def nd : ByteArray := ⟨#[47, 58, 97, 45, 46, 32, 120]⟩
theorem idx (a1 : Int) : ∃ c : Int, 0 ≤ c ∧ c ≤ 255 ∧ (c < 48 ∨ 57 < c) ∧ ∀ w, (Instr.index 9 (.string ⟨#[47, 58, 97, 45, 46, 32, 120]⟩) (.int .i64 (a1 % 7))).run Yba.prog w = .ok (.int .u8 c) w := by
  have : a1 % 7 = 0 ∨ a1 % 7 = 1 ∨ a1 % 7 = 2 ∨ a1 % 7 = 3 ∨ a1 % 7 = 4 ∨ a1 % 7 = 5 ∨ a1 % 7 = 6 := by omega
  rcases this with h | h | h | h | h | h | h <;> rw [h]
  · exact ⟨47, by omega, by omega, by omega, fun _ => by kernel_rfl⟩
  · exact ⟨58, by omega, by omega, by omega, fun _ => by kernel_rfl⟩
  · exact ⟨97, by omega, by omega, by omega, fun _ => by kernel_rfl⟩
  · exact ⟨45, by omega, by omega, by omega, fun _ => by kernel_rfl⟩
  · exact ⟨46, by omega, by omega, by omega, fun _ => by kernel_rfl⟩
  · exact ⟨32, by omega, by omega, by omega, fun _ => by kernel_rfl⟩
  · exact ⟨120, by omega, by omega, by omega, fun _ => by kernel_rfl⟩
theorem D_snoc (zs : List Int) (k : Nat) (h : k < zs.length) : D zs (k + 1) = D zs k ++ [.int .u8 (48 + zs[k]?.getD 0 % 10)] := by
  unfold D
  rw [List.take_succ_eq_append_getElem h, List.map_append, List.map_append]
  congr 1
  simp [dg, h]
theorem D_zero (zs : List Int) : D zs 0 = [] := by simp [D]

def nums (zs : List Int) (k : Nat) (c : Int) (tl : ByteArray) : List Int := (zs.take k).map dg ++ (c :: tl.data.toList.map fun x => (x.toNat : Int))
theorem nums_vals (zs : List Int) (k : Nat) (c : Int) (tl : ByteArray) : D zs k ++ (.int .u8 c :: Lib.strCells tl) = (nums zs k c tl).map (Value.int .u8) := by
  unfold D nums Lib.strCells
  simp
theorem nums_len (zs : List Int) (k : Nat) (c : Int) (tl : ByteArray) (h : k ≤ zs.length) : (nums zs k c tl).length = k + 1 + tl.size := by
  simp [nums, h]; omega
theorem dg_digit {z : Int} : isD (UInt8.ofNat (dg z).toNat) = true := by
  have h1 : 48 ≤ dg z ∧ dg z ≤ 57 := by unfold dg; omega
  refine isD_true ?_ ?_ <;> (rw [UInt8.toNat_ofNat']; omega)
theorem pre_digits (zs : List Int) : ∀ x ∈ (zs.map dg).map (fun n : Int => UInt8.ofNat n.toNat), isD x = true := by
  intro x hx
  simp only [List.map_map, List.mem_map] at hx
  obtain ⟨z, _, rfl⟩ := hx
  exact dg_digit
theorem ld_nums (zs : List Int) (k : Nat) (c : Int) (tl : ByteArray) (h : k ≤ zs.length) (h0 : 0 ≤ c) (h1 : c ≤ 255) (h2 : c < 48 ∨ 57 < c) : ld (strOfNums (nums zs k c tl)).data.toList = k := by
  rw [strOfNums_data, nums, List.map_append, List.map_cons, ld_app _ _ (pre_digits _), ld_stop _ _ (isD_false (by rw [UInt8.toNat_ofNat']; omega))]
  simp [h]
theorem ld_pre (zs : List Int) (k : Nat) (h : k ≤ zs.length) : ld (strOfNums ((zs.take k).map dg)).data.toList = k := by
  have := ld_app _ [] (pre_digits (zs.take k))
  rw [List.append_nil, ld_nil] at this
  rw [strOfNums_data, this]
  simp [h]
theorem conv_all (w2 : World) (B k N : Nat) (zs : List Int) (c : Int) (tl : ByteArray) (hz : k ≤ zs.length) (hN : N = k + 1 + tl.size) (hown : w2.ownsRow B 5 1 (.slice (some ⟨B, 0, none⟩) N N) N (D zs k ++ (.int .u8 c :: Lib.strCells tl))) :
    Sem.run Yba.prog (convert 22 9 (.slice (some ⟨B, 0, none⟩) N N)) w2 = .ok (.string (strOfNums (nums zs k c tl))) w2 ∧
    Sem.run Yba.prog (convert 22 9 (.slice (some ⟨B, 0, none⟩) k N)) w2 = .ok (.string (strOfNums ((zs.take k).map dg))) w2 := by
  rw [nums_vals] at hown
  have hl := nums_len zs k c tl hz
  have hcell : ∀ i, i < N → w2.cell? ⟨B, 0 + i, none⟩ = some (.int .u8 ((nums zs k c tl).getD i 0)) := by
    intro i hi
    have := hown.cells (g := B) rfl i (.int .u8 ((nums zs k c tl).getD i 0)) (by simp [List.getD, show i < (nums zs k c tl).length by omega])
    rw [Addr.add_lit] at this
    exact this
  refine ⟨run_convert_bytes_arg w2 22 5 Yba.underlying22 Yba.underlying5 B 0 N N _ (by omega) hcell 9 Yba.underlying9, run_convert_bytes_arg w2 22 5 Yba.underlying22 Yba.underlying5 B 0 k N _ (by simp [hz]) (fun i hi => ?_) 9 Yba.underlying9⟩
  rw [hcell i (by omega)]
  congr 2
  unfold nums
  simp only [List.getD]
  rw [List.getElem?_append_left (by simp; omega)]
theorem long_ds (a0 : Option Addr) (len cap : Nat) (a1 : Int) (tl : ByteArray) (w : World) (h : 1024 < len) :
    Calls Yba.prog 6 #[.slice a0 len cap, .int .u8 a1, .string tl] w fun e w' => e = .returned (.bool true) ∧ w' = w := by
  have h' : (1024 : Int) < (len : Int) := by omega
  go_enter Yba.func6, Yba.ntmps6
  go_wp2
  go_ret
  exact ⟨rfl, rfl⟩
theorem long_tl (a0 : Option Addr) (len cap : Nat) (a1 : Int) (tl : ByteArray) (w : World) (h0 : len ≤ 1024) (h : 1024 < tl.size) :
    Calls Yba.prog 6 #[.slice a0 len cap, .int .u8 a1, .string tl] w fun e w' => e = .returned (.bool true) ∧ w' = w := by
  have d : decide ((1024 : Int) < (len : Int)) = false := decide_eq_false (by omega)
  have h' : (1024 : Int) < (tl.size : Int) := by omega
  go_enter Yba.func6, Yba.ntmps6
  go_wp2
  go_ret
  exact ⟨rfl, rfl⟩

set_option maxHeartbeats 1000000 in
theorem main (b off len cap : Nat) (zs : List Int) (a1 : Int) (tl : ByteArray) (w : World) (h0 : len ≤ 1024) (h1 : tl.size ≤ 1024) (ha0 : 0 ≤ a1) (ha1 : a1 ≤ 255)
    (hb : b < w.heap.size) (hz : len ≤ zs.length) (hbd : ∀ j : Nat, 0 ≤ zs[j]?.getD 0 ∧ zs[j]?.getD 0 ≤ 255)
    (hc : ∀ t : Nat, t < len → w.cell? ⟨b, off + t, none⟩ = some (.int .u8 (zs[t]?.getD 0))) :
    Calls Yba.prog 6 #[.slice (some ⟨b, off, none⟩) len cap, .int .u8 a1, .string tl] w fun e w' => e = .returned (.bool true) ∧ Below w.heap.size w w' := by
  have d : decide ((1024 : Int) < (len : Int)) = false := decide_eq_false (by omega)
  have d1 : decide ((1024 : Int) < (tl.size : Int)) = false := decide_eq_false (by omega)
  obtain ⟨i0, hi, hz0, hz1, hz2⟩ := info_parts info5
  obtain ⟨c, hc0, hc1, hc2, hidx⟩ := idx a1
  go_enter Yba.func6, Yba.ntmps6
  go_wp2_with (at_make; refine wpList_make_own _ rfl _ _ 22 rfl w.heap.size 5 i0 (.int .u8 0) 1 Yba.underlying22 hi hz0 hz1 _ _ _ (len + 1 + tl.size) rfl rfl (by omega) ?b2 ?b3 (Nat.le_refl _) ?_)
  case b2 => rw [hz2]; omega
  case b3 => unfold maxLen; omega
  intro w0 hown0 hgrow0
  go_wp2
  go_loopw [7, 8] (fun v i wr => ∃ k : Nat, k ≤ len ∧ i = .int .i64 k ∧ v = .slice (some ⟨w.heap.size, 0, none⟩) k (len + 1 + tl.size) ∧
      wr.ownsRow w.heap.size 5 1 (.slice (some ⟨w.heap.size, 0, none⟩) k (len + 1 + tl.size)) k (D zs k) ∧ Below w.heap.size w wr)
    (fun _ i _ => len - (intOf i).toNat)
  case atStart => exact ⟨0, Nat.zero_le _, rfl, rfl, by rw [D_zero]; exact hown0, (Below.refl _ _).grown hgrow0 (Nat.le_refl _) (fun k h => by cases h)⟩
  case round =>
    obtain ⟨k, hk, rfl, rfl, hown, hnx⟩ := hrel
    by_cases hlt : k < len
    · have hck : wr.cell? ⟨b, off + k, none⟩ = some (.int .u8 (zs[k]?.getD 0)) := (hnx.cell (by exact hb)).trans (hc k hlt)
      have hbk := hbd k
      go_wp2_with (at_builtin; (refine wpList_append_fits _ rfl (.tmp 30) (.tmp 37) 22 rfl w.heap.size 5 i0 1 Yba.underlying22 hi hz1 w.heap.size k (len + 1 + tl.size) _ rfl (hown.alloc _) ⟨wr.heap.size, 0, none⟩ 1 1 [.int .u8 (48 + zs[k]?.getD 0 % 10)] rfl rfl ?c1 ?c2 (by omega) ?_))
      case c1 => intro j u hj; match j, hj with | 0, hj => simp at hj; subst hj; simp [Addr.add]
      case c2 => intro u hu; simp at hu; subst hu; rfl
      intro w1 hown1 hgrow1
      have hs := D_snoc zs k (by omega)
      rw [← hs] at hown1
      have hb1 : Below w.heap.size w w1 := (hnx.alloc hnx.size _).grown hgrow1 (by simp; have := hnx.size; omega) (fun k hk => by cases hk; exact Nat.le_refl _)
      clear hgrow1 hs hown hck
      go_wp2
      go_roundw
      case rel => exact ⟨k + 1, by omega, by go_num, rfl, hown1, hb1⟩
      case measure => simp [intOf]; omega
    · obtain rfl : k = len := by omega
      go_wp2_with (at_builtin; (refine wpList_append_fits _ rfl (.tmp 39) (.tmp 44) 22 rfl w.heap.size 5 i0 1 Yba.underlying22 hi hz1 w.heap.size k (k + 1 + tl.size) _ rfl (hown.alloc _) ⟨wr.heap.size, 0, none⟩ 1 1 [.int .u8 c] rfl rfl ?c1 ?c2 (by omega) ?_))
      case c1 => intro j u hj; match j, hj with | 0, hj => simp at hj; subst hj; simp [Addr.add]
      case c2 => intro u hu; simp at hu; subst hu; rfl
      intro w1 hown1 hgrow1
      have hb1 : Below w.heap.size w w1 := (hnx.alloc hnx.size _).grown hgrow1 (by simp; have := hnx.size; omega) (fun k hk => by cases hk; exact Nat.le_refl _)
      clear hgrow1 hown hnx
      go_wp2_with (at_builtin; (refine Lib.wpList_append_fits_string _ rfl (.tmp 46) (.tmp 47) 22 9 rfl w.heap.size 5 i0 Yba.underlying22 Yba.underlying9 hi hz1 (some ⟨w.heap.size, 0, none⟩) (k + 1) (k + 1 + tl.size) _ rfl hown1 tl rfl (by omega) (by omega) ?_))
      intro w2 hown2 hgrow2
      have hb2 : Below w.heap.size w w2 := hb1.grown hgrow2 hb1.size (fun k hk => by cases hk; exact Nat.le_refl _)
      clear hgrow2 hown1 hb1
      obtain ⟨cv1, cv2⟩ := conv_all w2 w.heap.size k _ zs c tl hz rfl hown2
      have l1 := ld_nums zs k c tl hz hc0 hc1 hc2
      have l2 := ld_pre zs k hz
      have z1 : (strOfNums (nums zs k c tl)).size ≤ maxLen := by rw [strOfNums_size, nums_len zs k c tl hz]; unfold maxLen; omega
      have z2 : (strOfNums ((zs.take k).map dg)).size ≤ maxLen := by rw [strOfNums_size]; simp; unfold maxLen; omega
      have L1 := lead_any _ w2 z1
      have L2 := lead_any _ w2 z2
      rw [l1] at L1
      rw [l2] at L2
      generalize strOfNums (nums zs k c tl) = s1 at cv1 L1
      generalize strOfNums ((zs.take k).map dg) = s2 at cv2 L2
      clear hown2 l1 l2 z1 z2
      go_wp2_with fail
      refine L1.mono ?_
      rintro e w' ⟨rfl, rfl⟩
      go_wp2_with fail
      refine L2.mono ?_
      rintro e w' ⟨rfl, rfl⟩
      go_wp2_with fail
      go_ret
      exact ⟨by simp, hb2⟩
set_option maxHeartbeats 1000000 in
theorem main0 (a0 : Option Addr) (len cap : Nat) (zs : List Int) (a1 : Int) (tl : ByteArray) (w : World) (h0 : len ≤ 1024) (h1 : tl.size ≤ 1024) (ha0 : 0 ≤ a1) (ha1 : a1 ≤ 255) (hz : len ≤ zs.length) (hl0 : Hid (len = 0)) :
    Calls Yba.prog 6 #[.slice a0 len cap, .int .u8 a1, .string tl] w fun e w' => e = .returned (.bool true) ∧ Below w.heap.size w w' := by
  have d : decide ((1024 : Int) < (len : Int)) = false := decide_eq_false (by omega)
  have d1 : decide ((1024 : Int) < (tl.size : Int)) = false := decide_eq_false (by omega)
  obtain ⟨i0, hi, hz0, hz1, hz2⟩ := info_parts info5
  obtain ⟨c, hc0, hc1, hc2, hidx⟩ := idx a1
  go_enter Yba.func6, Yba.ntmps6
  go_wp2_with (at_make; refine wpList_make_own _ rfl _ _ 22 rfl w.heap.size 5 i0 (.int .u8 0) 1 Yba.underlying22 hi hz0 hz1 _ _ _ (len + 1 + tl.size) rfl rfl (by omega) ?b2 ?b3 (Nat.le_refl _) ?_)
  case b2 => rw [hz2]; omega
  case b3 => unfold maxLen; omega
  intro w0 hown0 hgrow0
  go_wp2
  go_loopw [7, 8] (fun v i wr => ∃ k : Nat, k ≤ len ∧ i = .int .i64 k ∧ v = .slice (some ⟨w.heap.size, 0, none⟩) k (len + 1 + tl.size) ∧
      wr.ownsRow w.heap.size 5 1 (.slice (some ⟨w.heap.size, 0, none⟩) k (len + 1 + tl.size)) k (D zs k) ∧ Below w.heap.size w wr)
    (fun _ i _ => len - (intOf i).toNat)
  case atStart => exact ⟨0, Nat.zero_le _, rfl, rfl, by rw [D_zero]; exact hown0, (Below.refl _ _).grown hgrow0 (Nat.le_refl _) (fun k h => by cases h)⟩
  case round =>
    obtain ⟨k, hk, rfl, rfl, hown, hnx⟩ := hrel
    by_cases hlt : k < len
    · exact absurd hlt (by have := hl0.out; omega)
    · obtain rfl : k = len := by omega
      go_wp2_with (at_builtin; (refine wpList_append_fits _ rfl (.tmp 39) (.tmp 44) 22 rfl w.heap.size 5 i0 1 Yba.underlying22 hi hz1 w.heap.size k (k + 1 + tl.size) _ rfl (hown.alloc _) ⟨wr.heap.size, 0, none⟩ 1 1 [.int .u8 c] rfl rfl ?c1 ?c2 (by omega) ?_))
      case c1 => intro j u hj; match j, hj with | 0, hj => simp at hj; subst hj; simp [Addr.add]
      case c2 => intro u hu; simp at hu; subst hu; rfl
      intro w1 hown1 hgrow1
      have hb1 : Below w.heap.size w w1 := (hnx.alloc hnx.size _).grown hgrow1 (by simp; have := hnx.size; omega) (fun k hk => by cases hk; exact Nat.le_refl _)
      clear hgrow1 hown hnx
      go_wp2_with (at_builtin; (refine Lib.wpList_append_fits_string _ rfl (.tmp 46) (.tmp 47) 22 9 rfl w.heap.size 5 i0 Yba.underlying22 Yba.underlying9 hi hz1 (some ⟨w.heap.size, 0, none⟩) (k + 1) (k + 1 + tl.size) _ rfl hown1 tl rfl (by omega) (by omega) ?_))
      intro w2 hown2 hgrow2
      have hb2 : Below w.heap.size w w2 := hb1.grown hgrow2 hb1.size (fun k hk => by cases hk; exact Nat.le_refl _)
      clear hgrow2 hown1 hb1
      obtain ⟨cv1, cv2⟩ := conv_all w2 w.heap.size k _ zs c tl hz rfl hown2
      have l1 := ld_nums zs k c tl hz hc0 hc1 hc2
      have l2 := ld_pre zs k hz
      have z1 : (strOfNums (nums zs k c tl)).size ≤ maxLen := by rw [strOfNums_size, nums_len zs k c tl hz]; unfold maxLen; omega
      have z2 : (strOfNums ((zs.take k).map dg)).size ≤ maxLen := by rw [strOfNums_size]; simp; unfold maxLen; omega
      have L1 := lead_any _ w2 z1
      have L2 := lead_any _ w2 z2
      rw [l1] at L1
      rw [l2] at L2
      generalize strOfNums (nums zs k c tl) = s1 at cv1 L1
      generalize strOfNums ((zs.take k).map dg) = s2 at cv2 L2
      clear hown2 l1 l2 z1 z2
      go_wp2_with fail
      refine L1.mono ?_
      rintro e w' ⟨rfl, rfl⟩
      go_wp2_with fail
      refine L2.mono ?_
      rintro e w' ⟨rfl, rfl⟩
      go_wp2_with fail
      go_ret
      exact ⟨by simp, hb2⟩
end Go.Proofs.Ybulkhc.Built
