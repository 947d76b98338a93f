import Derived.Test.Qxb6616596aCalls
import Derived.WalkKit
import Derived.WalkSpells
namespace Go.Proofs.Qxb6616596a
open Go.RowKit

theorem take_snoc (s : ByteArray) (k : Nat) (h : k < s.size) : s.data.toList.take (k + 1) = s.data.toList.take k ++ [s[k]] := by
  rw [List.take_succ_eq_append_getElem (by simpa using h)]; rfl

theorem marks_step (s : ByteArray) (k : Nat) (h : k < s.size) :
    Plain.marks (s.data.toList.take (k + 1)) = Plain.marks (s.data.toList.take k) + if (s[k].toNat : Int) = 63 then 1 else 0 := by
  rw [take_snoc s k h, Plain.marks_snoc]
  by_cases e : s[k] = 63
  · rw [if_pos e, if_pos (by rw [e]; decide)]
  · rw [if_neg e, if_neg (fun e2 => e (by
      have : s[k].toNat = 63 := by omega
      exact UInt8.toNat_inj.1 (by rw [this]; decide)))]

theorem phb_empty (a : Nat) (h : 0 < a) : (phb a).toList.isEmpty = false := by
  rw [Lib.toList_data, phb_list]
  have := Plain.ph_eq_nil a
  cases e : Plain.ph a with
  | nil => have := this.1 e; omega
  | cons _ _ => rfl
theorem phb_zero : phb 0 = ⟨#[]⟩ := rfl
theorem phb_join (a b : Nat) (ha : 0 < a) (hb : 0 < b) : ((phb (a + b)).toList == (phb a ++ ⟨#[44, 32]⟩ ++ phb b).toList) = true := by
  obtain ⟨a, rfl⟩ : ∃ k, a = k + 1 := ⟨a - 1, by omega⟩
  obtain ⟨b, rfl⟩ : ∃ k, b = k + 1 := ⟨b - 1, by omega⟩
  rw [beq_iff_eq, Lib.toList_data, Lib.toList_data, phb_list, Plain.ph_add]
  simp [ByteArray.data_append, phb_list]

theorem phb_join0 (a : Nat) : ((phb a).toList == (phb a ++ ⟨#[]⟩).toList) = true := by
  rw [beq_iff_eq, Lib.toList_data, Lib.toList_data]
  simp [ByteArray.data_append]
theorem phb_0join (a : Nat) : ((phb a).toList == (⟨#[]⟩ ++ phb a).toList) = true := by
  rw [beq_iff_eq, Lib.toList_data, Lib.toList_data]
  simp [ByteArray.data_append]

set_option maxHeartbeats 400000 in
theorem walk3_both (a b : Nat) (w : World) (h : a + b ≤ 65536) (ha : 0 < a) (hb : 0 < b) :
    Calls Try.prog 3 #[.int .i64 a, .int .i64 b] w fun e w' => e = .returned (.bool true) ∧ Below w.heap.size w w' := by
  have sa : (phb a).size ≤ 200000 := by rw [phb_size]; omega
  have sb : (phb b).size ≤ 200000 := by rw [phb_size]; omega
  have ea := phb_empty a ha
  have eb := phb_empty b hb
  have ej := phb_join a b ha hb
  have ha0 : ((a : Int) == 0) = false := beq_eq_false_iff_ne.2 (by omega)
  go_enter Try.func3, Try.ntmps3
  go_wp2_with fail
  refine (ph5s _ _ _ h).mono ?_
  rintro e w1 ⟨rfl, hb1⟩
  go_wp2_with fail
  refine (ph5 _ _ (by omega)).mono ?_
  rintro e w2 ⟨rfl, hb2⟩
  go_wp2_with fail
  refine (ph5 _ _ (by omega)).mono ?_
  rintro e w3 ⟨rfl, hb3⟩
  go_wp2_with fail
  go_loop [9, 10] (fun n i => ∃ k : Nat, k ≤ (phb a).size ∧ i = .int .i64 k ∧ n = .int .i64 (Plain.marks ((phb a).data.toList.take k))) (fun _ i => (phb a).size - (intOf i).toNat)
  case atStart => exact ⟨0, Nat.zero_le _, rfl, rfl⟩
  case round =>
    obtain ⟨k, hk, rfl, rfl⟩ := hrel
    have hd := Plain.marks_le ((phb a).data.toList.take k)
    have hl : ((phb a).data.toList.take k).length ≤ k := List.length_take_le _ _
    by_cases hlt : k < (phb a).size
    · have HS : Hid (_ = _) := marks_step (phb a) k hlt
      go_wp2
      all_goals
        go_round
        case rel => exact ⟨k + 1, by omega, by go_num, by rw [HS.out]; first | (rw [if_pos (beq_iff_eq.1 ‹_›)]; go_num) | (rw [if_neg (beq_eq_false_iff_ne.1 ‹_›)]; go_num)⟩
        case measure => simp [intOf]; omega
    · have hm : Plain.marks ((phb a).data.toList.take k) = a := by
        rw [List.take_of_length_le (by rw [← Lib.size_eq]; omega), phb_list, Plain.marks_ph]
      have hsz : ((phb a).size : Int) = 3 * a - 2 := by rw [phb_size]; omega
      go_wp2
      go_ret
      exact ⟨rfl, hb1.trans ((hb2.mono hb1.size).trans (hb3.mono (Nat.le_trans hb1.size hb2.size)))⟩

set_option maxHeartbeats 400000 in
theorem walk3_left (a : Nat) (w : World) (h : a ≤ 65536) (ha : 0 < a) :
    Calls Try.prog 3 #[.int .i64 a, .int .i64 0] w fun e w' => e = .returned (.bool true) ∧ Below w.heap.size w w' := by
  have sa : (phb a).size ≤ 200000 := by rw [phb_size]; omega
  have ea := phb_empty a ha
  have ej := phb_join0 a
  have ha0 : ((a : Int) == 0) = false := beq_eq_false_iff_ne.2 (by omega)
  go_enter Try.func3, Try.ntmps3
  go_wp2_with fail
  refine (ph5 _ _ (by omega)).mono ?_
  rintro e w1 ⟨rfl, hb1⟩
  go_wp2_with fail
  refine (ph5 _ _ (by omega)).mono ?_
  rintro e w2 ⟨rfl, hb2⟩
  go_wp2_with fail
  refine (ph5z _).mono ?_
  rintro e w3 ⟨rfl, hb3⟩
  go_wp2_with fail
  go_loop [9, 10] (fun n i => ∃ k : Nat, k ≤ (phb a).size ∧ i = .int .i64 k ∧ n = .int .i64 (Plain.marks ((phb a).data.toList.take k))) (fun _ i => (phb a).size - (intOf i).toNat)
  case atStart => exact ⟨0, Nat.zero_le _, rfl, rfl⟩
  case round =>
    obtain ⟨k, hk, rfl, rfl⟩ := hrel
    have hd := Plain.marks_le ((phb a).data.toList.take k)
    have hl : ((phb a).data.toList.take k).length ≤ k := List.length_take_le _ _
    by_cases hlt : k < (phb a).size
    · have HS : Hid (_ = _) := marks_step (phb a) k hlt
      go_wp2
      all_goals
        go_round
        case rel => exact ⟨k + 1, by omega, by go_num, by rw [HS.out]; first | (rw [if_pos (beq_iff_eq.1 ‹_›)]; go_num) | (rw [if_neg (beq_eq_false_iff_ne.1 ‹_›)]; go_num)⟩
        case measure => simp [intOf]; omega
    · have hm : Plain.marks ((phb a).data.toList.take k) = a := by
        rw [List.take_of_length_le (by rw [← Lib.size_eq]; omega), phb_list, Plain.marks_ph]
      have hsz : ((phb a).size : Int) = 3 * a - 2 := by rw [phb_size]; omega
      go_wp2
      go_ret
      exact ⟨rfl, hb1.trans ((hb2.mono hb1.size).trans (hb3.mono (Nat.le_trans hb1.size hb2.size)))⟩

set_option maxHeartbeats 400000 in
theorem walk3_right (b : Nat) (w : World) (h : b ≤ 65536) :
    Calls Try.prog 3 #[.int .i64 0, .int .i64 b] w fun e w' => e = .returned (.bool true) ∧ Below w.heap.size w w' := by
  have sb : (phb b).size ≤ 200000 := by rw [phb_size]; omega
  have ej := phb_0join b
  go_enter Try.func3, Try.ntmps3
  go_wp2_with fail
  refine (ph5 _ _ (by omega)).mono ?_
  rintro e w1 ⟨rfl, hb1⟩
  go_wp2_with fail
  refine (ph5z _).mono ?_
  rintro e w2 ⟨rfl, hb2⟩
  go_wp2_with fail
  refine (ph5 _ _ (by omega)).mono ?_
  rintro e w3 ⟨rfl, hb3⟩
  go_wp2_with fail
  go_loop [9, 10] (fun n i => i = .int .i64 0 ∧ n = .int .i64 0) (fun _ _ => 0)
  case atStart => exact ⟨rfl, rfl⟩
  case round =>
    obtain ⟨rfl, rfl⟩ := hrel
    go_wp2
    go_ret
    exact ⟨rfl, hb1.trans ((hb2.mono hb1.size).trans (hb3.mono (Nat.le_trans hb1.size hb2.size)))⟩

set_option maxHeartbeats 400000 in
theorem walk3_out (a b : Int) (w : World) (ha : -9223372036854775808 ≤ a ∧ a ≤ 9223372036854775807) (hb : -9223372036854775808 ≤ b ∧ b ≤ 9223372036854775807) (h : a < 0 ∨ b < 0 ∨ 65536 < a ∨ 65536 < b ∨ 65536 < a + b) :
    Calls Try.prog 3 #[.int .i64 a, .int .i64 b] w fun e w' => e = .returned (.bool true) ∧ Below w.heap.size w w' := by
  obtain ⟨ha1, ha2⟩ := ha
  obtain ⟨hb1, hb2⟩ := hb
  by_cases h1 : a < 0
  · go_enter Try.func3, Try.ntmps3
    go_wp2
    go_ret
    exact ⟨rfl, Below.refl _ _⟩
  by_cases h2 : b < 0
  · go_enter Try.func3, Try.ntmps3
    go_wp2
    go_ret
    exact ⟨rfl, Below.refl _ _⟩
  by_cases h3 : 65536 < a
  · go_enter Try.func3, Try.ntmps3
    go_wp2
    go_ret
    exact ⟨rfl, Below.refl _ _⟩
  by_cases h4 : 65536 < b
  · go_enter Try.func3, Try.ntmps3
    go_wp2
    go_ret
    exact ⟨rfl, Below.refl _ _⟩
  have h5 : 65536 < a + b := by omega
  go_enter Try.func3, Try.ntmps3
  go_wp2
  go_ret
  exact ⟨rfl, Below.refl _ _⟩

theorem walk3 (a b : Int) (w : World) (ha : -9223372036854775808 ≤ a ∧ a ≤ 9223372036854775807) (hb : -9223372036854775808 ≤ b ∧ b ≤ 9223372036854775807) :
    Calls Try.prog 3 #[.int .i64 a, .int .i64 b] w fun e w' => e = .returned (.bool true) ∧ Below w.heap.size w w' := by
  by_cases h : a < 0 ∨ b < 0 ∨ 65536 < a ∨ 65536 < b ∨ 65536 < a + b
  · exact walk3_out a b w ha hb h
  · obtain ⟨m, rfl⟩ := Int.eq_ofNat_of_zero_le (a := a) (by omega)
    obtain ⟨n, rfl⟩ := Int.eq_ofNat_of_zero_le (a := b) (by omega)
    by_cases hm : 0 < m
    · by_cases hn : 0 < n
      · exact walk3_both m n w (by omega) hm hn
      · obtain rfl : n = 0 := by omega
        exact walk3_left m w (by omega) hm
    · obtain rfl : m = 0 := by omega
      exact walk3_right n w (by omega)
end Go.Proofs.Qxb6616596a
