import Derived.Test.Qxb6616596aCalls
import Derived.WalkKit
import Derived.WalkSpells
namespace Go.Proofs.Qxb6616596a
open Go.RowKit

theorem phb_pre (a b : Nat) (h : a ≤ b) : (((phb b).extract 0 (phb a).size).toList == (phb a).toList) = true := by
  rw [beq_iff_eq, Lib.extract_toList, Lib.toList_data, phb_list, phb_list]
  have e : (phb a).size = (Plain.ph a).length := by rw [Plain.ph_length, phb_size]
  rw [e]
  cases a with
  | zero => simp [Plain.ph]
  | succ a =>
    obtain ⟨k, rfl⟩ : ∃ k, b = a + 1 + k := ⟨b - (a + 1), by omega⟩
    rw [Plain.ph_prefix]
    simp

/-- What follows the shorter list. -/
theorem rest_list (a b : Nat) : ((phb b).extract (phb a).size (phb b).size).data.toList = (Plain.ph b).drop (Plain.ph a).length := by
  have e : (phb a).size = (Plain.ph a).length := by rw [Plain.ph_length, phb_size]
  have e2 : (phb b).size = (Plain.ph b).length := by rw [Plain.ph_length, phb_size]
  rw [Lib.extract_data, phb_list, e, e2]
  exact List.take_of_length_le (by simp)

theorem rest_pos (a b : Nat) (ha : 0 < a) (h : a ≤ b) : ((phb b).extract (phb a).size (phb b).size).data.toList = Lib.repeatL [44, 32, 63] (b - a) := by
  obtain ⟨a, rfl⟩ : ∃ k, a = k + 1 := ⟨a - 1, by omega⟩
  obtain ⟨k, rfl⟩ : ∃ k, b = a + 1 + k := ⟨b - (a + 1), by omega⟩
  rw [rest_list, Plain.ph_prefix, List.drop_left, Nat.add_sub_cancel_left]

theorem byte_of (s : ByteArray) (i : Nat) (h : i < s.size) (v : UInt8) (e : s.data.toList[i]? = some v) : s[i] = v := by
  obtain ⟨⟨l⟩⟩ := s
  have : l[i]? = some v := e
  rw [List.getElem?_eq_some_iff] at this
  obtain ⟨_, h2⟩ := this
  exact h2

theorem num_of (s : ByteArray) (i : Nat) (h : i < s.size) (v : UInt8) (e : s.data.toList[i]? = some v) : ((s[i].toNat : Nat) : Int) = (v.toNat : Int) := by
  rw [byte_of s i h v e]

set_option maxHeartbeats 400000 in
theorem walk4_pos (a b : Nat) (w : World) (h : a ≤ b) (hb : b ≤ 65536) (ha : 0 < a) :
    Calls Try.prog 4 #[.int .i64 a, .int .i64 b] w fun e w' => e = .returned (.bool true) ∧ Below w.heap.size w w' := by
  have sa : (phb a).size ≤ 200000 := by rw [phb_size]; omega
  have sb : (phb b).size ≤ 200000 := by rw [phb_size]; omega
  have sab : ¬ (phb b).size < (phb a).size := by rw [phb_size, phb_size]; omega
  have ep := phb_pre a b (by omega)
  have ha0 : ((a : Int) == 0) = false := beq_eq_false_iff_ne.2 (by omega)
  have hlen : ((((phb b).size - (phb a).size : Nat) : Int) != 3 * ((b : Int) - (a : Int))) = false := by
    rw [bne_eq_false_iff_eq, phb_size, phb_size]; omega
  go_enter Try.func4, Try.ntmps4
  go_wp2_with fail
  refine (ph5 _ _ (by omega)).mono ?_
  rintro e w2 ⟨rfl, hb2⟩
  go_wp2_with fail
  refine (ph5 _ _ (by omega)).mono ?_
  rintro e w3 ⟨rfl, hb3⟩
  go_wp2_with fail
  go_loop [4, 10] (fun r j => ∃ k : Nat, k ≤ b - a ∧ j = .int .i64 k ∧ r = .bool false) (fun _ j => (b - a) - (intOf j).toNat)
  case atStart => exact ⟨0, Nat.zero_le _, rfl, rfl⟩
  case round =>
    obtain ⟨k, hk, rfl, rfl⟩ := hrel
    by_cases hlt : k < b - a
    · have hlt2 : (k : Int) < (b : Int) - (a : Int) := by omega
      have hr := Plain.rep_at (b - a) k hlt
      rw [← rest_pos a b ha (by omega)] at hr
      obtain ⟨r0, r1, r2⟩ := hr
      have i0 : 3 * (k : Int) < (((phb b).size - (phb a).size : Nat) : Int) := by rw [phb_size, phb_size]; omega
      have i1 : 3 * (k : Int) + 1 < (((phb b).size - (phb a).size : Nat) : Int) := by rw [phb_size, phb_size]; omega
      have i2 : 3 * (k : Int) + 2 < (((phb b).size - (phb a).size : Nat) : Int) := by rw [phb_size, phb_size]; omega
      have v0 := num_of _ (3 * k) (by simp; omega) _ r0
      have v1 := num_of _ (3 * k + 1) (by simp; omega) _ r1
      have v2 := num_of _ (3 * k + 2) (by simp; omega) _ r2
      simp only [UInt8.reduceToNat] at v0 v1 v2
      clear r0 r1 r2
      go_wp2
      go_round
      case rel => exact ⟨k + 1, by omega, by go_num, rfl⟩
      case measure => simp [intOf]; omega
    · have hlt2 : ¬ (k : Int) < (b : Int) - (a : Int) := by omega
      go_wp2
      go_ret
      exact ⟨rfl, hb2.trans (hb3.mono hb2.size)⟩

set_option maxHeartbeats 400000 in
theorem walk4_pos_swap (a b : Nat) (w : World) (h : a < b) (hb : b ≤ 65536) (ha : 0 < a) :
    Calls Try.prog 4 #[.int .i64 b, .int .i64 a] w fun e w' => e = .returned (.bool true) ∧ Below w.heap.size w w' := by
  have sa : (phb a).size ≤ 200000 := by rw [phb_size]; omega
  have sb : (phb b).size ≤ 200000 := by rw [phb_size]; omega
  have sab : ¬ (phb b).size < (phb a).size := by rw [phb_size, phb_size]; omega
  have ep := phb_pre a b (by omega)
  have ha0 : ((a : Int) == 0) = false := beq_eq_false_iff_ne.2 (by omega)
  have hlen : ((((phb b).size - (phb a).size : Nat) : Int) != 3 * ((b : Int) - (a : Int))) = false := by
    rw [bne_eq_false_iff_eq, phb_size, phb_size]; omega
  go_enter Try.func4, Try.ntmps4
  go_wp2_with fail
  refine (ph5 _ _ (by omega)).mono ?_
  rintro e w2 ⟨rfl, hb2⟩
  go_wp2_with fail
  refine (ph5 _ _ (by omega)).mono ?_
  rintro e w3 ⟨rfl, hb3⟩
  go_wp2_with fail
  go_loop [4, 10] (fun r j => ∃ k : Nat, k ≤ b - a ∧ j = .int .i64 k ∧ r = .bool false) (fun _ j => (b - a) - (intOf j).toNat)
  case atStart => exact ⟨0, Nat.zero_le _, rfl, rfl⟩
  case round =>
    obtain ⟨k, hk, rfl, rfl⟩ := hrel
    by_cases hlt : k < b - a
    · have hlt2 : (k : Int) < (b : Int) - (a : Int) := by omega
      have hr := Plain.rep_at (b - a) k hlt
      rw [← rest_pos a b ha (by omega)] at hr
      obtain ⟨r0, r1, r2⟩ := hr
      have i0 : 3 * (k : Int) < (((phb b).size - (phb a).size : Nat) : Int) := by rw [phb_size, phb_size]; omega
      have i1 : 3 * (k : Int) + 1 < (((phb b).size - (phb a).size : Nat) : Int) := by rw [phb_size, phb_size]; omega
      have i2 : 3 * (k : Int) + 2 < (((phb b).size - (phb a).size : Nat) : Int) := by rw [phb_size, phb_size]; omega
      have v0 := num_of _ (3 * k) (by simp; omega) _ r0
      have v1 := num_of _ (3 * k + 1) (by simp; omega) _ r1
      have v2 := num_of _ (3 * k + 2) (by simp; omega) _ r2
      simp only [UInt8.reduceToNat] at v0 v1 v2
      clear r0 r1 r2
      go_wp2
      go_round
      case rel => exact ⟨k + 1, by omega, by go_num, rfl⟩
      case measure => simp [intOf]; omega
    · have hlt2 : ¬ (k : Int) < (b : Int) - (a : Int) := by omega
      go_wp2
      go_ret
      exact ⟨rfl, hb2.trans (hb3.mono hb2.size)⟩

theorem ph_tail (b : Nat) (h0 : 0 < b) : Plain.ph b = 63 :: Lib.repeatL [44, 32, 63] (b - 1) := by
  obtain ⟨c, rfl⟩ : ∃ c, b = c + 1 := ⟨b - 1, by omega⟩
  rfl

set_option maxHeartbeats 400000 in
theorem walk4_zero (b : Nat) (w : World) (hb : b ≤ 65536) (h0 : 0 < b) :
    Calls Try.prog 4 #[.int .i64 0, .int .i64 b] w fun e w' => e = .returned (.bool true) ∧ Below w.heap.size w w' := by
  have sb : (phb b).size ≤ 200000 := by rw [phb_size]; omega
  have hlen : ((((phb b).size : Nat) : Int) != 1 + 3 * ((b : Int) - 1)) = false := by
    rw [bne_eq_false_iff_eq, phb_size]; omega
  have hb0 : ((b : Int) == 0) = false := beq_eq_false_iff_ne.2 (by omega)
  have hs0 : ((((phb b).size : Nat) : Int) == 0) = false := by
    rw [beq_eq_false_iff_ne, phb_size]; omega
  have hs1 : 0 < (phb b).size := by rw [phb_size]; omega
  have hv : (((phb b)[0]'hs1).toNat : Int) = 63 := by
    refine num_of (phb b) 0 hs1 63 ?_
    rw [phb_list]
    obtain ⟨c, rfl⟩ : ∃ c, b = c + 1 := ⟨b - 1, by omega⟩
    rfl
  go_enter Try.func4, Try.ntmps4
  go_wp2_with fail
  refine (ph5z _).mono ?_
  rintro e w2 ⟨rfl, hb2⟩
  go_wp2_with fail
  refine (ph5 _ _ (by omega)).mono ?_
  rintro e w3 ⟨rfl, hb3⟩
  go_wp2_with fail
  go_loop [4, 10] (fun r j => ∃ k : Nat, k ≤ b - 1 ∧ j = .int .i64 k ∧ r = .bool false) (fun _ j => (b - 1) - (intOf j).toNat)
  case atStart => exact ⟨0, Nat.zero_le _, rfl, rfl⟩
  case round =>
    obtain ⟨k, hk, rfl, rfl⟩ := hrel
    by_cases hlt : k < b - 1
    · have hlt2 : (k : Int) < (b : Int) - 1 := by omega
      have hr := Plain.rep_at (b - 1) k hlt
      have i0 : 1 + 3 * (k : Int) < ((phb b).size : Int) := by rw [phb_size]; omega
      have i1 : 1 + 3 * (k : Int) + 1 < ((phb b).size : Int) := by rw [phb_size]; omega
      have i2 : 1 + 3 * (k : Int) + 2 < ((phb b).size : Int) := by rw [phb_size]; omega
      have v0 := num_of (phb b) (1 + 3 * k) (by omega) 44 (by rw [phb_list, ph_tail b h0, Nat.add_comm 1, List.getElem?_cons_succ]; exact hr.1)
      have v1 := num_of (phb b) (1 + 3 * k + 1) (by omega) 32 (by rw [phb_list, ph_tail b h0, List.getElem?_cons_succ, Nat.add_comm 1]; exact hr.2.1)
      have v2 := num_of (phb b) (1 + 3 * k + 2) (by omega) 63 (by rw [phb_list, ph_tail b h0, show 1 + 3 * k + 2 = 3 * k + 2 + 1 from by omega, List.getElem?_cons_succ]; exact hr.2.2)
      simp only [UInt8.reduceToNat] at v0 v1 v2
      clear hr
      go_wp2
      go_round
      case rel => exact ⟨k + 1, by omega, by go_num, rfl⟩
      case measure => simp [intOf]; omega
    · have hlt2 : ¬ (k : Int) < (b : Int) - 1 := by omega
      go_wp2
      go_ret
      exact ⟨rfl, hb2.trans (hb3.mono hb2.size)⟩

set_option maxHeartbeats 400000 in
theorem walk4_zero_swap (b : Nat) (w : World) (hb : b ≤ 65536) (h0 : 0 < b) :
    Calls Try.prog 4 #[.int .i64 b, .int .i64 0] w fun e w' => e = .returned (.bool true) ∧ Below w.heap.size w w' := by
  have sb : (phb b).size ≤ 200000 := by rw [phb_size]; omega
  have hlen : ((((phb b).size : Nat) : Int) != 1 + 3 * ((b : Int) - 1)) = false := by
    rw [bne_eq_false_iff_eq, phb_size]; omega
  have hb0 : ((b : Int) == 0) = false := beq_eq_false_iff_ne.2 (by omega)
  have hs0 : ((((phb b).size : Nat) : Int) == 0) = false := by
    rw [beq_eq_false_iff_ne, phb_size]; omega
  have hs1 : 0 < (phb b).size := by rw [phb_size]; omega
  have hv : (((phb b)[0]'hs1).toNat : Int) = 63 := by
    refine num_of (phb b) 0 hs1 63 ?_
    rw [phb_list]
    obtain ⟨c, rfl⟩ : ∃ c, b = c + 1 := ⟨b - 1, by omega⟩
    rfl
  go_enter Try.func4, Try.ntmps4
  go_wp2_with fail
  refine (ph5z _).mono ?_
  rintro e w2 ⟨rfl, hb2⟩
  go_wp2_with fail
  refine (ph5 _ _ (by omega)).mono ?_
  rintro e w3 ⟨rfl, hb3⟩
  go_wp2_with fail
  go_loop [4, 10] (fun r j => ∃ k : Nat, k ≤ b - 1 ∧ j = .int .i64 k ∧ r = .bool false) (fun _ j => (b - 1) - (intOf j).toNat)
  case atStart => exact ⟨0, Nat.zero_le _, rfl, rfl⟩
  case round =>
    obtain ⟨k, hk, rfl, rfl⟩ := hrel
    by_cases hlt : k < b - 1
    · have hlt2 : (k : Int) < (b : Int) - 1 := by omega
      have hr := Plain.rep_at (b - 1) k hlt
      have i0 : 1 + 3 * (k : Int) < ((phb b).size : Int) := by rw [phb_size]; omega
      have i1 : 1 + 3 * (k : Int) + 1 < ((phb b).size : Int) := by rw [phb_size]; omega
      have i2 : 1 + 3 * (k : Int) + 2 < ((phb b).size : Int) := by rw [phb_size]; omega
      have v0 := num_of (phb b) (1 + 3 * k) (by omega) 44 (by rw [phb_list, ph_tail b h0, Nat.add_comm 1, List.getElem?_cons_succ]; exact hr.1)
      have v1 := num_of (phb b) (1 + 3 * k + 1) (by omega) 32 (by rw [phb_list, ph_tail b h0, List.getElem?_cons_succ, Nat.add_comm 1]; exact hr.2.1)
      have v2 := num_of (phb b) (1 + 3 * k + 2) (by omega) 63 (by rw [phb_list, ph_tail b h0, show 1 + 3 * k + 2 = 3 * k + 2 + 1 from by omega, List.getElem?_cons_succ]; exact hr.2.2)
      simp only [UInt8.reduceToNat] at v0 v1 v2
      clear hr
      go_wp2
      go_round
      case rel => exact ⟨k + 1, by omega, by go_num, rfl⟩
      case measure => simp [intOf]; omega
    · have hlt2 : ¬ (k : Int) < (b : Int) - 1 := by omega
      go_wp2
      go_ret
      exact ⟨rfl, hb2.trans (hb3.mono hb2.size)⟩

set_option maxHeartbeats 400000 in
theorem walk4_none (w : World) :
    Calls Try.prog 4 #[.int .i64 0, .int .i64 0] w fun e w' => e = .returned (.bool true) ∧ Below w.heap.size w w' := by
  go_enter Try.func4, Try.ntmps4
  go_wp2_with fail
  refine (ph5z _).mono ?_
  rintro e w2 ⟨rfl, hb2⟩
  go_wp2_with fail
  refine (ph5z _).mono ?_
  rintro e w3 ⟨rfl, hb3⟩
  go_wp2_with fail
  go_ret
  exact ⟨rfl, hb2.trans (hb3.mono hb2.size)⟩

set_option maxHeartbeats 400000 in
theorem walk4 (a b : Int) (w : World) :
    Calls Try.prog 4 #[.int .i64 a, .int .i64 b] w fun e w' => e = .returned (.bool true) ∧ Below w.heap.size w w' := by
  by_cases h1 : a < 0
  · go_enter Try.func4, Try.ntmps4
    go_wp2
    go_ret
    exact ⟨rfl, Below.refl _ _⟩
  by_cases h2 : b < 0
  · go_enter Try.func4, Try.ntmps4
    go_wp2
    go_ret
    exact ⟨rfl, Below.refl _ _⟩
  by_cases h3 : 65536 < a
  · go_enter Try.func4, Try.ntmps4
    go_wp2
    go_ret
    exact ⟨rfl, Below.refl _ _⟩
  by_cases h4 : 65536 < b
  · go_enter Try.func4, Try.ntmps4
    go_wp2
    go_ret
    exact ⟨rfl, Below.refl _ _⟩
  obtain ⟨m, rfl⟩ := Int.eq_ofNat_of_zero_le (a := a) (by omega)
  obtain ⟨n, rfl⟩ := Int.eq_ofNat_of_zero_le (a := b) (by omega)
  by_cases hm : 0 < m
  · by_cases hn : 0 < n
    · by_cases hmn : m ≤ n
      · exact walk4_pos m n w hmn (by omega) hm
      · exact walk4_pos_swap n m w (by omega) (by omega) hn
    · obtain rfl : n = 0 := by omega
      exact walk4_zero_swap m w (by omega) hm
  · obtain rfl : m = 0 := by omega
    by_cases hn : 0 < n
    · exact walk4_zero n w (by omega) hn
    · obtain rfl : n = 0 := by omega
      exact walk4_none w
end Go.Proofs.Qxb6616596a
