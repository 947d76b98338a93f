/-
  The walk of 'FnQuoteStringJoinAndDecode' (function 3).
-/
import Derived.Test.Qxb6616884aDecode
import Derived.Deep.QuietTactic
import Derived.BigQuiet
import Derived.WalkSmall
namespace Go.Proofs.Qxb6616884a
open Go.RowKit

set_option maxHeartbeats 400000 in
theorem bytes5_yes (a b : ByteArray) (w : World) (h : a.size + b.size ≤ 1048576) :
    Calls Try.prog 5 #[.string a, .string b] w fun e w' => e = .returned (.bool true) ∧ w = w' := by
  go_enter Try.func5, Try.ntmps5
  go_wp2
  go_ret
  exact ⟨rfl, rfl⟩

set_option maxHeartbeats 400000 in
theorem bytes5_no (a b : ByteArray) (w : World) (h : ¬ a.size + b.size ≤ 1048576) :
    Calls Try.prog 5 #[.string a, .string b] w fun e w' => e = .returned (.bool false) ∧ w = w' := by
  by_cases h1 : 1048576 < (a.size : Int)
  · go_enter Try.func5, Try.ntmps5
    go_wp2
    go_ret
    exact ⟨rfl, rfl⟩
  by_cases h2 : 1048576 < (b.size : Int)
  · go_enter Try.func5, Try.ntmps5
    go_wp2
    go_ret
    exact ⟨rfl, rfl⟩
  have h3 : 1048576 < (a.size : Int) + (b.size : Int) := by omega
  go_enter Try.func5, Try.ntmps5
  go_wp2
  go_ret
  exact ⟨rfl, rfl⟩

theorem join_eq (a b : ByteArray) : ((quoteB (a ++ b)).toList == ((quoteB a).extract 0 ((quoteB a).size - 1) ++ (quoteB b).extract 1 (quoteB b).size).toList) = true := by
  rw [beq_iff_eq, Lib.toList_data, Lib.toList_data, quoteB_list, ByteArray.data_append, ByteArray.data_append]
  simp only [Array.toList_append]
  rw [Plain.quote_join, Lib.extract_data, Lib.extract_data, quoteB_list, quoteB_list, quoteB_size, quoteB_size, Plain.quote_length, List.drop_zero, Nat.sub_zero]
  congr 1
  exact (List.take_of_length_le (by rw [List.length_drop, Plain.quote_length]; omega)).symm

set_option maxHeartbeats 400000 in
theorem walk3_main (a b : ByteArray) (w : World) (ha : a.size ≤ 524288) (hb : b.size ≤ 524288) :
    Calls Try.prog 3 #[.string a, .string b] w fun e w' => e = .returned (.bool true) ∧ Below w.heap.size w w' := by
  have hqa1 := (quoteB_size_le a).1
  have hqa := (quoteB_size_le a).2
  have hqa2 : (quoteB a).size ≤ 1048578 := by omega
  have hqb1 := (quoteB_size_le b).1
  have hqb := (quoteB_size_le b).2
  have hqb2 : (quoteB b).size ≤ 1048578 := by omega
  have hab : (a ++ b).size ≤ 1048576 := by rw [ByteArray.size_append]; omega
  have hj := join_eq a b
  clear hqa hqb
  go_enter Try.func3, Try.ntmps3
  go_wp2_with fail
  refine (bytes5_yes _ _ _ (by omega)).mono ?_
  rintro e w1 ⟨rfl, rfl⟩
  go_wp2_with fail
  refine (quote6 _ _ (by omega)).mono ?_
  rintro e w1 ⟨rfl, hb1⟩
  go_wp2_with fail
  refine (quote6 _ _ (by omega)).mono ?_
  rintro e w2 ⟨rfl, hb2⟩
  go_wp2_with fail
  refine (quote6 _ _ (by omega)).mono ?_
  rintro e w3 ⟨rfl, hb3⟩
  go_wp2_with fail
  go_quiet (fail)
  go_wp2_with fail
  refine (decode7 a _ (by omega)).mono ?_
  rintro e w4 ⟨rfl, hb4⟩
  go_wp2_with fail
  refine (decode7 b _ (by omega)).mono ?_
  rintro e w5 ⟨rfl, hb5⟩
  go_wp2_with fail
  refine (decode7 (a ++ b) _ (by omega)).mono ?_
  rintro e w6 ⟨rfl, hb6⟩
  go_wp2_with fail
  go_ret
  have c1 : Below w.heap.size w w3 := hb1.trans ((hb2.mono hb1.size).trans (hb3.mono (Nat.le_trans hb1.size hb2.size)))
  have c2 : Below w.heap.size w (w3.drewN nq) := below_drewN c1 nq
  have c3 : Below w.heap.size w w4 := c2.trans (hb4.mono c2.size)
  have c4 : Below w.heap.size w w5 := c3.trans (hb5.mono c3.size)
  exact ⟨rfl, c4.trans (hb6.mono c4.size)⟩

set_option maxHeartbeats 400000 in
theorem walk3 (a b : ByteArray) (w : World) :
    Calls Try.prog 3 #[.string a, .string b] w fun e w' => e = .returned (.bool true) ∧ Below w.heap.size w w' := by
  by_cases h0 : a.size + b.size ≤ 1048576
  · by_cases h1 : 524288 < (a.size : Int)
    · go_enter Try.func3, Try.ntmps3
      go_wp2_with (go_at_call 5; refine (bytes5_yes _ _ _ h0).mono ?_; rintro e w1 ⟨rfl, rfl⟩)
      go_ret
      exact ⟨rfl, Below.refl _ _⟩
    by_cases h2 : 524288 < (b.size : Int)
    · go_enter Try.func3, Try.ntmps3
      go_wp2_with (go_at_call 5; refine (bytes5_yes _ _ _ h0).mono ?_; rintro e w1 ⟨rfl, rfl⟩)
      go_ret
      exact ⟨rfl, Below.refl _ _⟩
    exact walk3_main a b w (by omega) (by omega)
  · go_enter Try.func3, Try.ntmps3
    go_wp2_with (go_at_call 5; refine (bytes5_no _ _ _ h0).mono ?_; rintro e w1 ⟨rfl, rfl⟩)
    go_ret
    exact ⟨rfl, Below.refl _ _⟩
end Go.Proofs.Qxb6616884a
