/-
  The walk of 'FnQuoteStringEndsWhereItsLiteralEnds' (function 4).
-/
import Derived.Test.Qxb6616884aLex
namespace Go.Proofs.Qxb6616884a
open Go.RowKit

set_option maxHeartbeats 400000 in
theorem bytes8_yes (a b : ByteArray) (w : World) (h : a.size + b.size ≤ 1048576) :
    Calls Try.prog 8 #[.string a, .string b] w fun e w' => e = .returned (.bool true) ∧ w = w' := by
  go_enter Try.func8, Try.ntmps8
  go_wp2
  go_ret
  exact ⟨rfl, rfl⟩

set_option maxHeartbeats 400000 in
theorem bytes8_no (a b : ByteArray) (w : World) (h : ¬ a.size + b.size ≤ 1048576) :
    Calls Try.prog 8 #[.string a, .string b] w fun e w' => e = .returned (.bool false) ∧ w = w' := by
  by_cases h1 : 1048576 < (a.size : Int)
  · go_enter Try.func8, Try.ntmps8
    go_wp2
    go_ret
    exact ⟨rfl, rfl⟩
  by_cases h2 : 1048576 < (b.size : Int)
  · go_enter Try.func8, Try.ntmps8
    go_wp2
    go_ret
    exact ⟨rfl, rfl⟩
  have h3 : 1048576 < (a.size : Int) + (b.size : Int) := by omega
  go_enter Try.func8, Try.ntmps8
  go_wp2
  go_ret
  exact ⟨rfl, rfl⟩

set_option maxHeartbeats 400000 in
theorem walk4_main (a t : ByteArray) (w : World) (ha : a.size ≤ 524288) (ht : t.size ≤ 524288) :
    Calls Try.prog 4 #[.string a, .string t] w fun e w' => e = .returned (.bool true) ∧ Below w.heap.size w w' := by
  have hq := (quoteB_size_le a).2
  have hq3 : (quoteB a).size ≤ 1048578 := by omega
  have hS : Hid ((quoteB a ++ t).data.toList = Plain.quote a.data.toList ++ t.data.toList) := by
    show (quoteB a ++ t).data.toList = _
    simp [ByteArray.data_append, quoteB_list]
  have hl : (quoteB a ++ t).size ≤ 16777216 := by rw [ByteArray.size_append]; omega
  clear hq
  go_enter Try.func4, Try.ntmps4
  go_wp2_with fail
  refine (bytes8_yes _ _ _ (by omega)).mono ?_
  rintro e w1 ⟨rfl, rfl⟩
  go_wp2_with fail
  refine (quote6 _ _ (by omega)).mono ?_
  rintro e w1 ⟨rfl, hb1⟩
  go_wp2_with fail
  refine (lex9 _ a _ hS.out _ hl).mono ?_
  rintro e w2 ⟨rfl, hb2⟩
  go_wp2_with fail
  go_ret
  exact ⟨rfl, hb1.trans (hb2.mono hb1.size)⟩

set_option maxHeartbeats 400000 in
theorem walk4 (a t : ByteArray) (w : World) :
    Calls Try.prog 4 #[.string a, .string t] w fun e w' => e = .returned (.bool true) ∧ Below w.heap.size w w' := by
  by_cases h0 : a.size + t.size ≤ 1048576
  · by_cases h1 : 524288 < (a.size : Int)
    · go_enter Try.func4, Try.ntmps4
      go_wp2_with (go_at_call 8; refine (bytes8_yes _ _ _ h0).mono ?_; rintro e w1 ⟨rfl, rfl⟩)
      go_ret
      exact ⟨rfl, Below.refl _ _⟩
    by_cases h2 : 524288 < (t.size : Int)
    · go_enter Try.func4, Try.ntmps4
      go_wp2_with (go_at_call 8; refine (bytes8_yes _ _ _ h0).mono ?_; rintro e w1 ⟨rfl, rfl⟩)
      go_ret
      exact ⟨rfl, Below.refl _ _⟩
    exact walk4_main a t w (by omega) (by omega)
  · go_enter Try.func4, Try.ntmps4
    go_wp2_with (go_at_call 8; refine (bytes8_no _ _ _ h0).mono ?_; rintro e w1 ⟨rfl, rfl⟩)
    go_ret
    exact ⟨rfl, Below.refl _ _⟩
end Go.Proofs.Qxb6616884a
