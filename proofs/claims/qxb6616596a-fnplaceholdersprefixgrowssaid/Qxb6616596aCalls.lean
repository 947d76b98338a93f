/-
  The walk of 'placeholders' and of 'ZZplaceholders': each hands back the bytes of 'Plain.ph'.
-/
import Derived.Test.Qxb6616596aShelf
import Derived.Test.Qxb6616596aPlain
import Derived.WalkKit
namespace Go.Proofs.Qxb6616596a
open Go.RowKit

/-- The string of n placeholders. -/
def phb (n : Nat) : ByteArray := ⟨(Plain.ph n).toArray⟩

theorem phb_list (n : Nat) : (phb n).data.toList = Plain.ph n := by simp [phb]
theorem phb_size (n : Nat) : (phb n).size = 3 * n - 2 := by
  rw [← Plain.ph_length]; simp [phb, ByteArray.size]

theorem trim_at (n : Nat) (w : World) (hn : n ≤ 65536) :
    Calls Try.prog 7 #[.string ⟨(Lib.repeatL [63, 44, 32] n).toArray⟩, .string ⟨#[44, 32]⟩] w fun e w' => e = .returned (.string (phb n)) ∧ w = w' := by
  have hs : (⟨(Lib.repeatL [63, 44, 32] n).toArray⟩ : ByteArray).size ≤ 9223372036854775807 := by
    have h := Lib.repeatL_length [63, 44, 32] n
    simp only [List.length_cons, List.length_nil] at h
    show (Lib.repeatL [63, 44, 32] n).toArray.size ≤ _
    rw [List.size_toArray, h]; omega
  refine (Try.strings_TrimSuffix _ _ w hs).mono ?_
  rintro e w' ⟨rfl, rfl⟩
  refine ⟨?_, rfl⟩
  have e1 : Lib.trimSuffix (Lib.repeatL [63, 44, 32] n).toArray.toList (#[44, 32] : Array UInt8).toList = Plain.ph n := Plain.trim_rep n
  show Ending.returned (.string ⟨(Lib.trimSuffix (Lib.repeatL [63, 44, 32] n).toArray.toList (#[44, 32] : Array UInt8).toList).toArray⟩) = _
  rw [e1]; rfl

set_option maxHeartbeats 400000 in
theorem ph6 (n : Nat) (w : World) (hn : n ≤ 65536) :
    Calls Try.prog 6 #[.int .i64 n] w fun e w' => e = .returned (.string (phb n)) ∧ Below w.heap.size w w' := by
  have hl : (⟨#[63, 44, 32]⟩ : ByteArray).size * n ≤ 140737488355328 := by show 3 * n ≤ _; omega
  go_enter Try.func6, Try.ntmps6
  go_wp2_with (first
    | (go_at_call 8; refine (Try.strings_Repeat _ _ _ (by omega) hl).mono ?_; rintro e w1 ⟨rfl, hb⟩)
    | (go_at_call 7; refine (trim_at _ _ hn).mono ?_; rintro e w2 ⟨rfl, rfl⟩))
  go_ret
  exact ⟨rfl, hb⟩

set_option maxHeartbeats 400000 in
theorem ph5 (n : Nat) (w : World) (hn : n ≤ 65536) :
    Calls Try.prog 5 #[.int .i64 n] w fun e w' => e = .returned (.string (phb n)) ∧ Below w.heap.size w w' := by
  go_enter Try.func5, Try.ntmps5
  go_wp2_with (go_at_call 6; refine (ph6 _ _ hn).mono ?_; rintro e w1 ⟨rfl, hb⟩)
  go_ret
  exact ⟨rfl, hb⟩

/-- The contract at an int that is no cast yet. -/
theorem ph5i (n : Int) (w : World) (h0 : 0 ≤ n) (hn : n ≤ 65536) :
    Calls Try.prog 5 #[.int .i64 n] w fun e w' => e = .returned (.string (phb n.toNat)) ∧ Below w.heap.size w w' := by
  have h := ph5 n.toNat w (by omega)
  rwa [Int.toNat_of_nonneg h0] at h
/-- The contract at a sum. -/
theorem ph5s (a b : Nat) (w : World) (hn : a + b ≤ 65536) :
    Calls Try.prog 5 #[.int .i64 ((a : Int) + (b : Int))] w fun e w' => e = .returned (.string (phb (a + b))) ∧ Below w.heap.size w w' := by
  have h := ph5 (a + b) w hn
  rwa [show ((a + b : Nat) : Int) = (a : Int) + (b : Int) from by omega] at h
/-- The contract at none. -/
theorem ph5z (w : World) :
    Calls Try.prog 5 #[.int .i64 0] w fun e w' => e = .returned (.string ⟨#[]⟩) ∧ Below w.heap.size w w' := ph5 0 w (by omega)
end Go.Proofs.Qxb6616596a
