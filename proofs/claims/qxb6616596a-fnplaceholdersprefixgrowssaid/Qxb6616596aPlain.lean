/-
  Plain lists of bytes: what 'placeholders(n)' hands back, and what the two laws ask of it. No Go in sight.
-/
import Derived.Lib.Repeat
import Derived.Lib.Strings
namespace Go.Proofs.Qxb6616596a.Plain
open Go

/-- The list of n placeholders. -/
def ph : Nat → List UInt8
  | 0 => []
  | n + 1 => 63 :: Lib.repeatL [44, 32, 63] n

theorem rep_shift : ∀ n, Lib.repeatL [63, 44, 32] (n + 1) = (63 :: Lib.repeatL [44, 32, 63] n) ++ [44, 32]
  | 0 => by simp [Lib.repeatL]
  | n + 1 => by
    have h := rep_shift n
    rw [Lib.repeatL, h]
    simp [Lib.repeatL]

theorem trim_rep : ∀ n, Lib.trimSuffix (Lib.repeatL [63, 44, 32] n) [44, 32] = ph n
  | 0 => by decide
  | n + 1 => by
    rw [rep_shift]
    unfold Lib.trimSuffix Lib.hasSuffix
    rw [if_pos (by rw [List.isSuffixOf_iff_suffix]; exact List.suffix_append _ _)]
    rw [List.length_append, Nat.add_sub_cancel, List.take_left]
    rfl

theorem ph_length_succ (n : Nat) : (ph (n + 1)).length = 3 * n + 1 := by
  simp [ph, Lib.repeatL_length]; omega

theorem ph_length (n : Nat) : (ph n).length = 3 * n - 2 := by
  cases n with
  | zero => rfl
  | succ n => rw [ph_length_succ]; omega

theorem ph_zero : ph 0 = [] := rfl

theorem ph_eq_nil (n : Nat) : ph n = [] ↔ n = 0 := by
  cases n <;> simp [ph]

theorem ph_add (a b : Nat) : ph (a + 1 + (b + 1)) = ph (a + 1) ++ [44, 32] ++ ph (b + 1) := by
  have e : a + 1 + (b + 1) = (a + (1 + b)) + 1 := by omega
  rw [e]
  simp [ph, Lib.repeatL_add, Lib.repeatL]

theorem ph_prefix (a k : Nat) : ph (a + 1 + k) = ph (a + 1) ++ Lib.repeatL [44, 32, 63] k := by
  have e : a + 1 + k = (a + k) + 1 := by omega
  rw [e]
  simp [ph, Lib.repeatL_add]

/-- How many question marks. -/
def marks (l : List UInt8) : Nat := l.count 63

theorem marks_rep : ∀ n, marks (Lib.repeatL [44, 32, 63] n) = n
  | 0 => rfl
  | n + 1 => by
    have h := marks_rep n
    unfold marks at h ⊢
    rw [Lib.repeatL, List.count_append, h, show List.count 63 ([44, 32, 63] : List UInt8) = 1 from by decide]
    omega

theorem marks_ph (n : Nat) : marks (ph n) = n := by
  cases n with
  | zero => rfl
  | succ n =>
    have h := marks_rep n
    unfold marks at h ⊢
    unfold ph
    rw [List.count_cons, h]
    simp

theorem marks_snoc (l : List UInt8) (c : UInt8) : marks (l ++ [c]) = marks l + if c = 63 then 1 else 0 := by
  unfold marks
  rw [List.count_append]
  by_cases h : c = 63 <;> simp [h]

theorem marks_le (l : List UInt8) : marks l ≤ l.length := List.count_le_length

theorem rep_at : ∀ k j, j < k → (Lib.repeatL [44, 32, 63] k)[3 * j]? = some 44 ∧ (Lib.repeatL [44, 32, 63] k)[3 * j + 1]? = some 32 ∧ (Lib.repeatL [44, 32, 63] k)[3 * j + 2]? = some 63
  | 0, _, h => by omega
  | k + 1, 0, _ => by simp [Lib.repeatL]
  | k + 1, j + 1, h => by
    have ih := rep_at k j (by omega)
    have e0 : 3 * (j + 1) = 3 * j + 1 + 1 + 1 := by omega
    simp only [Lib.repeatL, e0, List.cons_append, List.nil_append, List.getElem?_cons_succ]
    refine ⟨ih.1, ?_, ?_⟩
    · have := ih.2.1; simpa [Nat.add_right_comm] using this
    · have := ih.2.2; simpa [Nat.add_right_comm] using this

end Go.Proofs.Qxb6616596a.Plain
