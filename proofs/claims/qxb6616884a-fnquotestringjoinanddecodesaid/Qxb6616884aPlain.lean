/-
  Plain lists of bytes: what 'quoteString' writes, and what a reader of it finds. No Go in sight.
-/
namespace Go.Proofs.Qxb6616884a.Plain

/-- One byte, escaped where it must be. -/
def escOne (c : UInt8) : List UInt8 := if c = 92 ∨ c = 39 then [92, c] else [c]

/-- A text, escaped. -/
def esc : List UInt8 → List UInt8
  | [] => []
  | c :: l => escOne c ++ esc l

/-- The literal. -/
def quote (l : List UInt8) : List UInt8 := 39 :: (esc l ++ [39])

theorem esc_append : ∀ a b, esc (a ++ b) = esc a ++ esc b
  | [], _ => rfl
  | c :: a, b => by simp [esc, esc_append a b]

theorem esc_snoc (a : List UInt8) (c : UInt8) : esc (a ++ [c]) = esc a ++ escOne c := by
  rw [esc_append]; simp [esc]

theorem escOne_length (c : UInt8) : 1 ≤ (escOne c).length ∧ (escOne c).length ≤ 2 := by
  unfold escOne; split <;> simp

theorem esc_length : ∀ l, l.length ≤ (esc l).length ∧ (esc l).length ≤ 2 * l.length
  | [] => by simp [esc]
  | c :: l => by
    have := esc_length l
    have := escOne_length c
    simp [esc]; omega

theorem quote_length (l : List UInt8) : (quote l).length = (esc l).length + 2 := by simp [quote]

theorem take_succ_at (l : List UInt8) (k : Nat) (h : k < l.length) : l.take (k + 1) = l.take k ++ [l[k]] :=
  List.take_succ_eq_append_getElem h

theorem esc_take_succ (l : List UInt8) (k : Nat) (h : k < l.length) : esc (l.take (k + 1)) = esc (l.take k) ++ escOne l[k] := by
  rw [take_succ_at l k h, esc_snoc]

theorem esc_split (l : List UInt8) (k : Nat) (h : k < l.length) : esc l = esc (l.take k) ++ (escOne l[k] ++ esc (l.drop (k + 1))) := by
  have e : l = l.take (k + 1) ++ l.drop (k + 1) := (List.take_append_drop _ _).symm
  calc esc l = esc (l.take (k + 1) ++ l.drop (k + 1)) := by rw [← e]
    _ = _ := by rw [esc_append, esc_take_succ l k h, List.append_assoc]

/-- The byte at the head of the k-th byte's escape, where the byte needs none. -/
theorem esc_plain (l : List UInt8) (k : Nat) (h : k < l.length) (hc : ¬ (l[k] = 92 ∨ l[k] = 39)) : (esc l)[(esc (l.take k)).length]? = some l[k] := by
  rw [esc_split l k h, List.getElem?_append_right (Nat.le_refl _), Nat.sub_self, escOne, if_neg hc]
  rfl

theorem esc_slash (l : List UInt8) (k : Nat) (h : k < l.length) (hc : l[k] = 92 ∨ l[k] = 39) : (esc l)[(esc (l.take k)).length]? = some 92 := by
  rw [esc_split l k h, List.getElem?_append_right (Nat.le_refl _), Nat.sub_self, escOne, if_pos hc]
  rfl

theorem esc_behind (l : List UInt8) (k : Nat) (h : k < l.length) (hc : l[k] = 92 ∨ l[k] = 39) : (esc l)[(esc (l.take k)).length + 1]? = some l[k] := by
  rw [esc_split l k h, List.getElem?_append_right (by omega), Nat.add_sub_cancel_left, escOne, if_pos hc]
  rfl

theorem esc_len_plain (l : List UInt8) (k : Nat) (h : k < l.length) (hc : ¬ (l[k] = 92 ∨ l[k] = 39)) : (esc (l.take (k + 1))).length = (esc (l.take k)).length + 1 := by
  rw [esc_take_succ l k h, escOne, if_neg hc, List.length_append]; rfl

theorem esc_len_slash (l : List UInt8) (k : Nat) (h : k < l.length) (hc : l[k] = 92 ∨ l[k] = 39) : (esc (l.take (k + 1))).length = (esc (l.take k)).length + 2 := by
  rw [esc_take_succ l k h, escOne, if_pos hc, List.length_append]; rfl

theorem esc_take_le (l : List UInt8) (k : Nat) : (esc (l.take k)).length ≤ (esc l).length := by
  have e : l = l.take k ++ l.drop k := (List.take_append_drop _ _).symm
  have : (esc l).length = (esc (l.take k ++ l.drop k)).length := by rw [← e]
  rw [this, esc_append, List.length_append]; omega

theorem esc_take_lt (l : List UInt8) (k : Nat) (h : k < l.length) : (esc (l.take k)).length < (esc l).length := by
  have := esc_take_le l (k + 1)
  rw [esc_take_succ l k h, List.length_append] at this
  have := (escOne_length l[k]).1
  omega

theorem quote_join (a b : List UInt8) : quote (a ++ b) = (quote a).take ((quote a).length - 1) ++ (quote b).drop 1 := by
  have e : (quote a).take ((quote a).length - 1) = 39 :: esc a := by
    rw [quote_length]
    show (39 :: (esc a ++ [39])).take ((esc a).length + 2 - 1) = _
    rw [show (esc a).length + 2 - 1 = (esc a).length + 1 from by omega, List.take_succ_cons, List.take_left]
  rw [e]
  simp [quote, esc_append]

end Go.Proofs.Qxb6616884a.Plain
