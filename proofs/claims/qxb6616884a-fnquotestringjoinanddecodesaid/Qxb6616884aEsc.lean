/-
  The walk of 'escapeQuoted' at the quote byte, of 'quoteString' and of 'ZZquoteString'.
-/
import Derived.Test.Qxb6616884aShelf
import Derived.Test.Qxb6616884aPlain
import Derived.WalkKit
import Derived.WalkSpells
namespace Go.Proofs.Qxb6616884a
open Go.RowKit

theorem fresh_builder (w : World) : Lib.IsBuilder 32 5 w.heap.size w.heap.size (Lib.byteCells []) (w.alloc (.cells #[.pointer none, .slice none 0 0] 32)) := by
  refine .inl ⟨Nat.le_refl _, .slice none 0 0, ?_, World.ownsRow_nil _ _ _ _, by simp [Value.ownBlock]⟩
  show (w.heap.push _)[w.heap.size]? = _
  simp

theorem byte_list (s : ByteArray) (k : Nat) (_h : k < s.size) (h' : k < s.data.toList.length) : s.data.toList[k] = s[k] := rfl

theorem cells_snoc1 (s : ByteArray) (k : Nat) (h : k < s.size) (h1 : s[k] = 92 ∨ s[k] = 39) :
    Lib.byteCells (Plain.esc (s.data.toList.take k)) ++ [.int .u8 92] ++ [.int .u8 (s[k].toNat : Int)] = Lib.byteCells (Plain.esc (s.data.toList.take (k + 1))) := by
  have hl : k < s.data.toList.length := by simpa using h
  rw [Plain.esc_take_succ _ k hl, byte_list s k h hl, Plain.escOne, if_pos h1]
  simp [Lib.byteCells]

theorem cells_snoc0 (s : ByteArray) (k : Nat) (h : k < s.size) (h1 : ¬ (s[k] = 92 ∨ s[k] = 39)) :
    Lib.byteCells (Plain.esc (s.data.toList.take k)) ++ [.int .u8 (s[k].toNat : Int)] = Lib.byteCells (Plain.esc (s.data.toList.take (k + 1))) := by
  have hl : k < s.data.toList.length := by simpa using h
  rw [Plain.esc_take_succ _ k hl, byte_list s k h hl, Plain.escOne, if_neg h1]
  simp [Lib.byteCells]

theorem num_eq (c v : UInt8) (h : c = v) : ((c.toNat : Int) == (v.toNat : Int)) = true := by rw [h]; simp
theorem num_ne (c v : UInt8) (h : ¬ c = v) : ((c.toNat : Int) == (v.toNat : Int)) = false := by
  rw [beq_eq_false_iff_ne]; intro e; exact h (UInt8.toNat_inj.1 (by omega))

theorem cells_len (l : List UInt8) (k n : Nat) (hk : k ≤ n) (hn : n ≤ 2097152) : (Lib.byteCells (Plain.esc (l.take k))).length ≤ 4194304 := by
  rw [Lib.byteCells_length]
  have := (Plain.esc_length (l.take k)).2
  have h2 : (l.take k).length ≤ k := List.length_take_le _ _
  omega

set_option maxHeartbeats 400000 in
theorem esc11 (s : ByteArray) (w : World) (hs : s.size ≤ 2097152) :
    Calls Try.prog 11 #[.string s, .int .u8 39] w fun e w' => e = .returned (.string ⟨(Plain.esc s.data.toList).toArray⟩) ∧ Below w.heap.size w w' := by
  go_enter Try.func11, Try.ntmps11
  go_wp2_with fail
  go_loopw [9] (fun i wr => ∃ k : Nat, k ≤ s.size ∧ i = .int .i64 k ∧ Lib.IsBuilder 32 5 w.heap.size w.heap.size (Lib.byteCells (Plain.esc (s.data.toList.take k))) wr ∧ Below w.heap.size w wr) (fun i _ => s.size - (intOf i).toNat)
  case atStart => exact ⟨0, Nat.zero_le _, rfl, fresh_builder w, (Below.refl _ _).alloc (Nat.le_refl _) _⟩
  case round =>
    obtain ⟨k, hk, rfl, hbd, hb⟩ := hrel
    have hcl := cells_len s.data.toList k s.size hk hs
    by_cases hlt : k < s.size
    · by_cases h1 : s[k] = 92
      · have HS : Hid (_ = _) := cells_snoc1 s k hlt (.inl h1)
        have t1 : ((s[k].toNat : Int) == 92) = true := num_eq s[k] 92 h1
        clear h1
        go_wp2_with fail
        refine (Try.Builder_WriteByte w.heap.size w.heap.size _ _ _ hbd (by omega) hb.size).mono ?_
        rintro e w1 ⟨rfl, hbd1, hb1⟩
        go_wp2_with fail
        refine (Try.Builder_WriteByte w.heap.size w.heap.size _ _ _ (.inr hbd1) (by simp; omega) (Nat.le_trans hb.size hb1.size)).mono ?_
        rintro e w2 ⟨rfl, hbd2, hb2⟩
        go_wp2_with fail
        go_roundw
        case rel => exact ⟨k + 1, by omega, by go_num, .inr (by rw [← HS.out]; exact hbd2), hb.trans (hb1.trans hb2)⟩
        case measure => simp [intOf]; omega
      · by_cases h2 : s[k] = 39
        · have HS : Hid (_ = _) := cells_snoc1 s k hlt (.inr h2)
          have t1 : ((s[k].toNat : Int) == 92) = false := num_ne s[k] 92 h1
          have t2 : ((s[k].toNat : Int) == 39) = true := num_eq s[k] 39 h2
          clear h1 h2
          go_wp2_with fail
          refine (Try.Builder_WriteByte w.heap.size w.heap.size _ _ _ hbd (by omega) hb.size).mono ?_
          rintro e w1 ⟨rfl, hbd1, hb1⟩
          go_wp2_with fail
          refine (Try.Builder_WriteByte w.heap.size w.heap.size _ _ _ (.inr hbd1) (by simp; omega) (Nat.le_trans hb.size hb1.size)).mono ?_
          rintro e w2 ⟨rfl, hbd2, hb2⟩
          go_wp2_with fail
          go_roundw
          case rel => exact ⟨k + 1, by omega, by go_num, .inr (by rw [← HS.out]; exact hbd2), hb.trans (hb1.trans hb2)⟩
          case measure => simp [intOf]; omega
        · have HS : Hid (_ = _) := cells_snoc0 s k hlt (by rintro (h | h); exact h1 h; exact h2 h)
          have t1 : ((s[k].toNat : Int) == 92) = false := num_ne s[k] 92 h1
          have t2 : ((s[k].toNat : Int) == 39) = false := num_ne s[k] 39 h2
          clear h1 h2
          go_wp2_with fail
          refine (Try.Builder_WriteByte w.heap.size w.heap.size _ _ _ hbd (by omega) hb.size).mono ?_
          rintro e w1 ⟨rfl, hbd1, hb1⟩
          go_wp2_with fail
          go_roundw
          case rel => exact ⟨k + 1, by omega, by go_num, .inr (by rw [← HS.out]; exact hbd1), hb.trans hb1⟩
          case measure => simp [intOf]; omega
    · have hall : Hid (s.data.toList.take k = s.data.toList) := List.take_of_length_le (by rw [← Lib.size_eq]; omega)
      rw [hall.out] at hbd
      go_wp2_with fail
      refine (Try.Builder_String_any w.heap.size w.heap.size _ _ hbd hb.size).mono ?_
      rintro e w1 ⟨rfl, hb1⟩
      go_wp2_with fail
      go_ret
      exact ⟨rfl, hb.trans hb1⟩

/-- The literal as bytes. -/
def quoteB (s : ByteArray) : ByteArray := ⟨(Plain.quote s.data.toList).toArray⟩

theorem quoteB_list (s : ByteArray) : (quoteB s).data.toList = Plain.quote s.data.toList := by simp [quoteB]
theorem quoteB_size (s : ByteArray) : (quoteB s).size = (Plain.esc s.data.toList).length + 2 := by
  rw [← Plain.quote_length]; simp [quoteB, ByteArray.size]
theorem quoteB_size_le (s : ByteArray) : 2 ≤ (quoteB s).size ∧ (quoteB s).size ≤ 2 * s.size + 2 := by
  rw [quoteB_size]
  have := (Plain.esc_length s.data.toList).2
  rw [← Lib.size_eq] at this
  omega
theorem quoteB_eq (s : ByteArray) : (⟨#[39]⟩ : ByteArray) ++ ⟨(Plain.esc s.data.toList).toArray⟩ ++ ⟨#[39]⟩ = quoteB s := by
  apply ByteArray.ext
  rw [quoteB, Plain.quote]
  simp [ByteArray.data_append]

theorem esc_size (s : ByteArray) (hs : s.size ≤ 2097152) : (Plain.esc s.data.toList).length ≤ 4194304 := by
  have := (Plain.esc_length s.data.toList).2
  rw [← Lib.size_eq] at this
  omega

set_option maxHeartbeats 400000 in
theorem quote10 (s : ByteArray) (w : World) (hs : s.size ≤ 2097152) :
    Calls Try.prog 10 #[.string s] w fun e w' => e = .returned (.string (quoteB s)) ∧ Below w.heap.size w w' := by
  have hz := esc_size s hs
  have HQ : Hid (_ = _) := quoteB_eq s
  go_enter Try.func10, Try.ntmps10
  go_wp2_with fail
  refine (esc11 _ _ hs).mono ?_
  rintro e w1 ⟨rfl, hb1⟩
  go_wp2_with fail
  go_ret
  exact ⟨by rw [← HQ.out]; rfl, hb1⟩

set_option maxHeartbeats 400000 in
theorem quote6 (s : ByteArray) (w : World) (hs : s.size ≤ 2097152) :
    Calls Try.prog 6 #[.string s] w fun e w' => e = .returned (.string (quoteB s)) ∧ Below w.heap.size w w' := by
  go_enter Try.func6, Try.ntmps6
  go_wp2_with fail
  refine (quote10 _ _ hs).mono ?_
  rintro e w1 ⟨rfl, hb1⟩
  go_wp2_with fail
  go_ret
  exact ⟨rfl, hb1⟩
end Go.Proofs.Qxb6616884a
