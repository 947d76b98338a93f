/-
  The walk of 'zzDecodeLiteral' at a literal: it reads back the text.
-/
import Derived.Test.Qxb6616884aOwn
namespace Go.Proofs.Qxb6616884a
open Go.RowKit

set_option maxHeartbeats 400000 in
theorem decode7 (s : ByteArray) (w : World) (hs : s.size ≤ 2097152) :
    Calls Try.prog 7 #[.string (quoteB s)] w fun e w' => e = .returned (.tuple #[.string s, .bool true]) ∧ Below w.heap.size w w' := by
  have hq := quoteB_size_le s
  obtain ⟨hq1, hq2⟩ := hq
  have hq0 : ¬ ((quoteB s).size : Int) < 2 := by omega
  have hq3 : (quoteB s).size ≤ 4194306 := by omega
  clear hq2
  have q0 : (((quoteB s)[0]'(by omega)).toNat : Int) = 39 := by
    rw [num_at (quoteB s) 0 (by omega) 39 (by rw [quoteB_list]; rfl)]; rfl
  have q1 : (((quoteB s)[(quoteB s).size - 1]'(by omega)).toNat : Int) = 39 := by
    rw [num_at (quoteB s) ((quoteB s).size - 1) (by omega) 39 (by
      rw [quoteB_list, quoteB_size, Plain.quote, show (Plain.esc s.data.toList).length + 2 - 1 = (Plain.esc s.data.toList).length + 1 from by omega, List.getElem?_cons_succ, List.getElem?_append_right (Nat.le_refl _), Nat.sub_self]; rfl)]
    rfl
  obtain ⟨i0, hi, hz0, hz1, hz2⟩ := info_parts info5
  go_enter Try.func7, Try.ntmps7
  go_wp2_with (at_make; refine wpList_make_own _ rfl _ _ 28 rfl w.heap.size 5 i0 (.int .u8 0) 1 Try.underlying28 hi hz0 hz1 _ _ _ ((quoteB s).size - 2) rfl rfl (by omega) (by rw [hz2]; omega) (by unfold maxLen; omega) (Nat.le_refl _) ?_; intro w0 hown0 hgrow0)
  go_loopw [5, 6] (fun v i wr => ∃ k : Nat, k ≤ s.size ∧ i = .int .i64 ((Plain.esc (s.data.toList.take k)).length : Nat) ∧ wr.ownsRow w.heap.size 5 1 v k (Lib.byteCells (s.data.toList.take k)) ∧ Below w.heap.size w wr) (fun _ i _ => (quoteB s).size - (intOf i).toNat)
  case atStart => exact ⟨0, Nat.zero_le _, rfl, hown0, (Below.refl _ _).grown hgrow0 (Nat.le_refl _) (by simp)⟩
  case round =>
    obtain ⟨k, hk, rfl, hown, hb⟩ := hrel
    have hwz := hb.size
    by_cases hlt : k < s.size
    · have hl : k < s.data.toList.length := by simpa using hlt
      have hm := Plain.esc_take_lt s.data.toList k hl
      have hsz := quoteB_size s
      have HS : Hid (_ = _) := cells_push s k hlt
      have hbl := byte_list s k hlt hl
      by_cases h1 : s[k] = 92
      · have hc : s.data.toList[k] = 92 ∨ s.data.toList[k] = 39 := .inl (hbl.trans h1)
        have HE1 : Hid (_ = _) := Plain.esc_len_slash s.data.toList k hl hc
        have r0 := Plain.esc_slash s.data.toList k hl hc
        have r1 := Plain.esc_behind s.data.toList k hl hc
        rw [hbl, h1] at r1
        rw [h1, num92] at HS
        have hm2 := Plain.esc_take_le s.data.toList (k + 1)
        rw [HE1.out] at hm2
        clear hc hbl h1
        generalize (Plain.esc (s.data.toList.take k)).length = m at *
        have b0 : (m : Int) < (((quoteB s).size - 1 - 1 : Nat) : Int) := by omega
        have b1 : (m : Int) + 1 < (((quoteB s).size - 1 - 1 : Nat) : Int) := by omega
        have v0 := inner_num s m _ r0 (by rw [inner_size]; omega)
        have v1 := inner_num s (m + 1) _ r1 (by rw [inner_size]; omega)
        rw [num92] at v0
        rw [num92] at v1
        clear r0 r1 hsz hm hm2
        go_wp2_with (at_builtin; refine wpList_append_own _ rfl _ _ 28 rfl w.heap.size 5 i0 (.int .u8 0) 1 1 Try.underlying28 hi hz0 hz1 hz2 rfl (by decide) _ _ _ rfl (hown.alloc _) ⟨wr.heap.size, 0, none⟩ 1 1 [.int .u8 92] rfl rfl (cell_one_new _ _ _) (fun x hx => by simp at hx; subst hx; rfl) (by unfold maxLen; omega) (by omega) (by simp; omega) ?_; intro v' w3 hown' hgrow3 _)
        rw [HS.out] at hown'
        have hb3 := Below.grown (hb.alloc hb.size _) hgrow3 (by simp; omega) (own_row hown)
        clear hgrow3 hown
        go_roundw
        case rel => exact ⟨k + 1, by omega, by rw [HE1.out]; go_num, hown', hb3⟩
        case measure => simp [intOf]; omega
      by_cases h2 : s[k] = 39
      · have hc : s.data.toList[k] = 92 ∨ s.data.toList[k] = 39 := .inr (hbl.trans h2)
        have HE1 : Hid (_ = _) := Plain.esc_len_slash s.data.toList k hl hc
        have r0 := Plain.esc_slash s.data.toList k hl hc
        have r1 := Plain.esc_behind s.data.toList k hl hc
        rw [hbl, h2] at r1
        rw [h2, num39] at HS
        have hm2 := Plain.esc_take_le s.data.toList (k + 1)
        rw [HE1.out] at hm2
        clear hc hbl h1 h2
        generalize (Plain.esc (s.data.toList.take k)).length = m at *
        have b0 : (m : Int) < (((quoteB s).size - 1 - 1 : Nat) : Int) := by omega
        have b1 : (m : Int) + 1 < (((quoteB s).size - 1 - 1 : Nat) : Int) := by omega
        have v0 := inner_num s m _ r0 (by rw [inner_size]; omega)
        have v1 := inner_num s (m + 1) _ r1 (by rw [inner_size]; omega)
        rw [num92] at v0
        rw [num39] at v1
        clear r0 r1 hsz hm hm2
        go_wp2_with (at_builtin; refine wpList_append_own _ rfl _ _ 28 rfl w.heap.size 5 i0 (.int .u8 0) 1 1 Try.underlying28 hi hz0 hz1 hz2 rfl (by decide) _ _ _ rfl (hown.alloc _) ⟨wr.heap.size, 0, none⟩ 1 1 [.int .u8 39] rfl rfl (cell_one_new _ _ _) (fun x hx => by simp at hx; subst hx; rfl) (by unfold maxLen; omega) (by omega) (by simp; omega) ?_; intro v' w3 hown' hgrow3 _)
        rw [HS.out] at hown'
        have hb3 := Below.grown (hb.alloc hb.size _) hgrow3 (by simp; omega) (own_row hown)
        clear hgrow3 hown
        go_roundw
        case rel => exact ⟨k + 1, by omega, by rw [HE1.out]; go_num, hown', hb3⟩
        case measure => simp [intOf]; omega
      · have hc : ¬ (s.data.toList[k] = 92 ∨ s.data.toList[k] = 39) := by rw [hbl]; rintro (h | h); exact h1 h; exact h2 h
        have HE1 : Hid (_ = _) := Plain.esc_len_plain s.data.toList k hl hc
        have r0 := Plain.esc_plain s.data.toList k hl hc
        rw [hbl] at r0
        have t1 := num_ne s[k] 92 h1
        have t2 := num_ne s[k] 39 h2
        rw [num92] at t1
        rw [num39] at t2
        clear hc hbl h1 h2
        generalize (Plain.esc (s.data.toList.take k)).length = m at *
        have b0 : (m : Int) < (((quoteB s).size - 1 - 1 : Nat) : Int) := by omega
        have v0 := inner_num s m _ r0 (by rw [inner_size]; omega)
        clear r0 hsz hm
        go_wp2_with (at_builtin; refine wpList_append_own _ rfl _ _ 28 rfl w.heap.size 5 i0 (.int .u8 0) 1 1 Try.underlying28 hi hz0 hz1 hz2 rfl (by decide) _ _ _ rfl (hown.alloc _) ⟨wr.heap.size, 0, none⟩ 1 1 [.int .u8 (s[k].toNat : Int)] rfl rfl (cell_one_new _ _ _) (fun x hx => by simp at hx; subst hx; rfl) (by unfold maxLen; omega) (by omega) (by simp; omega) ?_; intro v' w3 hown' hgrow3 _)
        rw [HS.out] at hown'
        have hb3 := Below.grown (hb.alloc hb.size _) hgrow3 (by simp; omega) (own_row hown)
        clear hgrow3 hown
        go_roundw
        case rel => exact ⟨k + 1, by omega, by rw [HE1.out]; go_num, hown', hb3⟩
        case measure => simp [intOf]; omega
    · have hks : k = s.size := by omega
      have hcv := own_all s k hks hown
      have hall : s.data.toList.take k = s.data.toList := List.take_of_length_le (by rw [← Lib.size_eq]; omega)
      have hsz := quoteB_size s
      have hm : (Plain.esc (s.data.toList.take k)).length = (quoteB s).size - 1 - 1 := by rw [hall]; omega
      clear hall hsz hown
      generalize (Plain.esc (s.data.toList.take k)).length = m at *
      have b0 : ¬ (m : Int) < (((quoteB s).size - 1 - 1 : Nat) : Int) := by omega
      clear hm hks
      go_wp2_with fail
      go_ret2
      exact ⟨rfl, hb⟩
end Go.Proofs.Qxb6616884a
