/-
  The walk of 'zzLexLiteral' at a literal with whatever behind it: it stops where the literal ends, and has read the text.
-/
import Derived.Test.Qxb6616884aOwn
namespace Go.Proofs.Qxb6616884a
open Go.RowKit

theorem lit_size (S a : ByteArray) (tl : List UInt8) (hS : S.data.toList = Plain.quote a.data.toList ++ tl) : S.size = (Plain.esc a.data.toList).length + 2 + tl.length := by
  rw [Lib.size_eq, hS, List.length_append, Plain.quote_length]

theorem lit_at (S a : ByteArray) (tl : List UInt8) (hS : S.data.toList = Plain.quote a.data.toList ++ tl) (m : Nat) (v : UInt8) (e : (Plain.esc a.data.toList)[m]? = some v) :
    S.data.toList[1 + m]? = some v := by
  have hm : m < (Plain.esc a.data.toList).length := (List.getElem?_eq_some_iff.1 e).1
  rw [hS, Plain.quote, Nat.add_comm 1 m, List.cons_append, List.getElem?_cons_succ, List.append_assoc, List.getElem?_append_left hm, e]

theorem lit_num (S a : ByteArray) (tl : List UInt8) (hS : S.data.toList = Plain.quote a.data.toList ++ tl) (m : Nat) (v : UInt8) (e : (Plain.esc a.data.toList)[m]? = some v) (h : 1 + m < S.size) :
    ((S[1 + m]'h).toNat : Int) = (v.toNat : Int) := by
  rw [num_at S (1 + m) h v (lit_at S a tl hS m v e)]

theorem lit_num' (S a : ByteArray) (tl : List UInt8) (hS : S.data.toList = Plain.quote a.data.toList ++ tl) (m : Nat) (v : UInt8) (e : (Plain.esc a.data.toList)[m + 1]? = some v) (h : 1 + m + 1 < S.size) :
    ((S[1 + m + 1]'h).toNat : Int) = (v.toNat : Int) := by
  rw [num_at S (1 + m + 1) h v (by rw [Nat.add_assoc]; exact lit_at S a tl hS (m + 1) v e)]

theorem lit_end (S a : ByteArray) (tl : List UInt8) (hS : S.data.toList = Plain.quote a.data.toList ++ tl) (m : Nat) (hm : m = (Plain.esc a.data.toList).length) (h : 1 + m < S.size) :
    ((S[1 + m]'h).toNat : Int) = 39 := by
  rw [num_at S (1 + m) h 39 (by
    rw [hS, Plain.quote, Nat.add_comm 1 m, List.cons_append, List.getElem?_cons_succ, List.append_assoc, List.getElem?_append_right (by omega), hm, Nat.sub_self]; rfl)]
  rfl

theorem lit_head (S a : ByteArray) (tl : List UInt8) (hS : S.data.toList = Plain.quote a.data.toList ++ tl) (h : 0 < S.size) : ((S[0]'h).toNat : Int) = 39 := by
  rw [num_at S 0 h 39 (by rw [hS]; rfl)]
  rfl

set_option maxHeartbeats 400000 in
theorem lex9 (S a : ByteArray) (tl : List UInt8) (hS0 : S.data.toList = Plain.quote a.data.toList ++ tl) (w : World) (hs : S.size ≤ 16777216) :
    Calls Try.prog 9 #[.string S] w fun e w' => e = .returned (.tuple #[.string a, .int .i64 (quoteB a).size, .bool true]) ∧ Below w.heap.size w w' := by
  have hsz := lit_size S a tl hS0
  have hlen := (Plain.esc_length a.data.toList).1
  rw [← Lib.size_eq] at hlen
  have hp0 : 0 < S.size := by omega
  have q0 := lit_head S a tl hS0 hp0
  have hS : Hid (_ = _) := hS0
  have HQ : Hid (_ = _) := quoteB_size a
  clear hS0
  have hq0 : ((S.size : Int) == 0) = false := beq_eq_false_iff_ne.2 (by omega)
  obtain ⟨E, hE⟩ : ∃ E, E = (Plain.esc a.data.toList).length := ⟨_, rfl⟩
  rw [← hE] at hsz hlen
  have hE2 : E + 2 ≤ S.size := by omega
  have HE : Hid (_ = _) := hE
  clear hE hsz
  obtain ⟨i0, hi, hz0, hz1, hz2⟩ := info_parts info5
  go_enter Try.func9, Try.ntmps9
  go_wp2_with (at_make; refine wpList_make_own _ rfl _ _ 28 rfl w.heap.size 5 i0 (.int .u8 0) 1 Try.underlying28 hi hz0 hz1 _ _ _ S.size rfl rfl (by omega) (by rw [hz2]; omega) (by unfold maxLen; omega) (Nat.le_refl _) ?_; intro w0 hown0 hgrow0)
  go_loopw [5, 6] (fun v i wr => ∃ k : Nat, k ≤ a.size ∧ i = .int .i64 (1 + ((Plain.esc (a.data.toList.take k)).length : Nat)) ∧ wr.ownsRow w.heap.size 5 1 v k (Lib.byteCells (a.data.toList.take k)) ∧ Below w.heap.size w wr) (fun _ i _ => S.size - (intOf i).toNat)
  case atStart => exact ⟨0, Nat.zero_le _, rfl, hown0, (Below.refl _ _).grown hgrow0 (Nat.le_refl _) (by simp)⟩
  case round =>
    obtain ⟨k, hk, rfl, hown, hb⟩ := hrel
    have hwz := hb.size
    by_cases hlt : k < a.size
    · have hl : k < a.data.toList.length := by simpa using hlt
      have hm := Plain.esc_take_lt a.data.toList k hl
      rw [← HE.out] at hm
      have HS : Hid (_ = _) := cells_push a k hlt
      have hbl := byte_list a k hlt hl
      by_cases h1 : a[k] = 92
      · have hc : a.data.toList[k] = 92 ∨ a.data.toList[k] = 39 := .inl (hbl.trans h1)
        have HE1 : Hid (_ = _) := Plain.esc_len_slash a.data.toList k hl hc
        have r0 := Plain.esc_slash a.data.toList k hl hc
        have r1 := Plain.esc_behind a.data.toList k hl hc
        rw [hbl, h1] at r1
        rw [h1, num92] at HS
        have hm2 := Plain.esc_take_le a.data.toList (k + 1)
        rw [HE1.out, ← HE.out] at hm2
        clear hc hbl h1
        generalize (Plain.esc (a.data.toList.take k)).length = m at *
        have b0 : (1 : Int) + m < (S.size : Int) := by omega
        have b1 : (1 : Int) + m + 1 < (S.size : Int) := by omega
        have v0 := lit_num S a tl hS.out m _ r0 (by omega)
        have v1 := lit_num' S a tl hS.out m _ r1 (by omega)
        rw [num92] at v0
        rw [num92] at v1
        clear r0 r1 hm hm2
        go_wp2_with (at_builtin; refine wpList_append_own _ rfl _ _ 28 rfl w.heap.size 5 i0 (.int .u8 0) 1 1 Try.underlying28 hi hz0 hz1 hz2 rfl (by decide) _ _ _ rfl (hown.alloc _) ⟨wr.heap.size, 0, none⟩ 1 1 [.int .u8 92] rfl rfl (cell_one_new _ _ _) (fun x hx => by simp at hx; subst hx; rfl) (by unfold maxLen; omega) (by omega) (by simp; omega) ?_; intro v' w3 hown' hgrow3 _)
        rw [HS.out] at hown'
        have hb3 := Below.grown (hb.alloc hb.size _) hgrow3 (by simp; omega) (own_row hown)
        clear hgrow3 hown
        go_roundw
        case rel => exact ⟨k + 1, by omega, by rw [HE1.out]; go_num, hown', hb3⟩
        case measure => simp [intOf]; omega
      by_cases h2 : a[k] = 39
      · have hc : a.data.toList[k] = 92 ∨ a.data.toList[k] = 39 := .inr (hbl.trans h2)
        have HE1 : Hid (_ = _) := Plain.esc_len_slash a.data.toList k hl hc
        have r0 := Plain.esc_slash a.data.toList k hl hc
        have r1 := Plain.esc_behind a.data.toList k hl hc
        rw [hbl, h2] at r1
        rw [h2, num39] at HS
        have hm2 := Plain.esc_take_le a.data.toList (k + 1)
        rw [HE1.out, ← HE.out] at hm2
        clear hc hbl h1 h2
        generalize (Plain.esc (a.data.toList.take k)).length = m at *
        have b0 : (1 : Int) + m < (S.size : Int) := by omega
        have b1 : (1 : Int) + m + 1 < (S.size : Int) := by omega
        have v0 := lit_num S a tl hS.out m _ r0 (by omega)
        have v1 := lit_num' S a tl hS.out m _ r1 (by omega)
        rw [num92] at v0
        rw [num39] at v1
        clear r0 r1 hm hm2
        go_wp2_with (at_builtin; refine wpList_append_own _ rfl _ _ 28 rfl w.heap.size 5 i0 (.int .u8 0) 1 1 Try.underlying28 hi hz0 hz1 hz2 rfl (by decide) _ _ _ rfl (hown.alloc _) ⟨wr.heap.size, 0, none⟩ 1 1 [.int .u8 39] rfl rfl (cell_one_new _ _ _) (fun x hx => by simp at hx; subst hx; rfl) (by unfold maxLen; omega) (by omega) (by simp; omega) ?_; intro v' w3 hown' hgrow3 _)
        rw [HS.out] at hown'
        have hb3 := Below.grown (hb.alloc hb.size _) hgrow3 (by simp; omega) (own_row hown)
        clear hgrow3 hown
        go_roundw
        case rel => exact ⟨k + 1, by omega, by rw [HE1.out]; go_num, hown', hb3⟩
        case measure => simp [intOf]; omega
      · have hc : ¬ (a.data.toList[k] = 92 ∨ a.data.toList[k] = 39) := by rw [hbl]; rintro (h | h); exact h1 h; exact h2 h
        have HE1 : Hid (_ = _) := Plain.esc_len_plain a.data.toList k hl hc
        have r0 := Plain.esc_plain a.data.toList k hl hc
        rw [hbl] at r0
        have t1 := num_ne a[k] 92 h1
        have t2 := num_ne a[k] 39 h2
        rw [num92] at t1
        rw [num39] at t2
        clear hc hbl h1 h2
        generalize (Plain.esc (a.data.toList.take k)).length = m at *
        have b0 : (1 : Int) + m < (S.size : Int) := by omega
        have v0 := lit_num S a tl hS.out m _ r0 (by omega)
        clear r0 hm
        go_wp2_with (at_builtin; refine wpList_append_own _ rfl _ _ 28 rfl w.heap.size 5 i0 (.int .u8 0) 1 1 Try.underlying28 hi hz0 hz1 hz2 rfl (by decide) _ _ _ rfl (hown.alloc _) ⟨wr.heap.size, 0, none⟩ 1 1 [.int .u8 (a[k].toNat : Int)] rfl rfl (cell_one_new _ _ _) (fun x hx => by simp at hx; subst hx; rfl) (by unfold maxLen; omega) (by omega) (by simp; omega) ?_; intro v' w3 hown' hgrow3 _)
        rw [HS.out] at hown'
        have hb3 := Below.grown (hb.alloc hb.size _) hgrow3 (by simp; omega) (own_row hown)
        clear hgrow3 hown
        go_roundw
        case rel => exact ⟨k + 1, by omega, by rw [HE1.out]; go_num, hown', hb3⟩
        case measure => simp [intOf]; omega
    · have hks : k = a.size := by omega
      have hcv := own_all a k hks hown
      have hall : a.data.toList.take k = a.data.toList := List.take_of_length_le (by rw [← Lib.size_eq]; omega)
      have hm : (Plain.esc (a.data.toList.take k)).length = (Plain.esc a.data.toList).length := by rw [hall]
      clear hall hown
      generalize (Plain.esc (a.data.toList.take k)).length = m at *
      have hmE : m ≤ E := by rw [HE.out]; omega
      have b0 : (1 : Int) + m < (S.size : Int) := by omega
      have hp1 : 1 + m < S.size := by omega
      have v0 := lit_end S a tl hS.out m hm hp1
      have HM : Hid (_ = _) := hm
      clear hm hks
      go_wp2_with fail
      go_ret3
      refine ⟨?_, hb⟩
      rw [HQ.out, ← HM.out]
      go_num
end Go.Proofs.Qxb6616884a
