/-
  The walk of 'FnRedirectionStringTellsFiles' (function 4).
-/
import Derived.Test.Qxb6618925aFmtCopy
namespace Go.Proofs.Qxb6618925aFmt
open Go.RowKit Go.Extern.Stop Go.Stop Go.Extern

theorem text_0 (op t : ByteArray) (h : op.size < (textB op t).size) : (((textB op t)[op.size]'h).toNat : Int) = 32 := by
  rw [num_at (textB op t) op.size h 32 (by rw [textB_split, Lib.size_eq, List.getElem?_append_right (Nat.le_refl _), Nat.sub_self]; rfl)]; rfl
theorem text_1 (op t : ByteArray) (h : op.size + 1 < (textB op t).size) : (((textB op t)[op.size + 1]'h).toNat : Int) = 34 := by
  rw [num_at (textB op t) (op.size + 1) h 34 (by rw [textB_split, Lib.size_eq, List.getElem?_append_right (by omega), Nat.add_sub_cancel_left, quote_shape]; rfl)]; rfl
theorem text_last (op t : ByteArray) (h : (textB op t).size - 1 < (textB op t).size) : (((textB op t)[(textB op t).size - 1]'h).toNat : Int) = 34 := by
  have hz := textB_size op t
  have hb := (tailB_bounds t).1
  have h2 : (tailB t).size - 1 < (tailB t).size := by omega
  have e : (textB op t).data.toList[(textB op t).size - 1]? = some 34 := by
    rw [textB_split, hz, List.getElem?_append_right (by rw [← Lib.size_eq]; omega), ← Lib.size_eq, show op.size + (tailB t).size - 1 - op.size = (tailB t).size - 1 from by omega,
      tailB_size, quote_shape, Nat.add_sub_cancel, List.length_cons, List.getElem?_cons_succ, List.length_append, List.length_singleton, List.getElem?_cons_succ, List.getElem?_append_right (Nat.le_refl _), Nat.sub_self]
    rfl
  rw [num_at (textB op t) _ h 34 e]; rfl
theorem text_eq (op a b : ByteArray) : ((textB op a).toList == (textB op b).toList) = (a.toList == b.toList) := by
  rw [Bool.eq_iff_iff, beq_iff_eq, beq_iff_eq, Lib.toList_data, Lib.toList_data, Lib.toList_data, Lib.toList_data, textB_split, textB_split]
  constructor
  · intro h
    exact Quote.quote_inj _ _ (List.cons.inj (List.append_cancel_left h)).2
  · intro h
    rw [h]

set_option maxHeartbeats 1000000 in
set_option maxRecDepth 100000 in
theorem tells4_nil (F : Interp) (op1 op2 text : ByteArray) (b1 b2 b3 b4 : Bool) (n : Int) (w : World) (hF : F.told.answers w.tape) (h : op1.size + op2.size + text.size ≤ 1048576) :
    Calls Tryf.prog 4 #[.string op1, .string op2, .string text, .bool b1, .bool b2, .bool b3, .bool b4, .int .i64 n, .slice none 0 0] w fun e w' => e = .returned (.bool true) ∧ Below w.heap.size w w' := by
  have f1 : ¬ (1048576 : Int) < (op1.size : Int) := by omega
  have f2 : ¬ (1048576 : Int) < (op2.size : Int) := by omega
  have f3 : ¬ (1048576 : Int) < (text.size : Int) := by omega
  have f4 : ¬ (1048576 : Int) < (op1.size : Int) + (op2.size : Int) + (text.size : Int) := by omega
  have d1 : decide ((1048576 : Int) < (op1.size : Int)) = false := decide_eq_false f1
  have d2 : decide ((1048576 : Int) < (op2.size : Int)) = false := decide_eq_false f2
  have d3 : decide ((1048576 : Int) < (text.size : Int)) = false := decide_eq_false f3
  have d4 : decide ((1048576 : Int) < (op1.size : Int) + (op2.size : Int) + (text.size : Int)) = false := decide_eq_false f4
  have z1 := textB_size op1 op2
  have zb := tailB_bounds op2
  obtain ⟨zb1, zb2⟩ := zb
  have l1 : op1.size ≤ (textB op1 op2).size := by omega
  have m1 : (textB op1 op2).size ≤ 268435456 := by omega
  have k0 : op1.size < (textB op1 op2).size := by omega
  have k1 : op1.size + 1 < (textB op1 op2).size := by omega
  have k2 : (textB op1 op2).size - 1 < (textB op1 op2).size := by omega
  have kk : (op1.size : Int) + 3 ≤ ((textB op1 op2).size : Int) := by omega
  have ks : 3 ≤ (textB op1 op2).size := by omega
  clear z1 zb1 zb2
  have v0 := text_0 op1 op2 k0
  have v1 := text_1 op1 op2 k1
  have v2 := text_last op1 op2 k2
  have ve := text_eq op1 op2 text
  go_enter Tryf.func4, Tryf.ntmps4
  go_wp2_with fail
  refine (sum9_none op1 op2 text b1 b2 b3 b4 n _ _ _ h).mono ?_
  rintro e w0 ⟨⟨b, rfl, _⟩, rfl⟩
  cases b
  · go_wp2_with fail
    go_ret
    exact ⟨rfl, Below.refl _ _⟩
  go_wp2_with fail
  go_loop [18, 20, 21] (fun r z i => i = .int .i64 0 ∧ r = .bool false ∧ z = .int .i64 ((op1.size : Int) + (op2.size : Int) + (text.size : Int))) (fun _ _ _ => 0)
  case atStart => exact ⟨rfl, rfl, rfl⟩
  case round =>
    obtain ⟨rfl, rfl, rfl⟩ := hrel
    go_wp2_with fail
    refine (told6 F op1 op2 b1 b2 b3 b4 _ _ _ n _ hF (by omega) (by omega)).mono ?_
    rintro e w1 ⟨rfl, hb1⟩
    have hF1 : F.told.answers w1.tape := by rw [hb1.tape]; exact hF
    go_wp2_with fail
    refine (told6 F op1 text false false false false _ _ _ (-1) _ hF1 (by omega) (by omega)).mono ?_
    rintro e w2 ⟨rfl, hb2⟩
    have hF2 : F.told.answers w2.tape := by rw [hb2.tape]; exact hF1
    go_wp2_with fail
    refine (told6 F op1 op2 false false false false _ _ _ (-1) _ hF2 (by omega) (by omega)).mono ?_
    rintro e w3 ⟨rfl, hb3⟩
    go_wp2_with fail
    have c2 : Below w.heap.size w w2 := (Below.refl w.heap.size w).trans ((hb1.mono (Below.refl w.heap.size w).size).trans (hb2.mono (Nat.le_trans (Below.refl w.heap.size w).size hb1.size)))
    have c3 : Below w.heap.size w w3 := c2.trans (hb3.mono c2.size)
    refine (pre7 _ op1 _ (textB_split op1 op2) _ m1).mono ?_
    rintro e w4 ⟨rfl, hb4⟩
    have c4 : Below w.heap.size w w4 := c3.trans (hb4.mono c3.size)
    go_wp2_with fail
    go_ret
    exact ⟨rfl, c4⟩

set_option maxHeartbeats 1000000 in
set_option maxRecDepth 100000 in
theorem tells4_some (F : Interp) (op1 op2 text : ByteArray) (b1 b2 b3 b4 : Bool) (n : Int) (x : Addr) (sn sc : Nat) (f : Nat → ByteArray) (w : World) (hF : F.told.answers w.tape) (h0 : op1.size + op2.size + text.size + sn ≤ 1048576)
    (hc0 : ∀ j, j < sn → w.cell? (x.add j) = some (.string (f j))) (hsn : sn ≤ 65536) :
    Calls Tryf.prog 4 #[.string op1, .string op2, .string text, .bool b1, .bool b2, .bool b3, .bool b4, .int .i64 n, .slice (some x) sn sc] w fun e w' => e = .returned (.bool true) ∧ Below w.heap.size w w' := by
  have h : op1.size + op2.size + text.size ≤ 1048576 := by omega
  have f1 : ¬ (1048576 : Int) < (op1.size : Int) := by omega
  have f2 : ¬ (1048576 : Int) < (op2.size : Int) := by omega
  have f3 : ¬ (1048576 : Int) < (text.size : Int) := by omega
  have f4 : ¬ (1048576 : Int) < (op1.size : Int) + (op2.size : Int) + (text.size : Int) := by omega
  have d1 : decide ((1048576 : Int) < (op1.size : Int)) = false := decide_eq_false f1
  have d2 : decide ((1048576 : Int) < (op2.size : Int)) = false := decide_eq_false f2
  have d3 : decide ((1048576 : Int) < (text.size : Int)) = false := decide_eq_false f3
  have d4 : decide ((1048576 : Int) < (op1.size : Int) + (op2.size : Int) + (text.size : Int)) = false := decide_eq_false f4
  have f5 : ¬ (65536 : Int) < (sn : Int) := by omega
  have d5 : decide ((65536 : Int) < (sn : Int)) = false := decide_eq_false f5
  have z1 := textB_size op1 op2
  have zb := tailB_bounds op2
  obtain ⟨zb1, zb2⟩ := zb
  have l1 : op1.size ≤ (textB op1 op2).size := by omega
  have m1 : (textB op1 op2).size ≤ 268435456 := by omega
  have k0 : op1.size < (textB op1 op2).size := by omega
  have k1 : op1.size + 1 < (textB op1 op2).size := by omega
  have k2 : (textB op1 op2).size - 1 < (textB op1 op2).size := by omega
  have kk : (op1.size : Int) + 3 ≤ ((textB op1 op2).size : Int) := by omega
  have ks : 3 ≤ (textB op1 op2).size := by omega
  clear z1 zb1 zb2
  have v0 := text_0 op1 op2 k0
  have v1 := text_1 op1 op2 k1
  have v2 := text_last op1 op2 k2
  have ve := text_eq op1 op2 text
  have HC : Hid (∀ j, j < sn → w.cell? (x.add j) = some (.string (f j))) := hc0
  clear hc0
  obtain ⟨i0, hi, hz0, hz1, hz2⟩ := info_parts info9
  go_enter Tryf.func4, Tryf.ntmps4
  go_wp2_with fail
  refine (sum9_any op1 op2 text b1 b2 b3 b4 n _ _ _ f _ h0 HC.out).mono ?_
  rintro e w0 ⟨⟨b, rfl, _⟩, rfl⟩
  cases b
  · go_wp2_with fail
    go_ret
    exact ⟨rfl, Below.refl _ _⟩
  by_cases g16 : (1048576 : Int) < (op1.size : Int) + (op2.size : Int) + (text.size : Int) + 16 * (sn : Int)
  · go_wp2_with (first | (at_make; refine wpList_make_full _ rfl _ _ 22 rfl w.heap.size 9 i0 (.string ⟨#[]⟩) 1 Tryf.underlying22 hi hz0 hz1 _ _ _ _ sn rfl rfl (by omega) (by omega) (by rw [hz2]; omega) (by unfold maxLen; omega) (Nat.le_refl _) ?_; intro w0 hown0 hgrow0; obtain ⟨cur, hg0, hcl⟩ := own_block hown0; have HG0 : Hid (_ = _) := hg0; clear hg0; have hb0 : Below w.heap.size w w0 := (Below.refl _ _).grown hgrow0 (Nat.le_refl _) (by simp); clear hown0 hgrow0) | (refine wpList_copy_splice rfl (.tmp 60) (.tmp 61) 22 22 rfl 9 Tryf.underlying22 copy9 _ _ _ _ _ _ rfl rfl w.heap.size 0 cur 9 HG0.out ((List.range sn).map fun j => Value.string (f j)) (by simp) (fun _ => ⟨rfl, x, rfl, src_cells HC.out hb0⟩) (by simp; omega) (by simp [Value.oneCell']) w.heap.size w hb0 (Nat.le_refl _) ?_; intro w6 hg6 hb6))
    go_ret
    exact ⟨rfl, hb6⟩
  have d6 : decide ((1048576 : Int) < (op1.size : Int) + (op2.size : Int) + (text.size : Int) + 16 * (sn : Int)) = false := decide_eq_false g16
  go_wp2_with (first | (at_make; refine wpList_make_full _ rfl _ _ 22 rfl w.heap.size 9 i0 (.string ⟨#[]⟩) 1 Tryf.underlying22 hi hz0 hz1 _ _ _ _ sn rfl rfl (by omega) (by omega) (by rw [hz2]; omega) (by unfold maxLen; omega) (Nat.le_refl _) ?_; intro w0 hown0 hgrow0; obtain ⟨cur, hg0, hcl⟩ := own_block hown0; have HG0 : Hid (_ = _) := hg0; clear hg0; have hb0 : Below w.heap.size w w0 := (Below.refl _ _).grown hgrow0 (Nat.le_refl _) (by simp); clear hown0 hgrow0) | (refine wpList_copy_splice rfl (.tmp 60) (.tmp 61) 22 22 rfl 9 Tryf.underlying22 copy9 _ _ _ _ _ _ rfl rfl w.heap.size 0 cur 9 HG0.out ((List.range sn).map fun j => Value.string (f j)) (by simp) (fun _ => ⟨rfl, x, rfl, src_cells HC.out hb0⟩) (by simp; omega) (by simp [Value.oneCell']) w.heap.size w hb0 (Nat.le_refl _) ?_; intro w6 hg6 hb6))
  have hF6 : F.told.answers w6.tape := by rw [hb6.tape]; exact hF
  have HK := copied hg6.out
  have HKK : Hid (∀ j, j < sn → w6.cell? ⟨w.heap.size, j, none⟩ = some (.string (f j))) := HK
  clear HK hg6
  go_loop [18, 20, 21] (fun r z i => ∃ (k : Nat) (q : Int), k ≤ sn ∧ i = .int .i64 k ∧ r = .bool false ∧ z = .int .i64 q) (fun _ _ i => sn - (intOf i).toNat)
  case atStart => exact ⟨0, _, Nat.zero_le _, rfl, rfl, rfl⟩
  case round =>
    obtain ⟨k, q, hk, rfl, rfl, rfl⟩ := hrel
    by_cases hlt : k < sn
    · have hck := HKK.out k hlt
      generalize f k = y at hck
      by_cases g1 : (1048576 : Int) < wrap64 (q + (y.size : Int))
      · go_wp2_with fail
        go_ret
        exact ⟨rfl, hb6⟩
      go_wp2_with fail
      go_round
      case rel => exact ⟨k + 1, _, by omega, by go_num, rfl, rfl⟩
      case measure => simp [intOf]; omega
    · go_wp2_with fail
      refine (told6 F op1 op2 b1 b2 b3 b4 _ _ _ n _ hF6 (by omega) (by omega)).mono ?_
      rintro e w1 ⟨rfl, hb1⟩
      have hF1 : F.told.answers w1.tape := by rw [hb1.tape]; exact hF6
      go_wp2_with fail
      refine (told6 F op1 text false false false false _ _ _ (-1) _ hF1 (by omega) (by omega)).mono ?_
      rintro e w2 ⟨rfl, hb2⟩
      have hF2 : F.told.answers w2.tape := by rw [hb2.tape]; exact hF1
      go_wp2_with fail
      refine (told6 F op1 op2 false false false false _ _ _ (-1) _ hF2 (by omega) (by omega)).mono ?_
      rintro e w3 ⟨rfl, hb3⟩
      go_wp2_with fail
      have c2 : Below w.heap.size w w2 := hb6.trans ((hb1.mono hb6.size).trans (hb2.mono (Nat.le_trans hb6.size hb1.size)))
      have c3 : Below w.heap.size w w3 := c2.trans (hb3.mono c2.size)
      refine (pre7 _ op1 _ (textB_split op1 op2) _ m1).mono ?_
      rintro e w4 ⟨rfl, hb4⟩
      have c4 : Below w.heap.size w w4 := c3.trans (hb4.mono c3.size)
      go_wp2_with fail
      go_ret
      exact ⟨rfl, c4⟩

set_option maxHeartbeats 1000000 in
set_option maxRecDepth 100000 in
theorem tells4_many (op1 op2 text : ByteArray) (b1 b2 b3 b4 : Bool) (n : Int) (x : Addr) (sn sc : Nat) (f : Nat → ByteArray) (w : World) (h0 : op1.size + op2.size + text.size + sn ≤ 1048576)
    (hc0 : ∀ j, j < sn → w.cell? (x.add j) = some (.string (f j))) (hsn : ¬ sn ≤ 65536) :
    Calls Tryf.prog 4 #[.string op1, .string op2, .string text, .bool b1, .bool b2, .bool b3, .bool b4, .int .i64 n, .slice (some x) sn sc] w fun e w' => e = .returned (.bool true) ∧ Below w.heap.size w w' := by
  have f1 : ¬ (1048576 : Int) < (op1.size : Int) := by omega
  have f2 : ¬ (1048576 : Int) < (op2.size : Int) := by omega
  have f3 : ¬ (1048576 : Int) < (text.size : Int) := by omega
  have f5 : (65536 : Int) < (sn : Int) := by omega
  have d1 : decide ((1048576 : Int) < (op1.size : Int)) = false := decide_eq_false f1
  have d2 : decide ((1048576 : Int) < (op2.size : Int)) = false := decide_eq_false f2
  have d3 : decide ((1048576 : Int) < (text.size : Int)) = false := decide_eq_false f3
  have HC : Hid (∀ j, j < sn → w.cell? (x.add j) = some (.string (f j))) := hc0
  clear hc0
  go_enter Tryf.func4, Tryf.ntmps4
  go_wp2_with fail
  refine (sum9_any op1 op2 text b1 b2 b3 b4 n _ _ _ f _ h0 HC.out).mono ?_
  rintro e w0 ⟨⟨b, rfl, _⟩, rfl⟩
  cases b
  · go_wp2_with fail
    go_ret
    exact ⟨rfl, Below.refl _ _⟩
  go_wp2_with fail
  go_ret
  exact ⟨rfl, Below.refl _ _⟩

set_option maxHeartbeats 1000000 in
set_option maxRecDepth 100000 in
theorem tells4_over (op1 op2 text : ByteArray) (b1 b2 b3 b4 : Bool) (n : Int) (sa : Option Addr) (sn sc : Nat) (w : World) (h0 : ¬ op1.size + op2.size + text.size + sn ≤ 1048576) :
    Calls Tryf.prog 4 #[.string op1, .string op2, .string text, .bool b1, .bool b2, .bool b3, .bool b4, .int .i64 n, .slice sa sn sc] w fun e w' => e = .returned (.bool true) ∧ Below w.heap.size w w' := by
  go_enter Tryf.func4, Tryf.ntmps4
  go_wp2_with fail
  refine (sum9_no op1 op2 text b1 b2 b3 b4 n _ _ _ _ h0).mono ?_
  rintro e w0 ⟨rfl, rfl⟩
  go_wp2_with fail
  go_ret
  exact ⟨rfl, Below.refl _ _⟩

/-- Every input. -/
theorem tells4_all (F : Interp) (op1 op2 text : ByteArray) (b1 b2 b3 b4 : Bool) (n : Int) (sa : Option Addr) (sn sc : Nat) (w : World) (hF : F.told.answers w.tape)
    (hs : (sa = none ∧ sn = 0 ∧ sc = 0) ∨ ∃ (x : Addr) (f : Nat → ByteArray), sa = some x ∧ ∀ j, j < sn → w.cell? (x.add j) = some (.string (f j))) :
    Calls Tryf.prog 4 #[.string op1, .string op2, .string text, .bool b1, .bool b2, .bool b3, .bool b4, .int .i64 n, .slice sa sn sc] w fun e w' => e = .returned (.bool true) ∧ Below w.heap.size w w' := by
  by_cases h0 : op1.size + op2.size + text.size + sn ≤ 1048576
  · rcases hs with ⟨rfl, rfl, rfl⟩ | ⟨x, f, rfl, hc⟩
    · exact tells4_nil F op1 op2 text b1 b2 b3 b4 n w hF (by omega)
    · by_cases hsn : sn ≤ 65536
      · exact tells4_some F op1 op2 text b1 b2 b3 b4 n x sn sc f w hF h0 hc hsn
      · exact tells4_many op1 op2 text b1 b2 b3 b4 n x sn sc f w h0 hc hsn
  · exact tells4_over op1 op2 text b1 b2 b3 b4 n sa sn sc w h0
end Go.Proofs.Qxb6618925aFmt
