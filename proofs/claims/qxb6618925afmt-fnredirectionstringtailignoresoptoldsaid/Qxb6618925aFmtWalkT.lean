/-
  The walk of 'FnRedirectionStringTailIgnoresOp' (function 3).
-/
import Derived.Test.Qxb6618925aFmtCopy
namespace Go.Proofs.Qxb6618925aFmt
open Go.RowKit Go.Extern.Stop Go.Stop Go.Extern

set_option maxHeartbeats 1000000 in
set_option maxRecDepth 100000 in
theorem tail3_nil (F : Interp) (op1 op2 text : ByteArray) (b1 b2 b3 b4 : Bool) (n : Int) (w : World) (hF : F.told.answers w.tape) (h : op1.size + op2.size + text.size ≤ 1048576) :
    Calls Tryf.prog 3 #[.string op1, .string op2, .string text, .bool b1, .bool b2, .bool b3, .bool b4, .int .i64 n, .slice none 0 0] w fun e w' => e = .returned (.bool true) ∧ Below w.heap.size w w' := by
  have f1 : ¬ (1048576 : Int) < (op1.size : Int) := by omega
  have f2 : ¬ (1048576 : Int) < (op2.size : Int) := by omega
  have f3 : ¬ (1048576 : Int) < (text.size : Int) := by omega
  have f4 : ¬ (1048576 : Int) < (op1.size : Int) + (op2.size : Int) + (text.size : Int) := by omega
  have d1 : decide ((1048576 : Int) < (op1.size : Int)) = false := decide_eq_false f1
  have d2 : decide ((1048576 : Int) < (op2.size : Int)) = false := decide_eq_false f2
  have d3 : decide ((1048576 : Int) < (text.size : Int)) = false := decide_eq_false f3
  have d4 : decide ((1048576 : Int) < (op1.size : Int) + (op2.size : Int) + (text.size : Int)) = false := decide_eq_false f4
  have z1 := textB_size op1 text
  have z2 := textB_size op2 text
  have zb := tailB_bounds text
  obtain ⟨zb1, zb2⟩ := zb
  have zb3 : (tailB text).size ≤ 10485763 := by omega
  have l1 : op1.size ≤ (textB op1 text).size := by omega
  have l2 : op2.size ≤ (textB op2 text).size := by omega
  have m1 : (textB op1 text).size ≤ 268435456 := by omega
  have m2 : (textB op2 text).size ≤ 268435456 := by omega
  clear z1 z2 zb2
  have he1 := textB_rest op1 text
  have he2 := textB_rest op2 text
  have p0 : 0 < (tailB text).size := by omega
  have p1 : 1 < (tailB text).size := by omega
  have p2 : (tailB text).size - 1 < (tailB text).size := by omega
  have v0 := tail_0 text p0
  have v1 := tail_1 text p1
  have v2 := tail_last text p2
  have vk : ¬ ((tailB text).size : Int) < 3 := by omega
  go_enter Tryf.func3, Tryf.ntmps3
  go_wp2_with fail
  refine (sum5_none op1 op2 text b1 b2 b3 b4 n _ _ _ h).mono ?_
  rintro e w0 ⟨⟨b, rfl, _⟩, rfl⟩
  cases b
  · go_wp2_with fail
    go_ret
    exact ⟨rfl, Below.refl _ _⟩
  go_wp2_with fail
  go_loop [18, 20, 21] (fun r z i => i = .int .i64 0 ∧ r = .bool false ∧ z = .int .i64 ((op1.size : Int) + (op2.size : Int) + (text.size : Int))) (fun _ _ _ => 0)
  case atStart => exact ⟨rfl, rfl, rfl⟩
  case round =>
    obtain ⟨rfl, rfl, rfl⟩ := hrel
    go_wp2_with fail
    refine (told6 F op1 text b1 b2 b3 b4 _ _ _ n _ hF (by omega) (by omega)).mono ?_
    rintro e w1 ⟨rfl, hb1⟩
    have hF1 : F.told.answers w1.tape := by rw [hb1.tape]; exact hF
    go_wp2_with fail
    refine (told6 F op2 text b1 b2 b3 b4 _ _ _ n _ hF1 (by omega) (by omega)).mono ?_
    rintro e w2 ⟨rfl, hb2⟩
    go_wp2_with fail
    refine (pre7 _ op1 _ (textB_split op1 text) _ m1).mono ?_
    rintro e w3 ⟨rfl, hb3⟩
    go_wp2_with fail
    refine (pre7 _ op2 _ (textB_split op2 text) _ m2).mono ?_
    rintro e w4 ⟨rfl, hb4⟩
    go_wp2_with fail
    have c2 : Below w.heap.size w w2 := (Below.refl w.heap.size w).trans ((hb1.mono (Below.refl w.heap.size w).size).trans (hb2.mono (Nat.le_trans (Below.refl w.heap.size w).size hb1.size)))
    have c3 : Below w.heap.size w w3 := c2.trans (hb3.mono c2.size)
    have c4 : Below w.heap.size w w4 := c3.trans (hb4.mono c3.size)
    refine (plain8 text _ (by omega)).mono ?_
    rintro e w5 ⟨⟨b, rfl, hp⟩, rfl⟩
    cases b
    · go_wp2_with fail
      go_ret
      exact ⟨rfl, c4⟩
    · have hp' := hp rfl
      have y1 : (((tailB text).size : Int) == (text.size : Int) + 3) = true := by
        rw [beq_iff_eq, tail_plain_size text hp']; go_num
      have y2 := tail_plain text hp'
      clear hp hp'
      go_wp2_with fail
      go_ret
      exact ⟨rfl, c4⟩

set_option maxHeartbeats 1000000 in
set_option maxRecDepth 100000 in
theorem tail3_some (F : Interp) (op1 op2 text : ByteArray) (b1 b2 b3 b4 : Bool) (n : Int) (x : Addr) (sn sc : Nat) (f : Nat → ByteArray) (w : World) (hF : F.told.answers w.tape) (h0 : op1.size + op2.size + text.size + sn ≤ 1048576)
    (hc0 : ∀ j, j < sn → w.cell? (x.add j) = some (.string (f j))) (hsn : sn ≤ 65536) :
    Calls Tryf.prog 3 #[.string op1, .string op2, .string text, .bool b1, .bool b2, .bool b3, .bool b4, .int .i64 n, .slice (some x) sn sc] w fun e w' => e = .returned (.bool true) ∧ Below w.heap.size w w' := by
  have h : op1.size + op2.size + text.size ≤ 1048576 := by omega
  have f1 : ¬ (1048576 : Int) < (op1.size : Int) := by omega
  have f2 : ¬ (1048576 : Int) < (op2.size : Int) := by omega
  have f3 : ¬ (1048576 : Int) < (text.size : Int) := by omega
  have f4 : ¬ (1048576 : Int) < (op1.size : Int) + (op2.size : Int) + (text.size : Int) := by omega
  have d1 : decide ((1048576 : Int) < (op1.size : Int)) = false := decide_eq_false f1
  have d2 : decide ((1048576 : Int) < (op2.size : Int)) = false := decide_eq_false f2
  have d3 : decide ((1048576 : Int) < (text.size : Int)) = false := decide_eq_false f3
  have d4 : decide ((1048576 : Int) < (op1.size : Int) + (op2.size : Int) + (text.size : Int)) = false := decide_eq_false f4
  have f5 : ¬ (65536 : Int) < (sn : Int) := by omega
  have d5 : decide ((65536 : Int) < (sn : Int)) = false := decide_eq_false f5
  have z1 := textB_size op1 text
  have z2 := textB_size op2 text
  have zb := tailB_bounds text
  obtain ⟨zb1, zb2⟩ := zb
  have zb3 : (tailB text).size ≤ 10485763 := by omega
  have l1 : op1.size ≤ (textB op1 text).size := by omega
  have l2 : op2.size ≤ (textB op2 text).size := by omega
  have m1 : (textB op1 text).size ≤ 268435456 := by omega
  have m2 : (textB op2 text).size ≤ 268435456 := by omega
  clear z1 z2 zb2
  have he1 := textB_rest op1 text
  have he2 := textB_rest op2 text
  have p0 : 0 < (tailB text).size := by omega
  have p1 : 1 < (tailB text).size := by omega
  have p2 : (tailB text).size - 1 < (tailB text).size := by omega
  have v0 := tail_0 text p0
  have v1 := tail_1 text p1
  have v2 := tail_last text p2
  have vk : ¬ ((tailB text).size : Int) < 3 := by omega
  have HC : Hid (∀ j, j < sn → w.cell? (x.add j) = some (.string (f j))) := hc0
  clear hc0
  obtain ⟨i0, hi, hz0, hz1, hz2⟩ := info_parts info9
  go_enter Tryf.func3, Tryf.ntmps3
  go_wp2_with fail
  refine (sum5_any op1 op2 text b1 b2 b3 b4 n _ _ _ f _ h0 HC.out).mono ?_
  rintro e w0 ⟨⟨b, rfl, _⟩, rfl⟩
  cases b
  · go_wp2_with fail
    go_ret
    exact ⟨rfl, Below.refl _ _⟩
  by_cases g16 : (1048576 : Int) < (op1.size : Int) + (op2.size : Int) + (text.size : Int) + 16 * (sn : Int)
  · go_wp2_with (first | (at_make; refine wpList_make_full _ rfl _ _ 22 rfl w.heap.size 9 i0 (.string ⟨#[]⟩) 1 Tryf.underlying22 hi hz0 hz1 _ _ _ _ sn rfl rfl (by omega) (by omega) (by rw [hz2]; omega) (by unfold maxLen; omega) (Nat.le_refl _) ?_; intro w0 hown0 hgrow0; obtain ⟨cur, hg0, hcl⟩ := own_block hown0; have HG0 : Hid (_ = _) := hg0; clear hg0; have hb0 : Below w.heap.size w w0 := (Below.refl _ _).grown hgrow0 (Nat.le_refl _) (by simp); clear hown0 hgrow0) | (refine wpList_copy_splice rfl (.tmp 61) (.tmp 62) 22 22 rfl 9 Tryf.underlying22 copy9 _ _ _ _ _ _ rfl rfl w.heap.size 0 cur 9 HG0.out ((List.range sn).map fun j => Value.string (f j)) (by simp) (fun _ => ⟨rfl, x, rfl, src_cells HC.out hb0⟩) (by simp; omega) (by simp [Value.oneCell']) w.heap.size w hb0 (Nat.le_refl _) ?_; intro w6 hg6 hb6))
    go_ret
    exact ⟨rfl, hb6⟩
  have d6 : decide ((1048576 : Int) < (op1.size : Int) + (op2.size : Int) + (text.size : Int) + 16 * (sn : Int)) = false := decide_eq_false g16
  go_wp2_with (first | (at_make; refine wpList_make_full _ rfl _ _ 22 rfl w.heap.size 9 i0 (.string ⟨#[]⟩) 1 Tryf.underlying22 hi hz0 hz1 _ _ _ _ sn rfl rfl (by omega) (by omega) (by rw [hz2]; omega) (by unfold maxLen; omega) (Nat.le_refl _) ?_; intro w0 hown0 hgrow0; obtain ⟨cur, hg0, hcl⟩ := own_block hown0; have HG0 : Hid (_ = _) := hg0; clear hg0; have hb0 : Below w.heap.size w w0 := (Below.refl _ _).grown hgrow0 (Nat.le_refl _) (by simp); clear hown0 hgrow0) | (refine wpList_copy_splice rfl (.tmp 61) (.tmp 62) 22 22 rfl 9 Tryf.underlying22 copy9 _ _ _ _ _ _ rfl rfl w.heap.size 0 cur 9 HG0.out ((List.range sn).map fun j => Value.string (f j)) (by simp) (fun _ => ⟨rfl, x, rfl, src_cells HC.out hb0⟩) (by simp; omega) (by simp [Value.oneCell']) w.heap.size w hb0 (Nat.le_refl _) ?_; intro w6 hg6 hb6))
  have hF6 : F.told.answers w6.tape := by rw [hb6.tape]; exact hF
  have HK := copied hg6.out
  have HKK : Hid (∀ j, j < sn → w6.cell? ⟨w.heap.size, j, none⟩ = some (.string (f j))) := HK
  clear HK hg6
  go_loop [18, 20, 21] (fun r z i => ∃ (k : Nat) (q : Int), k ≤ sn ∧ i = .int .i64 k ∧ r = .bool false ∧ z = .int .i64 q) (fun _ _ i => sn - (intOf i).toNat)
  case atStart => exact ⟨0, _, Nat.zero_le _, rfl, rfl, rfl⟩
  case round =>
    obtain ⟨k, q, hk, rfl, rfl, rfl⟩ := hrel
    by_cases hlt : k < sn
    · have hck := HKK.out k hlt
      generalize f k = y at hck
      by_cases g1 : (1048576 : Int) < wrap64 (q + (y.size : Int))
      · go_wp2_with fail
        go_ret
        exact ⟨rfl, hb6⟩
      go_wp2_with fail
      go_round
      case rel => exact ⟨k + 1, _, by omega, by go_num, rfl, rfl⟩
      case measure => simp [intOf]; omega
    · go_wp2_with fail
      refine (told6 F op1 text b1 b2 b3 b4 _ _ _ n _ hF6 (by omega) (by omega)).mono ?_
      rintro e w1 ⟨rfl, hb1⟩
      have hF1 : F.told.answers w1.tape := by rw [hb1.tape]; exact hF6
      go_wp2_with fail
      refine (told6 F op2 text b1 b2 b3 b4 _ _ _ n _ hF1 (by omega) (by omega)).mono ?_
      rintro e w2 ⟨rfl, hb2⟩
      go_wp2_with fail
      refine (pre7 _ op1 _ (textB_split op1 text) _ m1).mono ?_
      rintro e w3 ⟨rfl, hb3⟩
      go_wp2_with fail
      refine (pre7 _ op2 _ (textB_split op2 text) _ m2).mono ?_
      rintro e w4 ⟨rfl, hb4⟩
      go_wp2_with fail
      have c2 : Below w.heap.size w w2 := hb6.trans ((hb1.mono hb6.size).trans (hb2.mono (Nat.le_trans hb6.size hb1.size)))
      have c3 : Below w.heap.size w w3 := c2.trans (hb3.mono c2.size)
      have c4 : Below w.heap.size w w4 := c3.trans (hb4.mono c3.size)
      refine (plain8 text _ (by omega)).mono ?_
      rintro e w5 ⟨⟨b, rfl, hp⟩, rfl⟩
      cases b
      · go_wp2_with fail
        go_ret
        exact ⟨rfl, c4⟩
      · have hp' := hp rfl
        have y1 : (((tailB text).size : Int) == (text.size : Int) + 3) = true := by
          rw [beq_iff_eq, tail_plain_size text hp']; go_num
        have y2 := tail_plain text hp'
        clear hp hp'
        go_wp2_with fail
        go_ret
        exact ⟨rfl, c4⟩

set_option maxHeartbeats 1000000 in
set_option maxRecDepth 100000 in
theorem tail3_many (op1 op2 text : ByteArray) (b1 b2 b3 b4 : Bool) (n : Int) (x : Addr) (sn sc : Nat) (f : Nat → ByteArray) (w : World) (h0 : op1.size + op2.size + text.size + sn ≤ 1048576)
    (hc0 : ∀ j, j < sn → w.cell? (x.add j) = some (.string (f j))) (hsn : ¬ sn ≤ 65536) :
    Calls Tryf.prog 3 #[.string op1, .string op2, .string text, .bool b1, .bool b2, .bool b3, .bool b4, .int .i64 n, .slice (some x) sn sc] w fun e w' => e = .returned (.bool true) ∧ Below w.heap.size w w' := by
  have f1 : ¬ (1048576 : Int) < (op1.size : Int) := by omega
  have f2 : ¬ (1048576 : Int) < (op2.size : Int) := by omega
  have f3 : ¬ (1048576 : Int) < (text.size : Int) := by omega
  have f5 : (65536 : Int) < (sn : Int) := by omega
  have d1 : decide ((1048576 : Int) < (op1.size : Int)) = false := decide_eq_false f1
  have d2 : decide ((1048576 : Int) < (op2.size : Int)) = false := decide_eq_false f2
  have d3 : decide ((1048576 : Int) < (text.size : Int)) = false := decide_eq_false f3
  have HC : Hid (∀ j, j < sn → w.cell? (x.add j) = some (.string (f j))) := hc0
  clear hc0
  go_enter Tryf.func3, Tryf.ntmps3
  go_wp2_with fail
  refine (sum5_any op1 op2 text b1 b2 b3 b4 n _ _ _ f _ h0 HC.out).mono ?_
  rintro e w0 ⟨⟨b, rfl, _⟩, rfl⟩
  cases b
  · go_wp2_with fail
    go_ret
    exact ⟨rfl, Below.refl _ _⟩
  go_wp2_with fail
  go_ret
  exact ⟨rfl, Below.refl _ _⟩

set_option maxHeartbeats 1000000 in
set_option maxRecDepth 100000 in
theorem tail3_over (op1 op2 text : ByteArray) (b1 b2 b3 b4 : Bool) (n : Int) (sa : Option Addr) (sn sc : Nat) (w : World) (h0 : ¬ op1.size + op2.size + text.size + sn ≤ 1048576) :
    Calls Tryf.prog 3 #[.string op1, .string op2, .string text, .bool b1, .bool b2, .bool b3, .bool b4, .int .i64 n, .slice sa sn sc] w fun e w' => e = .returned (.bool true) ∧ Below w.heap.size w w' := by
  go_enter Tryf.func3, Tryf.ntmps3
  go_wp2_with fail
  refine (sum5_no op1 op2 text b1 b2 b3 b4 n _ _ _ _ h0).mono ?_
  rintro e w0 ⟨rfl, rfl⟩
  go_wp2_with fail
  go_ret
  exact ⟨rfl, Below.refl _ _⟩

/-- Every input. -/
theorem tail3_all (F : Interp) (op1 op2 text : ByteArray) (b1 b2 b3 b4 : Bool) (n : Int) (sa : Option Addr) (sn sc : Nat) (w : World) (hF : F.told.answers w.tape)
    (hs : (sa = none ∧ sn = 0 ∧ sc = 0) ∨ ∃ (x : Addr) (f : Nat → ByteArray), sa = some x ∧ ∀ j, j < sn → w.cell? (x.add j) = some (.string (f j))) :
    Calls Tryf.prog 3 #[.string op1, .string op2, .string text, .bool b1, .bool b2, .bool b3, .bool b4, .int .i64 n, .slice sa sn sc] w fun e w' => e = .returned (.bool true) ∧ Below w.heap.size w w' := by
  by_cases h0 : op1.size + op2.size + text.size + sn ≤ 1048576
  · rcases hs with ⟨rfl, rfl, rfl⟩ | ⟨x, f, rfl, hc⟩
    · exact tail3_nil F op1 op2 text b1 b2 b3 b4 n w hF (by omega)
    · by_cases hsn : sn ≤ 65536
      · exact tail3_some F op1 op2 text b1 b2 b3 b4 n x sn sc f w hF h0 hc hsn
      · exact tail3_many op1 op2 text b1 b2 b3 b4 n x sn sc f w h0 hc hsn
  · exact tail3_over op1 op2 text b1 b2 b3 b4 n sa sn sc w h0
end Go.Proofs.Qxb6618925aFmt
