/-
  The walk of 'FnSwapScriptPermutesAndKeepsIndex' (function 6): the edges.
-/
import Derived.Test.Qxb6618956aWalk6
namespace Go.Proofs.Qxb6618956a
open Go.RowKit

set_option maxHeartbeats 4000000 in
set_option maxRecDepth 100000 in
theorem main6_m0 (x0 x1 : Addr) (s2 s3 : Option Addr) (n c0 c1 c2 c3 : Nat) (ps rs : Nat → Int) (w : World) (hn : n ≤ 65536)
    (H0 : Hid (∀ j, j < n → w.cell? (x0.add j) = some (.int .i64 (ps j)))) (H1 : Hid (∀ j, j < n → w.cell? (x1.add j) = some (.int .u64 (rs j)))) :
    Calls Try.prog 6 #[.slice (some x0) n c0, .slice (some x1) n c1, .slice s2 0 c2, .slice s3 0 c3] w fun e w' => e = .returned (.bool true) ∧ Below w.heap.size w w' := by
  have f1 : ¬ (65536 : Int) < (n : Int) := by omega
  have f3 : ¬ (131072 : Int) < (n : Int) + (n : Int) := by omega
  have d1 : decide ((65536 : Int) < (n : Int)) = false := decide_eq_false f1
  have d3 : decide ((131072 : Int) < (n : Int) + (n : Int)) = false := decide_eq_false f3
  obtain ⟨i3, hi3, hy0, hy1, hy2⟩ := info_parts info3
  obtain ⟨i29, hi29, hz0, hz1, hz2⟩ := info_parts info29
  go_enter Try.func6, Try.ntmps6
  go_wp2_with fail
  refine (bytes16 _ _ _ _ _ _ _ _ _ _ _ _ _).mono ?_
  rintro e w' ⟨⟨b, rfl⟩, rfl⟩
  cases b
  · go_wp2_with fail
    go_ret
    exact ⟨rfl, Below.refl _ _⟩
  go_wp2_with (first | (at_make; refine wpList_make_full _ rfl (.tmp 74) (.tmp 74) 22 rfl w.heap.size 3 i3 (.int .i64 0) 1 Try.underlying22 hi3 hy0 hy1 _ _ _ _ n rfl rfl (by omega) (by omega) (by rw [hy2]; omega) (by unfold maxLen; omega) (Nat.le_refl _) ?_; intro w1 hown1 hgrow1; obtain ⟨cur1, hg1, hcl1⟩ := own_block hown1; have HG1 : Hid (_ = _) := hg1; clear hg1; have hb1 : Below w.heap.size w w1 := (Below.refl _ _).grown hgrow1 (Nat.le_refl _) (by simp); clear hown1 hgrow1) | (at_make; refine wpList_make_full _ rfl (.tmp 83) (.tmp 83) 23 rfl w2.heap.size 29 i29 (.int .u64 0) 1 Try.underlying23 hi29 hz0 hz1 _ _ _ _ n rfl rfl (by omega) (by omega) (by rw [hz2]; omega) (by unfold maxLen; omega) (Nat.le_refl _) ?_; intro w3 hown3 hgrow3; obtain ⟨cur3, hg3, hcl3⟩ := own_block hown3; have HG3 : Hid (_ = _) := hg3; clear hg3; have hb3 : Below w2.heap.size w2 w3 := (Below.refl _ _).grown hgrow3 (Nat.le_refl _) (by simp); clear hown3 hgrow3) | (refine wpList_copy_splice rfl (.tmp 76) (.tmp 77) 22 22 rfl 3 Try.underlying22 copy3 _ _ _ _ _ _ rfl rfl w.heap.size 0 cur1 3 HG1.out (ints .i64 n ps) (by rw [ints_length]; simp) (fun _ => ⟨rfl, x0, rfl, src_cells H0.out hb1⟩) (by rw [ints_length]; omega) (ints_one _ _ _) w.heap.size w hb1 (Nat.le_refl _) ?_; intro w2 hg2 hb2; rw [ints_length]) | (refine wpList_copy_splice rfl (.tmp 85) (.tmp 86) 23 23 rfl 29 Try.underlying23 copy29 _ _ _ _ _ _ rfl rfl w2.heap.size 0 cur3 29 HG3.out (ints .u64 n rs) (by rw [ints_length]; simp) (fun _ => ⟨rfl, x1, rfl, src_cells H1.out (hb2.trans (hb3.mono hb2.size))⟩) (by rw [ints_length]; omega) (ints_one _ _ _) w2.heap.size w2 hb3 (Nat.le_refl _) ?_; intro w8 hg8 hb8; rw [ints_length]))
  have hbw8 : Below w.heap.size w w8 := hb2.trans (hb8.mono hb2.size)
  have y1 : w.heap.size < w2.heap.size := lt_of_heap hg2.out
  have y2 : w2.heap.size < w8.heap.size := lt_of_heap hg8.out
  have CP : Hid (∀ j, j < n → w8.cell? ⟨w.heap.size, j, none⟩ = some (.int .i64 (ps j))) := fun j hj => (hb8.cell (p := ⟨w.heap.size, j, none⟩) y1).trans (copied hg2.out j hj)
  have CA : Hid (∀ j, j < n → w8.cell? ⟨w2.heap.size, j, none⟩ = some (.int .u64 (rs j))) := copied hg8.out
  clear hg2 hg8 HG1 HG3 hb1 hb3 hb8
  go_loop [8, 12] (fun r i => i = .int .i64 0 ∧ r = .bool false) (fun _ _ => 0)
  case atStart => exact ⟨rfl, rfl⟩
  case round =>
      obtain ⟨rfl, rfl⟩ := hrel
      go_wp2_with fail
      refine (new10 w.heap.size w2.heap.size n n n ps rs w8 hn CP CA (by omega) y2).mono ?_
      rintro e w9 ⟨rfl, hnew⟩
      have hz9 := hnew.2.1
      have hmk9 : (Instr.makeSlice 22 (.int .i64 (n : Int)) (.int .i64 (n : Int))).run Try.prog w9 = .ok (.slice (some ⟨w8.heap.size + 1 + 2 * n, 0, none⟩) n n) (w9.alloc (.cells (madeCells #[.int .i64 0] n) 3)) := by
        have h := run_make (P := Try.prog) w9 22 3 i3 (.int .i64 0) Try.underlying22 hi3 hy0 .i64 .i64 n n (by omega) (by omega) (by rw [hy2]; omega) (by omega)
        rw [hz9] at h
        simpa [hy1, Value.cells] using h
      have hP0 := PInv.start hnew
      clear hz9 hnew
      go_wp2_with fail
      go_loopw [15] (fun i wr => ∃ k : Nat, k ≤ n ∧ i = .int .i64 k ∧ PInv w8 n ps rs k wr) (fun i _ => n - (intOf i).toNat)
      case atStart => exact ⟨0, Nat.zero_le _, rfl, hP0⟩
      case round =>
        obtain ⟨k, hk, rfl, hP⟩ := hrel
        by_cases hkn : k < n
        · have hkn2 : (k : Int) < (n : Int) := by omega
          obtain ⟨⟨v0, s1⟩, s2⟩ := hP.slot hkn
          have hst := hP.step hkn
          go_wp2_with fail
          go_roundw
          case rel => exact ⟨k + 1, by omega, by go_num, hst⟩
          case measure => simp [intOf]; omega
        · have hS0 : SInv w8 n ps rs (fun k => k) (fun k => k) wr := by
            obtain rfl : k = n := by omega
            exact hP.done
          clear hP
          go_wp2_with fail
          go_loopw [16] (fun i wr => i = .int .i64 0 ∧ SInv w8 n ps rs (fun k => k) (fun k => k) wr) (fun _ _ => 0)
          case atStart => exact ⟨rfl, hS0⟩
          case round =>
              clear hS0
              obtain ⟨rfl, hS⟩ := hrel
              go_wp2_with fail
              go_loopw [8, 19] (fun r i wr => ∃ k : Nat, k ≤ n ∧ i = .int .i64 k ∧ r = .bool false ∧ SInv w8 n ps rs (fun k => k) (fun k => k) wr) (fun _ i _ => n - (intOf i).toNat)
              case atStart => exact ⟨0, Nat.zero_le _, rfl, rfl, hS⟩
              case round =>
                clear hS
                obtain ⟨l, hl, rfl, rfl, hS⟩ := hrel
                by_cases hln : l < n
                · have hln2 : (l : Int) < (n : Int) := by omega
                  have m1 := (hS.mcell hln).1
                  have m2 := cell_later hS.below (CP.out l hln)
                  have m3 := cell_later hS.below (CA.out l hln)
                  go_wp2_with fail
                  refine (at15_inv hS hln).mono ?_
                  rintro e w12 ⟨rfl, q, rfl⟩
                  have hS2 := hS.drewN q
                  go_wp2_with fail
                  go_roundw
                  case rel => exact ⟨l + 1, by omega, by go_num, rfl, hS2⟩
                  case measure => simp [intOf]; omega
                · go_wp2_with fail
                  go_ret
                  exact ⟨rfl, hbw8.trans (hS.below.mono hbw8.size)⟩

set_option maxHeartbeats 4000000 in
set_option maxRecDepth 100000 in
theorem out6 (s0 s1 s2 s3 : Option Addr) (n0 n1 n2 n3 c0 c1 c2 c3 : Nat) (w : World)
    (h : 65536 < n0 ∨ 65536 < n1 ∨ 65536 < n2 ∨ 65536 < n3 ∨ 131072 < n0 + n1 + n2 + n3 ∨ n0 ≠ n1 ∨ n2 ≠ n3) :
    Calls Try.prog 6 #[.slice s0 n0 c0, .slice s1 n1 c1, .slice s2 n2 c2, .slice s3 n3 c3] w fun e w' => e = .returned (.bool true) ∧ Below w.heap.size w w' := by
  by_cases g1 : (65536 : Int) < (n0 : Int)
  · go_enter Try.func6, Try.ntmps6
    go_wp2_with fail
    refine (bytes16 _ _ _ _ _ _ _ _ _ _ _ _ _).mono ?_
    rintro e w' ⟨⟨b, rfl⟩, rfl⟩
    cases b
    · go_wp2_with fail
      go_ret
      exact ⟨rfl, Below.refl _ _⟩
    go_wp2_with fail
    go_ret
    exact ⟨rfl, Below.refl _ _⟩
  have g1d : decide ((65536 : Int) < (n0 : Int)) = false := decide_eq_false g1
  by_cases g2 : (65536 : Int) < (n1 : Int)
  · go_enter Try.func6, Try.ntmps6
    go_wp2_with fail
    refine (bytes16 _ _ _ _ _ _ _ _ _ _ _ _ _).mono ?_
    rintro e w' ⟨⟨b, rfl⟩, rfl⟩
    cases b
    · go_wp2_with fail
      go_ret
      exact ⟨rfl, Below.refl _ _⟩
    go_wp2_with fail
    go_ret
    exact ⟨rfl, Below.refl _ _⟩
  have g2d : decide ((65536 : Int) < (n1 : Int)) = false := decide_eq_false g2
  by_cases g3 : (65536 : Int) < (n2 : Int)
  · go_enter Try.func6, Try.ntmps6
    go_wp2_with fail
    refine (bytes16 _ _ _ _ _ _ _ _ _ _ _ _ _).mono ?_
    rintro e w' ⟨⟨b, rfl⟩, rfl⟩
    cases b
    · go_wp2_with fail
      go_ret
      exact ⟨rfl, Below.refl _ _⟩
    go_wp2_with fail
    go_ret
    exact ⟨rfl, Below.refl _ _⟩
  have g3d : decide ((65536 : Int) < (n2 : Int)) = false := decide_eq_false g3
  by_cases g4 : (65536 : Int) < (n3 : Int)
  · go_enter Try.func6, Try.ntmps6
    go_wp2_with fail
    refine (bytes16 _ _ _ _ _ _ _ _ _ _ _ _ _).mono ?_
    rintro e w' ⟨⟨b, rfl⟩, rfl⟩
    cases b
    · go_wp2_with fail
      go_ret
      exact ⟨rfl, Below.refl _ _⟩
    go_wp2_with fail
    go_ret
    exact ⟨rfl, Below.refl _ _⟩
  have g4d : decide ((65536 : Int) < (n3 : Int)) = false := decide_eq_false g4
  by_cases g5 : (131072 : Int) < (n0 : Int) + (n1 : Int) + (n2 : Int) + (n3 : Int)
  · go_enter Try.func6, Try.ntmps6
    go_wp2_with fail
    refine (bytes16 _ _ _ _ _ _ _ _ _ _ _ _ _).mono ?_
    rintro e w' ⟨⟨b, rfl⟩, rfl⟩
    cases b
    · go_wp2_with fail
      go_ret
      exact ⟨rfl, Below.refl _ _⟩
    go_wp2_with fail
    go_ret
    exact ⟨rfl, Below.refl _ _⟩
  have g5d : decide ((131072 : Int) < (n0 : Int) + (n1 : Int) + (n2 : Int) + (n3 : Int)) = false := decide_eq_false g5
  by_cases g6 : n0 = n1
  · have g7 : ((n2 : Int) != (n3 : Int)) = true := by rw [bne_iff_ne]; omega
    subst g6
    go_enter Try.func6, Try.ntmps6
    go_wp2_with fail
    refine (bytes16 _ _ _ _ _ _ _ _ _ _ _ _ _).mono ?_
    rintro e w' ⟨⟨b, rfl⟩, rfl⟩
    cases b
    · go_wp2_with fail
      go_ret
      exact ⟨rfl, Below.refl _ _⟩
    go_wp2_with fail
    go_ret
    exact ⟨rfl, Below.refl _ _⟩
  have g7 : ((n0 : Int) != (n1 : Int)) = true := by rw [bne_iff_ne]; omega
  go_enter Try.func6, Try.ntmps6
  go_wp2_with fail
  refine (bytes16 _ _ _ _ _ _ _ _ _ _ _ _ _).mono ?_
  rintro e w' ⟨⟨b, rfl⟩, rfl⟩
  cases b
  · go_wp2_with fail
    go_ret
    exact ⟨rfl, Below.refl _ _⟩
  go_wp2_with fail
  go_ret
  exact ⟨rfl, Below.refl _ _⟩

set_option maxHeartbeats 4000000 in
set_option maxRecDepth 100000 in
theorem zero6_nn  (s2 s3 : Option Addr) (c2 c3 : Nat) (w : World) :
    Calls Try.prog 6 #[.slice none 0 0, .slice none 0 0, .slice s2 0 c2, .slice s3 0 c3] w fun e w' => e = .returned (.bool true) ∧ Below w.heap.size w w' := by
  obtain ⟨i3, hi3, hy0, hy1, hy2⟩ := info_parts info3
  go_enter Try.func6, Try.ntmps6
  go_wp2_with fail
  refine (bytes16 _ _ _ _ _ _ _ _ _ _ _ _ _).mono ?_
  rintro e w' ⟨⟨b, rfl⟩, rfl⟩
  cases b
  · go_wp2_with fail
    go_ret
    exact ⟨rfl, Below.refl _ _⟩
  go_wp2_with fail
  go_loop [8, 12] (fun r i => i = .int .i64 0 ∧ r = .bool false) (fun _ _ => 0)
  case atStart => exact ⟨rfl, rfl⟩
  case round =>
    obtain ⟨rfl, rfl⟩ := hrel
    go_wp2_with fail
    refine (new10_zero _ _ _ _ (fun _ => 0) (fun _ => 0) _).mono ?_
    rintro e w9 ⟨rfl, hnew⟩
    have hb9 : Below w.heap.size w w9 := ((Below.refl w.heap.size w)).trans (hnew.1.mono ((Below.refl w.heap.size w)).size)
    have hmk9 : (Instr.makeSlice 22 (.int .i64 0) (.int .i64 0)).run Try.prog w9 = .ok (.slice (some ⟨w9.heap.size, 0, none⟩) 0 0) (w9.alloc (.cells (madeCells #[.int .i64 0] 0) 3)) := by
      have h := run_make (P := Try.prog) w9 22 3 i3 (.int .i64 0) Try.underlying22 hi3 hy0 .i64 .i64 0 0 (by omega) (by omega) (by rw [hy2]; omega) (by omega)
      simpa [hy1, Value.cells] using h
    have hb10 : Below w.heap.size w (w9.alloc (.cells (madeCells #[.int .i64 0] 0) 3)) := hb9.alloc hb9.size _
    clear hnew
    go_wp2_with fail
    go_loop [15] (fun i => i = .int .i64 0) (fun _ => 0)
    case atStart => rfl
    case round =>
      obtain rfl := hrel
      go_wp2_with fail
      go_loop [16] (fun i => i = .int .i64 0) (fun _ => 0)
      case atStart => rfl
      case round =>
        obtain rfl := hrel
        go_wp2_with fail
        go_loop [8, 19] (fun r i => i = .int .i64 0 ∧ r = .bool false) (fun _ _ => 0)
        case atStart => exact ⟨rfl, rfl⟩
        case round =>
          obtain ⟨rfl, rfl⟩ := hrel
          go_wp2_with fail
          go_ret
          exact ⟨rfl, hb10⟩

set_option maxHeartbeats 4000000 in
set_option maxRecDepth 100000 in
theorem zero6_ns (x1 : Addr) (c1 : Nat) (s2 s3 : Option Addr) (c2 c3 : Nat) (w : World) :
    Calls Try.prog 6 #[.slice none 0 0, .slice (some x1) 0 c1, .slice s2 0 c2, .slice s3 0 c3] w fun e w' => e = .returned (.bool true) ∧ Below w.heap.size w w' := by
  obtain ⟨i3, hi3, hy0, hy1, hy2⟩ := info_parts info3
  obtain ⟨i29, hi29, hz0, hz1, hz2⟩ := info_parts info29
  go_enter Try.func6, Try.ntmps6
  go_wp2_with fail
  refine (bytes16 _ _ _ _ _ _ _ _ _ _ _ _ _).mono ?_
  rintro e w' ⟨⟨b, rfl⟩, rfl⟩
  cases b
  · go_wp2_with fail
    go_ret
    exact ⟨rfl, Below.refl _ _⟩
  go_wp2_with (first | (at_make; refine wpList_make_full _ rfl (.tmp 83) (.tmp 83) 23 rfl w.heap.size 29 i29 (.int .u64 0) 1 Try.underlying23 hi29 hz0 hz1 _ _ _ _ 0 rfl rfl rfl rfl (by omega) (by unfold maxLen; omega) (Nat.le_refl _) ?_; intro w1 hown1 hgrow1; have hb1 : Below w.heap.size w w1 := (Below.refl _ _).grown hgrow1 (Nat.le_refl _) (by simp); clear hown1 hgrow1) | (refine wpList_copy_nothing rfl (.tmp 85) (.tmp 86) 23 23 rfl 29 Try.underlying23 copy29 _ _ _ _ _ _ rfl rfl rfl ?_))
  go_loop [8, 12] (fun r i => i = .int .i64 0 ∧ r = .bool false) (fun _ _ => 0)
  case atStart => exact ⟨rfl, rfl⟩
  case round =>
    obtain ⟨rfl, rfl⟩ := hrel
    go_wp2_with fail
    refine (new10_zero _ _ _ _ (fun _ => 0) (fun _ => 0) _).mono ?_
    rintro e w9 ⟨rfl, hnew⟩
    have hb9 : Below w.heap.size w w9 := (hb1).trans (hnew.1.mono (hb1).size)
    have hmk9 : (Instr.makeSlice 22 (.int .i64 0) (.int .i64 0)).run Try.prog w9 = .ok (.slice (some ⟨w9.heap.size, 0, none⟩) 0 0) (w9.alloc (.cells (madeCells #[.int .i64 0] 0) 3)) := by
      have h := run_make (P := Try.prog) w9 22 3 i3 (.int .i64 0) Try.underlying22 hi3 hy0 .i64 .i64 0 0 (by omega) (by omega) (by rw [hy2]; omega) (by omega)
      simpa [hy1, Value.cells] using h
    have hb10 : Below w.heap.size w (w9.alloc (.cells (madeCells #[.int .i64 0] 0) 3)) := hb9.alloc hb9.size _
    clear hnew
    go_wp2_with fail
    go_loop [15] (fun i => i = .int .i64 0) (fun _ => 0)
    case atStart => rfl
    case round =>
      obtain rfl := hrel
      go_wp2_with fail
      go_loop [16] (fun i => i = .int .i64 0) (fun _ => 0)
      case atStart => rfl
      case round =>
        obtain rfl := hrel
        go_wp2_with fail
        go_loop [8, 19] (fun r i => i = .int .i64 0 ∧ r = .bool false) (fun _ _ => 0)
        case atStart => exact ⟨rfl, rfl⟩
        case round =>
          obtain ⟨rfl, rfl⟩ := hrel
          go_wp2_with fail
          go_ret
          exact ⟨rfl, hb10⟩

set_option maxHeartbeats 4000000 in
set_option maxRecDepth 100000 in
theorem zero6_sn (x0 : Addr) (c0 : Nat) (s2 s3 : Option Addr) (c2 c3 : Nat) (w : World) :
    Calls Try.prog 6 #[.slice (some x0) 0 c0, .slice none 0 0, .slice s2 0 c2, .slice s3 0 c3] w fun e w' => e = .returned (.bool true) ∧ Below w.heap.size w w' := by
  obtain ⟨i3, hi3, hy0, hy1, hy2⟩ := info_parts info3
  go_enter Try.func6, Try.ntmps6
  go_wp2_with fail
  refine (bytes16 _ _ _ _ _ _ _ _ _ _ _ _ _).mono ?_
  rintro e w' ⟨⟨b, rfl⟩, rfl⟩
  cases b
  · go_wp2_with fail
    go_ret
    exact ⟨rfl, Below.refl _ _⟩
  go_wp2_with (first | (at_make; refine wpList_make_full _ rfl (.tmp 74) (.tmp 74) 22 rfl w.heap.size 3 i3 (.int .i64 0) 1 Try.underlying22 hi3 hy0 hy1 _ _ _ _ 0 rfl rfl rfl rfl (by omega) (by unfold maxLen; omega) (Nat.le_refl _) ?_; intro w1 hown1 hgrow1; have hb1 : Below w.heap.size w w1 := (Below.refl _ _).grown hgrow1 (Nat.le_refl _) (by simp); clear hown1 hgrow1) | (refine wpList_copy_nothing rfl (.tmp 76) (.tmp 77) 22 22 rfl 3 Try.underlying22 copy3 _ _ _ _ _ _ rfl rfl rfl ?_))
  go_loop [8, 12] (fun r i => i = .int .i64 0 ∧ r = .bool false) (fun _ _ => 0)
  case atStart => exact ⟨rfl, rfl⟩
  case round =>
    obtain ⟨rfl, rfl⟩ := hrel
    go_wp2_with fail
    refine (new10_zero _ _ _ _ (fun _ => 0) (fun _ => 0) _).mono ?_
    rintro e w9 ⟨rfl, hnew⟩
    have hb9 : Below w.heap.size w w9 := (hb1).trans (hnew.1.mono (hb1).size)
    have hmk9 : (Instr.makeSlice 22 (.int .i64 0) (.int .i64 0)).run Try.prog w9 = .ok (.slice (some ⟨w9.heap.size, 0, none⟩) 0 0) (w9.alloc (.cells (madeCells #[.int .i64 0] 0) 3)) := by
      have h := run_make (P := Try.prog) w9 22 3 i3 (.int .i64 0) Try.underlying22 hi3 hy0 .i64 .i64 0 0 (by omega) (by omega) (by rw [hy2]; omega) (by omega)
      simpa [hy1, Value.cells] using h
    have hb10 : Below w.heap.size w (w9.alloc (.cells (madeCells #[.int .i64 0] 0) 3)) := hb9.alloc hb9.size _
    clear hnew
    go_wp2_with fail
    go_loop [15] (fun i => i = .int .i64 0) (fun _ => 0)
    case atStart => rfl
    case round =>
      obtain rfl := hrel
      go_wp2_with fail
      go_loop [16] (fun i => i = .int .i64 0) (fun _ => 0)
      case atStart => rfl
      case round =>
        obtain rfl := hrel
        go_wp2_with fail
        go_loop [8, 19] (fun r i => i = .int .i64 0 ∧ r = .bool false) (fun _ _ => 0)
        case atStart => exact ⟨rfl, rfl⟩
        case round =>
          obtain ⟨rfl, rfl⟩ := hrel
          go_wp2_with fail
          go_ret
          exact ⟨rfl, hb10⟩

set_option maxHeartbeats 4000000 in
set_option maxRecDepth 100000 in
theorem zero6_nn_m  (b2 o2 b3 o3 m c2 c3 : Nat) (u : Int) (w : World) (hm0 : 0 < m) (hm : m ≤ 65536)
    (H2 : w.cell? ⟨b2, o2, none⟩ = some (.int .i64 u)) :
    Calls Try.prog 6 #[.slice none 0 0, .slice none 0 0, .slice (some ⟨b2, o2, none⟩) m c2, .slice (some ⟨b3, o3, none⟩) m c3] w fun e w' => e = .returned (.bool true) ∧ Below w.heap.size w w' := by
  have f2 : ¬ (65536 : Int) < (m : Int) := by omega
  have f3 : ¬ (131072 : Int) < (m : Int) + (m : Int) := by omega
  have d2 : decide ((65536 : Int) < (m : Int)) = false := decide_eq_false f2
  have d3 : decide ((131072 : Int) < (m : Int) + (m : Int)) = false := decide_eq_false f3
  obtain ⟨i3, hi3, hy0, hy1, hy2⟩ := info_parts info3
  go_enter Try.func6, Try.ntmps6
  go_wp2_with fail
  refine (bytes16 _ _ _ _ _ _ _ _ _ _ _ _ _).mono ?_
  rintro e w' ⟨⟨b, rfl⟩, rfl⟩
  cases b
  · go_wp2_with fail
    go_ret
    exact ⟨rfl, Below.refl _ _⟩
  go_wp2_with fail
  have hm1 : (0 : Int) < (m : Int) := by omega
  go_loop [8, 12] (fun r i => i = .int .i64 0 ∧ r = .bool false) (fun _ _ => 0)
  case atStart => exact ⟨rfl, rfl⟩
  case round =>
    obtain ⟨rfl, rfl⟩ := hrel
    by_cases g1 : u < 0
    · go_wp2_with fail
      go_ret
      exact ⟨rfl, (Below.refl w.heap.size w)⟩
    have g2 : (0 : Int) ≤ u := by omega
    go_wp2_with fail
    go_ret
    exact ⟨rfl, (Below.refl w.heap.size w)⟩

set_option maxHeartbeats 4000000 in
set_option maxRecDepth 100000 in
theorem zero6_ns_m (x1 : Addr) (c1 : Nat) (b2 o2 b3 o3 m c2 c3 : Nat) (u : Int) (w : World) (hm0 : 0 < m) (hm : m ≤ 65536)
    (H2 : w.cell? ⟨b2, o2, none⟩ = some (.int .i64 u)) :
    Calls Try.prog 6 #[.slice none 0 0, .slice (some x1) 0 c1, .slice (some ⟨b2, o2, none⟩) m c2, .slice (some ⟨b3, o3, none⟩) m c3] w fun e w' => e = .returned (.bool true) ∧ Below w.heap.size w w' := by
  have f2 : ¬ (65536 : Int) < (m : Int) := by omega
  have f3 : ¬ (131072 : Int) < (m : Int) + (m : Int) := by omega
  have d2 : decide ((65536 : Int) < (m : Int)) = false := decide_eq_false f2
  have d3 : decide ((131072 : Int) < (m : Int) + (m : Int)) = false := decide_eq_false f3
  obtain ⟨i3, hi3, hy0, hy1, hy2⟩ := info_parts info3
  obtain ⟨i29, hi29, hz0, hz1, hz2⟩ := info_parts info29
  go_enter Try.func6, Try.ntmps6
  go_wp2_with fail
  refine (bytes16 _ _ _ _ _ _ _ _ _ _ _ _ _).mono ?_
  rintro e w' ⟨⟨b, rfl⟩, rfl⟩
  cases b
  · go_wp2_with fail
    go_ret
    exact ⟨rfl, Below.refl _ _⟩
  go_wp2_with (first | (at_make; refine wpList_make_full _ rfl (.tmp 83) (.tmp 83) 23 rfl w.heap.size 29 i29 (.int .u64 0) 1 Try.underlying23 hi29 hz0 hz1 _ _ _ _ 0 rfl rfl rfl rfl (by omega) (by unfold maxLen; omega) (Nat.le_refl _) ?_; intro w1 hown1 hgrow1; have hb1 : Below w.heap.size w w1 := (Below.refl _ _).grown hgrow1 (Nat.le_refl _) (by simp); clear hown1 hgrow1) | (refine wpList_copy_nothing rfl (.tmp 85) (.tmp 86) 23 23 rfl 29 Try.underlying23 copy29 _ _ _ _ _ _ rfl rfl rfl ?_))
  have k2 := cell_later hb1 H2
  have hm1 : (0 : Int) < (m : Int) := by omega
  go_loop [8, 12] (fun r i => i = .int .i64 0 ∧ r = .bool false) (fun _ _ => 0)
  case atStart => exact ⟨rfl, rfl⟩
  case round =>
    obtain ⟨rfl, rfl⟩ := hrel
    by_cases g1 : u < 0
    · go_wp2_with fail
      go_ret
      exact ⟨rfl, hb1⟩
    have g2 : (0 : Int) ≤ u := by omega
    go_wp2_with fail
    go_ret
    exact ⟨rfl, hb1⟩

set_option maxHeartbeats 4000000 in
set_option maxRecDepth 100000 in
theorem zero6_sn_m (x0 : Addr) (c0 : Nat) (b2 o2 b3 o3 m c2 c3 : Nat) (u : Int) (w : World) (hm0 : 0 < m) (hm : m ≤ 65536)
    (H2 : w.cell? ⟨b2, o2, none⟩ = some (.int .i64 u)) :
    Calls Try.prog 6 #[.slice (some x0) 0 c0, .slice none 0 0, .slice (some ⟨b2, o2, none⟩) m c2, .slice (some ⟨b3, o3, none⟩) m c3] w fun e w' => e = .returned (.bool true) ∧ Below w.heap.size w w' := by
  have f2 : ¬ (65536 : Int) < (m : Int) := by omega
  have f3 : ¬ (131072 : Int) < (m : Int) + (m : Int) := by omega
  have d2 : decide ((65536 : Int) < (m : Int)) = false := decide_eq_false f2
  have d3 : decide ((131072 : Int) < (m : Int) + (m : Int)) = false := decide_eq_false f3
  obtain ⟨i3, hi3, hy0, hy1, hy2⟩ := info_parts info3
  go_enter Try.func6, Try.ntmps6
  go_wp2_with fail
  refine (bytes16 _ _ _ _ _ _ _ _ _ _ _ _ _).mono ?_
  rintro e w' ⟨⟨b, rfl⟩, rfl⟩
  cases b
  · go_wp2_with fail
    go_ret
    exact ⟨rfl, Below.refl _ _⟩
  go_wp2_with (first | (at_make; refine wpList_make_full _ rfl (.tmp 74) (.tmp 74) 22 rfl w.heap.size 3 i3 (.int .i64 0) 1 Try.underlying22 hi3 hy0 hy1 _ _ _ _ 0 rfl rfl rfl rfl (by omega) (by unfold maxLen; omega) (Nat.le_refl _) ?_; intro w1 hown1 hgrow1; have hb1 : Below w.heap.size w w1 := (Below.refl _ _).grown hgrow1 (Nat.le_refl _) (by simp); clear hown1 hgrow1) | (refine wpList_copy_nothing rfl (.tmp 76) (.tmp 77) 22 22 rfl 3 Try.underlying22 copy3 _ _ _ _ _ _ rfl rfl rfl ?_))
  have k2 := cell_later hb1 H2
  have hm1 : (0 : Int) < (m : Int) := by omega
  go_loop [8, 12] (fun r i => i = .int .i64 0 ∧ r = .bool false) (fun _ _ => 0)
  case atStart => exact ⟨rfl, rfl⟩
  case round =>
    obtain ⟨rfl, rfl⟩ := hrel
    by_cases g1 : u < 0
    · go_wp2_with fail
      go_ret
      exact ⟨rfl, hb1⟩
    have g2 : (0 : Int) ≤ u := by omega
    go_wp2_with fail
    go_ret
    exact ⟨rfl, hb1⟩

end Go.Proofs.Qxb6618956a
