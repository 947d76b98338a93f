/-
  The walk of 'ZZnewWaiters'.
-/
import Derived.Test.Qxb6618956aRows
import Derived.WalkKit
import Derived.WalkSpells
import Derived.WalkLawsBesides
import Derived.BigRegion
import Derived.WalkSmall
namespace Go.Proofs.Qxb6618956a
open Go.RowKit

theorem mkchan (w : World) : (Instr.makeChan 42 (.int .i64 0)).run Try.prog w = .ok (.chan (some w.heap.size)) (w.alloc (.chan 0 #[] false 0 0 false)) := by kernel_rfl
theorem info41 : (Try.prog.info? 41).map (fun i => (i.zero, i.size, i.bytes)) = some (some (.pointer none), 1, 8) := by kernel_rfl

/-- The queue while it is built: its block holds k pointers to k waiters, each two blocks behind the last. -/
def NewInv (w : World) (n : Nat) (ps rs : Nat → Int) (k : Nat) (wr : World) : Prop :=
  Below w.heap.size w wr ∧ wr.heap.size = w.heap.size + 1 + 2 * k ∧
  (∃ qc : Array Value, wr.heap[w.heap.size]? = some (.cells qc 41 (0, 0)) ∧ qc.size = n ∧ ∀ j, j < k → qc[j]? = some (.pointer (some ⟨w.heap.size + 2 + 2 * j, 0, none⟩))) ∧
  ∀ j, j < k → wr.heap[w.heap.size + 2 + 2 * j]? = some (.cells #[.int .i64 (ps j), .int .u64 (rs j), .int .i64 j, .chan (some (w.heap.size + 1 + 2 * j))] 44 (0, 0))

theorem NewInv.slot {w wr : World} {n k : Nat} {ps rs : Nat → Int} (h : NewInv w n ps rs k wr) (j : Nat) (hj : j < n) : (∃ v, wr.cell? ⟨w.heap.size, j, none⟩ = some v) ∧ wr.frozen? ⟨w.heap.size, j, none⟩ = false := by
  obtain ⟨_, _, ⟨qc, hq, hs, _⟩, _⟩ := h
  refine ⟨⟨qc[j]'(by omega), ?_⟩, ?_⟩
  · simp [World.cell?, hq]
  · simp [World.frozen?, hq]

theorem NewInv.start (w : World) (n : Nat) (ps rs : Nat → Int) : NewInv w n ps rs 0 (w.alloc (.cells (madeCells #[.pointer none] n) 41)) := by
  refine ⟨(Below.refl _ _).alloc (Nat.le_refl _) _, by simp, ⟨madeCells #[.pointer none] n, ?_, size_madeCells _ _, fun j hj => by omega⟩, fun j hj => by omega⟩
  show (w.heap.push _)[w.heap.size]? = _
  simp

theorem NewInv.step {w wr : World} {n k : Nat} {ps rs : Nat → Int} (h : NewInv w n ps rs k wr) (hk : k < n) :
    NewInv w n ps rs (k + 1) (((wr.setCell ⟨w.heap.size, k, none⟩ (.pointer (some ⟨wr.heap.size + 1, 0, none⟩))).alloc (.chan 0 #[] false 0 0 false)).alloc (.cells #[.int .i64 (ps k), .int .u64 (rs k), .int .i64 k, .chan (some wr.heap.size)] 44)).drew := by
  obtain ⟨hb, hs, ⟨qc, hq, hqs, hqj⟩, hx⟩ := h
  have hz : (wr.setCell ⟨w.heap.size, k, none⟩ (.pointer (some ⟨wr.heap.size + 1, 0, none⟩))).heap.size = wr.heap.size := by simp [World.setCell]
  have heap : ∀ b, ((((wr.setCell ⟨w.heap.size, k, none⟩ (.pointer (some ⟨wr.heap.size + 1, 0, none⟩))).alloc (.chan 0 #[] false 0 0 false)).alloc (.cells #[.int .i64 (ps k), .int .u64 (rs k), .int .i64 k, .chan (some wr.heap.size)] 44)).drew).heap[b]? =
      if b = wr.heap.size + 1 then some (.cells #[.int .i64 (ps k), .int .u64 (rs k), .int .i64 k, .chan (some wr.heap.size)] 44) else if b = wr.heap.size then some (.chan 0 #[] false 0 0 false) else (wr.setCell ⟨w.heap.size, k, none⟩ (.pointer (some ⟨wr.heap.size + 1, 0, none⟩))).heap[b]? := by
    intro b
    show (((wr.setCell ⟨w.heap.size, k, none⟩ (.pointer (some ⟨wr.heap.size + 1, 0, none⟩))).heap.push (.chan 0 #[] false 0 0 false)).push (.cells #[.int .i64 (ps k), .int .u64 (rs k), .int .i64 k, .chan (some wr.heap.size)] 44))[b]? = _
    rw [Array.getElem?_push, Array.getElem?_push, Array.size_push, hz]
  refine ⟨(((hb.setCell (Nat.le_refl _) _).alloc (by rw [hz]; omega) _).alloc (by simp; omega) _).drew, ?_, ⟨qc.set! k (.pointer (some ⟨wr.heap.size + 1, 0, none⟩)), ?_, ?_, ?_⟩, ?_⟩
  · show (((wr.setCell _ _).heap.push _).push _).size = _
    rw [Array.size_push, Array.size_push, hz]; omega
  · rw [heap, if_neg (by omega), if_neg (by omega)]
    simp [World.setCell, Array.getElem?_modify, hq]
  · simp [hqs]
  · intro j hj
    by_cases e : j = k
    · subst e
      simp [hqs, hk, hs]
    · simp [Ne.symm e]
      exact hqj j (by omega)
  · intro j hj
    rw [heap]
    by_cases e : j = k
    · subst e
      rw [if_pos (by omega)]
      simp [hs]
    · rw [if_neg (by omega), if_neg (by omega), Below.heap_setCell _ _ _ _ (by show w.heap.size + 2 + 2 * j ≠ w.heap.size; omega)]
      exact hx j (by omega)

set_option maxHeartbeats 1000000 in
set_option maxRecDepth 100000 in
theorem new10 (gp ga n cp ca : Nat) (ps rs : Nat → Int) (w : World) (hn : n ≤ 65536)
    (hp : Hid (∀ j, j < n → w.cell? ⟨gp, j, none⟩ = some (.int .i64 (ps j)))) (ha : Hid (∀ j, j < n → w.cell? ⟨ga, j, none⟩ = some (.int .u64 (rs j)))) (hgp : gp < w.heap.size) (hga : ga < w.heap.size) :
    Calls Try.prog 10 #[.slice (some ⟨gp, 0, none⟩) n cp, .slice (some ⟨ga, 0, none⟩) n ca] w fun e w' => e = .returned (.slice (some ⟨w.heap.size, 0, none⟩) n n) ∧ NewInv w n ps rs n w' := by
  obtain ⟨i0, hi, hz0, hz1, hz2⟩ := info_parts info41
  have mk := mkchan
  have hmk : (Instr.makeSlice 26 (.int .i64 (n : Int)) (.int .i64 (n : Int))).run Try.prog w = .ok (.slice (some ⟨w.heap.size, 0, none⟩) n n) (w.alloc (.cells (madeCells #[.pointer none] n) 41)) := by
    have h := run_make (P := Try.prog) w 26 41 i0 (.pointer none) Try.underlying26 hi hz0 .i64 .i64 n n (by omega) (by omega) (by rw [hz2]; omega) (by omega)
    simpa [hz1, Value.cells] using h
  go_enter Try.func10, Try.ntmps10
  go_wp2_with fail
  go_loopw [12] (fun i wr => ∃ k : Nat, k ≤ n ∧ i = .int .i64 k ∧ NewInv w n ps rs k wr) (fun i _ => n - (intOf i).toNat)
  case atStart => exact ⟨0, Nat.zero_le _, rfl, NewInv.start w n ps rs⟩
  case round =>
    obtain ⟨k, hk, rfl, hinv⟩ := hrel
    by_cases hlt : k < n
    · have hkn : (k : Int) < (n : Int) := by omega
      have hbl := hinv.1
      have c1 := (hbl.cell (p := ⟨gp, k, none⟩) hgp).trans (hp.out k hlt)
      have c2 := (hbl.cell (p := ⟨ga, k, none⟩) hga).trans (ha.out k hlt)
      obtain ⟨⟨v0, s1⟩, s2⟩ := hinv.slot k hlt
      have z1 : w.heap.size < wr.heap.size := by have := hinv.2.1; omega
      have z2 : gp < wr.heap.size := by omega
      have z3 : ga < wr.heap.size := by omega
      have hst := hinv.step hlt
      go_wp2
      go_region
      go_wp2
      go_roundw
      case rel => exact ⟨k + 1, by omega, by go_num, hst⟩
      case measure => simp [intOf]; omega
    · obtain rfl : k = n := by omega
      go_wp2
      go_ret
      exact ⟨rfl, hinv⟩

set_option maxHeartbeats 1000000 in
set_option maxRecDepth 100000 in
theorem new10_zero (sa sb : Option Addr) (ca cb : Nat) (ps rs : Nat → Int) (w : World) :
    Calls Try.prog 10 #[.slice sa 0 ca, .slice sb 0 cb] w fun e w' => e = .returned (.slice (some ⟨w.heap.size, 0, none⟩) 0 0) ∧ NewInv w 0 ps rs 0 w' := by
  obtain ⟨i0, hi, hz0, hz1, hz2⟩ := info_parts info41
  have hmk : (Instr.makeSlice 26 (.int .i64 0) (.int .i64 0)).run Try.prog w = .ok (.slice (some ⟨w.heap.size, 0, none⟩) 0 0) (w.alloc (.cells (madeCells #[.pointer none] 0) 41)) := by
    have h := run_make (P := Try.prog) w 26 41 i0 (.pointer none) Try.underlying26 hi hz0 .i64 .i64 0 0 (by omega) (by omega) (by rw [hz2]; omega) (by omega)
    simpa [hz1, Value.cells] using h
  have hst := NewInv.start w 0 ps rs
  go_enter Try.func10, Try.ntmps10
  go_wp2_with fail
  go_loopw [12] (fun i wr => i = .int .i64 0 ∧ NewInv w 0 ps rs 0 wr) (fun _ _ => 0)
  case atStart => exact ⟨rfl, hst⟩
  case round =>
    obtain ⟨rfl, hinv⟩ := hrel
    go_wp2
    go_ret
    exact ⟨rfl, hinv⟩
end Go.Proofs.Qxb6618956a
