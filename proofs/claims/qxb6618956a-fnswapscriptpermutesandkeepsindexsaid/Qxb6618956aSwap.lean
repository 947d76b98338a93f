/-
  The walk of 'waiters.Swap' and of 'ZZwaiterAt'.
-/
import Derived.Test.Qxb6618956aRows
import Derived.WalkKit
import Derived.WalkSpells
import Derived.WalkLawsBesides
import Derived.Deep.QuietTactic
import Derived.BigQuiet
import Derived.BigRegion
import Derived.WalkSmall
namespace Go.Proofs.Qxb6618956a
open Go.RowKit

set_option maxHeartbeats 1000000 in
set_option maxRecDepth 100000 in
theorem swap14_ne (g n c i j bi bj : Nat) (xi xj : Int) (w : World) (hi : i < n) (hj : j < n) (hij : ¬ i = j) (hgi : ¬ g = bi) (hgj : ¬ g = bj) (hb : ¬ bi = bj)
    (hqi : w.cell? ⟨g, i, none⟩ = some (.pointer (some ⟨bi, 0, none⟩))) (hqj : w.cell? ⟨g, j, none⟩ = some (.pointer (some ⟨bj, 0, none⟩)))
    (fqi : w.frozen? ⟨g, i, none⟩ = false) (fqj : w.frozen? ⟨g, j, none⟩ = false)
    (hxi : w.cell? ⟨bi, 2, none⟩ = some (.int .i64 xi)) (hxj : w.cell? ⟨bj, 2, none⟩ = some (.int .i64 xj))
    (fxi : w.frozen? ⟨bi, 2, none⟩ = false) (fxj : w.frozen? ⟨bj, 2, none⟩ = false) :
    Calls Try.prog 14 #[.slice (some ⟨g, 0, none⟩) n c, .int .i64 i, .int .i64 j] w fun e w' => e = .returned (.tuple #[]) ∧
      w'.Alike ((((w.setCell ⟨g, i, none⟩ (.pointer (some ⟨bj, 0, none⟩))).setCell ⟨g, j, none⟩ (.pointer (some ⟨bi, 0, none⟩))).setCell ⟨bj, 2, none⟩ (.int .i64 i)).setCell ⟨bi, 2, none⟩ (.int .i64 j)) ∧ w'.tape = w.tape := by
  have hij2 : ¬ j = i := fun e => hij e.symm
  have hgi2 : ¬ bi = g := fun e => hgi e.symm
  have hgj2 : ¬ bj = g := fun e => hgj e.symm
  have hb2 : ¬ bj = bi := fun e => hb e.symm
  have hi2 : (i : Int) < (n : Int) := by omega
  have hj2 : (j : Int) < (n : Int) := by omega
  go_enter Try.func14, Try.ntmps14
  go_wp2
  go_region
  go_wp2
  go_end0
  exact ⟨rfl, ⟨rfl, rfl, rfl⟩, rfl⟩

set_option maxHeartbeats 1000000 in
set_option maxRecDepth 100000 in
theorem swap14_eq (g n c i bi : Nat) (xi : Int) (w : World) (hi : i < n) (hgi : ¬ g = bi)
    (hqi : w.cell? ⟨g, i, none⟩ = some (.pointer (some ⟨bi, 0, none⟩))) (fqi : w.frozen? ⟨g, i, none⟩ = false)
    (hxi : w.cell? ⟨bi, 2, none⟩ = some (.int .i64 xi)) (fxi : w.frozen? ⟨bi, 2, none⟩ = false) :
    Calls Try.prog 14 #[.slice (some ⟨g, 0, none⟩) n c, .int .i64 i, .int .i64 i] w fun e w' => e = .returned (.tuple #[]) ∧
      w'.Alike ((((w.setCell ⟨g, i, none⟩ (.pointer (some ⟨bi, 0, none⟩))).setCell ⟨g, i, none⟩ (.pointer (some ⟨bi, 0, none⟩))).setCell ⟨bi, 2, none⟩ (.int .i64 i)).setCell ⟨bi, 2, none⟩ (.int .i64 i)) ∧ w'.tape = w.tape := by
  have hgi2 : ¬ bi = g := fun e => hgi e.symm
  have hi2 : (i : Int) < (n : Int) := by omega
  go_enter Try.func14, Try.ntmps14
  go_wp2
  go_region
  go_wp2
  go_end0
  exact ⟨rfl, ⟨rfl, rfl, rfl⟩, rfl⟩

set_option maxHeartbeats 1000000 in
set_option maxRecDepth 100000 in
theorem at15 (g n c k b : Nat) (p a x : Int) (w : World) (hk : k < n)
    (hq : w.cell? ⟨g, k, none⟩ = some (.pointer (some ⟨b, 0, none⟩)))
    (h0 : w.cell? ⟨b, 0, none⟩ = some (.int .i64 p)) (h1 : w.cell? ⟨b, 1, none⟩ = some (.int .u64 a)) (h2 : w.cell? ⟨b, 2, none⟩ = some (.int .i64 x)) :
    Calls Try.prog 15 #[.slice (some ⟨g, 0, none⟩) n c, .int .i64 k] w fun e w' => e = .returned (.tuple #[.int .i64 p, .int .u64 a, .int .i64 x]) ∧ ∃ q, w' = w.drewN q := by
  have hk2 : (k : Int) < (n : Int) := by omega
  go_enter Try.func15, Try.ntmps15
  go_wp2
  go_quiet (fail)
  go_wp2
  go_ret3
  exact ⟨rfl, _, rfl⟩
end Go.Proofs.Qxb6618956a
