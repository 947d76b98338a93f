/-
  The statement FnSwapScriptPermutesAndKeepsIndexSaid out of the walk of function 6.
-/
import Derived.Test.Qxb6618956aRows
import Derived.Test.Qxb6618956aEdge
import Derived.WalkKit
import Derived.ProofKit
import Derived.OpenShut
import Derived.ShutString
import Derived.ChangeOld
import Derived.Below
namespace Go.Proofs.Qxb6618956a.fnSwapScriptPermutesAndKeepsIndex
open Go.ChangeShapes Go.WideShapes Go.ChangeAt Go.RowKit
open Go.ChangeMaps (open_string shut_string)
set_option linter.unusedVariables false

theorem own : ownKnob Try.prog.godebug = none := by kernel_rfl
theorem laidOut : laidOutB Try.prog = true := by kernel_rfl

/-- WHAT THE WALK IS TOLD OF A SLICE OF INTEGERS THAT CAME IN: it is nil; or it leads to a row of 'cap' cells, the numbers 'zs' (the first 'len' are its elements, the rest its spare room), each fitting its kind. -/
def IsRow (k : IntKind) (w : World) (a : Option Addr) (len cap : Nat) (zs : List Int) : Prop :=
  (a = none ∧ len = 0 ∧ cap = 0 ∧ zs = []) ∨
  ∃ x, a = some x ∧ len ≤ cap ∧ cap ≤ maxLen ∧ zs.length = cap ∧ (∀ i, i < zs.length → w.cell? (x.add i) = some (.int k (zs.getD i 0))) ∧ ∀ n ∈ zs, (Lit.int k n).wf = true

/-! ### The walk, out of its cases -/
theorem row_at {k : IntKind} {w : World} {a : Option Addr} {len cap : Nat} {zs : List Int} (h : IsRow k w a len cap zs) (h0 : 0 < len) :
    ∃ b o, a = some ⟨b, o, none⟩ ∧ ∀ j, j < len → w.cell? ⟨b, o + j, none⟩ = some (.int k (zs.getD j 0)) := by
  rcases h with ⟨_, hl, _, _⟩ | ⟨x, rfl, hl, _, hz, hc, _⟩
  · omega
  · obtain ⟨b, off, rfl, hb⟩ := ints_at hc (by omega)
    exact ⟨b, off, rfl, fun j hj => hb j (by omega)⟩
theorem row_nil {k : IntKind} {w : World} {a : Option Addr} {len cap : Nat} {zs : List Int} (h : IsRow k w a len cap zs) :
    (a = none ∧ len = 0 ∧ cap = 0) ∨ ∃ x, a = some x ∧ ∀ j, j < len → w.cell? (x.add j) = some (.int k (zs.getD j 0)) := by
  rcases h with ⟨h1, h2, h3, _⟩ | ⟨x, h1, hl, _, hz, hc, _⟩
  · exact .inl ⟨h1, h2, h3⟩
  · exact .inr ⟨x, h1, fun j hj => hc j (by omega)⟩

theorem walk (a0 : Option Addr) (len0 cap0 : Nat) (z0 : List Int) (a1 : Option Addr) (len1 cap1 : Nat) (z1 : List Int) (a2 : Option Addr) (len2 cap2 : Nat) (z2 : List Int) (a3 : Option Addr) (len3 cap3 : Nat) (z3 : List Int) (w : World) (w0 : IsRow .i64 w a0 len0 cap0 z0) (w1 : IsRow .u64 w a1 len1 cap1 z1) (w2 : IsRow .i64 w a2 len2 cap2 z2) (w3 : IsRow .i64 w a3 len3 cap3 z3) :
    Calls Try.prog 6 #[.slice a0 len0 cap0, .slice a1 len1 cap1, .slice a2 len2 cap2, .slice a3 len3 cap3] w fun e w' => e = .returned (.bool true) ∧ Below w.heap.size w w' := by
  by_cases hbad : 65536 < len0 ∨ 65536 < len1 ∨ 65536 < len2 ∨ 65536 < len3 ∨ 131072 < len0 + len1 + len2 + len3 ∨ len0 ≠ len1 ∨ len2 ≠ len3
  · exact out6 a0 a1 a2 a3 len0 len1 len2 len3 cap0 cap1 cap2 cap3 w hbad
  obtain ⟨h0, h2, hs, h01, h23⟩ : len0 ≤ 65536 ∧ len2 ≤ 65536 ∧ len0 + len0 + len2 + len2 ≤ 131072 ∧ len1 = len0 ∧ len3 = len2 := by omega
  subst h01 h23
  by_cases hm : 0 < len3
  · obtain ⟨b2, o2, rfl, hc2⟩ := row_at w2 hm
    obtain ⟨b3, o3, rfl, hc3⟩ := row_at w3 hm
    have k2 : w.cell? ⟨b2, o2, none⟩ = some (.int .i64 (z2.getD 0 0)) := hc2 0 hm
    rcases row_nil w0 with ⟨rfl, hn, rfl⟩ | ⟨x0, rfl, hc0⟩
    · subst hn
      rcases row_nil w1 with ⟨rfl, _, rfl⟩ | ⟨x1, rfl, hc1⟩
      · exact zero6_nn_m b2 o2 b3 o3 len3 cap2 cap3 _ w hm h2 k2
      · exact zero6_ns_m x1 cap1 b2 o2 b3 o3 len3 cap2 cap3 _ w hm h2 k2
    · rcases row_nil w1 with ⟨rfl, hn, rfl⟩ | ⟨x1, rfl, hc1⟩
      · subst hn
        exact zero6_sn_m x0 cap0 b2 o2 b3 o3 len3 cap2 cap3 _ w hm h2 k2
      · exact main6 x0 x1 len1 cap0 cap1 b2 o2 b3 o3 len3 cap2 cap3 _ _ _ _ w h0 h2 hs hc0 hc1 hc2 hc3
  · obtain rfl : len3 = 0 := by omega
    rcases row_nil w0 with ⟨rfl, hn, rfl⟩ | ⟨x0, rfl, hc0⟩
    · subst hn
      rcases row_nil w1 with ⟨rfl, _, rfl⟩ | ⟨x1, rfl, hc1⟩
      · exact zero6_nn a2 a3 cap2 cap3 w
      · exact zero6_ns x1 cap1 a2 a3 cap2 cap3 w
    · rcases row_nil w1 with ⟨rfl, hn, rfl⟩ | ⟨x1, rfl, hc1⟩
      · subst hn
        exact zero6_sn x0 cap0 a2 a3 cap2 cap3 w
      · exact main6_m0 x0 x1 a2 a3 len1 cap0 cap1 cap2 cap3 _ _ w h0 hc0 hc1

/-! ### THE ROW's STEP: WRITTEN OUT: LEAVE IT -/
set_option maxRecDepth 100000 in
theorem lifted (os : Os) (started : os.Started) (H : Type) (enc : TypeId × Value → H) :
    ReturnsInHanded {} Try.checked os 6 .any (Rows.fnSwapScriptPermutesAndKeepsIndexSpec.pre6 enc Try.prog Try.f6 Rows.fnSwapScriptPermutesAndKeepsIndexRow.domain false) (Rows.fnSwapScriptPermutesAndKeepsIndexSpec.post enc Try.prog Try.f6 false true false false) := by
  refine returnsInHanded_of_change (C := Try.checked) own started (by kernel_rfl) Try.func6
    (ChangeSpec.witness6 (enc := enc) (C := Try.checked) false ⟨#[], #[.slice none 0 0, .slice none 0 0, .slice none 0 0, .slice none 0 0], []⟩ 8 (by kernel_rfl) (by kernel_rfl) (by kernel_rfl) (by kernel_rfl)) ?_
  intro W base args ds gs before hval0 hW hcnd _
  have hval : ∀ (j : Nat) t v, Try.f6.params[j]? = some t → args[j]? = some v → Value.okWide Try.prog W .any base t v := hval0
  have hW' := hW
  obtain ⟨p, q, hA0, hV, rfl, hfz, hnd⟩ := hW
  have hA : DataW.TrodAll enc Try.prog W 0 (fun _ => true) true Try.f6.params.toList args.toList ds p := hA0
  rw [Try.params6] at hA hval
  obtain ⟨v0, vs0, d0, ds0, p0, q0, hargs, rfl, rfl, h0, r0⟩ := trodAll_cons hA
  obtain ⟨v1, vs1, d1, ds1, p1, q1, rfl, rfl, rfl, h1, r1⟩ := trodAll_cons r0
  obtain ⟨v2, vs2, d2, ds2, p2, q2, rfl, rfl, rfl, h2, r2⟩ := trodAll_cons r1
  obtain ⟨v3, vs3, d3, ds3, p3, q3, rfl, rfl, rfl, h3, r3⟩ := trodAll_cons r2
  obtain ⟨rfl, rfl, rfl⟩ := trodAll_nil r3
  obtain rfl : args = #[v0, v1, v2, v3] := by cases args; simp_all
  obtain ⟨rfl, rfl⟩ := trodVars_none hV
  obtain ⟨a0, len0, cap0, rfl⟩ := okWide_slice Try.underlying22 (hval 0 22 v0 rfl rfl)
  have k0 := h0
  have lt0 : ∀ x ∈ p0, x.block < W.heap.size := by obtain ⟨m, hm⟩ := k0; exact DataW.trod_lt m _ _ _ hm
  obtain ⟨z0, w0⟩ : ∃ zs, IsRow .i64 W a0 len0 cap0 zs := by
    obtain ⟨fuel, hf⟩ := h0
    rcases open_ints Try.underlying22 Try.underlying3 (by kernel_rfl) hf with ⟨hcs, _⟩ | ⟨x, l, c, zs, hcs, _, hl, hm, hz, _, hcell, hwz⟩
    · simp [Value.cells] at hcs
      obtain ⟨rfl, rfl, rfl⟩ := hcs
      exact ⟨[], .inl ⟨rfl, rfl, rfl, rfl⟩⟩
    · simp [Value.cells] at hcs
      obtain ⟨rfl, rfl, rfl⟩ := hcs
      exact ⟨zs, .inr ⟨_, rfl, hl, hm, by simpa using hz, hcell, hwz⟩⟩
  obtain ⟨a1, len1, cap1, rfl⟩ := okWide_slice Try.underlying23 (hval 1 23 v1 rfl rfl)
  have k1 := h1
  have lt1 : ∀ x ∈ p1, x.block < W.heap.size := by obtain ⟨m, hm⟩ := k1; exact DataW.trod_lt m _ _ _ hm
  obtain ⟨z1, w1⟩ : ∃ zs, IsRow .u64 W a1 len1 cap1 zs := by
    obtain ⟨fuel, hf⟩ := h1
    rcases open_ints Try.underlying23 Try.underlying29 (by kernel_rfl) hf with ⟨hcs, _⟩ | ⟨x, l, c, zs, hcs, _, hl, hm, hz, _, hcell, hwz⟩
    · simp [Value.cells] at hcs
      obtain ⟨rfl, rfl, rfl⟩ := hcs
      exact ⟨[], .inl ⟨rfl, rfl, rfl, rfl⟩⟩
    · simp [Value.cells] at hcs
      obtain ⟨rfl, rfl, rfl⟩ := hcs
      exact ⟨zs, .inr ⟨_, rfl, hl, hm, by simpa using hz, hcell, hwz⟩⟩
  obtain ⟨a2, len2, cap2, rfl⟩ := okWide_slice Try.underlying22 (hval 2 22 v2 rfl rfl)
  have k2 := h2
  have lt2 : ∀ x ∈ p2, x.block < W.heap.size := by obtain ⟨m, hm⟩ := k2; exact DataW.trod_lt m _ _ _ hm
  obtain ⟨z2, w2⟩ : ∃ zs, IsRow .i64 W a2 len2 cap2 zs := by
    obtain ⟨fuel, hf⟩ := h2
    rcases open_ints Try.underlying22 Try.underlying3 (by kernel_rfl) hf with ⟨hcs, _⟩ | ⟨x, l, c, zs, hcs, _, hl, hm, hz, _, hcell, hwz⟩
    · simp [Value.cells] at hcs
      obtain ⟨rfl, rfl, rfl⟩ := hcs
      exact ⟨[], .inl ⟨rfl, rfl, rfl, rfl⟩⟩
    · simp [Value.cells] at hcs
      obtain ⟨rfl, rfl, rfl⟩ := hcs
      exact ⟨zs, .inr ⟨_, rfl, hl, hm, by simpa using hz, hcell, hwz⟩⟩
  obtain ⟨a3, len3, cap3, rfl⟩ := okWide_slice Try.underlying22 (hval 3 22 v3 rfl rfl)
  have k3 := h3
  have lt3 : ∀ x ∈ p3, x.block < W.heap.size := by obtain ⟨m, hm⟩ := k3; exact DataW.trod_lt m _ _ _ hm
  obtain ⟨z3, w3⟩ : ∃ zs, IsRow .i64 W a3 len3 cap3 zs := by
    obtain ⟨fuel, hf⟩ := h3
    rcases open_ints Try.underlying22 Try.underlying3 (by kernel_rfl) hf with ⟨hcs, _⟩ | ⟨x, l, c, zs, hcs, _, hl, hm, hz, _, hcell, hwz⟩
    · simp [Value.cells] at hcs
      obtain ⟨rfl, rfl, rfl⟩ := hcs
      exact ⟨[], .inl ⟨rfl, rfl, rfl, rfl⟩⟩
    · simp [Value.cells] at hcs
      obtain ⟨rfl, rfl, rfl⟩ := hcs
      exact ⟨zs, .inr ⟨_, rfl, hl, hm, by simpa using hz, hcell, hwz⟩⟩
  clear hA0 hval0
  refine (walk a0 len0 cap0 z0 a1 len1 cap1 z1 a2 len2 cap2 z2 a3 len3 cap3 z3 W w0 w1 w2 w3).mono fun e W' ⟨he, bel⟩ => ?_
  subst he
  exact ⟨_, rfl, _, _, _, [], _, [], hW', trodAll_mk1 (shut_bool Try.underlying4 _), (trodAll_cons_mk (Below.trod laidOut (by kernel_rfl) (of_decide_eq_true (by kernel_rfl)) k0 bel lt0) (trodAll_cons_mk (Below.trod laidOut (by kernel_rfl) (of_decide_eq_true (by kernel_rfl)) k1 bel lt1) (trodAll_cons_mk (Below.trod laidOut (by kernel_rfl) (of_decide_eq_true (by kernel_rfl)) k2 bel lt2) (trodAll_cons_mk (Below.trod laidOut (by kernel_rfl) (of_decide_eq_true (by kernel_rfl)) k3 bel lt3) trodAll_mk0)))), rfl, bel.frame _, fun h => by cases h⟩

theorem over : Rows.fnSwapScriptPermutesAndKeepsIndexRow.holds Try.pinned (OpenSpec.ofChange Rows.fnSwapScriptPermutesAndKeepsIndexSpec) :=
  OpenClaim.holds_of_wide 6 Try.f6 rfl rfl rfl rfl rfl rfl rfl ⟨rfl, rfl, rfl, rfl, rfl⟩ rfl rfl rfl rfl rfl (by kernel_rfl) Try.func6 (by kernel_rfl)
    (of_decide_eq_true (by kernel_rfl)) (by unfold Func.isWrapper; first | (rw [if_pos (by decide +kernel)]; kernel_rfl) | (rw [if_neg (by decide +kernel)]; exact ⟨rfl, rfl⟩))
    (fun os started H enc _ => lifted os started H enc)

/-- ████ THE STATEMENT ████ -/
theorem proved : Rows.FnSwapScriptPermutesAndKeepsIndexSaid := over
end Go.Proofs.Qxb6618956a.fnSwapScriptPermutesAndKeepsIndex
namespace Go.Proofs.Qxb6618956a
theorem fnSwapScriptPermutesAndKeepsIndex_holds : Rows.FnSwapScriptPermutesAndKeepsIndexSaid := fnSwapScriptPermutesAndKeepsIndex.proved
end Go.Proofs.Qxb6618956a
