/-
  What holds of the queue and of the permutation while the script runs. Memory alone: no walk but that of 'Swap' by its contract.
-/
import Derived.Test.Qxb6618956aSwap
import Derived.Test.Qxb6618956aNew
namespace Go.Proofs.Qxb6618956a
open Go.RowKit

/-- Places i and j exchanged. -/
def sw (i j k : Nat) : Nat := if k = i then j else if k = j then i else k
/-- One place set. -/
def upd (π : Nat → Nat) (a v : Nat) (k : Nat) : Nat := if k = a then v else π k

theorem sw_lt {i j k n : Nat} (hi : i < n) (hj : j < n) (hk : k < n) : sw i j k < n := by
  unfold sw; split
  · exact hj
  · split
    · exact hi
    · exact hk
theorem sw_sw (i j k : Nat) : sw i j (sw i j k) = k := by
  unfold sw; repeat' split
  all_goals omega
theorem sw_inj {i j k l : Nat} (h : sw i j k = sw i j l) : k = l := by
  rw [← sw_sw i j k, h, sw_sw]
theorem upd_sw (π : Nat → Nat) (i j : Nat) : upd (upd π i (π j)) j (π i) = fun k => π (sw i j k) := by
  funext k
  unfold upd sw
  by_cases h1 : k = j
  · by_cases h2 : k = i
    · rw [if_pos h1, if_pos h2]; congr 1; omega
    · rw [if_pos h1, if_neg h2, if_pos h1]
  · by_cases h2 : k = i
    · rw [if_neg h1, if_pos h2, if_pos h2]
    · rw [if_neg h1, if_neg h2, if_neg h2, if_neg h1]

structure SInv (w8 : World) (n : Nat) (ps rs : Nat → Int) (πq πm : Nat → Nat) (w : World) : Prop where
  below : Below w8.heap.size w8 w
  ltq : ∀ k, k < n → πq k < n
  inj : ∀ k l, k < n → l < n → πq k = πq l → k = l
  ltm : ∀ k, k < n → πm k < n
  queue : ∃ qc : Array Value, w.heap[w8.heap.size]? = some (.cells qc 41 (0, 0)) ∧ qc.size = n ∧ ∀ k, k < n → qc[k]? = some (.pointer (some ⟨w8.heap.size + 2 + 2 * πq k, 0, none⟩))
  perm : ∃ pc : Array Value, w.heap[w8.heap.size + 1 + 2 * n]? = some (.cells pc 3 (0, 0)) ∧ pc.size = n ∧ ∀ k, k < n → pc[k]? = some (.int .i64 (πm k : Nat))
  waiter : ∀ k, k < n → ∃ c, w.heap[w8.heap.size + 2 + 2 * πq k]? = some (.cells #[.int .i64 (ps (πq k)), .int .u64 (rs (πq k)), .int .i64 k, c] 44 (0, 0))

theorem heap_set {w : World} {b o : Nat} {v : Value} {cs : Array Value} {e : TypeId} {f : Nat × Nat} (h : w.heap[b]? = some (.cells cs e f)) : (w.setCell ⟨b, o, none⟩ v).heap[b]? = some (.cells (cs.setIfInBounds o v) e f) := by
  simp [World.setCell, Array.getElem?_modify, h]
theorem heap_idx {w : World} {b : Nat} {p a x c v : Value} {e : TypeId} {f : Nat × Nat} (h : w.heap[b]? = some (.cells #[p, a, x, c] e f)) : (w.setCell ⟨b, 2, none⟩ v).heap[b]? = some (.cells #[p, a, v, c] e f) := by
  rw [heap_set h]; rfl
theorem heap_other (w : World) {b b' o : Nat} (v : Value) (h : b' ≠ b) : (w.setCell ⟨b, o, none⟩ v).heap[b']? = w.heap[b']? := Below.heap_setCell _ _ _ _ h

theorem cell_of {w : World} {b o : Nat} {cs : Array Value} {e : TypeId} {f : Nat × Nat} {v : Value} (h : w.heap[b]? = some (.cells cs e f)) (hv : cs[o]? = some v) : w.cell? ⟨b, o, none⟩ = some v := by
  simp [World.cell?, h, hv]
theorem frozen_of {w : World} {b o : Nat} {cs : Array Value} {e : TypeId} (h : w.heap[b]? = some (.cells cs e (0, 0))) : w.frozen? ⟨b, o, none⟩ = false := by
  simp [World.frozen?, h]

theorem SInv.drewN {w8 w : World} {n : Nat} {ps rs : Nat → Int} {πq πm : Nat → Nat} (h : SInv w8 n ps rs πq πm w) (q : Nat) : SInv w8 n ps rs πq πm (w.drewN q) :=
  ⟨below_drewN h.below q, h.ltq, h.inj, h.ltm, h.queue, h.perm, h.waiter⟩

theorem SInv.qcell {w8 w : World} {n : Nat} {ps rs : Nat → Int} {πq πm : Nat → Nat} (h : SInv w8 n ps rs πq πm w) {k : Nat} (hk : k < n) :
    w.cell? ⟨w8.heap.size, k, none⟩ = some (.pointer (some ⟨w8.heap.size + 2 + 2 * πq k, 0, none⟩)) ∧ w.frozen? ⟨w8.heap.size, k, none⟩ = false := by
  obtain ⟨qc, hq, _, hc⟩ := h.queue
  exact ⟨cell_of hq (hc k hk), frozen_of hq⟩
theorem SInv.mcell {w8 w : World} {n : Nat} {ps rs : Nat → Int} {πq πm : Nat → Nat} (h : SInv w8 n ps rs πq πm w) {k : Nat} (hk : k < n) :
    w.cell? ⟨w8.heap.size + 1 + 2 * n, k, none⟩ = some (.int .i64 (πm k : Nat)) ∧ w.frozen? ⟨w8.heap.size + 1 + 2 * n, k, none⟩ = false := by
  obtain ⟨pc, hp, _, hc⟩ := h.perm
  exact ⟨cell_of hp (hc k hk), frozen_of hp⟩
theorem SInv.wcell {w8 w : World} {n : Nat} {ps rs : Nat → Int} {πq πm : Nat → Nat} (h : SInv w8 n ps rs πq πm w) {k : Nat} (hk : k < n) :
    w.cell? ⟨w8.heap.size + 2 + 2 * πq k, 0, none⟩ = some (.int .i64 (ps (πq k))) ∧ w.cell? ⟨w8.heap.size + 2 + 2 * πq k, 1, none⟩ = some (.int .u64 (rs (πq k))) ∧
      w.cell? ⟨w8.heap.size + 2 + 2 * πq k, 2, none⟩ = some (.int .i64 k) ∧ w.frozen? ⟨w8.heap.size + 2 + 2 * πq k, 2, none⟩ = false := by
  obtain ⟨c, hw⟩ := h.waiter k hk
  exact ⟨cell_of hw rfl, cell_of hw rfl, cell_of hw rfl, frozen_of hw⟩

/-- A place of the permutation set. -/
theorem SInv.set {w8 w : World} {n : Nat} {ps rs : Nat → Int} {πq πm : Nat → Nat} (h : SInv w8 n ps rs πq πm w) {a v : Nat} (hv : v < n) :
    SInv w8 n ps rs πq (upd πm a v) (w.setCell ⟨w8.heap.size + 1 + 2 * n, a, none⟩ (.int .i64 (v : Nat))) := by
  obtain ⟨qc, hq, hqs, hqk⟩ := h.queue
  obtain ⟨pc, hp, hpss, hpk⟩ := h.perm
  refine ⟨h.below.setCell (by show w8.heap.size ≤ w8.heap.size + 1 + 2 * n; omega) _, h.ltq, h.inj, ?_, ⟨qc, ?_, hqs, hqk⟩, ⟨pc.setIfInBounds a (.int .i64 (v : Nat)), heap_set hp, by simp [hpss], ?_⟩, ?_⟩
  · intro k hk
    unfold upd; split
    · exact hv
    · exact h.ltm k hk
  · rw [heap_other _ _ (by omega)]; exact hq
  · intro k hk
    unfold upd
    by_cases e : k = a
    · subst e; simp [hpss, hk]
    · rw [if_neg e, Array.getElem?_setIfInBounds_ne (Ne.symm e)]
      exact hpk k hk
  · intro k hk
    obtain ⟨c, hw⟩ := h.waiter k hk
    have := h.ltq k hk
    exact ⟨c, by rw [heap_other _ _ (by omega)]; exact hw⟩

/-- Two places of the queue exchanged, and the two indexes set. -/
theorem SInv.swapped {w8 w w' : World} {n : Nat} {ps rs : Nat → Int} {π πm : Nat → Nat} (h : SInv w8 n ps rs π πm w) {i j : Nat} (hi : i < n) (hj : j < n)
    (ha : w'.Alike ((((w.setCell ⟨w8.heap.size, i, none⟩ (.pointer (some ⟨w8.heap.size + 2 + 2 * π j, 0, none⟩))).setCell ⟨w8.heap.size, j, none⟩ (.pointer (some ⟨w8.heap.size + 2 + 2 * π i, 0, none⟩))).setCell ⟨w8.heap.size + 2 + 2 * π j, 2, none⟩ (.int .i64 i)).setCell ⟨w8.heap.size + 2 + 2 * π i, 2, none⟩ (.int .i64 j)))
    (ht : w'.tape = w.tape) : SInv w8 n ps rs (fun k => π (sw i j k)) πm w' := by
  obtain ⟨qc, hq, hqs, hqk⟩ := h.queue
  obtain ⟨pc, hp, hpss, hpk⟩ := h.perm
  obtain ⟨hh, hos, hout⟩ := ha
  have li := h.ltq i hi
  have lj := h.ltq j hj
  have hb : Below w8.heap.size w8 ((((w.setCell ⟨w8.heap.size, i, none⟩ (.pointer (some ⟨w8.heap.size + 2 + 2 * π j, 0, none⟩))).setCell ⟨w8.heap.size, j, none⟩ (.pointer (some ⟨w8.heap.size + 2 + 2 * π i, 0, none⟩))).setCell ⟨w8.heap.size + 2 + 2 * π j, 2, none⟩ (.int .i64 i)).setCell ⟨w8.heap.size + 2 + 2 * π i, 2, none⟩ (.int .i64 j)) :=
    (((h.below.setCell (Nat.le_refl _) _).setCell (Nat.le_refl _) _).setCell (by show _ ≤ w8.heap.size + 2 + 2 * π j; omega) _).setCell (by show _ ≤ w8.heap.size + 2 + 2 * π i; omega) _
  refine ⟨⟨hos.trans hb.os, ht.trans h.below.tape, hout.trans hb.output, by rw [hh]; exact hb.size, fun k hk => by rw [hh]; exact hb.block k hk⟩, fun k hk => h.ltq _ (sw_lt hi hj hk), ?_, h.ltm,
    ⟨(qc.setIfInBounds i (.pointer (some ⟨w8.heap.size + 2 + 2 * π j, 0, none⟩))).setIfInBounds j (.pointer (some ⟨w8.heap.size + 2 + 2 * π i, 0, none⟩)), ?_, by simp [hqs], ?_⟩, ⟨pc, ?_, hpss, hpk⟩, ?_⟩
  · intro k l hk hl e
    exact sw_inj (h.inj _ _ (sw_lt hi hj hk) (sw_lt hi hj hl) e)
  · rw [hh, heap_other _ _ (by omega), heap_other _ _ (by omega)]
    exact heap_set (heap_set hq)
  · intro k hk
    unfold sw
    by_cases e2 : k = j
    · subst e2
      by_cases e1 : k = i
      · subst e1; simp [hqs, hk]
      · rw [if_neg e1, if_pos rfl]; simp [hqs, hk]
    · rw [Array.getElem?_setIfInBounds_ne (Ne.symm e2)]
      by_cases e1 : k = i
      · subst e1; rw [if_pos rfl]; simp [hqs, hk]
      · rw [Array.getElem?_setIfInBounds_ne (Ne.symm e1), if_neg e1, if_neg e2]
        exact hqk k hk
  · rw [hh, heap_other _ _ (by omega), heap_other _ _ (by omega), heap_other _ _ (by omega), heap_other _ _ (by omega)]
    exact hp
  · intro k hk
    rw [hh]
    obtain ⟨ci, hwi⟩ := h.waiter i hi
    obtain ⟨cj, hwj⟩ := h.waiter j hj
    by_cases e1 : k = i
    · subst e1
      have es : sw k j k = j := by unfold sw; rw [if_pos rfl]
      show ∃ c, _ = some (Obj.cells #[.int .i64 (ps (π (sw k j k))), .int .u64 (rs (π (sw k j k))), .int .i64 k, c] 44 (0, 0))
      rw [es]
      by_cases e2 : k = j
      · subst e2
        have h0 : ((w.setCell ⟨w8.heap.size, k, none⟩ (.pointer (some ⟨w8.heap.size + 2 + 2 * π k, 0, none⟩))).setCell ⟨w8.heap.size, k, none⟩ (.pointer (some ⟨w8.heap.size + 2 + 2 * π k, 0, none⟩))).heap[w8.heap.size + 2 + 2 * π k]? = some (.cells #[.int .i64 (ps (π k)), .int .u64 (rs (π k)), .int .i64 k, ci] 44 (0, 0)) := by
          rw [heap_other _ _ (by omega), heap_other _ _ (by omega)]; exact hwi
        exact ⟨ci, heap_idx (heap_idx h0)⟩
      · have hne : π k ≠ π j := fun e => e2 (h.inj _ _ hi hj e)
        refine ⟨cj, ?_⟩
        rw [heap_other _ _ (by omega)]
        have h0 : ((w.setCell ⟨w8.heap.size, k, none⟩ (.pointer (some ⟨w8.heap.size + 2 + 2 * π j, 0, none⟩))).setCell ⟨w8.heap.size, j, none⟩ (.pointer (some ⟨w8.heap.size + 2 + 2 * π k, 0, none⟩))).heap[w8.heap.size + 2 + 2 * π j]? = some (.cells #[.int .i64 (ps (π j)), .int .u64 (rs (π j)), .int .i64 j, cj] 44 (0, 0)) := by
          rw [heap_other _ _ (by omega), heap_other _ _ (by omega)]; exact hwj
        exact heap_idx h0
    · by_cases e2 : k = j
      · subst e2
        have es : sw i k k = i := by unfold sw; rw [if_neg e1, if_pos rfl]
        show ∃ c, _ = some (Obj.cells #[.int .i64 (ps (π (sw i k k))), .int .u64 (rs (π (sw i k k))), .int .i64 k, c] 44 (0, 0))
        rw [es]
        have hne : π i ≠ π k := fun e => e1 (h.inj _ _ hi hk e).symm
        have h0 : (((w.setCell ⟨w8.heap.size, i, none⟩ (.pointer (some ⟨w8.heap.size + 2 + 2 * π k, 0, none⟩))).setCell ⟨w8.heap.size, k, none⟩ (.pointer (some ⟨w8.heap.size + 2 + 2 * π i, 0, none⟩))).setCell ⟨w8.heap.size + 2 + 2 * π k, 2, none⟩ (.int .i64 i)).heap[w8.heap.size + 2 + 2 * π i]? = some (.cells #[.int .i64 (ps (π i)), .int .u64 (rs (π i)), .int .i64 i, ci] 44 (0, 0)) := by
          rw [heap_other _ _ (by omega), heap_other _ _ (by omega), heap_other _ _ (by omega)]; exact hwi
        exact ⟨ci, heap_idx h0⟩
      · have es : sw i j k = k := by unfold sw; rw [if_neg e1, if_neg e2]
        show ∃ c, _ = some (Obj.cells #[.int .i64 (ps (π (sw i j k))), .int .u64 (rs (π (sw i j k))), .int .i64 k, c] 44 (0, 0))
        rw [es]
        obtain ⟨c, hw⟩ := h.waiter k hk
        have n1 : π k ≠ π i := fun e => e1 (h.inj _ _ hk hi e)
        have n2 : π k ≠ π j := fun e => e2 (h.inj _ _ hk hj e)
        exact ⟨c, by rw [heap_other _ _ (by omega), heap_other _ _ (by omega), heap_other _ _ (by omega), heap_other _ _ (by omega)]; exact hw⟩

/-- 'Swap' at such a queue. -/
theorem swap14 {w8 w : World} {n : Nat} {ps rs : Nat → Int} {π πm : Nat → Nat} (h : SInv w8 n ps rs π πm w) {i j : Nat} (hi : i < n) (hj : j < n) :
    Calls Try.prog 14 #[.slice (some ⟨w8.heap.size, 0, none⟩) n n, .int .i64 i, .int .i64 j] w fun e w' => e = .returned (.tuple #[]) ∧ SInv w8 n ps rs (fun k => π (sw i j k)) πm w' := by
  obtain ⟨q1, f1⟩ := h.qcell hi
  obtain ⟨q2, f2⟩ := h.qcell hj
  obtain ⟨_, _, x1, g1⟩ := h.wcell hi
  obtain ⟨_, _, x2, g2⟩ := h.wcell hj
  by_cases e : i = j
  · subst e
    refine (swap14_eq w8.heap.size n n i (w8.heap.size + 2 + 2 * π i) i w hi (by omega) q1 f1 x1 g1).mono ?_
    rintro e w' ⟨rfl, ha, ht⟩
    exact ⟨rfl, h.swapped hi hi ha ht⟩
  · have hne : π i ≠ π j := fun e2 => e (h.inj _ _ hi hj e2)
    refine (swap14_ne w8.heap.size n n i j (w8.heap.size + 2 + 2 * π i) (w8.heap.size + 2 + 2 * π j) i j w hi hj e (by omega) (by omega) (by omega) q1 q2 f1 f2 x1 x2 g1 g2).mono ?_
    rintro e w' ⟨rfl, ha, ht⟩
    exact ⟨rfl, h.swapped hi hj ha ht⟩

/-- 'ZZwaiterAt' at such a queue. -/
theorem at15_inv {w8 w : World} {n : Nat} {ps rs : Nat → Int} {π πm : Nat → Nat} (h : SInv w8 n ps rs π πm w) {k : Nat} (hk : k < n) :
    Calls Try.prog 15 #[.slice (some ⟨w8.heap.size, 0, none⟩) n n, .int .i64 k] w fun e w' => e = .returned (.tuple #[.int .i64 (ps (π k)), .int .u64 (rs (π k)), .int .i64 k]) ∧ ∃ q, w' = w.drewN q := by
  obtain ⟨c0, c1, c2, _⟩ := h.wcell hk
  exact at15 w8.heap.size n n k _ _ _ _ w hk (h.qcell hk).1 c0 c1 c2
end Go.Proofs.Qxb6618956a
