/-
  What the two laws share: the copy of the subjects into a row of the call's own; the 'zzBytes' at any slice that is not nil.
-/
import Derived.Test.Qxb6618925aFmtTail
import Derived.Laws.CopyOwn
namespace Go.Proofs.Qxb6618925aFmt
open Go.RowKit Go.Extern.Stop Go.Stop Go.Extern

theorem info9 : (Tryf.prog.info? 9).map (fun i => (i.zero, i.size, i.bytes)) = some (some (.string ⟨#[]⟩), 1, 16) := by kernel_rfl

theorem own_block {w : World} {base g n : Nat} {xs : List Value} (h : w.ownsRow base 9 1 (.slice (some ⟨g, 0, none⟩) n n) n xs) :
    ∃ cur : List Value, w.heap[g]? = some (.cells cur.toArray 9 (0, 0)) ∧ cur.length = n := by
  obtain ⟨_, ⟨h, _⟩ | ⟨g', cap, cur, hv, _, hc, _, _, hs, _⟩⟩ := h
  · cases h
  · cases hv
    exact ⟨cur.toList, by simpa using hc, by simpa using hs⟩

theorem copied {w : World} {g n : Nat} {cur : List Value} {f : Nat → ByteArray} (hg : w.heap[g]? = some (.cells (splice cur 0 ((List.range n).map fun j => Value.string (f j))).toArray 9 (0, 0))) :
    ∀ j, j < n → w.cell? ⟨g, j, none⟩ = some (.string (f j)) := by
  intro j hj
  have : (splice cur 0 ((List.range n).map fun j => Value.string (f j))).toArray[j]? = some (.string (f j)) := by
    rw [splice, List.take_zero, List.nil_append, List.getElem?_toArray, List.getElem?_append_left (by simpa using hj)]
    simp [hj]
  simp [World.cell?, hg, this]

theorem copy9 : (Tryf.prog.info? 9).map (·.size) = some 1 := by kernel_rfl

theorem src_cells {w w0 : World} {x : Addr} {sn : Nat} {f : Nat → ByteArray} (hc : ∀ j, j < sn → w.cell? (x.add j) = some (.string (f j))) (hb : Below w.heap.size w w0) :
    ∀ j v, ((List.range sn).map fun j => Value.string (f j))[j]? = some v → w0.cell? (x.add j) = some v := by
  intro j v hv
  have hj : j < sn := by
    have := (List.getElem?_eq_some_iff.1 hv).1
    simpa using this
  have e : v = .string (f j) := by simpa [hj] using hv.symm
  have h1 := hc j hj
  rw [e]
  exact cell_later hb h1

theorem sum5_any (a b t : ByteArray) (b1 b2 b3 b4 : Bool) (n : Int) (x : Addr) (sn sc : Nat) (f : Nat → ByteArray) (w : World) (h : a.size + b.size + t.size + sn ≤ 1048576)
    (hc : ∀ j, j < sn → w.cell? (x.add j) = some (.string (f j))) :
    Calls Tryf.prog 5 #[.string a, .string b, .string t, .bool b1, .bool b2, .bool b3, .bool b4, .int .i64 n, .slice (some x) sn sc] w fun e w' => SumAns (a.size + b.size + t.size + sn) e ∧ w = w' := by
  by_cases h0 : 0 < sn
  · obtain ⟨g, off, spot⟩ := x
    have hspot : spot = none := by simpa [Addr.add] using World.cell?_spot (hc 0 h0)
    subst hspot
    exact sum5_some a b t b1 b2 b3 b4 n g off sn sc f w h (fun j hj => by rw [← Go.WideShapes.add_plain]; exact hc j hj)
  · obtain rfl : sn = 0 := by omega
    exact sum5_none a b t b1 b2 b3 b4 n (some x) sc w (by omega)

theorem sum9_any (a b t : ByteArray) (b1 b2 b3 b4 : Bool) (n : Int) (x : Addr) (sn sc : Nat) (f : Nat → ByteArray) (w : World) (h : a.size + b.size + t.size + sn ≤ 1048576)
    (hc : ∀ j, j < sn → w.cell? (x.add j) = some (.string (f j))) :
    Calls Tryf.prog 9 #[.string a, .string b, .string t, .bool b1, .bool b2, .bool b3, .bool b4, .int .i64 n, .slice (some x) sn sc] w fun e w' => SumAns (a.size + b.size + t.size + sn) e ∧ w = w' := by
  by_cases h0 : 0 < sn
  · obtain ⟨g, off, spot⟩ := x
    have hspot : spot = none := by simpa [Addr.add] using World.cell?_spot (hc 0 h0)
    subst hspot
    exact sum9_some a b t b1 b2 b3 b4 n g off sn sc f w h (fun j hj => by rw [← Go.WideShapes.add_plain]; exact hc j hj)
  · obtain rfl : sn = 0 := by omega
    exact sum9_none a b t b1 b2 b3 b4 n (some x) sc w (by omega)

end Go.Proofs.Qxb6618925aFmt
