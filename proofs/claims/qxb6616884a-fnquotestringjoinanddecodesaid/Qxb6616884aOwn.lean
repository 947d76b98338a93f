/-
  'string(out)' of a row of bytes of the call's own; the bytes of a literal, place by place.
-/
import Derived.Test.Qxb6616884aEsc
import Derived.Laws.IdiomStrings
namespace Go.Proofs.Qxb6616884a
open Go.RowKit

theorem info5 : (Try.prog.info? 5).map (fun i => (i.zero, i.size, i.bytes)) = some (some (.int .u8 0), 1, 1) := by kernel_rfl

theorem conv_own {w : World} {base : Nat} {v : Value} {l : List UInt8} (h : w.ownsRow base 5 1 v l.length (Lib.byteCells l)) :
    (convert 28 9 v).run Try.prog w = .ok (.string ⟨l.toArray⟩) w := by
  obtain ⟨_, h | ⟨g, cap, cur, rfl, _, hcur, hn, _, hs, ht⟩⟩ := h
  · obtain ⟨rfl, h0⟩ := h
    obtain rfl : l = [] := List.eq_nil_of_length_eq_zero h0
    rw [run_convert_bytes_string w 28 9 5 none 0 0 Try.underlying28 Try.underlying5 Try.underlying9]
    simp [Conv.bytesToString]
    rfl
  · refine run_convert_bytes_back w 28 9 5 ⟨g, 0, none⟩ cap l Try.underlying28 Try.underlying5 Try.underlying9 ?_
    intro j hj
    have hj2 : (Lib.byteCells l)[j]? = some (.int .u8 (l[j].toNat : Int)) := by
      simp [Lib.byteCells, List.getElem?_eq_getElem hj]
    rw [← ht, List.getElem?_take, if_pos (by omega)] at hj2
    have : w.cell? ⟨g, j, none⟩ = cur[j]? := by simp [World.cell?, hcur]
    have e : (⟨g, 0, none⟩ : Addr).add j = ⟨g, j, none⟩ := by
      cases j <;> simp [Addr.add]
    rw [e, this, ← hj2]
    simp

theorem num_at (s : ByteArray) (i : Nat) (h : i < s.size) (v : UInt8) (e : s.data.toList[i]? = some v) : s[i] = v := by
  obtain ⟨⟨l⟩⟩ := s
  have : l[i]? = some v := e
  rw [List.getElem?_eq_some_iff] at this
  obtain ⟨_, h2⟩ := this
  exact h2

/-- What lies between the quotes. -/
theorem inner_list (s : ByteArray) : ((quoteB s).extract 1 ((quoteB s).size - 1)).data.toList = Plain.esc s.data.toList := by
  rw [Lib.extract_data, quoteB_list, quoteB_size, Plain.quote]
  simp

theorem inner_size (s : ByteArray) : ((quoteB s).extract 1 ((quoteB s).size - 1)).size = (quoteB s).size - 1 - 1 := by
  simp

/-- A byte between the quotes, as the walk spells it. -/
theorem inner_num (s : ByteArray) (m : Nat) (v : UInt8) (e : (Plain.esc s.data.toList)[m]? = some v) (h : m < ((quoteB s).extract 1 ((quoteB s).size - 1)).size) :
    ((((quoteB s).extract 1 ((quoteB s).size - 1))[m]'h).toNat : Int) = (v.toNat : Int) := by
  rw [num_at _ m h v (by rw [inner_list]; exact e)]

theorem own_row {w : World} {base : Nat} {e : TypeId} {size : Nat} {v : Value} {n : Nat} {xs : List Value} (h : w.ownsRow base e size v n xs) : ∀ k, v.ownBlock = some k → base ≤ k := by
  intro k hk
  obtain ⟨_, ⟨rfl, _⟩ | ⟨g, cap, cur, rfl, hg, _⟩⟩ := h
  · simp [Value.ownBlock] at hk
  · simp [Value.ownBlock] at hk; omega

theorem num39 : ((UInt8.toNat 39 : Nat) : Int) = 39 := rfl
theorem num92 : ((UInt8.toNat 92 : Nat) : Int) = 92 := rfl

theorem cells_push (s : ByteArray) (k : Nat) (h : k < s.size) :
    Lib.byteCells (s.data.toList.take k) ++ [.int .u8 (s[k].toNat : Int)] = Lib.byteCells (s.data.toList.take (k + 1)) := by
  have hl : k < s.data.toList.length := by simpa using h
  rw [Plain.take_succ_at _ k hl, byte_list s k h hl]
  simp [Lib.byteCells]

theorem take_len (s : ByteArray) (k : Nat) (h : k ≤ s.size) : (s.data.toList.take k).length = k := by
  rw [List.length_take, ← Lib.size_eq]; omega

theorem own_all {w : World} {base : Nat} {v : Value} (s : ByteArray) (k : Nat) (hk : k = s.size) (h : w.ownsRow base 5 1 v k (Lib.byteCells (s.data.toList.take k))) :
    (convert 28 9 v).run Try.prog w = .ok (.string s) w := by
  have e : s.data.toList.take k = s.data.toList := List.take_of_length_le (by rw [← Lib.size_eq]; omega)
  rw [e, hk, Lib.size_eq] at h
  rw [conv_own h, Lib.mk_data]
end Go.Proofs.Qxb6616884a
