/-
  Plain facts on the message: the operator, then a part that hangs on the file's text alone.
-/
import Derived.Test.Qxb6618925aFmtStr
import Derived.Test.Qxb6618925aFmtSmall
namespace Go.Proofs.Qxb6618925aFmt
open Go.RowKit Go.Extern

/-- The part behind the operator. -/
def tailB (text : ByteArray) : ByteArray := ⟨(32 :: FmtText.quote false text.data.toList).toArray⟩
theorem tailB_list (text : ByteArray) : (tailB text).data.toList = 32 :: FmtText.quote false text.data.toList := by simp [tailB]
theorem tailB_size (text : ByteArray) : (tailB text).size = (FmtText.quote false text.data.toList).length + 1 := by
  rw [Lib.size_eq, tailB_list, List.length_cons]
theorem quote_shape (l : List UInt8) : FmtText.quote false l = 34 :: (Quote.qf l.length l ++ [34]) := Quote.quote_qf l
theorem tailB_bounds (text : ByteArray) : 3 ≤ (tailB text).size ∧ (tailB text).size ≤ 10 * text.size + 3 := by
  rw [tailB_size]
  have h := FmtText.quote_length_le text.data.toList
  rw [← Lib.size_eq] at h
  have h2 : 2 ≤ (FmtText.quote false text.data.toList).length := by rw [quote_shape]; simp
  omega

theorem textB_split (op text : ByteArray) : (textB op text).data.toList = op.data.toList ++ (32 :: FmtText.quote false text.data.toList) := by
  rw [textB_list, tText]; simp
theorem textB_size (op text : ByteArray) : (textB op text).size = op.size + (tailB text).size := by
  rw [Lib.size_eq, textB_split, List.length_append, ← Lib.size_eq, tailB_size, List.length_cons]
theorem textB_rest (op text : ByteArray) : (textB op text).extract op.size (textB op text).size = tailB text := by
  rw [Lib.extract_eq, textB_split, Lib.size_eq op, List.drop_left, textB_size]
  congr 2
  exact List.take_of_length_le (by rw [List.length_cons, tailB_size, Lib.size_eq op]; omega)

theorem tail_0 (text : ByteArray) (h : 0 < (tailB text).size) : (((tailB text)[0]'h).toNat : Int) = 32 := by
  rw [num_at (tailB text) 0 h 32 (by rw [tailB_list]; rfl)]; rfl
theorem tail_1 (text : ByteArray) (h : 1 < (tailB text).size) : (((tailB text)[1]'h).toNat : Int) = 34 := by
  rw [num_at (tailB text) 1 h 34 (by rw [tailB_list, quote_shape]; rfl)]; rfl
theorem tail_last (text : ByteArray) (h : (tailB text).size - 1 < (tailB text).size) : (((tailB text)[(tailB text).size - 1]'h).toNat : Int) = 34 := by
  rw [num_at (tailB text) ((tailB text).size - 1) h 34 (by
    rw [tailB_size, tailB_list, quote_shape, Nat.add_sub_cancel, List.length_cons, List.getElem?_cons_succ, List.length_append, List.length_singleton, List.getElem?_cons_succ, List.getElem?_append_right (Nat.le_refl _), Nat.sub_self]; rfl)]
  rfl

theorem tail_plain_size (text : ByteArray) (h : ∀ c ∈ text.data.toList, Quote.plainByte c = true) : (tailB text).size = text.size + 3 := by
  rw [tailB_size, Quote.quote_plain _ h, List.length_cons, List.length_append, ← Lib.size_eq]; rfl
theorem tail_plain (text : ByteArray) (h : ∀ c ∈ text.data.toList, Quote.plainByte c = true) : (((tailB text).extract 2 ((tailB text).size - 1)).toList == text.toList) = true := by
  rw [beq_iff_eq, Lib.extract_toList, tailB_list, Lib.toList_data, tail_plain_size text h, Quote.quote_plain _ h, Lib.size_eq]
  simp
end Go.Proofs.Qxb6618925aFmt
