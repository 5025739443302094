/-
  The plain laws: strings of hex bytes, cut, kept and put together.
-/
import Derived.Test.Qxb6619600aKeep
namespace Go.Proofs.Qxb6619600a
open Go.RowKit

def okHex (s : ByteArray) : Bool := allHex s.data.toList
def keptOf (s : ByteArray) : ByteArray := ⟨(s.data.toList.filter hx8).toArray⟩

theorem allHex_append (a b : List UInt8) : allHex (a ++ b) = (allHex a && allHex b) := by unfold allHex; exact List.all_append ..

theorem data_extract (s : ByteArray) (a b : Nat) : (s.extract a b).data.toList = (s.data.toList.take b).drop a := by
  rw [ByteArray.data_extract]; simp [List.extract_eq_take_drop, List.drop_take]

theorem okHex_cut (s : ByteArray) (n : Nat) : okHex s = (okHex (s.extract 0 n) && okHex (s.extract n s.size)) := by
  unfold okHex
  rw [data_extract, data_extract, ← allHex_append]
  congr 1
  rw [List.drop_zero, List.take_of_length_le (i := s.size) (by simp), List.take_append_drop]

theorem keptOf_ok (s : ByteArray) : okHex (keptOf s) = true := by
  show (s.data.toList.filter hx8).all hx8 = true
  rw [List.all_eq_true]
  exact fun x hx => (List.mem_filter.1 hx).2

theorem size_list (s : ByteArray) : s.size = s.data.toList.length := rfl
theorem keptOf_size (s : ByteArray) : (keptOf s).size = (s.data.toList.filter hx8).length := rfl

theorem keptOf_le (s : ByteArray) : (keptOf s).size ≤ s.size := by
  rw [keptOf_size, size_list]
  exact List.length_filter_le hx8 s.data.toList

theorem keptOf_size_yes (s : ByteArray) (h : okHex s = true) : (keptOf s).size = s.size := by
  unfold okHex allHex at h
  rw [keptOf_size, size_list, List.filter_eq_self.2 (List.all_eq_true.1 h)]

theorem keptOf_size_no (s : ByteArray) (h : okHex s = false) : (keptOf s).size ≠ s.size := by
  rw [keptOf_size, size_list]
  intro e1
  have e2 := List.filter_eq_self.1 (List.filter_sublist.eq_of_length e1)
  have : okHex s = true := List.all_eq_true.2 e2
  rw [h] at this
  exact Bool.false_ne_true this

theorem zzHex_ok (s : ByteArray) (w : World) :
    Calls Try.prog 6 #[.string s] w fun e w' => e = .returned (.bool (okHex s)) ∧ Below w.heap.size w w' := zzHex_any s w

theorem keep_ok (s : ByteArray) (w : World) (hs : s.size ≤ 2097152) :
    Calls Try.prog 7 #[.string s] w fun e w' => e = .returned (.string (keptOf s)) ∧ Below w.heap.size w w' := keep_any s w hs
end Go.Proofs.Qxb6619600a
