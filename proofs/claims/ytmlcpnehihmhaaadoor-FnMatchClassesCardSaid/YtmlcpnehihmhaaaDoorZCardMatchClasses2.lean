/- The row and the tied card of FnMatchClasses, out of its printed walk and its plain law. For every input that the statement lets in. -/
import Derived.Laws.Strings
namespace Go.Proofs.YtmlcpnehihmhaaaDoor.L

abbrev bl (s : ByteArray) : List UInt8 := s.data.toList

def ofL (l : List UInt8) : ByteArray := ⟨l.toArray⟩

@[simp] theorem bl_ofL (l : List UInt8) : bl (ofL l) = l := rfl

@[simp] theorem ofL_bl (s : ByteArray) : ofL (bl s) = s := rfl

theorem bl_len (s : ByteArray) : (bl s).length = s.size := rfl

theorem bl_inj {s t : ByteArray} (h : bl s = bl t) : s = t := by rw [← ofL_bl s, h, ofL_bl]

theorem bl_extract (s : ByteArray) (a b : Nat) : bl (s.extract a b) = ((bl s).drop a).take (b - a) := by
  unfold bl
  rw [ByteArray.data_extract, Array.toList_extract, List.extract_eq_take_drop]

theorem extract_ofL (s : ByteArray) (a b : Nat) : s.extract a b = ofL (((bl s).drop a).take (b - a)) := bl_inj (by rw [bl_extract, bl_ofL])

theorem extract_end (s : ByteArray) (a : Nat) : s.extract a s.size = ofL ((bl s).drop a) := by
  rw [extract_ofL, List.take_of_length_le (by rw [List.length_drop, bl_len]; omega)]

end Go.Proofs.YtmlcpnehihmhaaaDoor.L
