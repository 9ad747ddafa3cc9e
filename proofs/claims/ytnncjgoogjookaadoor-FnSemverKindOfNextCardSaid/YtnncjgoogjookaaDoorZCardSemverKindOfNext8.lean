/- The row and the tied card of FnSemverKindOfNext, out of its printed walk and its plain law. For every input that the statement lets in. -/
import Derived.Test.YtnncjgoogjookaaDoorZCardSemverKindOfNext4
import Derived.Test.YtnncjgoogjookaaDoorZCardSemverKindOfNext6
namespace Go.Proofs.YtnncjgoogjookaaDoor.L
end Go.Proofs.YtnncjgoogjookaaDoor.L
namespace Go.Proofs.YtnncjgoogjookaaDoor.Bt

open Go.RowKit Go.Proofs.YtnncjgoogjookaaDoor.L

open Go.Proofs.YtnncjgoogjookaaDoorW.PrintWords Go.Proofs.YtnncjgoogjookaaDoorW.PrintLast Go.Proofs.YtnncjgoogjookaaDoorW.PrintMore

theorem w64 {a : Int} (h0 : 0 ≤ a) (h1 : a ≤ 9223372036854775807) : wrap64 a = a := by unfold wrap64; omega

theorem bt_bl (s : ByteArray) (i : Nat) (h : i < s.size) : bt s (i : Int) = ((bl s)[i]'(by rw [bl_len]; exact h)).toNat := by
  rw [← bt_at s (i : Int) (by simpa using h)]
  simp only [Int.toNat_natCast]
  rfl

theorem drop_bl (s : ByteArray) (i : Nat) (h : i < s.size) : (bl s).drop i = (bl s)[i]'(by rw [bl_len]; exact h) :: (bl s).drop (i + 1) := List.drop_eq_getElem_cons (by rw [bl_len]; exact h)

theorem one_bl (s : ByteArray) (c : UInt8) (i : Nat) (h : i < s.size) : ((s.extract i (i + 1)).toList = (ofL [c]).toList) ↔ (bl s)[i]'(by rw [bl_len]; exact h) = c := by
  rw [ByteArray.toList_eq, ByteArray.toList_eq]
  show bl _ = bl _ ↔ _
  rw [bl_extract, bl_ofL, drop_bl s i h, show i + 1 - i = 1 by omega, List.take_succ_cons, List.take_zero]
  simp

def idxR (c : UInt8) (l : List UInt8) (i : Nat) : Int := match fst c l with | none => -1 | some j => ((i + j : Nat) : Int)

theorem take_snoc (l : List UInt8) (a i : Nat) (h : i < l.length) (ha : a ≤ i) : ((l.drop a).take (i + 1 - a)) = (l.drop a).take (i - a) ++ [l[i]] := by
  rw [show i + 1 - a = (i - a) + 1 by omega, List.take_succ_eq_append_getElem (by rw [List.length_drop]; omega)]
  congr 2
  rw [List.getElem_drop]
  congr 1
  omega

theorem rd_get (L : List ByteArray) (i : Nat) (h : i < L.length) : rdOf ByteArray.empty L (i : Int) = L[i] := by
  unfold rdOf
  rw [Int.toNat_natCast, List.getD_eq_getElem?_getD, List.getElem?_eq_getElem h]; rfl

theorem all_step (P : ByteArray → Bool) (L : List ByteArray) (i : Nat) (h : i < L.length) : (L.drop i).all P = (P L[i] && (L.drop (i + 1)).all P) := by
  rw [List.drop_eq_getElem_cons h, List.all_cons]

theorem rd_map (l : List (List UInt8)) (i : Nat) (h : i < l.length) : rdOf ByteArray.empty (l.map ofL) (i : Int) = ofL l[i] := by
  rw [rd_get (l.map ofL) i (by rw [List.length_map]; exact h), List.getElem_map]

theorem parts_le (c : UInt8) : ∀ l p, p ∈ splitL c l → p.length ≤ l.length
  | [], p, h => by simp [splitL] at h; subst h; simp
  | x :: xs, p, h => by
    have ih := parts_le c xs
    unfold splitL at h
    split at h
    · rcases List.mem_cons.1 h with rfl | h
      · simp
      · have := ih p h; simp; omega
    · split at h
      · simp at h; subst h; simp
      · rename_i hd tl e
        rw [e] at ih
        rcases List.mem_cons.1 h with rfl | h
        · have := ih hd (by simp); simp; omega
        · have := ih p (by simp [h]); simp; omega

theorem neNil_bl (s : ByteArray) : (s.toList != ([] : List UInt8)) = !(bl s == []) := by
  rw [ByteArray.toList_eq]; rfl

theorem toList_bl (s : ByteArray) : s.toList = bl s := ByteArray.toList_eq s

end Go.Proofs.YtnncjgoogjookaaDoor.Bt
