/- The row of FnRefTextOne, out of its printed walk and its plain law. For every input that the statement lets in. -/
import Derived.Test.YtmlcpnehihmhaaaZCardRefTextOne2
import Derived.Test.YtmlcpnehihmhaaaZCardRefTextOne4
namespace Go.Proofs.Ytmlcpnehihmhaaa.L
end Go.Proofs.Ytmlcpnehihmhaaa.L
namespace Go.Proofs.Ytmlcpnehihmhaaa.Bt

open Go.RowKit Go.Proofs.Ytmlcpnehihmhaaa.L

open Go.Proofs.YtmlcpnehihmhaaaW.PrintWords Go.Proofs.YtmlcpnehihmhaaaW.PrintLast Go.Proofs.YtmlcpnehihmhaaaW.PrintMore

theorem w64 {a : Int} (h0 : 0 ≤ a) (h1 : a ≤ 9223372036854775807) : wrap64 a = a := by unfold wrap64; omega

theorem get_bl (s : ByteArray) (i : Nat) (h : i < s.size) : (bl s)[i]'(by rw [bl_len]; exact h) = s[i] := rfl

theorem drop_bl (s : ByteArray) (i : Nat) (h : i < s.size) : (bl s).drop i = (bl s)[i]'(by rw [bl_len]; exact h) :: (bl s).drop (i + 1) := List.drop_eq_getElem_cons (by rw [bl_len]; exact h)

theorem rd_get (L : List ByteArray) (i : Nat) (h : i < L.length) : rdOf ByteArray.empty L (i : Int) = L[i] := by
  unfold rdOf
  rw [Int.toNat_natCast, List.getD_eq_getElem?_getD, List.getElem?_eq_getElem h]; rfl

theorem all_step (P : ByteArray → Bool) (L : List ByteArray) (i : Nat) (h : i < L.length) : (L.drop i).all P = (P L[i] && (L.drop (i + 1)).all P) := by
  rw [List.drop_eq_getElem_cons h, List.all_cons]

theorem parts_le (c : UInt8) : ∀ l p, p ∈ splitL c l → p.length ≤ l.length
  | [], p, h => by simp [splitL] at h; subst h; simp
  | x :: xs, p, h => by
    have ih := parts_le c xs
    unfold splitL at h
    split at h
    · rcases List.mem_cons.1 h with rfl | h
      · simp
      · have := ih p h; simp; omega
    · split at h
      · simp at h; subst h; simp
      · rename_i hd tl e
        rw [e] at ih
        rcases List.mem_cons.1 h with rfl | h
        · have := ih hd (by simp); simp; omega
        · have := ih p (by simp [h]); simp; omega

theorem byte_eq (a b : UInt8) : ((a.toNat : Int) == (b.toNat : Int)) = (a == b) := by
  rw [Bool.eq_iff_iff, beq_iff_eq, beq_iff_eq]
  constructor
  · intro h; apply UInt8.toNat_inj.1; omega
  · intro h; rw [h]

end Go.Proofs.Ytmlcpnehihmhaaa.Bt
