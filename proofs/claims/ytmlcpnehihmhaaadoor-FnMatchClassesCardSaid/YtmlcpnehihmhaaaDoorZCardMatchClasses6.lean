/- The row and the tied card of FnMatchClasses, out of its printed walk and its plain law. For every input that the statement lets in. -/
import Derived.Test.YtmlcpnehihmhaaaDoorZCardMatchClasses2
import Derived.Test.YtmlcpnehihmhaaaDoorZCardMatchClasses4
namespace Go.Proofs.YtmlcpnehihmhaaaDoor.L
end Go.Proofs.YtmlcpnehihmhaaaDoor.L
namespace Go.Proofs.YtmlcpnehihmhaaaDoor.Bt

open Go.RowKit Go.Proofs.YtmlcpnehihmhaaaDoor.L

open Go.Proofs.YtmlcpnehihmhaaaDoorW.PrintWords Go.Proofs.YtmlcpnehihmhaaaDoorW.PrintLast Go.Proofs.YtmlcpnehihmhaaaDoorW.PrintMore

theorem w64 {a : Int} (h0 : 0 ≤ a) (h1 : a ≤ 9223372036854775807) : wrap64 a = a := by unfold wrap64; omega

theorem get_bl (s : ByteArray) (i : Nat) (h : i < s.size) : (bl s)[i]'(by rw [bl_len]; exact h) = s[i] := rfl

theorem drop_bl (s : ByteArray) (i : Nat) (h : i < s.size) : (bl s).drop i = (bl s)[i]'(by rw [bl_len]; exact h) :: (bl s).drop (i + 1) := List.drop_eq_getElem_cons (by rw [bl_len]; exact h)

theorem head_bl (s : ByteArray) (h : 0 < s.size) : (bl s).headD 0 = s[0] := by
  have : bl s = s[0] :: (bl s).drop 1 := by
    have h2 : 0 < (bl s).length := by rw [bl_len]; exact h
    have := List.drop_eq_getElem_cons h2
    rw [List.drop_zero] at this
    exact this
  rw [this]; rfl

end Go.Proofs.YtmlcpnehihmhaaaDoor.Bt
