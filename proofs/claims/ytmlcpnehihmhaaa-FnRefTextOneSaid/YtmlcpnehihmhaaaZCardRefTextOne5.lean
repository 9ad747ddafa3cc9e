/- The row of FnRefTextOne, out of its printed walk and its plain law. For every input that the statement lets in. -/
import Derived.Test.YtmlcpnehihmhaaaZCardRefTextOne4
import Derived.ChangeArms
import Derived.Deep.Slices
import Derived.WideShapes
import Derived.Carry
namespace Go.Proofs.Ytmlcpnehihmhaaa.Opn

open Go Go.Proofs Go.RowKit Go.ChangeShapes Go.WideShapes Go.Deep

open Go.Proofs.YtmlcpnehihmhaaaW.PrintWords Go.Proofs.YtmlcpnehihmhaaaW.PrintLast Go.Proofs.YtmlcpnehihmhaaaW.PrintMore

/-- What reads as a datum of type t is told by the kind d, and g holds of it. -/
def Opens {α : Type} (P : Program) (d : Kd α) (g : α → Prop) (t : TypeId) : Prop :=
  ∀ {H : Type} (enc : TypeId × Value → H) (w : World) (base : Nat) (sp : Nat → Bool) (held : Bool) (fuel : Nat) (cs : List Value) (x : DataW H × List MemPlace),
    DataW.trod enc P w base sp held fuel t cs = some x → ∃ a : α, d.K w a cs ∧ g a

variable {P : Program}

end Go.Proofs.Ytmlcpnehihmhaaa.Opn
