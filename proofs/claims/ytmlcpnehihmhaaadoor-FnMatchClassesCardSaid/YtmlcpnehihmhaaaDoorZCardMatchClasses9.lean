/- The row and the tied card of FnMatchClasses, out of its printed walk and its plain law. For every input that the statement lets in. -/
import Derived.Test.YtmlcpnehihmhaaaDoorZCardMatchClasses1
import Derived.Test.YtmlcpnehihmhaaaDoorProg
import Derived.WalkKit
import Derived.LaidEqlPtr
import Derived.Laws.Rows
import Derived.Lib.QuietBelow
namespace Go.Proofs.YtmlcpnehihmhaaaDoor.Base

open Go.RowKit Go.Lib Go.Sort Go.Proofs

/-- Block b holds the values xs. -/
def At (w : World) (b : Nat) (xs : List Value) : Prop := ∃ T, w.heap[b]? = some (.cells xs.toArray T (0, 0))

theorem At.lt {w : World} {b : Nat} {xs : List Value} (h : At w b xs) : b < w.heap.size := by
  obtain ⟨T, h⟩ := h
  exact (Array.getElem?_eq_some_iff.1 h).1

theorem At.cell {w : World} {b : Nat} {xs : List Value} (h : At w b xs) (i : Nat) (x : Value) (hx : xs[i]? = some x) : w.cell? ⟨b, i, none⟩ = some x := by
  obtain ⟨T, h⟩ := h
  simp [World.cell?, h, hx]

theorem At.below {w w' : World} {b : Nat} {xs : List Value} (h : At w b xs) (hb : Below w.heap.size w w') : At w' b xs := by
  have hl := h.lt
  obtain ⟨T, h⟩ := h
  exact ⟨T, (hb.block b hl).trans h⟩

theorem At.alloc {w : World} {b : Nat} {xs : List Value} (h : At w b xs) (o : Obj) : At (w.alloc o) b xs := h.below ((Below.refl _ _).alloc (Nat.le_refl _) o)

end Go.Proofs.YtmlcpnehihmhaaaDoor.Base
