/- The row of FnRefTextOne, out of its printed walk and its plain law. For every input that the statement lets in. -/
import Derived.Test.YtmlcpnehihmhaaaZCardRefTextOne1
import Derived.Test.YtmlcpnehihmhaaaProg
import Derived.WalkKit
import Derived.LaidEqlPtr
import Derived.Laws.Rows
import Derived.Lib.QuietBelow
namespace Go.Proofs.Ytmlcpnehihmhaaa.Base

open Go.RowKit Go.Lib Go.Sort Go.Proofs

/-- Block b holds the values xs. -/
def At (w : World) (b : Nat) (xs : List Value) : Prop := ∃ T, w.heap[b]? = some (.cells xs.toArray T (0, 0))

theorem At.lt {w : World} {b : Nat} {xs : List Value} (h : At w b xs) : b < w.heap.size := by
  obtain ⟨T, h⟩ := h
  exact (Array.getElem?_eq_some_iff.1 h).1

theorem At.cell {w : World} {b : Nat} {xs : List Value} (h : At w b xs) (i : Nat) (x : Value) (hx : xs[i]? = some x) : w.cell? ⟨b, i, none⟩ = some x := by
  obtain ⟨T, h⟩ := h
  simp [World.cell?, h, hx]

theorem At.below {w w' : World} {b : Nat} {xs : List Value} (h : At w b xs) (hb : Below w.heap.size w w') : At w' b xs := by
  have hl := h.lt
  obtain ⟨T, h⟩ := h
  exact ⟨T, (hb.block b hl).trans h⟩

theorem At.new (w : World) (cs : Array Value) (T : TypeId) (b : Nat) (hb : b = w.heap.size) : At (w.alloc (.cells cs T)) b cs.toList := by
  subst hb
  exact ⟨T, heap_alloc_new w _⟩

theorem At.alloc {w : World} {b : Nat} {xs : List Value} (h : At w b xs) (o : Obj) : At (w.alloc o) b xs := h.below ((Below.refl _ _).alloc (Nat.le_refl _) o)

theorem At.drew {w : World} {b : Nat} {xs : List Value} (h : At w b xs) : At w.drew b xs := h

theorem At.two {w : World} {b : Nat} {x0 x1 : Value} (h : At w b [x0, x1]) : w.cell? ⟨b, 0, none⟩ = some x0 ∧ w.cell? ⟨b, 1, none⟩ = some x1 := ⟨h.cell 0 _ rfl, h.cell 1 _ rfl⟩

theorem At.three {w : World} {b : Nat} {x0 x1 x2 : Value} (h : At w b [x0, x1, x2]) : w.cell? ⟨b, 0, none⟩ = some x0 ∧ w.cell? ⟨b, 1, none⟩ = some x1 ∧ w.cell? ⟨b, 2, none⟩ = some x2 := ⟨h.cell 0 _ rfl, h.cell 1 _ rfl, h.cell 2 _ rfl⟩

end Go.Proofs.Ytmlcpnehihmhaaa.Base
