/- The row and the tied card of FnSemverKindOfNext, out of its printed walk and its plain law. For every input that the statement lets in. -/
import Derived.Test.YtnncjgoogjookaaDoorZCardSemverKindOfNext1
import Derived.WalkKit
import Derived.Laws.AppendOwn
namespace Go.Proofs.YtnncjgoogjookaaDoor.Base

open Go.RowKit Go.Lib Go.Proofs

/-- Block g holds just the values xs, all of them to be written. -/
def Row (w : World) (g : Nat) (e : TypeId) (xs : List Value) : Prop := w.heap[g]? = some (.cells xs.toArray e (0, 0))

theorem Row.lt {w : World} {g : Nat} {e : TypeId} {xs : List Value} (h : Row w g e xs) : g < w.heap.size := (Array.getElem?_eq_some_iff.1 h).1

theorem Row.cell {w : World} {g : Nat} {e : TypeId} {xs : List Value} (h : Row w g e xs) (i : Nat) (x : Value) (hx : xs[i]? = some x) : w.cell? ⟨g, i, none⟩ = some x := by
  unfold Row at h
  simp [World.cell?, h, hx]

theorem Row.free {w : World} {g : Nat} {e : TypeId} {xs : List Value} (h : Row w g e xs) (i : Nat) : w.frozen? ⟨g, i, none⟩ = false := by
  unfold Row at h
  simp [World.frozen?, h]

theorem Row.below {w w' : World} {g : Nat} {e : TypeId} {xs : List Value} (h : Row w g e xs) (hb : Below w.heap.size w w') : Row w' g e xs := (hb.block g h.lt).trans h

theorem Row.new (w : World) (a : Array Value) (e : TypeId) : Row (w.alloc (.cells a e)) w.heap.size e a.toList := heap_alloc_new w _

theorem Row.far {w : World} {g : Nat} {e : TypeId} {xs : List Value} (h : Row w g e xs) (p : Addr) (hp : g ≠ p.block) (v : Value) : Row (w.setCell p v) g e xs := (Below.heap_setCell w p v g hp).trans h

theorem Row.set {w : World} {g : Nat} {e : TypeId} {xs : List Value} (h : Row w g e xs) (i : Nat) (hi : i < xs.length) (y : Value) : Row (w.setCell ⟨g, i, none⟩ y) g e (xs.set i y) := by
  unfold Row at h ⊢
  obtain ⟨hlt, he⟩ := Array.getElem?_eq_some_iff.1 h
  simp [World.setCell, hlt, Array.getElem_modify, he]

end Go.Proofs.YtnncjgoogjookaaDoor.Base
