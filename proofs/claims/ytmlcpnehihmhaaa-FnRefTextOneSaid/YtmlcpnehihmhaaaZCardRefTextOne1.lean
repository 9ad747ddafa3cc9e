/- The row of FnRefTextOne, out of its printed walk and its plain law. For every input that the statement lets in. -/
import Derived.WalkKit
import Derived.Handy
import Derived.Lib.Hide
import Derived.Deep.Draws
namespace Go.Proofs.Ytmlcpnehihmhaaa.Base

open Go.RowKit Go.Lib Go.Proofs

theorem setCell_drewN (w : World) (n : Nat) (a : Addr) (v : Value) : (w.drewN n).setCell a v = (w.setCell a v).drewN n := by
  unfold World.setCell World.drewN
  rfl

theorem alloc_drewN (w : World) (n : Nat) (o : Obj) : (w.drewN n).alloc o = (w.alloc o).drewN n := rfl

theorem dN {B : Nat} {w w' : World} (h : Below B w w') (n : Nat) : Below B w (w'.drewN n) := ⟨h.os, h.tape, h.output, h.size, h.block⟩

theorem bcell {W w1 : World} (hb : Below W.heap.size W w1) : (∀ b o, b < W.heap.size → w1.cell? ⟨b, o, none⟩ = W.cell? ⟨b, o, none⟩) ∧ (∀ b o, b < W.heap.size → w1.frozen? ⟨b, o, none⟩ = W.frozen? ⟨b, o, none⟩) :=
  ⟨fun b o h => hb.cell (p := ⟨b, o, none⟩) h, fun b o h => hb.frozen (p := ⟨b, o, none⟩) h⟩

end Go.Proofs.Ytmlcpnehihmhaaa.Base
namespace Go.Proofs.Ytmlcpnehihmhaaa.Base

open Go.RowKit Go.Lib Go.Proofs

/-- Block b holds the values xs and may be written. -/
structure Box (w : World) (b : Nat) (xs : List Value) : Prop where
  cell : ∀ (i : Nat) (x : Value), xs[i]? = some x → w.cell? ⟨b, i, none⟩ = some x
  free : ∀ i : Nat, w.frozen? ⟨b, i, none⟩ = false
  lt : b < w.heap.size

theorem Box.below {w w' : World} {b : Nat} {xs : List Value} (h : Box w b xs) (hb : Below w.heap.size w w') : Box w' b xs :=
  ⟨fun i x hx => (hb.cell (p := ⟨b, i, none⟩) h.lt).trans (h.cell i x hx), fun i => (hb.frozen (p := ⟨b, i, none⟩) h.lt).trans (h.free i), Nat.lt_of_lt_of_le h.lt hb.size⟩

theorem Box.new (w : World) (a : Array Value) (T : TypeId) : Box (w.alloc (.cells a T)) w.heap.size a.toList := by
  refine ⟨fun i x hx => ?_, fun i => ?_, by simp⟩
  · have : a[i]? = some x := by simpa using hx
    rw [World.cell?_alloc_at (w := w) a T _ _ rfl]; exact this
  · exact World.frozen?_alloc_at (w := w) a T _ _ rfl

theorem undrew {w w' : World} (h : Below w.drew.heap.size w.drew w') : Below w.heap.size w w' := (Below.refl _ _).drew.trans h

end Go.Proofs.Ytmlcpnehihmhaaa.Base
