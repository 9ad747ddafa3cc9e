/- The row and the tied card of FnMatchClasses, out of its printed walk and its plain law. For every input that the statement lets in. -/
import Derived.WalkKit
import Derived.Handy
import Derived.Lib.Hide
import Derived.Deep.Draws
namespace Go.Proofs.YtmlcpnehihmhaaaDoor.Base

open Go.RowKit Go.Lib Go.Proofs

theorem setCell_drewN (w : World) (n : Nat) (a : Addr) (v : Value) : (w.drewN n).setCell a v = (w.setCell a v).drewN n := by
  unfold World.setCell World.drewN
  rfl

theorem alloc_drewN (w : World) (n : Nat) (o : Obj) : (w.drewN n).alloc o = (w.alloc o).drewN n := rfl

theorem dN {B : Nat} {w w' : World} (h : Below B w w') (n : Nat) : Below B w (w'.drewN n) := ⟨h.os, h.tape, h.output, h.size, h.block⟩

theorem bcell {W w1 : World} (hb : Below W.heap.size W w1) : (∀ b o, b < W.heap.size → w1.cell? ⟨b, o, none⟩ = W.cell? ⟨b, o, none⟩) ∧ (∀ b o, b < W.heap.size → w1.frozen? ⟨b, o, none⟩ = W.frozen? ⟨b, o, none⟩) :=
  ⟨fun b o h => hb.cell (p := ⟨b, o, none⟩) h, fun b o h => hb.frozen (p := ⟨b, o, none⟩) h⟩

end Go.Proofs.YtmlcpnehihmhaaaDoor.Base
namespace Go.Proofs.YtmlcpnehihmhaaaDoor.Base

open Go.RowKit Go.Lib Go.Proofs

/-- Block b holds the values xs and may be written. -/
structure Box (w : World) (b : Nat) (xs : List Value) : Prop where
  cell : ∀ (i : Nat) (x : Value), xs[i]? = some x → w.cell? ⟨b, i, none⟩ = some x
  free : ∀ i : Nat, w.frozen? ⟨b, i, none⟩ = false
  lt : b < w.heap.size

end Go.Proofs.YtmlcpnehihmhaaaDoor.Base
