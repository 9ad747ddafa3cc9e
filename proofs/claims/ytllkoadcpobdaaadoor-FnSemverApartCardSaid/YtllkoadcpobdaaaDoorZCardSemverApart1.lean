/- The row and the tied card of FnSemverApart, out of its printed walk and its plain law. For every input that the statement lets in. -/
import Derived.WalkKit
import Derived.Handy
import Derived.Lib.Hide
import Derived.Deep.Draws
namespace Go.Proofs.YtllkoadcpobdaaaDoor.Base

open Go.RowKit Go.Lib Go.Proofs

theorem setCell_drewN (w : World) (n : Nat) (a : Addr) (v : Value) : (w.drewN n).setCell a v = (w.setCell a v).drewN n := by
  unfold World.setCell World.drewN
  rfl

theorem alloc_drewN (w : World) (n : Nat) (o : Obj) : (w.drewN n).alloc o = (w.alloc o).drewN n := rfl

end Go.Proofs.YtllkoadcpobdaaaDoor.Base
namespace Go.Proofs.YtllkoadcpobdaaaDoor.Base

open Go.RowKit Go.Lib Go.Proofs

/-- Block b holds the values xs and may be written. -/
structure Box (w : World) (b : Nat) (xs : List Value) : Prop where
  cell : ∀ (i : Nat) (x : Value), xs[i]? = some x → w.cell? ⟨b, i, none⟩ = some x
  free : ∀ i : Nat, w.frozen? ⟨b, i, none⟩ = false
  lt : b < w.heap.size

theorem Box.below {w w' : World} {b : Nat} {xs : List Value} (h : Box w b xs) (hb : Below w.heap.size w w') : Box w' b xs :=
  ⟨fun i x hx => (hb.cell (p := ⟨b, i, none⟩) h.lt).trans (h.cell i x hx), fun i => (hb.frozen (p := ⟨b, i, none⟩) h.lt).trans (h.free i), Nat.lt_of_lt_of_le h.lt hb.size⟩

theorem Box.new (w : World) (a : Array Value) (T : TypeId) : Box (w.alloc (.cells a T)) w.heap.size a.toList := by
  refine ⟨fun i x hx => ?_, fun i => ?_, by simp⟩
  · have : a[i]? = some x := by simpa using hx
    rw [World.cell?_alloc_at (w := w) a T _ _ rfl]; exact this
  · exact World.frozen?_alloc_at (w := w) a T _ _ rfl

theorem Box.new' (w : World) (a : Array Value) (T : TypeId) (b : Nat) (hb : b = w.heap.size) : Box (w.alloc (.cells a T)) b a.toList := by subst hb; exact Box.new w a T

theorem undrew {w w' : World} (h : Below w.drew.heap.size w.drew w') : Below w.heap.size w w' := (Below.refl _ _).drew.trans h

theorem frz (w : World) (a : Addr) (y : Value) (c : Addr) : (w.setCell a y).frozen? c = w.frozen? c := by simp [go_sem]

theorem hsz (w : World) (a : Addr) (y : Value) : (w.setCell a y).heap.size = w.heap.size := by simp [go_sem]

theorem Box.set {w : World} {b : Nat} {xs : List Value} (h : Box w b xs) (i : Nat) (hi : i < xs.length) (y : Value) : Box (w.setCell ⟨b, i, none⟩ y) b (xs.set i y) := by
  have hc := h.cell i xs[i] (List.getElem?_eq_getElem hi)
  refine ⟨fun j x hx => ?_, fun j => ?_, ?_⟩
  · by_cases e : j = i
    · subst e
      rw [List.getElem?_set_self hi] at hx
      cases hx
      exact World.cell?_setCell_same w _ _ hc
    · rw [List.getElem?_set_ne (Ne.symm e)] at hx
      rw [World.cell?_setCell_other w _ _ _ (by intro q; cases q; exact e rfl)]
      exact h.cell j x hx
  · rw [frz]; exact h.free j
  · rw [hsz]; exact h.lt

theorem Box.far {w : World} {b : Nat} {xs : List Value} (h : Box w b xs) (a : Addr) (ha : a.block ≠ b) (y : Value) : Box (w.setCell a y) b xs := by
  refine ⟨fun j x hx => ?_, fun j => ?_, ?_⟩
  · rw [World.cell?_setCell_other w _ _ _ (by intro q; apply ha; rw [q])]
    exact h.cell j x hx
  · rw [frz]; exact h.free j
  · rw [hsz]; exact h.lt

end Go.Proofs.YtllkoadcpobdaaaDoor.Base
