/- The row and the tied card of FnSemverApart, out of its printed walk and its plain law. For every input that the statement lets in. -/
import Derived.Test.YtllkoadcpobdaaaDoorZCardSemverApart1
import Derived.Test.YtllkoadcpobdaaaDoorProg
import Derived.WalkKit
import Derived.LaidEqlPtr
import Derived.Laws.Rows
import Derived.Lib.QuietBelow
namespace Go.Proofs.YtllkoadcpobdaaaDoor.Base

open Go.RowKit Go.Lib Go.Sort Go.Proofs

/-- Block b holds the values xs. -/
def At (w : World) (b : Nat) (xs : List Value) : Prop := ∃ T, w.heap[b]? = some (.cells xs.toArray T (0, 0))

theorem At.lt {w : World} {b : Nat} {xs : List Value} (h : At w b xs) : b < w.heap.size := by
  obtain ⟨T, h⟩ := h
  exact (Array.getElem?_eq_some_iff.1 h).1

theorem At.cell {w : World} {b : Nat} {xs : List Value} (h : At w b xs) (i : Nat) (x : Value) (hx : xs[i]? = some x) : w.cell? ⟨b, i, none⟩ = some x := by
  obtain ⟨T, h⟩ := h
  simp [World.cell?, h, hx]

theorem At.below {w w' : World} {b : Nat} {xs : List Value} (h : At w b xs) (hb : Below w.heap.size w w') : At w' b xs := by
  have hl := h.lt
  obtain ⟨T, h⟩ := h
  exact ⟨T, (hb.block b hl).trans h⟩

theorem At.ne_run {w : World} {b c : Nat} {xs ys : List Value} (h : At w b xs) (k : At w c ys) (hne : b ≠ c) {tp te : TypeId} {j : TypeInfo} (hp : Tryd.prog.underlying tp = some (.pointer te)) (hte : Tryd.prog.info? te = some j) (hsz : j.size ≠ 0) :
    (binOp .eql tp (.pointer (some ⟨b, 0, none⟩)) (.pointer (some ⟨c, 0, none⟩))).run Tryd.prog w = .ok (.bool false) w := by
  obtain ⟨T, h⟩ := h
  obtain ⟨U, k⟩ := k
  exact run_eql_ptr_other w hp hte hsz (fun e => hne (by cases e; rfl)) h k

theorem At.new (w : World) (cs : Array Value) (T : TypeId) (b : Nat) (hb : b = w.heap.size) : At (w.alloc (.cells cs T)) b cs.toList := by
  subst hb
  exact ⟨T, heap_alloc_new w _⟩

theorem At.far {w : World} {b : Nat} {xs : List Value} (h : At w b xs) (p : Addr) (hp : b ≠ p.block) (v : Value) : At (w.setCell p v) b xs := by
  obtain ⟨T, h⟩ := h
  exact ⟨T, (Below.heap_setCell w p v b hp).trans h⟩

theorem At.alloc {w : World} {b : Nat} {xs : List Value} (h : At w b xs) (o : Obj) : At (w.alloc o) b xs := h.below ((Below.refl _ _).alloc (Nat.le_refl _) o)

theorem At.drew {w : World} {b : Nat} {xs : List Value} (h : At w b xs) : At w.drew b xs := h

theorem At.six {w : World} {b : Nat} {x0 x1 x2 x3 x4 x5 : Value} (h : At w b [x0, x1, x2, x3, x4, x5]) : w.cell? ⟨b, 0, none⟩ = some x0 ∧ w.cell? ⟨b, 1, none⟩ = some x1 ∧ w.cell? ⟨b, 2, none⟩ = some x2 ∧ w.cell? ⟨b, 3, none⟩ = some x3 ∧ w.cell? ⟨b, 4, none⟩ = some x4 ∧ w.cell? ⟨b, 5, none⟩ = some x5 :=
  ⟨h.cell 0 _ rfl, h.cell 1 _ rfl, h.cell 2 _ rfl, h.cell 3 _ rfl, h.cell 4 _ rfl, h.cell 5 _ rfl⟩

theorem At.five {w : World} {b : Nat} {x0 x1 x2 x3 x4 : Value} (h : At w b [x0, x1, x2, x3, x4]) : w.cell? ⟨b, 0, none⟩ = some x0 ∧ w.cell? ⟨b, 1, none⟩ = some x1 ∧ w.cell? ⟨b, 2, none⟩ = some x2 ∧ w.cell? ⟨b, 3, none⟩ = some x3 ∧ w.cell? ⟨b, 4, none⟩ = some x4 :=
  ⟨h.cell 0 _ rfl, h.cell 1 _ rfl, h.cell 2 _ rfl, h.cell 3 _ rfl, h.cell 4 _ rfl⟩

theorem At.three {w : World} {b : Nat} {x0 x1 x2 : Value} (h : At w b [x0, x1, x2]) : w.cell? ⟨b, 0, none⟩ = some x0 ∧ w.cell? ⟨b, 1, none⟩ = some x1 ∧ w.cell? ⟨b, 2, none⟩ = some x2 := ⟨h.cell 0 _ rfl, h.cell 1 _ rfl, h.cell 2 _ rfl⟩

theorem At.sixR {w : World} {b : Nat} {x0 x1 x2 x3 x4 x5 : Value} (h : At w b [x0, x1, x2, x3, x4, x5]) : (∀ (d : Nat) (os : Array Obj), (grow (redrawn w d) os).cell? ⟨b, 0, none⟩ = some x0) ∧ (∀ (d : Nat) (os : Array Obj), (grow (redrawn w d) os).cell? ⟨b, 1, none⟩ = some x1) ∧ (∀ (d : Nat) (os : Array Obj), (grow (redrawn w d) os).cell? ⟨b, 2, none⟩ = some x2) ∧
    (∀ (d : Nat) (os : Array Obj), (grow (redrawn w d) os).cell? ⟨b, 3, none⟩ = some x3) ∧ (∀ (d : Nat) (os : Array Obj), (grow (redrawn w d) os).cell? ⟨b, 4, none⟩ = some x4) ∧ (∀ (d : Nat) (os : Array Obj), (grow (redrawn w d) os).cell? ⟨b, 5, none⟩ = some x5) :=
  ⟨cell_regrown (h.cell 0 _ rfl), cell_regrown (h.cell 1 _ rfl), cell_regrown (h.cell 2 _ rfl), cell_regrown (h.cell 3 _ rfl), cell_regrown (h.cell 4 _ rfl), cell_regrown (h.cell 5 _ rfl)⟩

theorem bne_of {α : Type} [BEq α] {a b : α} {c : Bool} (h : (a == b) = c) : (a != b) = !c := by rw [bne, h]

/-- It returns one bool. -/
def Ret1 (w : World) (b : Bool) (e : Ending) (w' : World) : Prop := e = .returned (.bool b) ∧ Below w.heap.size w w'

/-- It returns a bool and some error or none. -/
def RetB (w : World) (b : Bool) (e : Ending) (w' : World) : Prop := ∃ er : Value, e = .returned (.tuple #[.bool b, er]) ∧ Below w.heap.size w w'

/-- errors.New: some error. -/
theorem errNew (s : ByteArray) (w : World) : Calls Tryd.prog 109 #[.string s] w fun e w' => ∃ t p, e = .returned (.iface t p) ∧ Below w.heap.size w w' := by
  go_enter Tryd.func109, Tryd.ntmps109
  go_wp2
  go_ret
  exact ⟨_, _, rfl, by go_grown⟩

end Go.Proofs.YtllkoadcpobdaaaDoor.Base
