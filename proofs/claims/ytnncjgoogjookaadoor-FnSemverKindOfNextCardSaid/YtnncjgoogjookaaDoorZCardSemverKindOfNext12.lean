/- The row and the tied card of FnSemverKindOfNext, out of its printed walk and its plain law. For every input that the statement lets in. -/
import Derived.Test.YtnncjgoogjookaaDoorZCardSemverKindOfNext1
import Derived.Test.YtnncjgoogjookaaDoorProg
import Derived.Lib.LaidTab
import Derived.Lib.ItoaNum
namespace Go.Proofs.YtnncjgoogjookaaDoor

open Go.RowKit Go.Lib Go.Proofs

/-- strconv's two errors lie as errors. -/
structure Std (w : World) : Prop where
  syn : ∃ t p, w.cell? ⟨9, 0, none⟩ = some (.iface t p)
  synlt : 9 < w.heap.size
  rng : ∃ t p, w.cell? ⟨10, 0, none⟩ = some (.iface t p)
  rnglt : 10 < w.heap.size

theorem Std.below {w w' : World} (h : Std w) (hb : Below w.heap.size w w') : Std w' := by
  obtain ⟨⟨t, p, h1⟩, h2, ⟨t', p', h3⟩, h4⟩ := h
  exact ⟨⟨t, p, (hb.cell (p := ⟨9, 0, none⟩) h2).trans h1⟩, Nat.lt_of_lt_of_le h2 hb.size, ⟨t', p', (hb.cell (p := ⟨10, 0, none⟩) h4).trans h3⟩, Nat.lt_of_lt_of_le h4 hb.size⟩

/-- strconv's table of the powers of ten. -/
def Pow (w : World) : Prop := Lib.TabIs Tryd.prog w "internal/strconv.uint64pow10" .u64 Lib.pow10Tab

theorem Pow.below {w w' : World} (h : Pow w) (hb : Below w.heap.size w w') : Pow w' := by
  have hg : Tryd.prog.globalNamed "internal/strconv.uint64pow10" = some 11 := by kernel_rfl
  unfold Pow Lib.TabIs World.var? at h ⊢
  rw [hg] at h ⊢
  simp only [Option.bind_some] at h ⊢
  cases hq : w.heap[11]? with
  | none => rw [hq] at h; cases h
  | some o =>
    have hlt : 11 < w.heap.size := (Array.getElem?_eq_some_iff.1 hq).1
    rw [hb.block _ hlt]
    exact h

end Go.Proofs.YtnncjgoogjookaaDoor
