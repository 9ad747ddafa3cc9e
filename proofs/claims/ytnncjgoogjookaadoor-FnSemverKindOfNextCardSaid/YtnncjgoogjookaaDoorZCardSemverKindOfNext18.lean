/- The row and the tied card of FnSemverKindOfNext, out of its printed walk and its plain law. For every input that the statement lets in. -/
import Derived.Test.YtnncjgoogjookaaDoorZCardSemverKindOfNext12
import Derived.Test.YtnncjgoogjookaaDoorZCardSemverKindOfNext17
namespace Go.Proofs.YtnncjgoogjookaaDoor.L
end Go.Proofs.YtnncjgoogjookaaDoor.L
namespace Go.Proofs.YtnncjgoogjookaaDoor.MetaX
end Go.Proofs.YtnncjgoogjookaaDoor.MetaX
namespace Go.Proofs.YtnncjgoogjookaaDoor

open Go Go.RowKit Go.Lib Go.Proofs

/-- The errors of the checks of a prerelease and of metadata. -/
structure Sem (w : World) : Prop where
  pre : ∃ t p, w.cell? ⟨5, 0, none⟩ = some (.iface t p)
  prelt : 5 < w.heap.size
  zer : ∃ t p, w.cell? ⟨4, 0, none⟩ = some (.iface t p)
  zerlt : 4 < w.heap.size
  met : ∃ t p, w.cell? ⟨6, 0, none⟩ = some (.iface t p)
  metlt : 6 < w.heap.size

theorem some_below {w w' : World} {g : Nat} (h : ∃ t p, w.cell? ⟨g, 0, none⟩ = some (.iface t p)) (hg : g < w.heap.size) (hb : Below w.heap.size w w') : ∃ t p, w'.cell? ⟨g, 0, none⟩ = some (.iface t p) := by
  obtain ⟨t, p, h⟩ := h
  exact ⟨t, p, (hb.cell (p := ⟨g, 0, none⟩) hg).trans h⟩

theorem Sem.below {w w' : World} (h : Sem w) (hb : Below w.heap.size w w') : Sem w' :=
  ⟨some_below h.pre h.prelt hb, Nat.lt_of_lt_of_le h.prelt hb.size, some_below h.zer h.zerlt hb, Nat.lt_of_lt_of_le h.zerlt hb.size, some_below h.met h.metlt hb, Nat.lt_of_lt_of_le h.metlt hb.size⟩

/-- The further errors of a strict reading. -/
structure Str (w : World) : Prop where
  emp : ∃ t p, w.cell? ⟨0, 0, none⟩ = some (.iface t p)
  emplt : 0 < w.heap.size
  lng : ∃ t p, w.cell? ⟨1, 0, none⟩ = some (.iface t p)
  lnglt : 1 < w.heap.size
  sem : ∃ t p, w.cell? ⟨2, 0, none⟩ = some (.iface t p)
  semlt : 2 < w.heap.size
  chr : ∃ t p, w.cell? ⟨3, 0, none⟩ = some (.iface t p)
  chrlt : 3 < w.heap.size

theorem Str.below {w w' : World} (h : Str w) (hb : Below w.heap.size w w') : Str w' :=
  ⟨some_below h.emp h.emplt hb, Nat.lt_of_lt_of_le h.emplt hb.size, some_below h.lng h.lnglt hb, Nat.lt_of_lt_of_le h.lnglt hb.size, some_below h.sem h.semlt hb, Nat.lt_of_lt_of_le h.semlt hb.size, some_below h.chr h.chrlt hb, Nat.lt_of_lt_of_le h.chrlt hb.size⟩

namespace SemC

open Go.Proofs.YtnncjgoogjookaaDoor.L Go.Proofs.YtnncjgoogjookaaDoor.MetaX

theorem pre_ok (s : ByteArray) (hs : s.size ≤ 2147483647) (h : preOk (bl s) = true) (w : World) (hS : Sem w) :
    Calls Tryd.prog 19 #[.string s] w fun e w' => e = .returned .nilIface ∧ Below w.heap.size w w' := by
  obtain ⟨⟨t1, p1, h1⟩, g1, ⟨t2, p2, h2⟩, g2, _, _⟩ := hS
  refine (validatePrerelease_l s hs t1 t2 p1 p2 w h1 g1 h2 g2).mono ?_
  rintro e w' ⟨rfl, hb⟩
  refine ⟨?_, hb⟩
  have hz := preErr_zero (splitL 46 (bl s))
  change _ = preOk (bl s) at hz
  rw [h, beq_iff_eq] at hz
  rw [hz]; rfl

theorem met_ok (s : ByteArray) (hs : s.size ≤ 2147483647) (h : metaOk (bl s) = true) (w : World) (hS : Sem w) :
    Calls Tryd.prog 18 #[.string s] w fun e w' => e = .returned .nilIface ∧ Below w.heap.size w w' := by
  obtain ⟨_, _, _, _, ⟨t1, p1, h1⟩, g1⟩ := hS
  refine (validateMetadata_l s hs t1 p1 w h1 g1).mono ?_
  rintro e w' ⟨rfl, hb⟩
  rw [h]
  exact ⟨rfl, hb⟩

end SemC

end Go.Proofs.YtnncjgoogjookaaDoor
