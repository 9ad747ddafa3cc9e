/- The row and the tied card of FnMatchClasses, out of its printed walk and its plain law. For every input that the statement lets in. -/
import Derived.Test.YtmlcpnehihmhaaaDoorZCardMatchClasses4
import Derived.ChangeArms
import Derived.Deep.Slices
import Derived.WideShapes
import Derived.Carry
namespace Go.Proofs.YtmlcpnehihmhaaaDoor.Opn

open Go Go.Proofs Go.RowKit Go.ChangeShapes Go.WideShapes Go.Deep

open Go.Proofs.YtmlcpnehihmhaaaDoorW.PrintWords Go.Proofs.YtmlcpnehihmhaaaDoorW.PrintLast Go.Proofs.YtmlcpnehihmhaaaDoorW.PrintMore

/-- What reads as a datum of type t is told by the kind d, and g holds of it. -/
def Opens {α : Type} (P : Program) (d : Kd α) (g : α → Prop) (t : TypeId) : Prop :=
  ∀ {H : Type} (enc : TypeId × Value → H) (w : World) (base : Nat) (sp : Nat → Bool) (held : Bool) (fuel : Nat) (cs : List Value) (x : DataW H × List MemPlace),
    DataW.trod enc P w base sp held fuel t cs = some x → ∃ a : α, d.K w a cs ∧ g a

variable {P : Program}

theorem opens_int {t : TypeId} {k : IntKind} (ht : P.underlying t = some (.int k)) : Opens P (Kd.int k) (fun n => (Lit.int k n).wf = true) t := by
  intro H enc w base sp held fuel cs x h
  obtain ⟨n, rfl, _, hw⟩ := DataW.trod_int ht h
  exact ⟨n, rfl, hw⟩

theorem opens_slice {α : Type} {d : Kd α} {g : α → Prop} {t e : TypeId} (ht : P.underlying t = some (.slice e)) (hc : P.cellsOf e = d.sz) (ho : Opens P d g e) :
    Opens P (Kd.slice e d) (fun xs => (∀ x ∈ xs, g x) ∧ xs.length ≤ maxLen) t := by
  intro H enc w base sp held fuel cs x h
  rcases open_slice ht h with ⟨rfl, _⟩ | ⟨a, len, cap, m, n, D, Pl, rfl, hb, hl, hm, hmm, hx, hi⟩
  · exact ⟨[], ⟨none, 0, rfl, Nat.le_refl _, rfl, by simp, fun h => by simp at h⟩, by simp, Nat.zero_le _⟩
  · have hlm : len ≤ m := by rw [hmm]; split <;> omega
    have h1 : ∀ k, k ≤ len → ∃ xs : List α, xs.length = k ∧ (∀ j p, xs[j]? = some p → ∃ c, c.length = d.sz ∧ d.K w p c ∧ ∀ i u, c[i]? = some u → w.cell? (a.add (j * d.sz + i)) = some u) ∧ ∀ x ∈ xs, g x := by
      intro k
      induction k with
      | zero => intro _; exact ⟨[], rfl, by simp, by simp⟩
      | succ k ih =>
        intro hk
        obtain ⟨xs, hxl, hxc, hxg⟩ := ih (by omega)
        obtain ⟨c, hcs, ht'⟩ := hi k (by omega)
        obtain ⟨y, hkd, hg⟩ := ho enc w base sp held n c _ ht'
        refine ⟨xs ++ [y], by simp [hxl], ?_, ?_⟩
        · intro j p hj
          by_cases hlt : j < xs.length
          · rw [List.getElem?_append_left hlt] at hj
            exact hxc j p hj
          · have hjk : j = k := by
              have := (List.getElem?_eq_some_iff.1 hj).1
              simp at this
              omega
            subst hjk
            rw [List.getElem?_append_right (by omega), hxl, Nat.sub_self] at hj
            cases hj
            refine ⟨c, d.K_len hkd, hkd, fun i u hu => ?_⟩
            obtain ⟨_, hcl, hat⟩ := World.cells?_some hcs
            have hj : i < P.cellsOf e := by
              have := (List.getElem?_eq_some_iff.1 hu).1
              omega
            rw [← hc, ← Go.Deep.add_add, hat i hj, hu]
        · intro x hx
          rcases List.mem_append.1 hx with hx | hx
          · exact hxg x hx
          · rw [List.mem_singleton.1 hx]; exact hg
    obtain ⟨xs, hxl, hxc, hxg⟩ := h1 len (Nat.le_refl _)
    subst hxl
    have hmx : maxLen ≤ 9223372036854775807 := by unfold maxLen; omega
    exact ⟨xs, ⟨some a, cap, rfl, hl, rfl, by omega, fun _ => ⟨a, rfl, hxc⟩⟩, hxg, by omega⟩

end Go.Proofs.YtmlcpnehihmhaaaDoor.Opn
