/- The row and the tied card of FnMatchClasses, out of its printed walk and its plain law. For every input that the statement lets in. -/
import Derived.Test.YtmlcpnehihmhaaaDoorZCardMatchClasses1
import Derived.Test.YtmlcpnehihmhaaaDoorZCardMatchClasses4
import Derived.Test.YtmlcpnehihmhaaaDoorZCardMatchClasses9
import Derived.Deep.RegionWith
import Derived.RegionTactic
import Derived.Deep.RegionHeld3
import Derived.Deep.QuietTactic
import Derived.BigQuiet
namespace Go.Proofs.YtmlcpnehihmhaaaDoor.Base
end Go.Proofs.YtmlcpnehihmhaaaDoor.Base
namespace Go.Proofs.YtmlcpnehihmhaaaDoor.Gr

open Go Go.RowKit Go.Lib Go.Sort Go.Proofs Go.Proofs.YtmlcpnehihmhaaaDoor Go.Proofs.YtmlcpnehihmhaaaDoor.Base

open Go.Proofs.YtmlcpnehihmhaaaDoorW.PrintWords Go.Proofs.YtmlcpnehihmhaaaDoorW.PrintLast Go.Proofs.YtmlcpnehihmhaaaDoorW.PrintMore

attribute [local go_sem] setCell_drewN alloc_drewN

set_option linter.unusedVariables false

def nameT (d p : ByteArray) : ByteArray := if d.toList = [] then p else (d ++ ⟨#[47]⟩) ++ p

abbrev repo (d p : ByteArray) : Value := .agg #[.string d, .string p]

set_option maxHeartbeats 2000000 in
theorem nameW (d p : ByteArray) (hd : d.size ≤ 1099511627776) (hp : p.size ≤ 1099511627776) (w : World) :
    Calls Tryd.prog 39 #[repo d p] w fun e w' => e = .returned (.string (nameT d p)) ∧ Below w.heap.size w w' := by
  unfold nameT
  by_cases h : d.toList = []
  · rw [if_pos h]
    go_enter Tryd.func39, Tryd.ntmps39
    go_wp2
    go_ret
    exact ⟨rfl, by go_grown⟩
  · rw [if_neg h]
    have h1 : (d.toList = []) = False := eq_false h
    have h1' : d.toList.isEmpty = false := by cases q : d.toList with | nil => exact absurd q h | cons a b => rfl
    have h2 : (9223372036854775807 < d.size + 1) = False := eq_false (by omega)
    have h3 : (9223372036854775807 < d.size + 1 + p.size) = False := eq_false (by omega)
    clear h
    go_enter Tryd.func39, Tryd.ntmps39
    go_wp2
    go_ret
    exact ⟨rfl, by go_grown⟩

set_option maxHeartbeats 2000000 in
theorem repoTextW (d p : ByteArray) (hd : d.size ≤ 1099511627776) (hp : p.size ≤ 1099511627776) (w : World) :
    Calls Tryd.prog 40 #[repo d p] w fun e w' => e = .returned (.string (nameT d p)) ∧ Below w.heap.size w w' := by
  have C := Lib.hid (fun W => nameW d p hd hp W)
  clear hd hp
  go_enter Tryd.func40, Tryd.ntmps40
  go_wp2_with (go_at_call 39; (with_reducible refine (C.out _).mono ?_); rintro e w1 ⟨rfl, hb⟩)
  go_ret
  exact ⟨rfl, ((Below.refl _ w).alloc (Nat.le_refl _) _).trans (hb.mono (by simp))⟩

/-- The reference of four parts with a path. -/
def bestV (d p t g : ByteArray) : Value := if t.toList = [] then (if g.toList = [] then .iface 49 (repo d p) else .iface 66 (.agg #[.iface 49 (repo d p), .string g]))
  else (if g.toList = [] then .iface 68 (.agg #[.iface 49 (repo d p), .string t]) else .iface 54 (.agg #[.iface 49 (repo d p), .string t, .string g]))

theorem isE {l : List UInt8} (h : ¬ l = []) : (l = []) = False ∧ l.isEmpty = false ∧ (!l.isEmpty) = true := by
  cases l with
  | nil => exact absurd rfl h
  | cons a b => exact ⟨eq_false h, rfl, rfl⟩

theorem nameT_ne (d p : ByteArray) (h : ¬ p.toList = []) : ¬ (nameT d p).toList = [] := by
  unfold nameT
  split
  · exact h
  · intro q
    apply h
    rw [ByteArray.toList_eq] at q ⊢
    have : p.size = 0 := by
      have q2 := congrArg List.length q
      have : (d ++ ⟨#[47]⟩ ++ p).size = 0 := q2
      rw [ByteArray.size_append] at this
      omega
    exact List.length_eq_zero_iff.1 this

set_option maxHeartbeats 4000000 in
theorem bestW (d p t g : ByteArray) (hd : d.size ≤ 1099511627776) (hp : p.size ≤ 1099511627776) (hne : ¬ p.toList = []) (w : World) :
    Calls Tryd.prog 15 #[.agg #[.iface 49 (repo d p), .string t, .string g]] w fun e w' => e = .returned (bestV d p t g) ∧ Below w.heap.size w w' := by
  have C := Lib.hid (fun W => nameW d p hd hp W)
  obtain ⟨n1, n2, n3⟩ := isE (nameT_ne d p hne)
  generalize nameT d p = n at *
  obtain ⟨V, hV⟩ : ∃ V, bestV d p t g = V := ⟨_, rfl⟩
  rw [hV]
  unfold bestV at hV
  clear hd hp hne
  by_cases ht : t.toList = []
  · rw [if_pos ht] at hV
    by_cases hg : g.toList = []
    · rw [if_pos hg] at hV
      have H := Lib.hid hV
      clear hV
      go_enter Tryd.func15, Tryd.ntmps15
      go_wp2_with (go_at_call 39; (with_reducible refine (C.out _).mono ?_); rintro e w1 ⟨rfl, hb⟩; obtain ⟨hc, hf⟩ := bcell hb; have hz := hb.size; simp at hz)
      go_ret
      exact ⟨by rw [← H.out]; rfl, ((Below.refl _ w).alloc (Nat.le_refl _) _).trans (hb.mono (by simp))⟩
    · rw [if_neg hg] at hV
      have H := Lib.hid hV
      obtain ⟨g1, g2, g3⟩ := isE hg
      clear hV hg
      go_enter Tryd.func15, Tryd.ntmps15
      go_wp2_with (go_at_call 39; (with_reducible refine (C.out _).mono ?_); rintro e w1 ⟨rfl, hb⟩; obtain ⟨hc, hf⟩ := bcell hb; have hz := hb.size; simp at hz)
      go_ret
      exact ⟨by rw [← H.out]; rfl, ((Below.refl _ w).alloc (Nat.le_refl _) _).trans (hb.mono (by simp))⟩
  · rw [if_neg ht] at hV
    obtain ⟨t1, t2, t3⟩ := isE ht
    clear ht
    by_cases hg : g.toList = []
    · rw [if_pos hg] at hV
      have H := Lib.hid hV
      clear hV
      go_enter Tryd.func15, Tryd.ntmps15
      go_wp2_with (go_at_call 39; (with_reducible refine (C.out _).mono ?_); rintro e w1 ⟨rfl, hb⟩; obtain ⟨hc, hf⟩ := bcell hb; have hz := hb.size; simp at hz)
      go_ret
      exact ⟨by rw [← H.out]; rfl, ((Below.refl _ w).alloc (Nat.le_refl _) _).trans (hb.mono (by simp))⟩
    · rw [if_neg hg] at hV
      have H := Lib.hid hV
      obtain ⟨g1, g2, g3⟩ := isE hg
      clear hV hg
      go_enter Tryd.func15, Tryd.ntmps15
      go_wp2_with (go_at_call 39; (with_reducible refine (C.out _).mono ?_); rintro e w1 ⟨rfl, hb⟩; obtain ⟨hc, hf⟩ := bcell hb; have hz := hb.size; simp at hz)
      go_ret
      exact ⟨by rw [← H.out]; rfl, ((Below.refl _ w).alloc (Nat.le_refl _) _).trans (hb.mono (by simp))⟩

set_option maxHeartbeats 2000000 in
theorem zzRefW (d p t g : ByteArray) (hd : d.size ≤ 1099511627776) (hp : p.size ≤ 1099511627776) (hne : ¬ p.toList = []) (w : World) :
    Calls Tryd.prog 11 #[.string d, .string p, .string t, .string g] w fun e w' => e = .returned (bestV d p t g) ∧ Below w.heap.size w w' := by
  have C := Lib.hid (fun W => bestW d p t g hd hp hne W)
  generalize bestV d p t g = V at *
  clear hd hp hne
  go_enter Tryd.func11, Tryd.ntmps11
  go_wp2_with (go_at_call 15; (with_reducible refine (C.out _).mono ?_); rintro e w1 ⟨rfl, hb⟩)
  go_ret
  exact ⟨rfl, hb⟩

set_option maxHeartbeats 2000000 in
theorem refW (d p t g : ByteArray) (hd : d.size ≤ 1099511627776) (hp : p.size ≤ 1099511627776) (hne : ¬ p.toList = []) (w : World) :
    Calls Tryd.prog 9 #[.agg #[.string d, .string p, .string t, .string g]] w fun e w' => e = .returned (bestV d p t g) ∧ Below w.heap.size w w' := by
  have C := Lib.hid (fun W => zzRefW d p t g hd hp hne W)
  generalize bestV d p t g = V at *
  clear hd hp hne
  go_enter Tryd.func9, Tryd.ntmps9
  go_wp2_with (go_at_call 11; (with_reducible refine (C.out _).mono ?_); rintro e w1 ⟨rfl, hb⟩)
  go_ret
  exact ⟨rfl, ((Below.refl _ w).alloc (Nat.le_refl _) _).trans (hb.mono (by simp))⟩

end Go.Proofs.YtmlcpnehihmhaaaDoor.Gr
