/- The row of FnRefTextOne, out of its printed walk and its plain law. For every input that the statement lets in. -/
import Derived.Test.YtmlcpnehihmhaaaZCardRefTextOne5
import Derived.Test.YtmlcpnehihmhaaaZCardRefTextOne13
import Derived.Test.YtmlcpnehihmhaaaRows
import Derived.ProofKit
import Derived.OpenShut
import Derived.ShutString
import Derived.SizedLaws
import Derived.ChangeOld
import Derived.Below
import Derived.Carry
import Derived.Lib.SmallJoins
namespace Go.Proofs.Ytmlcpnehihmhaaa.Opn
end Go.Proofs.Ytmlcpnehihmhaaa.Opn
namespace Go.Proofs.Ytmlcpnehihmhaaa.cardFnRefTextOne

open Go.ChangeShapes Go.WideShapes Go.ChangeAt Go.RowKit Go.WideMaps Go.WideElems Go.Proofs.Ytmlcpnehihmhaaa.Opn

open Go.ChangeMaps (open_string shut_string)

open Go.Proofs.YtmlcpnehihmhaaaW.PrintWords Go.Proofs.YtmlcpnehihmhaaaW.PrintLast Go.Proofs.YtmlcpnehihmhaaaW.PrintMore

set_option linter.unusedVariables false

theorem own : ownKnob Try.prog.godebug = none := by kernel_rfl

theorem laidOut : laidOutB Try.prog = true := by kernel_rfl

theorem list4_23 {α : Type} (l : List α) (h : l.length = 4) : ∃ a0 a1 a2 a3, l = [a0, a1, a2, a3] := by
  match l, h with
  | [a0, a1, a2, a3], _ => exact ⟨a0, a1, a2, a3, rfl⟩

set_option maxRecDepth 100000 in
theorem opensT23 : Opens Try.prog Go.Proofs.Ytmlcpnehihmhaaa.PX.k23 (fun x => True ∧ True ∧ True ∧ True) 23 := by
  intro H enc w base sp held fuel cs x h
  obtain ⟨xs, n, _, _, hl, hlen, hg⟩ := DataW.trod_struct Try.underlying23 h
  have hl' : cs.length = 4 := hl.trans (by kernel_rfl)
  have c9 : Try.prog.cellsOf 9 = 1 := by kernel_rfl
  obtain ⟨v0, v1, v2, v3, rfl⟩ := list4_23 cs hl'
  obtain ⟨y0, y1, y2, y3, rfl⟩ := list4_23 xs hlen
  have h0 : DataW.trod enc Try.prog w base sp held n 9 (([v0, v1, v2, v3].drop 0).take (Try.prog.cellsOf 9)) = [y0, y1, y2, y3][0]? := hg 0 _ rfl
  rw [c9] at h0
  replace h0 : DataW.trod enc Try.prog w base sp held n 9 [v0] = some y0 := h0
  have h1 : DataW.trod enc Try.prog w base sp held n 9 (([v0, v1, v2, v3].drop 1).take (Try.prog.cellsOf 9)) = [y0, y1, y2, y3][1]? := hg 1 _ rfl
  rw [c9] at h1
  replace h1 : DataW.trod enc Try.prog w base sp held n 9 [v1] = some y1 := h1
  have h2 : DataW.trod enc Try.prog w base sp held n 9 (([v0, v1, v2, v3].drop 2).take (Try.prog.cellsOf 9)) = [y0, y1, y2, y3][2]? := hg 2 _ rfl
  rw [c9] at h2
  replace h2 : DataW.trod enc Try.prog w base sp held n 9 [v2] = some y2 := h2
  have h3 : DataW.trod enc Try.prog w base sp held n 9 (([v0, v1, v2, v3].drop 3).take (Try.prog.cellsOf 9)) = [y0, y1, y2, y3][3]? := hg 3 _ rfl
  rw [c9] at h3
  replace h3 : DataW.trod enc Try.prog w base sp held n 9 [v3] = some y3 := h3
  obtain ⟨a0, e0, _, _⟩ := DataW.trod_string Try.underlying9 h0
  cases e0
  obtain ⟨a1, e1, _, _⟩ := DataW.trod_string Try.underlying9 h1
  cases e1
  obtain ⟨a2, e2, _, _⟩ := DataW.trod_string Try.underlying9 h2
  cases e2
  obtain ⟨a3, e3, _, _⟩ := DataW.trod_string Try.underlying9 h3
  cases e3
  exact ⟨⟨a0, a1, a2, a3⟩, Go.Proofs.Ytmlcpnehihmhaaa.PX.k23_mk w _, trivial, trivial, trivial, trivial⟩

set_option maxRecDepth 100000 in
set_option maxHeartbeats 1000000 in
theorem lifted (os : Os) (started : os.Started) (H : Type) (enc : TypeId × Value → H) :
    ReturnsInHanded {} Try.checked os 3 .any (Rows.fnRefTextOneSpec.pre6 enc Try.prog Try.f3 Rows.fnRefTextOneRow.domain false) (Rows.fnRefTextOneSpec.post enc Try.prog Try.f3 false true false false) := by
  refine returnsInHanded_of_change_sized (C := Try.checked) own started (by kernel_rfl) Try.func3
    (ChangeSpec.witness6 (enc := enc) (C := Try.checked) false ⟨#[], #[.agg #[.string ByteArray.empty, .string ByteArray.empty, .string ByteArray.empty, .string ByteArray.empty], .agg #[.string ByteArray.empty, .string ByteArray.empty, .string ByteArray.empty, .string ByteArray.empty]], []⟩ 8 (by kernel_rfl) (by kernel_rfl) (by kernel_rfl) (by kernel_rfl)) ?_
  intro W base args ds gs before hval0 hW hcnd hsz0 _
  have hval : ∀ (j : Nat) t v, Try.f3.params[j]? = some t → args[j]? = some v → Value.okWide Try.prog W .any base t v := hval0
  have hW' := hW
  obtain ⟨p, q, hA0, hV, rfl, hfz, hnd⟩ := hW
  have hA : DataW.TrodAll enc Try.prog W 0 (fun _ => true) true Try.f3.params.toList args.toList ds p := hA0
  rw [Try.params3] at hA hval
  obtain ⟨v0, vs0, d0, ds0, p0, q0, hargs, rfl, rfl, h0, r0⟩ := trodAll_cons hA
  obtain ⟨v1, vs1, d1, ds1, p1, q1, rfl, rfl, rfl, h1, r1⟩ := trodAll_cons r0
  obtain ⟨rfl, rfl, rfl⟩ := trodAll_nil r1
  obtain rfl : args = #[v0, v1] := by cases args; simp_all
  obtain ⟨rfl, rfl⟩ := trodVars_none hV
  have lt0 : ∀ x ∈ p0, x.block < W.heap.size := by obtain ⟨m, hm⟩ := h0; exact DataW.trod_lt m _ _ _ hm
  obtain ⟨cs0, rfl, hs0⟩ := okWide_struct Try.underlying23 (hval 0 23 v0 rfl rfl)
  have k0 := h0
  obtain ⟨fu0, hf0⟩ := h0
  obtain ⟨x0, hk0, hg0⟩ := opensT23 _ _ _ _ _ _ _ _ hf0
  have e0 := Go.Proofs.Ytmlcpnehihmhaaa.PX.k23_open hk0
  obtain ⟨a0_0, a0_1, a0_2, a0_3⟩ := x0
  obtain ⟨w0_0, w0_1, w0_2, w0_3⟩ := hg0
  simp only at e0 
  obtain rfl : cs0 = #[.string a0_0, .string a0_1, .string a0_2, .string a0_3] := by cases cs0; simpa [Value.cells] using e0
  clear e0
  have lt1 : ∀ x ∈ p1, x.block < W.heap.size := by obtain ⟨m, hm⟩ := h1; exact DataW.trod_lt m _ _ _ hm
  obtain ⟨cs1, rfl, hs1⟩ := okWide_struct Try.underlying23 (hval 1 23 v1 rfl rfl)
  have k1 := h1
  obtain ⟨fu1, hf1⟩ := h1
  obtain ⟨x1, hk1, hg1⟩ := opensT23 _ _ _ _ _ _ _ _ hf1
  have e1 := Go.Proofs.Ytmlcpnehihmhaaa.PX.k23_open hk1
  obtain ⟨a1_0, a1_1, a1_2, a1_3⟩ := x1
  obtain ⟨w1_0, w1_1, w1_2, w1_3⟩ := hg1
  simp only at e1 
  obtain rfl : cs1 = #[.string a1_0, .string a1_1, .string a1_2, .string a1_3] := by cases cs1; simpa [Value.cells] using e1
  clear e1
  clear hA0 hval0 hsz0
  obtain ⟨kk, hpure⟩ := Go.Proofs.Ytmlcpnehihmhaaa.PX.pure_RefTextOne a0_0 a0_1 a0_2 a0_3 a1_0 a1_1 a1_2 a1_3 
  refine (Go.Proofs.Ytmlcpnehihmhaaa.PX.laws_FnRefTextOne.calls kk a0_0 a0_1 a0_2 a0_3 a1_0 a1_1 a1_2 a1_3 true W   hpure).mono fun e W' ⟨he, bel⟩ => ?_
  subst he
  exact ⟨_, rfl, _, _, _, [], _, [], hW', trodAll_mk1 (shut_bool Try.underlying4 _), (trodAll_cons_mk (Below.trod laidOut (by kernel_rfl) (of_decide_eq_true (by kernel_rfl)) k0 bel lt0) (trodAll_cons_mk (Below.trod laidOut (by kernel_rfl) (of_decide_eq_true (by kernel_rfl)) k1 bel lt1) trodAll_mk0)), rfl, bel.frame _, fun h => by cases h⟩

theorem over : Rows.fnRefTextOneRow.holds Try.pinned (OpenSpec.ofChange Rows.fnRefTextOneSpec) :=
  OpenClaim.holds_of_wide 3 Try.f3 rfl rfl rfl rfl rfl rfl rfl ⟨rfl, rfl, rfl, rfl, rfl⟩ rfl rfl rfl rfl rfl (by kernel_rfl) Try.func3 (by kernel_rfl)
    (of_decide_eq_true (by kernel_rfl)) (by unfold Func.isWrapper; first | (rw [if_pos (by decide +kernel)]; kernel_rfl) | (rw [if_neg (by decide +kernel)]; exact ⟨rfl, rfl⟩))
    (fun os started H enc _ => lifted os started H enc)

end Go.Proofs.Ytmlcpnehihmhaaa.cardFnRefTextOne

namespace Go.Proofs.Ytmlcpnehihmhaaa

theorem fnRefTextOne_holds : Rows.FnRefTextOneSaid := cardFnRefTextOne.over

#print axioms fnRefTextOne_holds

end Go.Proofs.Ytmlcpnehihmhaaa
