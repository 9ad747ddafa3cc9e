/- The row and the tied card of FnMatchClasses, out of its printed walk and its plain law. For every input that the statement lets in. -/
import Derived.Test.YtmlcpnehihmhaaaDoorZCardMatchClasses5
import Derived.Test.YtmlcpnehihmhaaaDoorZCardMatchClasses13
import Derived.Test.YtmlcpnehihmhaaaDoorRows
import Derived.Test.YtmlcpnehihmhaaaDoorTie
import Derived.Test.YtmlcpnehihmhaaaDoorCards
import Derived.ProofKit
import Derived.OpenShut
import Derived.ShutString
import Derived.SizedLaws
import Derived.ChangeOld
import Derived.Below
import Derived.Carry
import Derived.LaidMore
import Derived.LaidLaws
import Derived.Stop.Joined
import Derived.Stop.LaidErr
import Derived.SevenTiedAt
import Derived.LaidHandle
import Derived.MakeChecks
import Derived.Lib.LaidTab
import Derived.Lib.SmallJoins
import Derived.Lay
namespace Go.Proofs.YtmlcpnehihmhaaaDoor.Opn
end Go.Proofs.YtmlcpnehihmhaaaDoor.Opn
namespace Go.Proofs.YtmlcpnehihmhaaaDoor.cardFnMatchClasses

open Go.ChangeShapes Go.WideShapes Go.ChangeAt Go.RowKit Go.WideMaps Go.WideElems Go.Proofs.YtmlcpnehihmhaaaDoor.Opn

open Go.ChangeMaps (open_string shut_string)

open Go.Proofs.YtmlcpnehihmhaaaDoorW.PrintWords Go.Proofs.YtmlcpnehihmhaaaDoorW.PrintLast Go.Proofs.YtmlcpnehihmhaaaDoorW.PrintMore

set_option linter.unusedVariables false

theorem own : ownKnob Tryd.prog.godebug = none := by kernel_rfl

theorem laidOut : laidOutB Tryd.prog = true := by kernel_rfl

abbrev LL : List (String × DataW Unit) := [("unicode/utf8.acceptRanges", Rows.laid_unicode_utf8_acceptRanges), ("path.ErrBadPattern", Rows.laid_path_ErrBadPattern), ("unicode/utf8.first", Rows.laid_unicode_utf8_first)]

theorem door_met (os : Os) (args : Array Value) : laidMetH Tryd.prog LL ((World.laidAll Tryd.prog os LL).forCall (fun _ _ => 0) ⟨#[], args, []⟩).memory := by
  rw [MakeChecks.laidMetH_plain _ _ _ (by kernel_rfl)]; exact laidMet_laidAll _ (by kernel_rfl) (by kernel_rfl)

theorem star : "*" ++ "errors.errorString" = "*errors.errorString" := by decide

theorem rowES (u : TypeId) (h : Tryd.prog.typeName? 3 u = some "*errors.errorString") : u = 78 :=
  typeName_ptr_named (nm := "errors.errorString") (by rw [star]; kernel_rfl) (by kernel_rfl) (by decide) u (by rw [star]; exact h)

theorem cellsES : Tryd.prog.cellsOf 100 = 1 := by kernel_rfl

theorem cellsS : Tryd.prog.cellsOf 9 = 1 := by kernel_rfl

theorem g1 : Tryd.prog.globalNamed "path.ErrBadPattern" = some 1 := by kernel_rfl

theorem gt1 : (Tryd.prog.globals[1]?).map (·.type) = some 37 := by kernel_rfl

set_option maxRecDepth 100000 in
set_option maxHeartbeats 1000000 in
theorem lifted (os : Os) (started : os.Started) (H : Type) (enc : TypeId × Value → H) :
    ReturnsInHanded {} Tryd.checked os 3 .any (fun w args => (Rows.fnMatchClassesSpec.pre enc Tryd.prog Tryd.f3 [] false w args ∧ laidMetH Tryd.prog LL w) ∧ sizedMet enc Tryd.prog Tryd.f3 (OpenSpec.ofChange Rows.fnMatchClassesSpec) false w args)
      (Rows.fnMatchClassesSpec.post enc Tryd.prog Tryd.f3 false true false false) := by
  refine returnsInHanded_of_change_and (C := Tryd.checked) (X := fun w _ => laidMetH Tryd.prog LL w) (fun _ _ _ hh h => h.of_heap hh) own started (by kernel_rfl) Tryd.func3
    (ChangeSpec.witness_shaped (enc := enc) (C := Tryd.checked) (os := os) (X := fun w _ => laidMetH Tryd.prog LL w) false (World.laidAll Tryd.prog os LL) #[.slice none 0 0, .slice none 0 0, .string ByteArray.empty] 8 (World.laidAll_os _ _ _) (World.shaped_of_ZipB (by kernel_rfl) (by kernel_rfl)) (by kernel_rfl) (by kernel_rfl) (by kernel_rfl) (door_met os _)) ?_
  intro W base args ds gs before hval0 hW hcnd hsz0 hL _
  have hval : ∀ (j : Nat) t v, Tryd.f3.params[j]? = some t → args[j]? = some v → Value.okWide Tryd.prog W .any base t v := hval0
  have hW' := hW
  obtain ⟨p, q, hA0, hV, rfl, hfz, hnd⟩ := hW
  have hA : DataW.TrodAll enc Tryd.prog W 0 (fun _ => true) true Tryd.f3.params.toList args.toList ds p := hA0
  rw [Tryd.params3] at hA hval
  obtain ⟨v0, vs0, d0, ds0, p0, q0, hargs, rfl, rfl, h0, r0⟩ := trodAll_cons hA
  obtain ⟨v1, vs1, d1, ds1, p1, q1, rfl, rfl, rfl, h1, r1⟩ := trodAll_cons r0
  obtain ⟨v2, vs2, d2, ds2, p2, q2, rfl, rfl, rfl, h2, r2⟩ := trodAll_cons r1
  obtain ⟨rfl, rfl, rfl⟩ := trodAll_nil r2
  obtain rfl : args = #[v0, v1, v2] := by cases args; simp_all
  obtain ⟨rfl, rfl⟩ := trodVars_none hV
  have lt0 : ∀ x ∈ p0, x.block < W.heap.size := by obtain ⟨m, hm⟩ := h0; exact DataW.trod_lt m _ _ _ hm
  obtain ⟨A0, len0, c0, rfl⟩ := okWide_slice Tryd.underlying22 (hval 0 22 v0 rfl rfl)
  have k0 := h0
  obtain ⟨fu0, hf0⟩ := h0
  obtain ⟨l0, hk0, hg0⟩ := (opens_slice Tryd.underlying22 (by kernel_rfl) (opens_int Tryd.underlying5)) _ _ _ _ _ _ _ _ hf0
  obtain ⟨A0', c0', e0, hc0, hC0⟩ := hk0
  obtain ⟨rfl, rfl, rfl⟩ : A0 = A0' ∧ len0 = l0.length ∧ c0 = c0' := by simpa [Value.cells] using e0
  have lt1 : ∀ x ∈ p1, x.block < W.heap.size := by obtain ⟨m, hm⟩ := h1; exact DataW.trod_lt m _ _ _ hm
  obtain ⟨A1, len1, c1, rfl⟩ := okWide_slice Tryd.underlying22 (hval 1 22 v1 rfl rfl)
  have k1 := h1
  obtain ⟨fu1, hf1⟩ := h1
  obtain ⟨l1, hk1, hg1⟩ := (opens_slice Tryd.underlying22 (by kernel_rfl) (opens_int Tryd.underlying5)) _ _ _ _ _ _ _ _ hf1
  obtain ⟨A1', c1', e1, hc1, hC1⟩ := hk1
  obtain ⟨rfl, rfl, rfl⟩ : A1 = A1' ∧ len1 = l1.length ∧ c1 = c1' := by simpa [Value.cells] using e1
  obtain ⟨a2, rfl, rfl, rfl, y2⟩ := open_string Tryd.underlying9 (hval 2 9 v2 rfl rfl) h2
  clear hA0 hval0 hsz0
  obtain ⟨kk, hpure⟩ := Go.Proofs.YtmlcpnehihmhaaaDoor.PX.pure_MatchClasses l0 l1 a2 hg0 hg1
  refine (Go.Proofs.YtmlcpnehihmhaaaDoor.PX.laws_FnMatchClasses.calls kk A0 c0 l0 A1 c1 l1 a2 true W hC0 hc0 hC1 hc1  hpure).mono fun e W' ⟨he, bel⟩ => ?_
  subst he
  exact ⟨_, rfl, _, _, _, [], _, [], hW', trodAll_mk1 (shut_bool Tryd.underlying4 _), (trodAll_cons_mk (Below.trod laidOut (by kernel_rfl) (of_decide_eq_true (by kernel_rfl)) k0 bel lt0) (trodAll_cons_mk (Below.trod laidOut (by kernel_rfl) (of_decide_eq_true (by kernel_rfl)) k1 bel lt1) (trodAll_cons_mk (shut_string Tryd.underlying9 y2) trodAll_mk0))), rfl, bel.frame _, fun h => by cases h⟩

theorem over : Rows.fnMatchClassesRow.holds Tryd.pinned (OpenSpec.ofChange Rows.fnMatchClassesSpec) :=
  OpenClaim.holds_of_wide 3 Tryd.f3 rfl rfl rfl rfl rfl rfl rfl ⟨rfl, rfl, rfl, rfl, rfl⟩ rfl rfl rfl rfl rfl (by kernel_rfl) Tryd.func3 (by kernel_rfl)
    (of_decide_eq_true (by kernel_rfl)) (by unfold Func.isWrapper; first | (rw [if_pos (by decide +kernel)]; kernel_rfl) | (rw [if_neg (by decide +kernel)]; exact ⟨rfl, rfl⟩))
    (fun os started H enc _ => lifted os started H enc)

theorem card : Rows.FnMatchClassesCardSaid :=
  Claim7.holds_tied_plain_at .later [] [.data, .sentinel, .pinned] true (true, "ce6cfe92ae5e55074b47644fd3dc35b28ee50ff9bb69ce8c80cf196225800d30") true
    over (fun _ h => by cases h) (by kernel_rfl) (fun _ h => by cases h) fnMatchClasses_row_tie rfl ⟨rfl, rfl⟩ (by kernel_rfl) rfl
    (fun f fn hf hfn => by
      obtain rfl : f = 3 := Option.some.inj ((show Tryd.prog.funcNamed "pub-timebook/laws.FnMatchClasses" = some 3 by kernel_rfl).symm.trans hf) |>.symm
      obtain rfl : fn = Tryd.f3 := (Option.some.inj (Tryd.func3.symm.trans hfn)).symm
      exact ⟨by kernel_rfl, fun j t ht => by
        rw [Tryd.params3] at ht
        have hm : t ∈ [22, 22, 9] := by simpa using Array.mem_of_getElem? ht
        have hall : ([22, 22, 9].all fun u => !Tryd.prog.wantsStandIn u) = true := by kernel_rfl
        exact (show Tryd.prog.wantsStandIn t = false by simpa using List.all_eq_true.1 hall t hm)⟩)
    (by kernel_rfl)

end Go.Proofs.YtmlcpnehihmhaaaDoor.cardFnMatchClasses

namespace Go.Proofs.YtmlcpnehihmhaaaDoor

theorem fnMatchClasses_holds : Rows.FnMatchClassesCardSaid := cardFnMatchClasses.card

#print axioms fnMatchClasses_holds

end Go.Proofs.YtmlcpnehihmhaaaDoor
