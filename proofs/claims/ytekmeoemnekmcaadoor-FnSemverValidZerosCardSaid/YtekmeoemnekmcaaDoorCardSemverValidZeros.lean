/- The row and the tied card of FnSemverValidZeros, out of its walk. For every input that the statement lets in. -/
import Derived.Test.YtekmeoemnekmcaaDoorLawValidZeros
import Derived.Test.YtekmeoemnekmcaaDoorRows
import Derived.Test.YtekmeoemnekmcaaDoorTie
import Derived.Test.YtekmeoemnekmcaaDoorCards
import Derived.ProofKit
import Derived.OpenShut
import Derived.ShutString
import Derived.SizedLaws
import Derived.ChangeOld
import Derived.Below
import Derived.LaidMore
import Derived.LaidLaws
import Derived.Stop.Joined
import Derived.Stop.LaidErr
import Derived.SevenTiedAt
import Derived.LaidHandle
import Derived.MakeChecks
import Derived.Lib.LaidTab
import Derived.Lib.SmallJoins
namespace Go.Proofs.YtekmeoemnekmcaaDoor.cardFnSemverValidZeros
open Go.ChangeShapes Go.WideShapes Go.ChangeAt Go.RowKit Go.WideMaps Go.WideElems
open Go.ChangeMaps (open_string shut_string)
set_option linter.unusedVariables false
theorem own : ownKnob Tryd.prog.godebug = none := by kernel_rfl
abbrev LL : List (String × DataW Unit) := [("pub-timebook/pub/semver.ErrSegmentStartsZero", Rows.laid_pub_timebook_pub_semver_ErrSegmentStartsZero), ("pub-timebook/pub/semver.ErrInvalidMetadata", Rows.laid_pub_timebook_pub_semver_ErrInvalidMetadata), ("pub-timebook/pub/semver.ErrInvalidPrerelease", Rows.laid_pub_timebook_pub_semver_ErrInvalidPrerelease)]
theorem door_met (os : Os) (args : Array Value) : laidMetH Tryd.prog LL ((World.doorLaid Tryd.prog 233 os).forCall (fun _ _ => 0) ⟨#[], args, []⟩).memory :=
  laidMetH_of_parts3 (fuel := 8) (laidMet_of_run' 8 (by kernel_rfl) (by kernel_rfl)) (by kernel_rfl) (by kernel_rfl)
theorem star : "*" ++ "errors.errorString" = "*errors.errorString" := by decide
theorem rowES (u : TypeId) (h : Tryd.prog.typeName? 3 u = some "*errors.errorString") : u = 121 :=
  typeName_ptr_named (nm := "errors.errorString") (by rw [star]; kernel_rfl) (by kernel_rfl) (by decide) u (by rw [star]; exact h)
theorem cellsES : Tryd.prog.cellsOf 123 = 1 := by kernel_rfl
theorem cellsS : Tryd.prog.cellsOf 9 = 1 := by kernel_rfl
theorem g0 : Tryd.prog.globalNamed "pub-timebook/pub/semver.ErrSegmentStartsZero" = some 4 := by kernel_rfl
theorem gt0 : (Tryd.prog.globals[4]?).map (·.type) = some 42 := by kernel_rfl
theorem g1 : Tryd.prog.globalNamed "pub-timebook/pub/semver.ErrInvalidMetadata" = some 6 := by kernel_rfl
theorem gt1 : (Tryd.prog.globals[6]?).map (·.type) = some 42 := by kernel_rfl
theorem g2 : Tryd.prog.globalNamed "pub-timebook/pub/semver.ErrInvalidPrerelease" = some 5 := by kernel_rfl
theorem gt2 : (Tryd.prog.globals[5]?).map (·.type) = some 42 := by kernel_rfl
set_option maxRecDepth 100000 in
theorem lifted (os : Os) (started : os.Started) (H : Type) (enc : TypeId × Value → H) :
    ReturnsInHanded {} Tryd.checked os 4 .any (fun w args => (Rows.fnSemverValidZerosSpec.pre enc Tryd.prog Tryd.f4 [] false w args ∧ laidMetH Tryd.prog LL w) ∧ sizedMet enc Tryd.prog Tryd.f4 (OpenSpec.ofChange Rows.fnSemverValidZerosSpec) false w args)
      (Rows.fnSemverValidZerosSpec.post enc Tryd.prog Tryd.f4 false true false false) := by
  refine returnsInHanded_of_change_and (C := Tryd.checked) (X := fun w _ => laidMetH Tryd.prog LL w) (fun _ _ _ hh h => h.of_heap hh) own started (by kernel_rfl) Tryd.func4
    (ChangeSpec.witness_shaped (enc := enc) (C := Tryd.checked) (os := os) (X := fun w _ => laidMetH Tryd.prog LL w) false (World.doorLaid Tryd.prog 233 os) #[.string ByteArray.empty] 8 rfl (World.shaped_of_RefB (by kernel_rfl) (by kernel_rfl)) (by kernel_rfl) (by kernel_rfl) (by kernel_rfl) (door_met os _)) ?_
  intro W base args ds gs before hval0 hW hcnd hsz0 hL _
  have hsz : (DataW.weightsEach Tryd.prog (Tryd.f4.params.toList ++ Rows.fnSemverValidZerosSpec.plain.varTypes Tryd.prog) (ds ++ gs)).all (· ≤ reachBytes) = true := hsz0
  have hval : ∀ (j : Nat) t v, Tryd.f4.params[j]? = some t → args[j]? = some v → Value.okWide Tryd.prog W .any base t v := hval0
  have hW' := hW
  obtain ⟨p, q, hA0, hV, rfl, hfz, hnd⟩ := hW
  have hA : DataW.TrodAll enc Tryd.prog W 0 (fun _ => true) true Tryd.f4.params.toList args.toList ds p := hA0
  rw [Tryd.params4] at hA hval hsz
  obtain ⟨v0, vs0, d0, ds0, p0, q0, hargs, rfl, rfl, h0, r0⟩ := trodAll_cons hA
  obtain ⟨rfl, rfl, rfl⟩ := trodAll_nil r0
  obtain rfl : args = #[v0] := by cases args; simp_all
  obtain ⟨rfl, rfl⟩ := trodVars_none hV
  obtain ⟨a0, rfl, rfl, rfl, y0⟩ := open_string Tryd.underlying9 (hval 0 9 v0 rfl rfl) h0
  have w0 : a0.size ≤ 140737488351232 := by
    have z := sized_string hsz (j := 0) (t := 9) rfl rfl
    rw [Array.length_toList] at z
    exact z
  have hL0 : laidMet Tryd.prog LL W := by rw [← MakeChecks.laidMetH_plain _ _ _ (by kernel_rfl)]; exact hL
  obtain ⟨e0, s0, hv0, _, _, _⟩ := laid_sentinel hL0 g0 gt0 Tryd.underlying42 rowES Tryd.underlying121 Tryd.underlying123 rfl rfl Tryd.underlying9 cellsES cellsS
  have hc0 := World.var?_cell g0 hv0 0
  have hb0 : 4 < W.heap.size := by
    cases hh : W.heap[4]? with
    | none => simp [World.cell?, hh] at hc0
    | some o => exact (Array.getElem?_eq_some_iff.1 hh).1
  have hL1 := hL0.tail
  obtain ⟨e1, s1, hv1, _, _, _⟩ := laid_sentinel hL1 g1 gt1 Tryd.underlying42 rowES Tryd.underlying121 Tryd.underlying123 rfl rfl Tryd.underlying9 cellsES cellsS
  have hc1 := World.var?_cell g1 hv1 0
  have hb1 : 6 < W.heap.size := by
    cases hh : W.heap[6]? with
    | none => simp [World.cell?, hh] at hc1
    | some o => exact (Array.getElem?_eq_some_iff.1 hh).1
  have hL2 := hL1.tail
  obtain ⟨e2, s2, hv2, _, _, _⟩ := laid_sentinel hL2 g2 gt2 Tryd.underlying42 rowES Tryd.underlying121 Tryd.underlying123 rfl rfl Tryd.underlying9 cellsES cellsS
  have hc2 := World.var?_cell g2 hv2 0
  have hb2 : 5 < W.heap.size := by
    cases hh : W.heap[5]? with
    | none => simp [World.cell?, hh] at hc2
    | some o => exact (Array.getElem?_eq_some_iff.1 hh).1
  clear hA0 hval0 hsz0 hsz
  refine (MetaFnSemverValidZeros.walk a0 w0 _ _ _ _ _ _ W (by simpa using hc0) hb0 (by simpa using hc1) hb1 (by simpa using hc2) hb2).mono fun e W' ⟨he, bel⟩ => ?_
  subst he
  exact ⟨_, rfl, _, _, _, [], _, [], hW', trodAll_mk1 (shut_bool Tryd.underlying4 _), (trodAll_cons_mk (shut_string Tryd.underlying9 y0) trodAll_mk0), rfl, bel.frame _, fun h => by cases h⟩
theorem over : Rows.fnSemverValidZerosRow.holds Tryd.pinned (OpenSpec.ofChange Rows.fnSemverValidZerosSpec) :=
  OpenClaim.holds_of_wide 4 Tryd.f4 rfl rfl rfl rfl rfl rfl rfl ⟨rfl, rfl, rfl, rfl, rfl⟩ rfl rfl rfl rfl rfl (by kernel_rfl) Tryd.func4 (by kernel_rfl)
    (of_decide_eq_true (by kernel_rfl)) (by unfold Func.isWrapper; first | (rw [if_pos (by decide +kernel)]; kernel_rfl) | (rw [if_neg (by decide +kernel)]; exact ⟨rfl, rfl⟩))
    (fun os started H enc _ => lifted os started H enc)
theorem card : Rows.FnSemverValidZerosCardSaid :=
  Claim7.holds_tied_plain_at .later [] [.sentinel, .sentinel, .sentinel] true (true, "9c91768d0eb5864f96f24ceee6f7dc7b6975bd61a35717e3db59fc2ebb0335c7") true
    over (fun _ h => by cases h) (by kernel_rfl) (fun _ h => by cases h) fnSemverValidZeros_row_tie rfl ⟨rfl, rfl⟩ (by kernel_rfl) rfl
    (fun f fn hf hfn => by
      obtain rfl : f = 4 := Option.some.inj ((show Tryd.prog.funcNamed "pub-timebook/laws.FnSemverValidZeros" = some 4 by kernel_rfl).symm.trans hf) |>.symm
      obtain rfl : fn = Tryd.f4 := (Option.some.inj (Tryd.func4.symm.trans hfn)).symm
      exact ⟨by kernel_rfl, fun j t ht => by
        rw [Tryd.params4] at ht
        have hm : t ∈ [9] := by simpa using Array.mem_of_getElem? ht
        have hall : ([9].all fun u => !Tryd.prog.wantsStandIn u) = true := by kernel_rfl
        exact (show Tryd.prog.wantsStandIn t = false by simpa using List.all_eq_true.1 hall t hm)⟩)
    (by kernel_rfl)
end Go.Proofs.YtekmeoemnekmcaaDoor.cardFnSemverValidZeros
namespace Go.Proofs.YtekmeoemnekmcaaDoor
theorem fnSemverValidZeros_holds : Rows.FnSemverValidZerosCardSaid := cardFnSemverValidZeros.card
#print axioms fnSemverValidZeros_holds
end Go.Proofs.YtekmeoemnekmcaaDoor
