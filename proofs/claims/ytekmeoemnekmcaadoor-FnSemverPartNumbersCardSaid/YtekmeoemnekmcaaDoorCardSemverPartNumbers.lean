/- The row and the tied card of FnSemverPartNumbers, out of its walk. For every input that the statement lets in. -/
import Derived.Test.YtekmeoemnekmcaaDoorLawPartNumbers
import Derived.Test.YtekmeoemnekmcaaDoorRows
import Derived.Test.YtekmeoemnekmcaaDoorTie
import Derived.Test.YtekmeoemnekmcaaDoorCards
import Derived.ProofKit
import Derived.OpenShut
import Derived.ShutString
import Derived.SizedLaws
import Derived.ChangeOld
import Derived.Below
import Derived.LaidMore
import Derived.LaidLaws
import Derived.Stop.Joined
import Derived.Stop.LaidErr
import Derived.SevenTiedAt
import Derived.LaidHandle
import Derived.MakeChecks
import Derived.Lib.LaidTab
import Derived.Lib.SmallJoins
namespace Go.Proofs.YtekmeoemnekmcaaDoor.cardFnSemverPartNumbers
open Go.ChangeShapes Go.WideShapes Go.ChangeAt Go.RowKit Go.WideMaps Go.WideElems
open Go.ChangeMaps (open_string shut_string)
set_option linter.unusedVariables false
theorem own : ownKnob Tryd.prog.godebug = none := by kernel_rfl
abbrev LL : List (String × DataW Unit) := [("math/bits.deBruijn32tab", Rows.laid_math_bits_deBruijn32tab), ("math/bits.deBruijn64tab", Rows.laid_math_bits_deBruijn64tab), ("internal/strconv.uint64pow10", Rows.laid_internal_strconv_uint64pow10), ("strconv.ErrRange", Rows.laid_strconv_ErrRange), ("strconv.ErrSyntax", Rows.laid_strconv_ErrSyntax)]
theorem door_met (os : Os) (args : Array Value) : laidMetH Tryd.prog LL ((World.doorLaid Tryd.prog 233 os).forCall (fun _ _ => 0) ⟨#[], args, []⟩).memory :=
  laidMetH_of_parts3 (fuel := 8) (laidMet_of_run' 8 (by kernel_rfl) (by kernel_rfl)) (by kernel_rfl) (by kernel_rfl)
theorem star : "*" ++ "errors.errorString" = "*errors.errorString" := by decide
theorem rowES (u : TypeId) (h : Tryd.prog.typeName? 3 u = some "*errors.errorString") : u = 121 :=
  typeName_ptr_named (nm := "errors.errorString") (by rw [star]; kernel_rfl) (by kernel_rfl) (by decide) u (by rw [star]; exact h)
theorem cellsES : Tryd.prog.cellsOf 123 = 1 := by kernel_rfl
theorem cellsS : Tryd.prog.cellsOf 9 = 1 := by kernel_rfl
theorem g3 : Tryd.prog.globalNamed "strconv.ErrRange" = some 11 := by kernel_rfl
theorem gt3 : (Tryd.prog.globals[11]?).map (·.type) = some 42 := by kernel_rfl
theorem g4 : Tryd.prog.globalNamed "strconv.ErrSyntax" = some 10 := by kernel_rfl
theorem gt4 : (Tryd.prog.globals[10]?).map (·.type) = some 42 := by kernel_rfl
set_option maxRecDepth 100000 in
theorem lifted (os : Os) (started : os.Started) (H : Type) (enc : TypeId × Value → H) :
    ReturnsInHanded {} Tryd.checked os 6 .any (fun w args => (Rows.fnSemverPartNumbersSpec.pre enc Tryd.prog Tryd.f6 [] false w args ∧ laidMetH Tryd.prog LL w) ∧ sizedMet enc Tryd.prog Tryd.f6 (OpenSpec.ofChange Rows.fnSemverPartNumbersSpec) false w args)
      (Rows.fnSemverPartNumbersSpec.post enc Tryd.prog Tryd.f6 false true false false) := by
  refine returnsInHanded_of_change_and (C := Tryd.checked) (X := fun w _ => laidMetH Tryd.prog LL w) (fun _ _ _ hh h => h.of_heap hh) own started (by kernel_rfl) Tryd.func6
    (ChangeSpec.witness_shaped (enc := enc) (C := Tryd.checked) (os := os) (X := fun w _ => laidMetH Tryd.prog LL w) false (World.doorLaid Tryd.prog 233 os) #[.int .u64 0, .int .u64 0, .string ByteArray.empty] 8 rfl (World.shaped_of_RefB (by kernel_rfl) (by kernel_rfl)) (by kernel_rfl) (by kernel_rfl) (by kernel_rfl) (door_met os _)) ?_
  intro W base args ds gs before hval0 hW hcnd hsz0 hL _
  have hsz : (DataW.weightsEach Tryd.prog (Tryd.f6.params.toList ++ Rows.fnSemverPartNumbersSpec.plain.varTypes Tryd.prog) (ds ++ gs)).all (· ≤ reachBytes) = true := hsz0
  have hval : ∀ (j : Nat) t v, Tryd.f6.params[j]? = some t → args[j]? = some v → Value.okWide Tryd.prog W .any base t v := hval0
  have hW' := hW
  obtain ⟨p, q, hA0, hV, rfl, hfz, hnd⟩ := hW
  have hA : DataW.TrodAll enc Tryd.prog W 0 (fun _ => true) true Tryd.f6.params.toList args.toList ds p := hA0
  rw [Tryd.params6] at hA hval hsz
  obtain ⟨v0, vs0, d0, ds0, p0, q0, hargs, rfl, rfl, h0, r0⟩ := trodAll_cons hA
  obtain ⟨v1, vs1, d1, ds1, p1, q1, rfl, rfl, rfl, h1, r1⟩ := trodAll_cons r0
  obtain ⟨v2, vs2, d2, ds2, p2, q2, rfl, rfl, rfl, h2, r2⟩ := trodAll_cons r1
  obtain ⟨rfl, rfl, rfl⟩ := trodAll_nil r2
  obtain rfl : args = #[v0, v1, v2] := by cases args; simp_all
  obtain ⟨rfl, rfl⟩ := trodVars_none hV
  obtain ⟨z0, rfl, rfl, rfl, w0⟩ := open_int Tryd.underlying26 (hval 0 26 v0 rfl rfl) h0
  have bz0 := bounds_u64 w0
  obtain ⟨a0, rfl⟩ := Int.eq_ofNat_of_zero_le bz0.1
  have b0 : a0 ≤ 18446744073709551615 := by have := bz0.2; omega
  obtain ⟨z1, rfl, rfl, rfl, w1⟩ := open_int Tryd.underlying26 (hval 1 26 v1 rfl rfl) h1
  have bz1 := bounds_u64 w1
  obtain ⟨a1, rfl⟩ := Int.eq_ofNat_of_zero_le bz1.1
  have b1 : a1 ≤ 18446744073709551615 := by have := bz1.2; omega
  obtain ⟨a2, rfl, rfl, rfl, y2⟩ := open_string Tryd.underlying9 (hval 2 9 v2 rfl rfl) h2
  have w2 : a2.size ≤ 140737488351232 := by
    have z := sized_string hsz (j := 2) (t := 9) rfl rfl
    rw [Array.length_toList] at z
    exact z
  have hL0 : laidMet Tryd.prog LL W := by rw [← MakeChecks.laidMetH_plain _ _ _ (by kernel_rfl)]; exact hL
  have hL1 := hL0.tail
  have hL2 := hL1.tail
  have hL3 := hL2.tail
  obtain ⟨e3, s3, hv3, _, _, _⟩ := laid_sentinel hL3 g3 gt3 Tryd.underlying42 rowES Tryd.underlying121 Tryd.underlying123 rfl rfl Tryd.underlying9 cellsES cellsS
  have hc3 := World.var?_cell g3 hv3 0
  have hb3 : 11 < W.heap.size := by
    cases hh : W.heap[11]? with
    | none => simp [World.cell?, hh] at hc3
    | some o => exact (Array.getElem?_eq_some_iff.1 hh).1
  have hL4 := hL3.tail
  obtain ⟨e4, s4, hv4, _, _, _⟩ := laid_sentinel hL4 g4 gt4 Tryd.underlying42 rowES Tryd.underlying121 Tryd.underlying123 rfl rfl Tryd.underlying9 cellsES cellsS
  have hc4 := World.var?_cell g4 hv4 0
  have hb4 : 10 < W.heap.size := by
    cases hh : W.heap[10]? with
    | none => simp [World.cell?, hh] at hc4
    | some o => exact (Array.getElem?_eq_some_iff.1 hh).1
  have std : Go.Proofs.YtekmeoemnekmcaaDoor.Parse.Std W := ⟨⟨_, _, by simpa using hc4⟩, hb4, ⟨_, _, by simpa using hc3⟩, hb3⟩
  clear hA0 hval0 hsz0 hsz
  refine (KFnSemverPartNumbers.walk_nat a0 a1 a2 W std).mono fun e W' ⟨he, bel⟩ => ?_
  subst he
  exact ⟨_, rfl, _, _, _, [], _, [], hW', trodAll_mk1 (shut_bool Tryd.underlying4 _), (trodAll_cons_mk (shut_int Tryd.underlying26 w0) (trodAll_cons_mk (shut_int Tryd.underlying26 w1) (trodAll_cons_mk (shut_string Tryd.underlying9 y2) trodAll_mk0))), rfl, bel.frame _, fun h => by cases h⟩
theorem over : Rows.fnSemverPartNumbersRow.holds Tryd.pinned (OpenSpec.ofChange Rows.fnSemverPartNumbersSpec) :=
  OpenClaim.holds_of_wide 6 Tryd.f6 rfl rfl rfl rfl rfl rfl rfl ⟨rfl, rfl, rfl, rfl, rfl⟩ rfl rfl rfl rfl rfl (by kernel_rfl) Tryd.func6 (by kernel_rfl)
    (of_decide_eq_true (by kernel_rfl)) (by unfold Func.isWrapper; first | (rw [if_pos (by decide +kernel)]; kernel_rfl) | (rw [if_neg (by decide +kernel)]; exact ⟨rfl, rfl⟩))
    (fun os started H enc _ => lifted os started H enc)
theorem card : Rows.FnSemverPartNumbersCardSaid :=
  Claim7.holds_tied_plain_at .later [] [.data, .data, .data, .sentinel, .sentinel] true (true, "9c91768d0eb5864f96f24ceee6f7dc7b6975bd61a35717e3db59fc2ebb0335c7") true
    over (fun _ h => by cases h) (by kernel_rfl) (fun _ h => by cases h) fnSemverPartNumbers_row_tie rfl ⟨rfl, rfl⟩ (by kernel_rfl) rfl
    (fun f fn hf hfn => by
      obtain rfl : f = 6 := Option.some.inj ((show Tryd.prog.funcNamed "pub-timebook/laws.FnSemverPartNumbers" = some 6 by kernel_rfl).symm.trans hf) |>.symm
      obtain rfl : fn = Tryd.f6 := (Option.some.inj (Tryd.func6.symm.trans hfn)).symm
      exact ⟨by kernel_rfl, fun j t ht => by
        rw [Tryd.params6] at ht
        have hm : t ∈ [26, 26, 9] := by simpa using Array.mem_of_getElem? ht
        have hall : ([26, 26, 9].all fun u => !Tryd.prog.wantsStandIn u) = true := by kernel_rfl
        exact (show Tryd.prog.wantsStandIn t = false by simpa using List.all_eq_true.1 hall t hm)⟩)
    (by kernel_rfl)
end Go.Proofs.YtekmeoemnekmcaaDoor.cardFnSemverPartNumbers
namespace Go.Proofs.YtekmeoemnekmcaaDoor
theorem fnSemverPartNumbers_holds : Rows.FnSemverPartNumbersCardSaid := cardFnSemverPartNumbers.card
#print axioms fnSemverPartNumbers_holds
end Go.Proofs.YtekmeoemnekmcaaDoor
