/- The row and the tied card of FnSemverKindOfNext, out of its printed walk and its plain law. For every input that the statement lets in. -/
import Derived.Test.YtnncjgoogjookaaDoorZCardSemverKindOfNext6
import Derived.Test.YtnncjgoogjookaaDoorZCardSemverKindOfNext23
import Derived.Test.YtnncjgoogjookaaDoorRows
import Derived.Test.YtnncjgoogjookaaDoorTie
import Derived.Test.YtnncjgoogjookaaDoorCards
import Derived.ProofKit
import Derived.OpenShut
import Derived.ShutString
import Derived.SizedLaws
import Derived.ChangeOld
import Derived.Below
import Derived.Carry
import Derived.LaidMore
import Derived.LaidLaws
import Derived.Stop.Joined
import Derived.Stop.LaidErr
import Derived.SevenTiedAt
import Derived.LaidHandle
import Derived.MakeChecks
import Derived.Lib.LaidTab
import Derived.Lib.SmallJoins
import Derived.ChangeArms
import Derived.Deep.Slices
import Derived.WideShapes
namespace Go.Proofs.YtnncjgoogjookaaDoor.Opn
end Go.Proofs.YtnncjgoogjookaaDoor.Opn
namespace Go.Proofs.YtnncjgoogjookaaDoor.cardFnSemverKindOfNext

open Go.ChangeShapes Go.WideShapes Go.ChangeAt Go.RowKit Go.WideMaps Go.WideElems Go.Proofs.YtnncjgoogjookaaDoor.Opn

open Go.ChangeMaps (open_string shut_string)

open Go.Proofs.YtnncjgoogjookaaDoorW.PrintWords Go.Proofs.YtnncjgoogjookaaDoorW.PrintLast Go.Proofs.YtnncjgoogjookaaDoorW.PrintMore

set_option linter.unusedVariables false

theorem own : ownKnob Tryd.prog.godebug = none := by kernel_rfl

theorem laidOut : laidOutB Tryd.prog = true := by kernel_rfl

abbrev LL : List (String × DataW Unit) := [("math/bits.deBruijn32tab", Rows.laid_math_bits_deBruijn32tab), ("math/bits.deBruijn64tab", Rows.laid_math_bits_deBruijn64tab), ("internal/strconv.uint64pow10", Rows.laid_internal_strconv_uint64pow10), ("strconv.ErrRange", Rows.laid_strconv_ErrRange), ("strconv.ErrSyntax", Rows.laid_strconv_ErrSyntax), ("pub-timebook/pub/semver.ErrConstraintTooLong", Rows.laid_pub_timebook_pub_semver_ErrConstraintTooLong), ("pub-timebook/pub/semver.ErrTooManyConstraintGroups", Rows.laid_pub_timebook_pub_semver_ErrTooManyConstraintGroups), ("pub-timebook/pub/semver.ErrInvalidSemVer", Rows.laid_pub_timebook_pub_semver_ErrInvalidSemVer), ("pub-timebook/pub/semver.ErrEmptyString", Rows.laid_pub_timebook_pub_semver_ErrEmptyString), ("pub-timebook/pub/semver.ErrInvalidCharacters", Rows.laid_pub_timebook_pub_semver_ErrInvalidCharacters), ("pub-timebook/pub/semver.ErrSegmentStartsZero", Rows.laid_pub_timebook_pub_semver_ErrSegmentStartsZero), ("pub-timebook/pub/semver.ErrInvalidMetadata", Rows.laid_pub_timebook_pub_semver_ErrInvalidMetadata), ("pub-timebook/pub/semver.ErrInvalidPrerelease", Rows.laid_pub_timebook_pub_semver_ErrInvalidPrerelease), ("pub-timebook/pub/semver.ErrVersionTooLong", Rows.laid_pub_timebook_pub_semver_ErrVersionTooLong)]

theorem door_met (os : Os) (args : Array Value) : laidMetH Tryd.prog LL ((World.doorLaid Tryd.prog 233 os).forCall (fun _ _ => 0) ⟨#[], args, []⟩).memory :=
  laidMetH_of_parts3 (fuel := 8) (laidMet_of_run' 8 (by kernel_rfl) (by kernel_rfl)) (by kernel_rfl) (by kernel_rfl)

theorem star : "*" ++ "errors.errorString" = "*errors.errorString" := by decide

theorem rowES (u : TypeId) (h : Tryd.prog.typeName? 3 u = some "*errors.errorString") : u = 85 :=
  typeName_ptr_named (nm := "errors.errorString") (by rw [star]; kernel_rfl) (by kernel_rfl) (by decide) u (by rw [star]; exact h)

theorem cellsES : Tryd.prog.cellsOf 87 = 1 := by kernel_rfl

theorem cellsS : Tryd.prog.cellsOf 9 = 1 := by kernel_rfl

theorem g3 : Tryd.prog.globalNamed "strconv.ErrRange" = some 10 := by kernel_rfl

theorem gt3 : (Tryd.prog.globals[10]?).map (·.type) = some 27 := by kernel_rfl

theorem g4 : Tryd.prog.globalNamed "strconv.ErrSyntax" = some 9 := by kernel_rfl

theorem gt4 : (Tryd.prog.globals[9]?).map (·.type) = some 27 := by kernel_rfl

theorem g5 : Tryd.prog.globalNamed "pub-timebook/pub/semver.ErrConstraintTooLong" = some 7 := by kernel_rfl

theorem gt5 : (Tryd.prog.globals[7]?).map (·.type) = some 27 := by kernel_rfl

theorem g6 : Tryd.prog.globalNamed "pub-timebook/pub/semver.ErrTooManyConstraintGroups" = some 8 := by kernel_rfl

theorem gt6 : (Tryd.prog.globals[8]?).map (·.type) = some 27 := by kernel_rfl

theorem g7 : Tryd.prog.globalNamed "pub-timebook/pub/semver.ErrInvalidSemVer" = some 2 := by kernel_rfl

theorem gt7 : (Tryd.prog.globals[2]?).map (·.type) = some 27 := by kernel_rfl

theorem g8 : Tryd.prog.globalNamed "pub-timebook/pub/semver.ErrEmptyString" = some 0 := by kernel_rfl

theorem gt8 : (Tryd.prog.globals[0]?).map (·.type) = some 27 := by kernel_rfl

theorem g9 : Tryd.prog.globalNamed "pub-timebook/pub/semver.ErrInvalidCharacters" = some 3 := by kernel_rfl

theorem gt9 : (Tryd.prog.globals[3]?).map (·.type) = some 27 := by kernel_rfl

theorem g10 : Tryd.prog.globalNamed "pub-timebook/pub/semver.ErrSegmentStartsZero" = some 4 := by kernel_rfl

theorem gt10 : (Tryd.prog.globals[4]?).map (·.type) = some 27 := by kernel_rfl

theorem g11 : Tryd.prog.globalNamed "pub-timebook/pub/semver.ErrInvalidMetadata" = some 6 := by kernel_rfl

theorem gt11 : (Tryd.prog.globals[6]?).map (·.type) = some 27 := by kernel_rfl

theorem g12 : Tryd.prog.globalNamed "pub-timebook/pub/semver.ErrInvalidPrerelease" = some 5 := by kernel_rfl

theorem gt12 : (Tryd.prog.globals[5]?).map (·.type) = some 27 := by kernel_rfl

theorem g13 : Tryd.prog.globalNamed "pub-timebook/pub/semver.ErrVersionTooLong" = some 1 := by kernel_rfl

theorem gt13 : (Tryd.prog.globals[1]?).map (·.type) = some 27 := by kernel_rfl

set_option maxRecDepth 100000 in
set_option maxHeartbeats 1000000 in
theorem lifted (os : Os) (started : os.Started) (H : Type) (enc : TypeId × Value → H) :
  ReturnsInHanded {} Tryd.checked os 3 .any (fun w args => (Rows.fnSemverKindOfNextSpec.pre enc Tryd.prog Tryd.f3 [] false w args ∧ laidMetH Tryd.prog LL w) ∧ sizedMet enc Tryd.prog Tryd.f3 (OpenSpec.ofChange Rows.fnSemverKindOfNextSpec) false w args)
   (Rows.fnSemverKindOfNextSpec.post enc Tryd.prog Tryd.f3 false true false false) := by
 refine returnsInHanded_of_change_and (C := Tryd.checked) (X := fun w _ => laidMetH Tryd.prog LL w) (fun _ _ _ hh h => h.of_heap hh) own started (by kernel_rfl) Tryd.func3
  (ChangeSpec.witness_shaped (enc := enc) (C := Tryd.checked) (os := os) (X := fun w _ => laidMetH Tryd.prog LL w) false (World.doorLaid Tryd.prog 233 os) #[.string ByteArray.empty, .string ByteArray.empty] 8 rfl (World.shaped_of_RefB (by kernel_rfl) (by kernel_rfl)) (by kernel_rfl) (by kernel_rfl) (by kernel_rfl) (door_met os _)) ?_
 intro W base args ds gs before hval0 hW hcnd hsz0 hL _
 have hval : ∀ (j : Nat) t v, Tryd.f3.params[j]? = some t → args[j]? = some v → Value.okWide Tryd.prog W .any base t v := hval0
 have hW' := hW
 obtain ⟨p, q, hA0, hV, rfl, hfz, hnd⟩ := hW
 have hA : DataW.TrodAll enc Tryd.prog W 0 (fun _ => true) true Tryd.f3.params.toList args.toList ds p := hA0
 rw [Tryd.params3] at hA hval
 obtain ⟨v0, vs0, d0, ds0, p0, q0, hargs, rfl, rfl, h0, r0⟩ := trodAll_cons hA
 obtain ⟨v1, vs1, d1, ds1, p1, q1, rfl, rfl, rfl, h1, r1⟩ := trodAll_cons r0
 obtain ⟨rfl, rfl, rfl⟩ := trodAll_nil r1
 obtain rfl : args = #[v0, v1] := by cases args; simp_all
 obtain ⟨rfl, rfl⟩ := trodVars_none hV
 obtain ⟨a0, rfl, rfl, rfl, y0⟩ := open_string Tryd.underlying9 (hval 0 9 v0 rfl rfl) h0
 obtain ⟨a1, rfl, rfl, rfl, y1⟩ := open_string Tryd.underlying9 (hval 1 9 v1 rfl rfl) h1
 have hL0 : laidMet Tryd.prog LL W := by rw [← MakeChecks.laidMetH_plain _ _ _ (by kernel_rfl)]; exact hL
 have hL1 := hL0.tail
 have hL2 := hL1.tail
 have hL3 := hL2.tail
 obtain ⟨e3, s3, hv3, hq3, hs3, hr3⟩ := Go.laidRowYtnncjgoogjookaaDoor hL3 g3 gt3 Tryd.underlying27 rowES Tryd.underlying85 Tryd.underlying87 rfl rfl Tryd.underlying9 cellsES cellsS
 have hc3_ := World.var?_cell g3 hv3 0
 have hb3 : 10 < W.heap.size := by
  cases hh : W.heap[10]? with
  | none => simp [World.cell?, hh] at hc3_
  | some o => exact (Array.getElem?_eq_some_iff.1 hh).1
 have hL4 := hL3.tail
 obtain ⟨e4, s4, hv4, hq4, hs4, hr4⟩ := Go.laidRowYtnncjgoogjookaaDoor hL4 g4 gt4 Tryd.underlying27 rowES Tryd.underlying85 Tryd.underlying87 rfl rfl Tryd.underlying9 cellsES cellsS
 have hc4_ := World.var?_cell g4 hv4 0
 have hb4 : 9 < W.heap.size := by
  cases hh : W.heap[9]? with
  | none => simp [World.cell?, hh] at hc4_
  | some o => exact (Array.getElem?_eq_some_iff.1 hh).1
 have hL5 := hL4.tail
 obtain ⟨e5, s5, hv5, hq5, hs5, hr5⟩ := Go.laidRowYtnncjgoogjookaaDoor hL5 g5 gt5 Tryd.underlying27 rowES Tryd.underlying85 Tryd.underlying87 rfl rfl Tryd.underlying9 cellsES cellsS
 have hc5_ := World.var?_cell g5 hv5 0
 have hb5 : 7 < W.heap.size := by
  cases hh : W.heap[7]? with
  | none => simp [World.cell?, hh] at hc5_
  | some o => exact (Array.getElem?_eq_some_iff.1 hh).1
 have hL6 := hL5.tail
 obtain ⟨e6, s6, hv6, hq6, hs6, hr6⟩ := Go.laidRowYtnncjgoogjookaaDoor hL6 g6 gt6 Tryd.underlying27 rowES Tryd.underlying85 Tryd.underlying87 rfl rfl Tryd.underlying9 cellsES cellsS
 have hc6_ := World.var?_cell g6 hv6 0
 have hb6 : 8 < W.heap.size := by
  cases hh : W.heap[8]? with
  | none => simp [World.cell?, hh] at hc6_
  | some o => exact (Array.getElem?_eq_some_iff.1 hh).1
 have hL7 := hL6.tail
 obtain ⟨e7, s7, hv7, hq7, hs7, hr7⟩ := Go.laidRowYtnncjgoogjookaaDoor hL7 g7 gt7 Tryd.underlying27 rowES Tryd.underlying85 Tryd.underlying87 rfl rfl Tryd.underlying9 cellsES cellsS
 have hc7_ := World.var?_cell g7 hv7 0
 have hb7 : 2 < W.heap.size := by
  cases hh : W.heap[2]? with
  | none => simp [World.cell?, hh] at hc7_
  | some o => exact (Array.getElem?_eq_some_iff.1 hh).1
 have hL8 := hL7.tail
 obtain ⟨e8, s8, hv8, hq8, hs8, hr8⟩ := Go.laidRowYtnncjgoogjookaaDoor hL8 g8 gt8 Tryd.underlying27 rowES Tryd.underlying85 Tryd.underlying87 rfl rfl Tryd.underlying9 cellsES cellsS
 have hc8_ := World.var?_cell g8 hv8 0
 have hb8 : 0 < W.heap.size := by
  cases hh : W.heap[0]? with
  | none => simp [World.cell?, hh] at hc8_
  | some o => exact (Array.getElem?_eq_some_iff.1 hh).1
 have hL9 := hL8.tail
 obtain ⟨e9, s9, hv9, hq9, hs9, hr9⟩ := Go.laidRowYtnncjgoogjookaaDoor hL9 g9 gt9 Tryd.underlying27 rowES Tryd.underlying85 Tryd.underlying87 rfl rfl Tryd.underlying9 cellsES cellsS
 have hc9_ := World.var?_cell g9 hv9 0
 have hb9 : 3 < W.heap.size := by
  cases hh : W.heap[3]? with
  | none => simp [World.cell?, hh] at hc9_
  | some o => exact (Array.getElem?_eq_some_iff.1 hh).1
 have hL10 := hL9.tail
 obtain ⟨e10, s10, hv10, hq10, hs10, hr10⟩ := Go.laidRowYtnncjgoogjookaaDoor hL10 g10 gt10 Tryd.underlying27 rowES Tryd.underlying85 Tryd.underlying87 rfl rfl Tryd.underlying9 cellsES cellsS
 have hc10_ := World.var?_cell g10 hv10 0
 have hb10 : 4 < W.heap.size := by
  cases hh : W.heap[4]? with
  | none => simp [World.cell?, hh] at hc10_
  | some o => exact (Array.getElem?_eq_some_iff.1 hh).1
 have hL11 := hL10.tail
 obtain ⟨e11, s11, hv11, hq11, hs11, hr11⟩ := Go.laidRowYtnncjgoogjookaaDoor hL11 g11 gt11 Tryd.underlying27 rowES Tryd.underlying85 Tryd.underlying87 rfl rfl Tryd.underlying9 cellsES cellsS
 have hc11_ := World.var?_cell g11 hv11 0
 have hb11 : 6 < W.heap.size := by
  cases hh : W.heap[6]? with
  | none => simp [World.cell?, hh] at hc11_
  | some o => exact (Array.getElem?_eq_some_iff.1 hh).1
 have hL12 := hL11.tail
 obtain ⟨e12, s12, hv12, hq12, hs12, hr12⟩ := Go.laidRowYtnncjgoogjookaaDoor hL12 g12 gt12 Tryd.underlying27 rowES Tryd.underlying85 Tryd.underlying87 rfl rfl Tryd.underlying9 cellsES cellsS
 have hc12_ := World.var?_cell g12 hv12 0
 have hb12 : 5 < W.heap.size := by
  cases hh : W.heap[5]? with
  | none => simp [World.cell?, hh] at hc12_
  | some o => exact (Array.getElem?_eq_some_iff.1 hh).1
 have hL13 := hL12.tail
 obtain ⟨e13, s13, hv13, hq13, hs13, hr13⟩ := Go.laidRowYtnncjgoogjookaaDoor hL13 g13 gt13 Tryd.underlying27 rowES Tryd.underlying85 Tryd.underlying87 rfl rfl Tryd.underlying9 cellsES cellsS
 have hc13_ := World.var?_cell g13 hv13 0
 have hb13 : 1 < W.heap.size := by
  cases hh : W.heap[1]? with
  | none => simp [World.cell?, hh] at hc13_
  | some o => exact (Array.getElem?_eq_some_iff.1 hh).1
 have hKin : Go.Proofs.YtnncjgoogjookaaDoor.Kin W := Go.Proofs.YtnncjgoogjookaaDoor.Rxw.kin_of ⟨e8, s8, (show W.cell? ⟨0, 0, none⟩ = some (.iface 85 (.pointer (some e8))) from by simpa using hc8_), hb8, hq8, hs8, hr8⟩ ⟨e13, s13, (show W.cell? ⟨1, 0, none⟩ = some (.iface 85 (.pointer (some e13))) from by simpa using hc13_), hb13, hq13, hs13, hr13⟩ ⟨e7, s7, (show W.cell? ⟨2, 0, none⟩ = some (.iface 85 (.pointer (some e7))) from by simpa using hc7_), hb7, hq7, hs7, hr7⟩ ⟨e9, s9, (show W.cell? ⟨3, 0, none⟩ = some (.iface 85 (.pointer (some e9))) from by simpa using hc9_), hb9, hq9, hs9, hr9⟩ ⟨e10, s10, (show W.cell? ⟨4, 0, none⟩ = some (.iface 85 (.pointer (some e10))) from by simpa using hc10_), hb10, hq10, hs10, hr10⟩ ⟨e11, s11, (show W.cell? ⟨6, 0, none⟩ = some (.iface 85 (.pointer (some e11))) from by simpa using hc11_), hb11, hq11, hs11, hr11⟩ ⟨e12, s12, (show W.cell? ⟨5, 0, none⟩ = some (.iface 85 (.pointer (some e12))) from by simpa using hc12_), hb12, hq12, hs12, hr12⟩ ⟨e4, s4, (show W.cell? ⟨9, 0, none⟩ = some (.iface 85 (.pointer (some e4))) from by simpa using hc4_), hb4, hq4, hs4, hr4⟩ ⟨e3, s3, (show W.cell? ⟨10, 0, none⟩ = some (.iface 85 (.pointer (some e3))) from by simpa using hc3_), hb3, hq3, hs3, hr3⟩ ⟨e5, s5, (show W.cell? ⟨7, 0, none⟩ = some (.iface 85 (.pointer (some e5))) from by simpa using hc5_), hb5, hq5, hs5, hr5⟩ ⟨e6, s6, (show W.cell? ⟨8, 0, none⟩ = some (.iface 85 (.pointer (some e6))) from by simpa using hc6_), hb6, hq6, hs6, hr6⟩
 have hStd : Go.Proofs.YtnncjgoogjookaaDoor.Std W := ⟨⟨_, _, (by simpa using hc4_)⟩, hb4, ⟨_, _, (by simpa using hc3_)⟩, hb3⟩
 clear hA0 hval0 hsz0
 obtain ⟨kk, hpure⟩ := Go.Proofs.YtnncjgoogjookaaDoor.PX.pure_KindOfNext a0 a1
 refine (Go.Proofs.YtnncjgoogjookaaDoor.PX.laws_FnSemverKindOfNext.calls kk a0 a1 true W  hKin hStd hpure).mono fun e W' ⟨he, bel⟩ => ?_
 subst he
 exact ⟨_, rfl, _, _, _, [], _, [], hW', trodAll_mk1 (shut_bool Tryd.underlying4 _), (trodAll_cons_mk (shut_string Tryd.underlying9 y0) (trodAll_cons_mk (shut_string Tryd.underlying9 y1) trodAll_mk0)), rfl, bel.frame _, fun h => by cases h⟩

theorem over : Rows.fnSemverKindOfNextRow.holds Tryd.pinned (OpenSpec.ofChange Rows.fnSemverKindOfNextSpec) :=
  OpenClaim.holds_of_wide 3 Tryd.f3 rfl rfl rfl rfl rfl rfl rfl ⟨rfl, rfl, rfl, rfl, rfl⟩ rfl rfl rfl rfl rfl (by kernel_rfl) Tryd.func3 (by kernel_rfl)
    (of_decide_eq_true (by kernel_rfl)) (by unfold Func.isWrapper; first | (rw [if_pos (by decide +kernel)]; kernel_rfl) | (rw [if_neg (by decide +kernel)]; exact ⟨rfl, rfl⟩))
    (fun os started H enc _ => lifted os started H enc)

theorem card : Rows.FnSemverKindOfNextCardSaid :=
  Claim7.holds_tied_plain_at .later [] [.data, .data, .data, .sentinel, .sentinel, .sentinel, .sentinel, .sentinel, .sentinel, .sentinel, .sentinel, .sentinel, .sentinel, .sentinel] true (true, "ceb3d482cc498f979f41882b7f28b349d259bd3f5802f95cccffacf152350d47") true
    over (fun _ h => by cases h) (by kernel_rfl) (fun _ h => by cases h) fnSemverKindOfNext_row_tie rfl ⟨rfl, rfl⟩ (by kernel_rfl) rfl
    (fun f fn hf hfn => by
      obtain rfl : f = 3 := Option.some.inj ((show Tryd.prog.funcNamed "pub-timebook/laws.FnSemverKindOfNext" = some 3 by kernel_rfl).symm.trans hf) |>.symm
      obtain rfl : fn = Tryd.f3 := (Option.some.inj (Tryd.func3.symm.trans hfn)).symm
      exact ⟨by kernel_rfl, fun j t ht => by
        rw [Tryd.params3] at ht
        have hm : t ∈ [9, 9] := by simpa using Array.mem_of_getElem? ht
        have hall : ([9, 9].all fun u => !Tryd.prog.wantsStandIn u) = true := by kernel_rfl
        exact (show Tryd.prog.wantsStandIn t = false by simpa using List.all_eq_true.1 hall t hm)⟩)
    (by kernel_rfl)

end Go.Proofs.YtnncjgoogjookaaDoor.cardFnSemverKindOfNext

namespace Go.Proofs.YtnncjgoogjookaaDoor

theorem fnSemverKindOfNext_holds : Rows.FnSemverKindOfNextCardSaid := cardFnSemverKindOfNext.card

#print axioms fnSemverKindOfNext_holds

end Go.Proofs.YtnncjgoogjookaaDoor
