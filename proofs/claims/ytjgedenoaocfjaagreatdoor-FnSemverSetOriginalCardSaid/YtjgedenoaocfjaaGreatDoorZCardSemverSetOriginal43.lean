/- The row and the tied card of FnSemverSetOriginal, out of its printed walk and its plain law. For every input that the statement lets in. -/
import Derived.Test.YtjgedenoaocfjaaGreatDoorZCardSemverSetOriginal7
import Derived.Test.YtjgedenoaocfjaaGreatDoorZCardSemverSetOriginal42
import Derived.Test.YtjgedenoaocfjaaGreatDoorRows
import Derived.Test.YtjgedenoaocfjaaGreatDoorTie
import Derived.Test.YtjgedenoaocfjaaGreatDoorCards
import Derived.ProofKit
import Derived.OpenShut
import Derived.ShutString
import Derived.SizedLaws
import Derived.ChangeOld
import Derived.Below
import Derived.Carry
import Derived.LaidMore
import Derived.LaidLaws
import Derived.Stop.Joined
import Derived.Stop.LaidErr
import Derived.SevenTiedAt
import Derived.LaidHandle
import Derived.MakeChecks
import Derived.Lib.LaidTab
import Derived.Lib.SmallJoins
import Derived.ChangeArms
import Derived.Deep.Slices
import Derived.WideShapes
namespace Go.Proofs.YtjgedenoaocfjaaGreatDoor.Opn
end Go.Proofs.YtjgedenoaocfjaaGreatDoor.Opn
namespace Go.Proofs.YtjgedenoaocfjaaGreatDoor.cardFnSemverSetOriginal

open Go.ChangeShapes Go.WideShapes Go.ChangeAt Go.RowKit Go.WideMaps Go.WideElems Go.Proofs.YtjgedenoaocfjaaGreatDoor.Opn

open Go.ChangeMaps (open_string shut_string)

open Go.Proofs.YtjgedenoaocfjaaGreatDoorW.PrintWords Go.Proofs.YtjgedenoaocfjaaGreatDoorW.PrintLast Go.Proofs.YtjgedenoaocfjaaGreatDoorW.PrintMore

set_option linter.unusedVariables false

theorem own : ownKnob Tryz.prog.godebug = none := by kernel_rfl

theorem laidOut : laidOutB Tryz.prog = true := by kernel_rfl

abbrev LL : List (String × DataW Unit) := [("math/bits.deBruijn32tab", Rows.laid_math_bits_deBruijn32tab), ("math/bits.deBruijn64tab", Rows.laid_math_bits_deBruijn64tab), ("internal/strconv.uint64pow10", Rows.laid_internal_strconv_uint64pow10), ("strconv.ErrRange", Rows.laid_strconv_ErrRange), ("strconv.ErrSyntax", Rows.laid_strconv_ErrSyntax), ("pub-timebook/pub/semver.ErrInvalidSemVer", Rows.laid_pub_timebook_pub_semver_ErrInvalidSemVer), ("pub-timebook/pub/semver.ErrSegmentStartsZero", Rows.laid_pub_timebook_pub_semver_ErrSegmentStartsZero), ("pub-timebook/pub/semver.ErrInvalidMetadata", Rows.laid_pub_timebook_pub_semver_ErrInvalidMetadata), ("pub-timebook/pub/semver.ErrInvalidPrerelease", Rows.laid_pub_timebook_pub_semver_ErrInvalidPrerelease), ("pub-timebook/pub/semver.ErrVersionTooLong", Rows.laid_pub_timebook_pub_semver_ErrVersionTooLong)]

theorem door_met (os : Os) (args : Array Value) : laidMetH Tryz.prog LL ((World.doorLaid Tryz.prog 205 os).forCall (fun _ _ => 0) ⟨#[], args, []⟩).memory :=
  laidMetH_of_parts3 (fuel := 8) (laidMet_of_run' 8 (by kernel_rfl) (by kernel_rfl)) (by kernel_rfl) (by kernel_rfl)

theorem star : "*" ++ "errors.errorString" = "*errors.errorString" := by decide

theorem rowES (u : TypeId) (h : Tryz.prog.typeName? 3 u = some "*errors.errorString") : u = 126 :=
  typeName_ptr_named (nm := "errors.errorString") (by rw [star]; kernel_rfl) (by kernel_rfl) (by decide) u (by rw [star]; exact h)

theorem cellsES : Tryz.prog.cellsOf 128 = 1 := by kernel_rfl

theorem cellsS : Tryz.prog.cellsOf 9 = 1 := by kernel_rfl

theorem g3 : Tryz.prog.globalNamed "strconv.ErrRange" = some 8 := by kernel_rfl

theorem gt3 : (Tryz.prog.globals[8]?).map (·.type) = some 56 := by kernel_rfl

theorem g4 : Tryz.prog.globalNamed "strconv.ErrSyntax" = some 7 := by kernel_rfl

theorem gt4 : (Tryz.prog.globals[7]?).map (·.type) = some 56 := by kernel_rfl

theorem g5 : Tryz.prog.globalNamed "pub-timebook/pub/semver.ErrInvalidSemVer" = some 2 := by kernel_rfl

theorem gt5 : (Tryz.prog.globals[2]?).map (·.type) = some 56 := by kernel_rfl

theorem g6 : Tryz.prog.globalNamed "pub-timebook/pub/semver.ErrSegmentStartsZero" = some 4 := by kernel_rfl

theorem gt6 : (Tryz.prog.globals[4]?).map (·.type) = some 56 := by kernel_rfl

theorem g7 : Tryz.prog.globalNamed "pub-timebook/pub/semver.ErrInvalidMetadata" = some 5 := by kernel_rfl

theorem gt7 : (Tryz.prog.globals[5]?).map (·.type) = some 56 := by kernel_rfl

theorem g8 : Tryz.prog.globalNamed "pub-timebook/pub/semver.ErrInvalidPrerelease" = some 6 := by kernel_rfl

theorem gt8 : (Tryz.prog.globals[6]?).map (·.type) = some 56 := by kernel_rfl

theorem g9 : Tryz.prog.globalNamed "pub-timebook/pub/semver.ErrVersionTooLong" = some 1 := by kernel_rfl

theorem gt9 : (Tryz.prog.globals[1]?).map (·.type) = some 56 := by kernel_rfl

set_option maxRecDepth 100000 in
set_option maxHeartbeats 1000000 in
theorem lifted (os : Os) (started : os.Started) (H : Type) (enc : TypeId × Value → H) :
  ReturnsInHanded {} Tryz.checked os 5 .any (fun w args => (Rows.fnSemverSetOriginalSpec.pre enc Tryz.prog Tryz.f5 [] false w args ∧ laidMetH Tryz.prog LL w) ∧ sizedMet enc Tryz.prog Tryz.f5 (OpenSpec.ofChange Rows.fnSemverSetOriginalSpec) false w args)
   (Rows.fnSemverSetOriginalSpec.post enc Tryz.prog Tryz.f5 false true false false) := by
 refine returnsInHanded_of_change_and (C := Tryz.checked) (X := fun w _ => laidMetH Tryz.prog LL w) (fun _ _ _ hh h => h.of_heap hh) own started (by kernel_rfl) Tryz.func5
  (ChangeSpec.witness_shaped (enc := enc) (C := Tryz.checked) (os := os) (X := fun w _ => laidMetH Tryz.prog LL w) false (World.doorLaid Tryz.prog 205 os) #[.string ByteArray.empty, .string ByteArray.empty, .string ByteArray.empty] 8 rfl (World.shaped_of_RefB (by kernel_rfl) (by kernel_rfl)) (by kernel_rfl) (by kernel_rfl) (by kernel_rfl) (door_met os _)) ?_
 intro W base args ds gs before hval0 hW hcnd hsz0 hL _
 have hval : ∀ (j : Nat) t v, Tryz.f5.params[j]? = some t → args[j]? = some v → Value.okWide Tryz.prog W .any base t v := hval0
 have hW' := hW
 obtain ⟨p, q, hA0, hV, rfl, hfz, hnd⟩ := hW
 have hA : DataW.TrodAll enc Tryz.prog W 0 (fun _ => true) true Tryz.f5.params.toList args.toList ds p := hA0
 rw [Tryz.params5] at hA hval
 obtain ⟨v0, vs0, d0, ds0, p0, q0, hargs, rfl, rfl, h0, r0⟩ := trodAll_cons hA
 obtain ⟨v1, vs1, d1, ds1, p1, q1, rfl, rfl, rfl, h1, r1⟩ := trodAll_cons r0
 obtain ⟨v2, vs2, d2, ds2, p2, q2, rfl, rfl, rfl, h2, r2⟩ := trodAll_cons r1
 obtain ⟨rfl, rfl, rfl⟩ := trodAll_nil r2
 obtain rfl : args = #[v0, v1, v2] := by cases args; simp_all
 obtain ⟨rfl, rfl⟩ := trodVars_none hV
 obtain ⟨a0, rfl, rfl, rfl, y0⟩ := open_string Tryz.underlying9 (hval 0 9 v0 rfl rfl) h0
 obtain ⟨a1, rfl, rfl, rfl, y1⟩ := open_string Tryz.underlying9 (hval 1 9 v1 rfl rfl) h1
 obtain ⟨a2, rfl, rfl, rfl, y2⟩ := open_string Tryz.underlying9 (hval 2 9 v2 rfl rfl) h2
 have hL0 : laidMet Tryz.prog LL W := by rw [← MakeChecks.laidMetH_plain _ _ _ (by kernel_rfl)]; exact hL
 have hL1 := hL0.tail
 have hL2 := hL1.tail
 have ht2 : Lib.TabIs Tryz.prog W "internal/strconv.uint64pow10" .u64 [1, 10, 100, 1000, 10000, 100000, 1000000, 10000000, 100000000, 1000000000, 10000000000, 100000000000, 1000000000000, 10000000000000, 100000000000000, 1000000000000000, 10000000000000000, 100000000000000000, 1000000000000000000, 10000000000000000000] := Lib.tabIs_of_head (g := 9) (by kernel_rfl) (t := 153) (by kernel_rfl) Tryz.underlying153 Tryz.underlying22 (by kernel_rfl) (by kernel_rfl) hL2
 have hL3 := hL2.tail
 obtain ⟨e3, s3, hv3, _, _, _⟩ := laid_sentinel hL3 g3 gt3 Tryz.underlying56 rowES Tryz.underlying126 Tryz.underlying128 rfl rfl Tryz.underlying9 cellsES cellsS
 have hc3_ := World.var?_cell g3 hv3 0
 have hb3 : 8 < W.heap.size := by
  cases hh : W.heap[8]? with
  | none => simp [World.cell?, hh] at hc3_
  | some o => exact (Array.getElem?_eq_some_iff.1 hh).1
 have hL4 := hL3.tail
 obtain ⟨e4, s4, hv4, _, _, _⟩ := laid_sentinel hL4 g4 gt4 Tryz.underlying56 rowES Tryz.underlying126 Tryz.underlying128 rfl rfl Tryz.underlying9 cellsES cellsS
 have hc4_ := World.var?_cell g4 hv4 0
 have hb4 : 7 < W.heap.size := by
  cases hh : W.heap[7]? with
  | none => simp [World.cell?, hh] at hc4_
  | some o => exact (Array.getElem?_eq_some_iff.1 hh).1
 have hL5 := hL4.tail
 obtain ⟨e5, s5, hv5, _, _, _⟩ := laid_sentinel hL5 g5 gt5 Tryz.underlying56 rowES Tryz.underlying126 Tryz.underlying128 rfl rfl Tryz.underlying9 cellsES cellsS
 have hc5_ := World.var?_cell g5 hv5 0
 have hb5 : 2 < W.heap.size := by
  cases hh : W.heap[2]? with
  | none => simp [World.cell?, hh] at hc5_
  | some o => exact (Array.getElem?_eq_some_iff.1 hh).1
 have hL6 := hL5.tail
 obtain ⟨e6, s6, hv6, _, _, _⟩ := laid_sentinel hL6 g6 gt6 Tryz.underlying56 rowES Tryz.underlying126 Tryz.underlying128 rfl rfl Tryz.underlying9 cellsES cellsS
 have hc6_ := World.var?_cell g6 hv6 0
 have hb6 : 4 < W.heap.size := by
  cases hh : W.heap[4]? with
  | none => simp [World.cell?, hh] at hc6_
  | some o => exact (Array.getElem?_eq_some_iff.1 hh).1
 have hL7 := hL6.tail
 obtain ⟨e7, s7, hv7, _, _, _⟩ := laid_sentinel hL7 g7 gt7 Tryz.underlying56 rowES Tryz.underlying126 Tryz.underlying128 rfl rfl Tryz.underlying9 cellsES cellsS
 have hc7_ := World.var?_cell g7 hv7 0
 have hb7 : 5 < W.heap.size := by
  cases hh : W.heap[5]? with
  | none => simp [World.cell?, hh] at hc7_
  | some o => exact (Array.getElem?_eq_some_iff.1 hh).1
 have hL8 := hL7.tail
 obtain ⟨e8, s8, hv8, _, _, _⟩ := laid_sentinel hL8 g8 gt8 Tryz.underlying56 rowES Tryz.underlying126 Tryz.underlying128 rfl rfl Tryz.underlying9 cellsES cellsS
 have hc8_ := World.var?_cell g8 hv8 0
 have hb8 : 6 < W.heap.size := by
  cases hh : W.heap[6]? with
  | none => simp [World.cell?, hh] at hc8_
  | some o => exact (Array.getElem?_eq_some_iff.1 hh).1
 have hL9 := hL8.tail
 obtain ⟨e9, s9, hv9, _, _, _⟩ := laid_sentinel hL9 g9 gt9 Tryz.underlying56 rowES Tryz.underlying126 Tryz.underlying128 rfl rfl Tryz.underlying9 cellsES cellsS
 have hc9_ := World.var?_cell g9 hv9 0
 have hb9 : 1 < W.heap.size := by
  cases hh : W.heap[1]? with
  | none => simp [World.cell?, hh] at hc9_
  | some o => exact (Array.getElem?_eq_some_iff.1 hh).1
 have hPow : Go.Proofs.YtjgedenoaocfjaaGreatDoor.Pow W := (by unfold Go.Proofs.YtjgedenoaocfjaaGreatDoor.Pow; rw [show Lib.pow10Tab = [1, 10, 100, 1000, 10000, 100000, 1000000, 10000000, 100000000, 1000000000, 10000000000, 100000000000, 1000000000000, 10000000000000, 100000000000000, 1000000000000000, 10000000000000000, 100000000000000000, 1000000000000000000, 10000000000000000000] from by decide +kernel]; exact ht2)
 have hSem : Go.Proofs.YtjgedenoaocfjaaGreatDoor.Sem W := ⟨⟨_, _, (by simpa using hc8_)⟩, hb8, ⟨_, _, (by simpa using hc6_)⟩, hb6, ⟨_, _, (by simpa using hc7_)⟩, hb7⟩
 have hStd : Go.Proofs.YtjgedenoaocfjaaGreatDoor.Std W := ⟨⟨_, _, (by simpa using hc4_)⟩, hb4, ⟨_, _, (by simpa using hc3_)⟩, hb3⟩
 clear hA0 hval0 hsz0
 obtain ⟨kk, hpure⟩ := Go.Proofs.YtjgedenoaocfjaaGreatDoor.PX.pure_SetOriginal a0 a1 a2
 refine (Go.Proofs.YtjgedenoaocfjaaGreatDoor.PX.laws_FnSemverSetOriginal.calls kk a0 a1 a2 true W  hPow hSem hStd hpure).mono fun e W' ⟨he, bel⟩ => ?_
 subst he
 exact ⟨_, rfl, _, _, _, [], _, [], hW', trodAll_mk1 (shut_bool Tryz.underlying4 _), (trodAll_cons_mk (shut_string Tryz.underlying9 y0) (trodAll_cons_mk (shut_string Tryz.underlying9 y1) (trodAll_cons_mk (shut_string Tryz.underlying9 y2) trodAll_mk0))), rfl, bel.frame _, fun h => by cases h⟩

theorem over : Rows.fnSemverSetOriginalRow.holds Tryz.pinned (OpenSpec.ofChange Rows.fnSemverSetOriginalSpec) :=
  OpenClaim.holds_of_wide 5 Tryz.f5 rfl rfl rfl rfl rfl rfl rfl ⟨rfl, rfl, rfl, rfl, rfl⟩ rfl rfl rfl rfl rfl (by kernel_rfl) Tryz.func5 (by kernel_rfl)
    (of_decide_eq_true (by kernel_rfl)) (by unfold Func.isWrapper; first | (rw [if_pos (by decide +kernel)]; kernel_rfl) | (rw [if_neg (by decide +kernel)]; exact ⟨rfl, rfl⟩))
    (fun os started H enc _ => lifted os started H enc)

theorem card : Rows.FnSemverSetOriginalCardSaid :=
  Claim7.holds_tied_plain_at .later [] [.data, .data, .data, .sentinel, .sentinel, .sentinel, .sentinel, .sentinel, .sentinel, .sentinel] true (true, "31b9b6ec6a4ec19a278927d15283dbb3ac6b3efd5c641b711ad7431a2256757f") true
    over (fun _ h => by cases h) (by kernel_rfl) (fun _ h => by cases h) fnSemverSetOriginal_row_tie rfl ⟨rfl, rfl⟩ (by kernel_rfl) rfl
    (fun f fn hf hfn => by
      obtain rfl : f = 5 := Option.some.inj ((show Tryz.prog.funcNamed "pub-timebook/laws.FnSemverSetOriginal" = some 5 by kernel_rfl).symm.trans hf) |>.symm
      obtain rfl : fn = Tryz.f5 := (Option.some.inj (Tryz.func5.symm.trans hfn)).symm
      exact ⟨by kernel_rfl, fun j t ht => by
        rw [Tryz.params5] at ht
        have hm : t ∈ [9, 9, 9] := by simpa using Array.mem_of_getElem? ht
        have hall : ([9, 9, 9].all fun u => !Tryz.prog.wantsStandIn u) = true := by kernel_rfl
        exact (show Tryz.prog.wantsStandIn t = false by simpa using List.all_eq_true.1 hall t hm)⟩)
    (by kernel_rfl)

end Go.Proofs.YtjgedenoaocfjaaGreatDoor.cardFnSemverSetOriginal

namespace Go.Proofs.YtjgedenoaocfjaaGreatDoor

theorem fnSemverSetOriginal_holds : Rows.FnSemverSetOriginalCardSaid := cardFnSemverSetOriginal.card

#print axioms fnSemverSetOriginal_holds

end Go.Proofs.YtjgedenoaocfjaaGreatDoor
