/- The row and the tied card of FnSemverLooseStrict, out of its printed walk and its plain law. For every input that the statement lets in. -/
import Derived.Test.YtjgedenoaocfjaaGreatDoorZCardSemverLooseStrict0
import Derived.Test.YtjgedenoaocfjaaGreatDoorZCardSemverLooseStrict9
import Derived.Test.YtjgedenoaocfjaaGreatDoorZCardSemverLooseStrict15
import Derived.Test.YtjgedenoaocfjaaGreatDoorZCardSemverLooseStrict22
import Derived.Deep.RegionHeld3
import Derived.RegionTactic
namespace Go.Proofs.YtjgedenoaocfjaaGreatDoor.Base
end Go.Proofs.YtjgedenoaocfjaaGreatDoor.Base
namespace Go.Proofs.YtjgedenoaocfjaaGreatDoor.Bt
end Go.Proofs.YtjgedenoaocfjaaGreatDoor.Bt
namespace Go.Proofs.YtjgedenoaocfjaaGreatDoor.L
end Go.Proofs.YtjgedenoaocfjaaGreatDoor.L
namespace Go.Proofs.YtjgedenoaocfjaaGreatDoor.PX
end Go.Proofs.YtjgedenoaocfjaaGreatDoor.PX
namespace Go.Proofs.YtjgedenoaocfjaaGreatDoor.KX

open Go.RowKit Go.Lib Go.Sort Go.Proofs Go.Proofs.YtjgedenoaocfjaaGreatDoor Go.Proofs.YtjgedenoaocfjaaGreatDoor.Base Go.Proofs.YtjgedenoaocfjaaGreatDoor.L Go.Proofs.YtjgedenoaocfjaaGreatDoor.Bt Go.Proofs.YtjgedenoaocfjaaGreatDoor.PX

open Go.Proofs.YtjgedenoaocfjaaGreatDoorW.PrintWords Go.Proofs.YtjgedenoaocfjaaGreatDoorW.PrintLast Go.Proofs.YtjgedenoaocfjaaGreatDoorW.PrintMore

attribute [local go_sem] setCell_drewN alloc_drewN

/-- The version at block g is told by its parts. -/
def PlainRet (w : World) (a b c : Int) (p m : ByteArray) (e : Ending) (w' : World) : Prop := e = .returned (.agg #[.int .u64 a, .int .u64 b, .int .u64 c, .string p, .string m]) ∧ Below w.heap.size w w'

set_option maxHeartbeats 8000000 in
set_option maxRecDepth 100000 in
theorem plainVer (g : Nat) (a b c : Int) (p m o : ByteArray) (w : World) (hv : At w g [.int .u64 a, .int .u64 b, .int .u64 c, .string p, .string m, .string o]) :
    Calls Tryz.prog 55 #[.pointer (some ⟨g, 0, none⟩)] w (PlainRet w a b c p m) := by
  have C1 := Lib.hid (fun W => semver_Version_Major.calls a b c p m o _ W rfl)
  have C2 := Lib.hid (fun W => semver_Version_Minor.calls a b c p m o _ W rfl)
  have C3 := Lib.hid (fun W => semver_Version_Patch.calls a b c p m o _ W rfl)
  have C4 := Lib.hid (fun W => semver_Version_Prerelease.calls a b c p m o _ W rfl)
  have C5 := Lib.hid (fun W => semver_Version_Metadata.calls a b c p m o _ W rfl)
  have HV := Aside0.mk hv
  have h0 := hv.cell 0 _ rfl; have h1 := hv.cell 1 _ rfl; have h2 := hv.cell 2 _ rfl; have h3 := hv.cell 3 _ rfl; have h4 := hv.cell 4 _ rfl; have h5 := hv.cell 5 _ rfl
  have hl := hv.lt
  clear hv
  go_enter Tryz.func55, Tryz.ntmps55
  go_wp2_with fail
  generalize hW0 : World.alloc w _ = w0
  have v0 : At w0 g [.int .u64 a, .int .u64 b, .int .u64 c, .string p, .string m, .string o] := by
    rw [← hW0]
    exact HV.out.alloc _
  have z0 : Box w0 w.heap.size [.int .u64 0, .int .u64 0, .int .u64 0, .string ⟨#[]⟩, .string ⟨#[]⟩] := by
    rw [← hW0]
    exact Box.new' _ _ _ _ rfl
  have b0 : Below w.heap.size w w0 := by
    rw [← hW0]
    go_grown
  have HV0 := Aside0.mk v0
  have HZ0 := Aside0.mk z0
  have HB0 := Aside0.mk b0
  clear v0 z0 b0 hW0 h0 h1 h2 h3 h4 h5
  go_region_held3 (fun W' => W'.cell? ⟨g, 0, none⟩ = some (.int .u64 a) ∧ W'.cell? ⟨g, 1, none⟩ = some (.int .u64 b) ∧ W'.cell? ⟨g, 2, none⟩ = some (.int .u64 c) ∧ W'.cell? ⟨g, 3, none⟩ = some (.string p) ∧ W'.cell? ⟨g, 4, none⟩ = some (.string m) ∧ W'.cell? ⟨g, 5, none⟩ = some (.string o)) (first | (with_reducible exact HV0.out.six) | (with_reducible exact HV5.out.six) | (with_reducible exact HV4.out.six) | (with_reducible exact HV3.out.six) | (with_reducible exact HV2.out.six) | (with_reducible exact HV1.out.six) | (with_reducible exact HV0.out.drew.six) | (with_reducible exact (((((HV5.out.far _ (by simp; omega) _).far _ (by simp; omega) _).far _ (by simp; omega) _).far _ (by simp; omega) _).far _ (by simp; omega) _).six) | (trace_state; go_keep)) (first
    | (go_at_call 51; (with_reducible refine (C1.out _).mono ?_); rintro e w1 ⟨rfl, hd1⟩; have hb1 := undrew hd1; clear hd1; have HV1 := Aside0.mk (HV0.out.below hb1); have HZ1 := Aside0.mk (HZ0.out.below hb1); have HB1 := Aside0.mk (HB0.out.trans (hb1.mono HB0.out.size)); clear hb1)
    | (go_at_call 52; (with_reducible refine (C2.out _).mono ?_); rintro e w2 ⟨rfl, hb2⟩; have HV2 := Aside0.mk (HV1.out.below hb2); have HZ2 := Aside0.mk (HZ1.out.below hb2); have HB2 := Aside0.mk (HB1.out.trans (hb2.mono HB1.out.size)); clear hb2)
    | (go_at_call 53; (with_reducible refine (C3.out _).mono ?_); rintro e w3 ⟨rfl, hb3⟩; have HV3 := Aside0.mk (HV2.out.below hb3); have HZ3 := Aside0.mk (HZ2.out.below hb3); have HB3 := Aside0.mk (HB2.out.trans (hb3.mono HB2.out.size)); clear hb3)
    | (go_at_call 54; (with_reducible refine (C4.out _).mono ?_); rintro e w4 ⟨rfl, hb4⟩; have HV4 := Aside0.mk (HV3.out.below hb4); have HZ4 := Aside0.mk (HZ3.out.below hb4); have HB4 := Aside0.mk (HB3.out.trans (hb4.mono HB3.out.size)); clear hb4)
    | (go_at_call 74; (with_reducible refine (C5.out _).mono ?_); rintro e w5 ⟨rfl, hb5⟩; have HV5 := Aside0.mk (HV4.out.below hb5); have HZ5 := Aside0.mk (HZ4.out.below hb5); have HB5 := Aside0.mk (HB4.out.trans (hb5.mono HB4.out.size)); clear hb5; have e0 := HZ5.out.cell 0 _ rfl; have e1 := HZ5.out.cell 1 _ rfl; have e2 := HZ5.out.cell 2 _ rfl; have e3 := HZ5.out.cell 3 _ rfl; have e4 := HZ5.out.cell 4 _ rfl; have fz := HZ5.out.free; have hz := HZ5.out.lt))
  all_goals
    clear e0 e1 e2 e3 e4 fz hz
    generalize hW6 : World.setCell _ _ _ = w6
    have Z6 : Box w6 w.heap.size [.int .u64 a, .int .u64 b, .int .u64 c, .string p, .string m] := by
      rw [← hW6]
      exact ((((HZ5.out.set 0 (by simp) _).set 1 (by simp) _).set 2 (by simp) _).set 3 (by simp) _).set 4 (by simp) _
    have b6 : Below w.heap.size w w6 := by
      have hb := HB5.out
      have := hb.size
      rw [← hW6]
      exact ((((hb.setCell (by simp) _).setCell (by simp) _).setCell (by simp) _).setCell (by simp) _).setCell (by simp) _
    clear hW6
    have r0 := Z6.cell 0 _ rfl; have r1 := Z6.cell 1 _ rfl; have r2 := Z6.cell 2 _ rfl; have r3 := Z6.cell 3 _ rfl; have r4 := Z6.cell 4 _ rfl
    go_wp2_with fail
    exact bodyPost_ret (v := .agg #[.int .u64 a, .int .u64 b, .int .u64 c, .string p, .string m]) (by simp [results, Tryz.results55, go_sem, r0, r1, r2, r3, r4]) rfl ⟨rfl, b6⟩

end Go.Proofs.YtjgedenoaocfjaaGreatDoor.KX
