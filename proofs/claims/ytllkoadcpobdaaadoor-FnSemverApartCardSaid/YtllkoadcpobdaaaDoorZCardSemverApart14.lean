/- The row and the tied card of FnSemverApart, out of its printed walk and its plain law. For every input that the statement lets in. -/
import Derived.Test.YtllkoadcpobdaaaDoorZCardSemverApart7
import Derived.Test.YtllkoadcpobdaaaDoorZCardSemverApart8
import Derived.Test.YtllkoadcpobdaaaDoorZCardSemverApart9
import Derived.Test.YtllkoadcpobdaaaDoorZCardSemverApart12
import Derived.Test.YtllkoadcpobdaaaDoorZCardSemverApart13
import Derived.BigQuiet
import Derived.Lib.QuietBelow
namespace Go.Proofs.YtllkoadcpobdaaaDoor.Base
end Go.Proofs.YtllkoadcpobdaaaDoor.Base
namespace Go.Proofs.YtllkoadcpobdaaaDoor.Bt
end Go.Proofs.YtllkoadcpobdaaaDoor.Bt
namespace Go.Proofs.YtllkoadcpobdaaaDoor.L
end Go.Proofs.YtllkoadcpobdaaaDoor.L
namespace Go.Proofs.YtllkoadcpobdaaaDoor.PX
end Go.Proofs.YtllkoadcpobdaaaDoor.PX
namespace Go.Proofs.YtllkoadcpobdaaaDoor.KX

open Go.RowKit Go.Lib Go.Proofs Go.Sort Go.Proofs.YtllkoadcpobdaaaDoor Go.Proofs.YtllkoadcpobdaaaDoor.Base Go.Proofs.YtllkoadcpobdaaaDoor.L Go.Proofs.YtllkoadcpobdaaaDoor.Bt Go.Proofs.YtllkoadcpobdaaaDoor.PX

open Go.Proofs.YtllkoadcpobdaaaDoorW.PrintWords Go.Proofs.YtllkoadcpobdaaaDoorW.PrintLast Go.Proofs.YtllkoadcpobdaaaDoorW.PrintMore

/-- What semver.Version).Equal answers, out of its tests: b0: (r == 0). -/
def vEqual_r (b0 : Bool) : Bool := b0

set_option maxHeartbeats 100000000 in
set_option maxRecDepth 100000 in
theorem vEqual_calls (x0 x1 x2 : Int) (xp xm xo : ByteArray) (y0 y1 y2 : Int) (yp ym yo : ByteArray) (bv bn : Nat) (r : Int) (w : World) (hV : At w bv [.int .u64 x0, .int .u64 x1, .int .u64 x2, .string xp, .string xm, .string xo]) (hN : At w bn [.int .u64 y0, .int .u64 y1, .int .u64 y2, .string yp, .string ym, .string yo]) (hStd : Std w) (KCM : Hid (∀ (W : World), At W bv [.int .u64 x0, .int .u64 x1, .int .u64 x2, .string xp, .string xm, .string xo] → At W bn [.int .u64 y0, .int .u64 y1, .int .u64 y2, .string yp, .string ym, .string yo] → Std W → Calls Tryd.prog 86 #[.pointer (some ⟨bv, 0, none⟩), .pointer (some ⟨bn, 0, none⟩)] W fun e w' => e = .returned (.int .i64 r) ∧ Below W.heap.size W w')) (hne : (binOp BinOp.eql 65 (Value.pointer (some ⟨bv, 0, none⟩)) (Value.pointer (some ⟨bn, 0, none⟩))).run Tryd.prog w = .ok (.bool false) w) :
    Calls Tryd.prog 66 #[.pointer (some ⟨bv, 0, none⟩), .pointer (some ⟨bn, 0, none⟩)] w (Ret1 w (vEqual_r (r == 0))) := by
  have HB0 := Aside0.mk (Below.refl w.heap.size w); have HS0 := Aside0.mk hStd; have HV0 := Aside0.mk hV; have HN0 := Aside0.mk hN; clear hStd hV hN
  obtain ⟨v0_0, v1_0, v2_0, v3_0, v4_0, v5_0⟩ := HV0.out.six
  obtain ⟨n0_0, n1_0, n2_0, n3_0, n4_0, n5_0⟩ := HN0.out.six
  go_enter Tryd.func66, Tryd.ntmps66
  go_wp2_with fail
  refine (KCM.out _ HV0.out HN0.out HS0.out).mono ?_
  rintro e w1 ⟨rfl, hb⟩
  clear v0_0 v1_0 v2_0 v3_0 v4_0 v5_0 n0_0 n1_0 n2_0 n3_0 n4_0 n5_0
  have HB1 := Aside0.mk (HB0.out.trans (hb.mono HB0.out.size)); have HS1 := Aside0.mk (HS0.out.below hb); have HV1 := Aside0.mk (HV0.out.below hb); have HN1 := Aside0.mk (HN0.out.below hb); clear hb HB0 HS0 HV0 HN0
  obtain ⟨v0_1, v1_1, v2_1, v3_1, v4_1, v5_1⟩ := HV1.out.six
  obtain ⟨n0_1, n1_1, n2_1, n3_1, n4_1, n5_1⟩ := HN1.out.six
  go_wp2_with fail
  go_ret
  exact ⟨rfl, HB1.out⟩

end Go.Proofs.YtllkoadcpobdaaaDoor.KX
namespace Go.Proofs.YtllkoadcpobdaaaDoor.KX

open Go.RowKit Go.Lib Go.Proofs Go.Sort Go.Proofs.YtllkoadcpobdaaaDoor Go.Proofs.YtllkoadcpobdaaaDoor.Base Go.Proofs.YtllkoadcpobdaaaDoor.L Go.Proofs.YtllkoadcpobdaaaDoor.Bt Go.Proofs.YtllkoadcpobdaaaDoor.PX

open Go.Proofs.YtllkoadcpobdaaaDoorW.PrintWords Go.Proofs.YtllkoadcpobdaaaDoorW.PrintLast Go.Proofs.YtllkoadcpobdaaaDoorW.PrintMore

/-- What semver.constraintNotEqual answers, out of its tests: b0: (xp.toList == []); b1: d; b2: (y0 == x0); b3: (y1 == x1); b4: mD; b5: (y2 == x2); b6: pD; b7: (yp.toList == []); b8: (cp == 0); b9: eqv; b10: pre. -/
def cNotEqual_r (b0 b1 b2 b3 b4 b5 b6 b7 b8 b9 b10 : Bool) : Bool := bif b0 then (bif b1 then (bif b2 then (bif b3 then (bif b4 then false else (bif b5 then (bif b6 then (bif b7 then false else (bif b8 then false else true)) else (bif b9 then false else true)) else (bif b6 then (bif b7 then false else (bif b8 then false else true)) else true))) else (bif b4 then false else true)) else true) else (bif b9 then false else true)) else (bif b10 then (bif b1 then (bif b2 then (bif b3 then (bif b4 then false else (bif b5 then (bif b6 then (bif b8 then false else true) else (bif b9 then false else true)) else (bif b6 then (bif b8 then false else true) else true))) else (bif b4 then false else true)) else true) else (bif b9 then false else true)) else false)

set_option maxHeartbeats 100000000 in
set_option maxRecDepth 100000 in
theorem cNotEqual_calls (x0 x1 x2 : Int) (xp xm xo : ByteArray) (y0 y1 y2 : Int) (yp ym yo : ByteArray) (og op : ByteArray) (bv bc bn : Nat) (mD d pD pre : Bool) (eqv : Bool) (cp : Int) (w : World) (hV : At w bv [.int .u64 x0, .int .u64 x1, .int .u64 x2, .string xp, .string xm, .string xo]) (hC : At w bc [.pointer (some ⟨bn, 0, none⟩), .string og, .string op, .bool mD, .bool d, .bool pD]) (hN : At w bn [.int .u64 y0, .int .u64 y1, .int .u64 y2, .string yp, .string ym, .string yo]) (hStd : Std w) (KEQ : Hid (∀ (W : World), At W bv [.int .u64 x0, .int .u64 x1, .int .u64 x2, .string xp, .string xm, .string xo] → At W bn [.int .u64 y0, .int .u64 y1, .int .u64 y2, .string yp, .string ym, .string yo] → Std W → Calls Tryd.prog 66 #[.pointer (some ⟨bv, 0, none⟩), .pointer (some ⟨bn, 0, none⟩)] W fun e w' => e = .returned (.bool eqv) ∧ Below W.heap.size W w')) (KCP : Hid (∀ (W : World), Std W → Calls Tryd.prog 108 #[.string xp, .string yp] W fun e w' => e = .returned (.int .i64 cp) ∧ Below W.heap.size W w'))  :
  Calls Tryd.prog 88 #[.pointer (some ⟨bv, 0, none⟩), .pointer (some ⟨bc, 0, none⟩), .bool pre] w (RetB w (cNotEqual_r (xp.toList == []) d (y0 == x0) (y1 == x1) mD (y2 == x2) pD (yp.toList == []) (cp == 0) eqv pre)) := by
 have HB0 := Aside0.mk (Below.refl w.heap.size w); have HS0 := Aside0.mk hStd; have HV0 := Aside0.mk hV; have HC0 := Aside0.mk hC; have HN0 := Aside0.mk hN; clear hStd hV hC hN
 obtain ⟨v0_0, v1_0, v2_0, v3_0, v4_0, v5_0⟩ := HV0.out.six
 obtain ⟨c0_0, c1_0, c2_0, c3_0, c4_0, c5_0⟩ := HC0.out.six
 obtain ⟨n0_0, n1_0, n2_0, n3_0, n4_0, n5_0⟩ := HN0.out.six
 go_enter Tryd.func88, Tryd.ntmps88
 go_wp2_with fail
 refine (semver_Version_Prerelease.calls x0 x1 x2 xp xm xo _ _ rfl).mono ?_
 rintro e w1 ⟨rfl, hb⟩
 clear v0_0 v1_0 v2_0 v3_0 v4_0 v5_0 c0_0 c1_0 c2_0 c3_0 c4_0 c5_0 n0_0 n1_0 n2_0 n3_0 n4_0 n5_0
 have HB1 := Aside0.mk (HB0.out.trans (hb.mono HB0.out.size)); have HS1 := Aside0.mk (HS0.out.below hb); have HV1 := Aside0.mk (HV0.out.below hb); have HC1 := Aside0.mk (HC0.out.below hb); have HN1 := Aside0.mk (HN0.out.below hb); clear hb HB0 HS0 HV0 HC0 HN0
 cases t0 : (xp.toList == []) with
 | true =>
  have t0' := bne_of t0
  replace t0' : (xp.toList != []) = false := t0'
  cases d with
  | true =>
   obtain ⟨v0_1, v1_1, v2_1, v3_1, v4_1, v5_1⟩ := HV1.out.six
   obtain ⟨c0_1, c1_1, c2_1, c3_1, c4_1, c5_1⟩ := HC1.out.six
   obtain ⟨n0_1, n1_1, n2_1, n3_1, n4_1, n5_1⟩ := HN1.out.six
   go_wp2_with fail
   clear v0_1 v1_1 v2_1 v3_1 v4_1 v5_1 c0_1 c1_1 c2_1 c3_1 c4_1 c5_1 n0_1 n1_1 n2_1 n3_1 n4_1 n5_1
   obtain ⟨v0_1, v1_1, v2_1, v3_1, v4_1, v5_1⟩ := HV1.out.sixR
   obtain ⟨c0_1, c1_1, c2_1, c3_1, c4_1, c5_1⟩ := HC1.out.sixR
   obtain ⟨n0_1, n1_1, n2_1, n3_1, n4_1, n5_1⟩ := HN1.out.sixR
   have c0 := fun d os => Calls.regrown_of (semver_Version_Major.calls y0 y1 y2 yp ym yo _ (grow (redrawn w1 d) os) rfl)
   have c1 := fun d os => Calls.regrown_of (semver_Version_Major.calls x0 x1 x2 xp xm xo _ (grow (redrawn w1 d) os) rfl)
   refine wp_region_quiet_below (by kernel_rfl) (by kernel_rfl) ?_
   repeat (first | go_big_quiet_step (first | exact c0 _ _ | exact c1 _ _) | quiet_step (first | exact c0 _ _ | exact c1 _ _))
   refine wpQuiet_nil ?_
   intro _ hw'; obtain ⟨⟨dq, osq⟩, hw''⟩ := hw'; subst hw''; clear c0 c1 v0_1 v1_1 v2_1 v3_1 v4_1 v5_1 c0_1 c1_1 c2_1 c3_1 c4_1 c5_1 n0_1 n1_1 n2_1 n3_1 n4_1 n5_1
   have hb := below_regrown w1 dq osq
   generalize grow (redrawn w1 dq) osq = w2 at *
   have HB2 := Aside0.mk (HB1.out.trans (hb.mono HB1.out.size)); have HS2 := Aside0.mk (HS1.out.below hb); have HV2 := Aside0.mk (HV1.out.below hb); have HC2 := Aside0.mk (HC1.out.below hb); have HN2 := Aside0.mk (HN1.out.below hb); clear hb HB1 HS1 HV1 HC1 HN1
   cases t2 : (y0 == x0) with
   | true =>
    have t2' := bne_of t2
    replace t2' : (y0 != x0) = false := t2'
    cases t3 : (y1 == x1) with
    | true =>
     have t3' := bne_of t3
     replace t3' : (y1 != x1) = false := t3'
     obtain ⟨v0_2, v1_2, v2_2, v3_2, v4_2, v5_2⟩ := HV2.out.six
     obtain ⟨c0_2, c1_2, c2_2, c3_2, c4_2, c5_2⟩ := HC2.out.six
     obtain ⟨n0_2, n1_2, n2_2, n3_2, n4_2, n5_2⟩ := HN2.out.six
     go_wp2_with fail
     clear v0_2 v1_2 v2_2 v3_2 v4_2 v5_2 c0_2 c1_2 c2_2 c3_2 c4_2 c5_2 n0_2 n1_2 n2_2 n3_2 n4_2 n5_2
     obtain ⟨v0_2, v1_2, v2_2, v3_2, v4_2, v5_2⟩ := HV2.out.sixR
     obtain ⟨c0_2, c1_2, c2_2, c3_2, c4_2, c5_2⟩ := HC2.out.sixR
     obtain ⟨n0_2, n1_2, n2_2, n3_2, n4_2, n5_2⟩ := HN2.out.sixR
     have c0 := fun d os => Calls.regrown_of (semver_Version_Minor.calls y0 y1 y2 yp ym yo _ (grow (redrawn w2 d) os) rfl)
     have c1 := fun d os => Calls.regrown_of (semver_Version_Minor.calls x0 x1 x2 xp xm xo _ (grow (redrawn w2 d) os) rfl)
     refine wp_region_quiet_below (by kernel_rfl) (by kernel_rfl) ?_
     repeat (first | go_big_quiet_step (first | exact c0 _ _ | exact c1 _ _) | quiet_step (first | exact c0 _ _ | exact c1 _ _))
     refine wpQuiet_nil ?_
     intro _ hw'; obtain ⟨⟨dq, osq⟩, hw''⟩ := hw'; subst hw''; clear c0 c1 v0_2 v1_2 v2_2 v3_2 v4_2 v5_2 c0_2 c1_2 c2_2 c3_2 c4_2 c5_2 n0_2 n1_2 n2_2 n3_2 n4_2 n5_2
     have hb := below_regrown w2 dq osq
     generalize grow (redrawn w2 dq) osq = w3 at *
     have HB3 := Aside0.mk (HB2.out.trans (hb.mono HB2.out.size)); have HS3 := Aside0.mk (HS2.out.below hb); have HV3 := Aside0.mk (HV2.out.below hb); have HC3 := Aside0.mk (HC2.out.below hb); have HN3 := Aside0.mk (HN2.out.below hb); clear hb HB2 HS2 HV2 HC2 HN2
     cases mD with
     | true =>
      obtain ⟨v0_3, v1_3, v2_3, v3_3, v4_3, v5_3⟩ := HV3.out.six
      obtain ⟨c0_3, c1_3, c2_3, c3_3, c4_3, c5_3⟩ := HC3.out.six
      obtain ⟨n0_3, n1_3, n2_3, n3_3, n4_3, n5_3⟩ := HN3.out.six
      go_wp2_with fail
      refine (errNew _ _).mono ?_
      rintro e w4 ⟨et3, ep3, rfl, hb⟩
      clear v0_3 v1_3 v2_3 v3_3 v4_3 v5_3 c0_3 c1_3 c2_3 c3_3 c4_3 c5_3 n0_3 n1_3 n2_3 n3_3 n4_3 n5_3
      have HB4 := Aside0.mk (HB3.out.trans (hb.mono HB3.out.size)); have HS4 := Aside0.mk (HS3.out.below hb); have HV4 := Aside0.mk (HV3.out.below hb); have HC4 := Aside0.mk (HC3.out.below hb); have HN4 := Aside0.mk (HN3.out.below hb); clear hb HB3 HS3 HV3 HC3 HN3
      obtain ⟨v0_4, v1_4, v2_4, v3_4, v4_4, v5_4⟩ := HV4.out.six
      obtain ⟨c0_4, c1_4, c2_4, c3_4, c4_4, c5_4⟩ := HC4.out.six
      obtain ⟨n0_4, n1_4, n2_4, n3_4, n4_4, n5_4⟩ := HN4.out.six
      go_wp2_with fail
      go_ret2
      exact ⟨_, (by first | rfl | (rw [t0, t2, t3]; rfl)), HB4.out⟩
     | false =>
      cases t5 : (y2 == x2) with
      | true =>
       have t5' := bne_of t5
       replace t5' : (y2 != x2) = false := t5'
       obtain ⟨v0_3, v1_3, v2_3, v3_3, v4_3, v5_3⟩ := HV3.out.six
       obtain ⟨c0_3, c1_3, c2_3, c3_3, c4_3, c5_3⟩ := HC3.out.six
       obtain ⟨n0_3, n1_3, n2_3, n3_3, n4_3, n5_3⟩ := HN3.out.six
       go_wp2_with fail
       clear v0_3 v1_3 v2_3 v3_3 v4_3 v5_3 c0_3 c1_3 c2_3 c3_3 c4_3 c5_3 n0_3 n1_3 n2_3 n3_3 n4_3 n5_3
       obtain ⟨v0_3, v1_3, v2_3, v3_3, v4_3, v5_3⟩ := HV3.out.sixR
       obtain ⟨c0_3, c1_3, c2_3, c3_3, c4_3, c5_3⟩ := HC3.out.sixR
       obtain ⟨n0_3, n1_3, n2_3, n3_3, n4_3, n5_3⟩ := HN3.out.sixR
       have c0 := fun d os => Calls.regrown_of (semver_Version_Patch.calls y0 y1 y2 yp ym yo _ (grow (redrawn w3 d) os) rfl)
       have c1 := fun d os => Calls.regrown_of (semver_Version_Patch.calls x0 x1 x2 xp xm xo _ (grow (redrawn w3 d) os) rfl)
       refine wp_region_quiet_below (by kernel_rfl) (by kernel_rfl) ?_
       repeat (first | go_big_quiet_step (first | exact c0 _ _ | exact c1 _ _) | quiet_step (first | exact c0 _ _ | exact c1 _ _))
       refine wpQuiet_nil ?_
       intro _ hw'; obtain ⟨⟨dq, osq⟩, hw''⟩ := hw'; subst hw''; clear c0 c1 v0_3 v1_3 v2_3 v3_3 v4_3 v5_3 c0_3 c1_3 c2_3 c3_3 c4_3 c5_3 n0_3 n1_3 n2_3 n3_3 n4_3 n5_3
       have hb := below_regrown w3 dq osq
       generalize grow (redrawn w3 dq) osq = w4 at *
       have HB4 := Aside0.mk (HB3.out.trans (hb.mono HB3.out.size)); have HS4 := Aside0.mk (HS3.out.below hb); have HV4 := Aside0.mk (HV3.out.below hb); have HC4 := Aside0.mk (HC3.out.below hb); have HN4 := Aside0.mk (HN3.out.below hb); clear hb HB3 HS3 HV3 HC3 HN3
       cases pD with
       | true =>
        obtain ⟨v0_4, v1_4, v2_4, v3_4, v4_4, v5_4⟩ := HV4.out.six
        obtain ⟨c0_4, c1_4, c2_4, c3_4, c4_4, c5_4⟩ := HC4.out.six
        obtain ⟨n0_4, n1_4, n2_4, n3_4, n4_4, n5_4⟩ := HN4.out.six
        go_wp2_with fail
        refine (semver_Version_Prerelease.calls x0 x1 x2 xp xm xo _ _ rfl).mono ?_
        rintro e w5 ⟨rfl, hb⟩
        clear v0_4 v1_4 v2_4 v3_4 v4_4 v5_4 c0_4 c1_4 c2_4 c3_4 c4_4 c5_4 n0_4 n1_4 n2_4 n3_4 n4_4 n5_4
        have HB5 := Aside0.mk (HB4.out.trans (hb.mono HB4.out.size)); have HS5 := Aside0.mk (HS4.out.below hb); have HV5 := Aside0.mk (HV4.out.below hb); have HC5 := Aside0.mk (HC4.out.below hb); have HN5 := Aside0.mk (HN4.out.below hb); clear hb HB4 HS4 HV4 HC4 HN4
        obtain ⟨v0_5, v1_5, v2_5, v3_5, v4_5, v5_5⟩ := HV5.out.six
        obtain ⟨c0_5, c1_5, c2_5, c3_5, c4_5, c5_5⟩ := HC5.out.six
        obtain ⟨n0_5, n1_5, n2_5, n3_5, n4_5, n5_5⟩ := HN5.out.six
        go_wp2_with fail
        refine (semver_Version_Prerelease.calls y0 y1 y2 yp ym yo _ _ rfl).mono ?_
        rintro e w6 ⟨rfl, hb⟩
        clear v0_5 v1_5 v2_5 v3_5 v4_5 v5_5 c0_5 c1_5 c2_5 c3_5 c4_5 c5_5 n0_5 n1_5 n2_5 n3_5 n4_5 n5_5
        have HB6 := Aside0.mk (HB5.out.trans (hb.mono HB5.out.size)); have HS6 := Aside0.mk (HS5.out.below hb); have HV6 := Aside0.mk (HV5.out.below hb); have HC6 := Aside0.mk (HC5.out.below hb); have HN6 := Aside0.mk (HN5.out.below hb); clear hb HB5 HS5 HV5 HC5 HN5
        cases t7 : (yp.toList == []) with
        | true =>
         have t7' := bne_of t7
         replace t7' : (yp.toList != []) = false := t7'
         obtain ⟨v0_6, v1_6, v2_6, v3_6, v4_6, v5_6⟩ := HV6.out.six
         obtain ⟨c0_6, c1_6, c2_6, c3_6, c4_6, c5_6⟩ := HC6.out.six
         obtain ⟨n0_6, n1_6, n2_6, n3_6, n4_6, n5_6⟩ := HN6.out.six
         go_wp2_with fail
         refine (errNew _ _).mono ?_
         rintro e w7 ⟨et6, ep6, rfl, hb⟩
         clear v0_6 v1_6 v2_6 v3_6 v4_6 v5_6 c0_6 c1_6 c2_6 c3_6 c4_6 c5_6 n0_6 n1_6 n2_6 n3_6 n4_6 n5_6
         have HB7 := Aside0.mk (HB6.out.trans (hb.mono HB6.out.size)); have HS7 := Aside0.mk (HS6.out.below hb); have HV7 := Aside0.mk (HV6.out.below hb); have HC7 := Aside0.mk (HC6.out.below hb); have HN7 := Aside0.mk (HN6.out.below hb); clear hb HB6 HS6 HV6 HC6 HN6
         obtain ⟨v0_7, v1_7, v2_7, v3_7, v4_7, v5_7⟩ := HV7.out.six
         obtain ⟨c0_7, c1_7, c2_7, c3_7, c4_7, c5_7⟩ := HC7.out.six
         obtain ⟨n0_7, n1_7, n2_7, n3_7, n4_7, n5_7⟩ := HN7.out.six
         go_wp2_with fail
         go_ret2
         exact ⟨_, (by first | rfl | (rw [t0, t2, t3, t5, t7]; rfl)), HB7.out⟩
        | false =>
         have t7' := bne_of t7
         replace t7' : (yp.toList != []) = true := t7'
         obtain ⟨v0_6, v1_6, v2_6, v3_6, v4_6, v5_6⟩ := HV6.out.six
         obtain ⟨c0_6, c1_6, c2_6, c3_6, c4_6, c5_6⟩ := HC6.out.six
         obtain ⟨n0_6, n1_6, n2_6, n3_6, n4_6, n5_6⟩ := HN6.out.six
         go_wp2_with fail
         clear v0_6 v1_6 v2_6 v3_6 v4_6 v5_6 c0_6 c1_6 c2_6 c3_6 c4_6 c5_6 n0_6 n1_6 n2_6 n3_6 n4_6 n5_6
         obtain ⟨v0_6, v1_6, v2_6, v3_6, v4_6, v5_6⟩ := HV6.out.sixR
         obtain ⟨c0_6, c1_6, c2_6, c3_6, c4_6, c5_6⟩ := HC6.out.sixR
         obtain ⟨n0_6, n1_6, n2_6, n3_6, n4_6, n5_6⟩ := HN6.out.sixR
         have c0 := fun d os => Calls.regrown_of (semver_Version_Prerelease.calls x0 x1 x2 xp xm xo _ (grow (redrawn w6 d) os) rfl)
         have c1 := fun d os => Calls.regrown_of (semver_Version_Prerelease.calls y0 y1 y2 yp ym yo _ (grow (redrawn w6 d) os) rfl)
         have c2 := fun d os => Calls.regrown_of (KCP.out (grow (redrawn w6 d) os)  (HS6.out.below (below_regrown w6 d os)))
         refine wp_region_quiet_below (by kernel_rfl) (by kernel_rfl) ?_
         repeat (first | go_big_quiet_step (first | exact c0 _ _ | exact c1 _ _ | exact c2 _ _) | quiet_step (first | exact c0 _ _ | exact c1 _ _ | exact c2 _ _))
         refine wpQuiet_nil ?_
         intro _ hw'; obtain ⟨⟨dq, osq⟩, hw''⟩ := hw'; subst hw''; clear c0 c1 c2 v0_6 v1_6 v2_6 v3_6 v4_6 v5_6 c0_6 c1_6 c2_6 c3_6 c4_6 c5_6 n0_6 n1_6 n2_6 n3_6 n4_6 n5_6
         have hb := below_regrown w6 dq osq
         generalize grow (redrawn w6 dq) osq = w7 at *
         have HB7 := Aside0.mk (HB6.out.trans (hb.mono HB6.out.size)); have HS7 := Aside0.mk (HS6.out.below hb); have HV7 := Aside0.mk (HV6.out.below hb); have HC7 := Aside0.mk (HC6.out.below hb); have HN7 := Aside0.mk (HN6.out.below hb); clear hb HB6 HS6 HV6 HC6 HN6
         cases t8 : (cp == 0) with
         | true =>
          have t8' := bne_of t8
          replace t8' : (cp != 0) = false := t8'
          obtain ⟨v0_7, v1_7, v2_7, v3_7, v4_7, v5_7⟩ := HV7.out.six
          obtain ⟨c0_7, c1_7, c2_7, c3_7, c4_7, c5_7⟩ := HC7.out.six
          obtain ⟨n0_7, n1_7, n2_7, n3_7, n4_7, n5_7⟩ := HN7.out.six
          go_wp2_with fail
          refine (errNew _ _).mono ?_
          rintro e w8 ⟨et7, ep7, rfl, hb⟩
          clear v0_7 v1_7 v2_7 v3_7 v4_7 v5_7 c0_7 c1_7 c2_7 c3_7 c4_7 c5_7 n0_7 n1_7 n2_7 n3_7 n4_7 n5_7
          have HB8 := Aside0.mk (HB7.out.trans (hb.mono HB7.out.size)); have HS8 := Aside0.mk (HS7.out.below hb); have HV8 := Aside0.mk (HV7.out.below hb); have HC8 := Aside0.mk (HC7.out.below hb); have HN8 := Aside0.mk (HN7.out.below hb); clear hb HB7 HS7 HV7 HC7 HN7
          obtain ⟨v0_8, v1_8, v2_8, v3_8, v4_8, v5_8⟩ := HV8.out.six
          obtain ⟨c0_8, c1_8, c2_8, c3_8, c4_8, c5_8⟩ := HC8.out.six
          obtain ⟨n0_8, n1_8, n2_8, n3_8, n4_8, n5_8⟩ := HN8.out.six
          go_wp2_with fail
          go_ret2
          exact ⟨_, (by first | rfl | (rw [t0, t2, t3, t5, t7, t8]; rfl)), HB8.out⟩
         | false =>
          have t8' := bne_of t8
          replace t8' : (cp != 0) = true := t8'
          obtain ⟨v0_7, v1_7, v2_7, v3_7, v4_7, v5_7⟩ := HV7.out.six
          obtain ⟨c0_7, c1_7, c2_7, c3_7, c4_7, c5_7⟩ := HC7.out.six
          obtain ⟨n0_7, n1_7, n2_7, n3_7, n4_7, n5_7⟩ := HN7.out.six
          go_wp2_with fail
          go_ret2
          exact ⟨_, (by first | rfl | (rw [t0, t2, t3, t5, t7, t8]; rfl)), HB7.out⟩
       | false =>
        obtain ⟨v0_4, v1_4, v2_4, v3_4, v4_4, v5_4⟩ := HV4.out.six
        obtain ⟨c0_4, c1_4, c2_4, c3_4, c4_4, c5_4⟩ := HC4.out.six
        obtain ⟨n0_4, n1_4, n2_4, n3_4, n4_4, n5_4⟩ := HN4.out.six
        go_wp2_with fail
        refine (KEQ.out _ HV4.out HN4.out HS4.out).mono ?_
        rintro e w5 ⟨rfl, hb⟩
        clear v0_4 v1_4 v2_4 v3_4 v4_4 v5_4 c0_4 c1_4 c2_4 c3_4 c4_4 c5_4 n0_4 n1_4 n2_4 n3_4 n4_4 n5_4
        have HB5 := Aside0.mk (HB4.out.trans (hb.mono HB4.out.size)); have HS5 := Aside0.mk (HS4.out.below hb); have HV5 := Aside0.mk (HV4.out.below hb); have HC5 := Aside0.mk (HC4.out.below hb); have HN5 := Aside0.mk (HN4.out.below hb); clear hb HB4 HS4 HV4 HC4 HN4
        cases eqv with
        | true =>
         obtain ⟨v0_5, v1_5, v2_5, v3_5, v4_5, v5_5⟩ := HV5.out.six
         obtain ⟨c0_5, c1_5, c2_5, c3_5, c4_5, c5_5⟩ := HC5.out.six
         obtain ⟨n0_5, n1_5, n2_5, n3_5, n4_5, n5_5⟩ := HN5.out.six
         go_wp2_with fail
         refine (errNew _ _).mono ?_
         rintro e w6 ⟨et5, ep5, rfl, hb⟩
         clear v0_5 v1_5 v2_5 v3_5 v4_5 v5_5 c0_5 c1_5 c2_5 c3_5 c4_5 c5_5 n0_5 n1_5 n2_5 n3_5 n4_5 n5_5
         have HB6 := Aside0.mk (HB5.out.trans (hb.mono HB5.out.size)); have HS6 := Aside0.mk (HS5.out.below hb); have HV6 := Aside0.mk (HV5.out.below hb); have HC6 := Aside0.mk (HC5.out.below hb); have HN6 := Aside0.mk (HN5.out.below hb); clear hb HB5 HS5 HV5 HC5 HN5
         obtain ⟨v0_6, v1_6, v2_6, v3_6, v4_6, v5_6⟩ := HV6.out.six
         obtain ⟨c0_6, c1_6, c2_6, c3_6, c4_6, c5_6⟩ := HC6.out.six
         obtain ⟨n0_6, n1_6, n2_6, n3_6, n4_6, n5_6⟩ := HN6.out.six
         go_wp2_with fail
         go_ret2
         exact ⟨_, (by first | rfl | (rw [t0, t2, t3, t5]; rfl)), HB6.out⟩
        | false =>
         obtain ⟨v0_5, v1_5, v2_5, v3_5, v4_5, v5_5⟩ := HV5.out.six
         obtain ⟨c0_5, c1_5, c2_5, c3_5, c4_5, c5_5⟩ := HC5.out.six
         obtain ⟨n0_5, n1_5, n2_5, n3_5, n4_5, n5_5⟩ := HN5.out.six
         go_wp2_with fail
         go_ret2
         exact ⟨_, (by first | rfl | (rw [t0, t2, t3, t5]; rfl)), HB5.out⟩
      | false =>
       have t5' := bne_of t5
       replace t5' : (y2 != x2) = true := t5'
       obtain ⟨v0_3, v1_3, v2_3, v3_3, v4_3, v5_3⟩ := HV3.out.six
       obtain ⟨c0_3, c1_3, c2_3, c3_3, c4_3, c5_3⟩ := HC3.out.six
       obtain ⟨n0_3, n1_3, n2_3, n3_3, n4_3, n5_3⟩ := HN3.out.six
       go_wp2_with fail
       clear v0_3 v1_3 v2_3 v3_3 v4_3 v5_3 c0_3 c1_3 c2_3 c3_3 c4_3 c5_3 n0_3 n1_3 n2_3 n3_3 n4_3 n5_3
       obtain ⟨v0_3, v1_3, v2_3, v3_3, v4_3, v5_3⟩ := HV3.out.sixR
       obtain ⟨c0_3, c1_3, c2_3, c3_3, c4_3, c5_3⟩ := HC3.out.sixR
       obtain ⟨n0_3, n1_3, n2_3, n3_3, n4_3, n5_3⟩ := HN3.out.sixR
       have c0 := fun d os => Calls.regrown_of (semver_Version_Patch.calls y0 y1 y2 yp ym yo _ (grow (redrawn w3 d) os) rfl)
       have c1 := fun d os => Calls.regrown_of (semver_Version_Patch.calls x0 x1 x2 xp xm xo _ (grow (redrawn w3 d) os) rfl)
       refine wp_region_quiet_below (by kernel_rfl) (by kernel_rfl) ?_
       repeat (first | go_big_quiet_step (first | exact c0 _ _ | exact c1 _ _) | quiet_step (first | exact c0 _ _ | exact c1 _ _))
       refine wpQuiet_nil ?_
       intro _ hw'; obtain ⟨⟨dq, osq⟩, hw''⟩ := hw'; subst hw''; clear c0 c1 v0_3 v1_3 v2_3 v3_3 v4_3 v5_3 c0_3 c1_3 c2_3 c3_3 c4_3 c5_3 n0_3 n1_3 n2_3 n3_3 n4_3 n5_3
       have hb := below_regrown w3 dq osq
       generalize grow (redrawn w3 dq) osq = w4 at *
       have HB4 := Aside0.mk (HB3.out.trans (hb.mono HB3.out.size)); have HS4 := Aside0.mk (HS3.out.below hb); have HV4 := Aside0.mk (HV3.out.below hb); have HC4 := Aside0.mk (HC3.out.below hb); have HN4 := Aside0.mk (HN3.out.below hb); clear hb HB3 HS3 HV3 HC3 HN3
       cases pD with
       | true =>
        obtain ⟨v0_4, v1_4, v2_4, v3_4, v4_4, v5_4⟩ := HV4.out.six
        obtain ⟨c0_4, c1_4, c2_4, c3_4, c4_4, c5_4⟩ := HC4.out.six
        obtain ⟨n0_4, n1_4, n2_4, n3_4, n4_4, n5_4⟩ := HN4.out.six
        go_wp2_with fail
        refine (semver_Version_Prerelease.calls x0 x1 x2 xp xm xo _ _ rfl).mono ?_
        rintro e w5 ⟨rfl, hb⟩
        clear v0_4 v1_4 v2_4 v3_4 v4_4 v5_4 c0_4 c1_4 c2_4 c3_4 c4_4 c5_4 n0_4 n1_4 n2_4 n3_4 n4_4 n5_4
        have HB5 := Aside0.mk (HB4.out.trans (hb.mono HB4.out.size)); have HS5 := Aside0.mk (HS4.out.below hb); have HV5 := Aside0.mk (HV4.out.below hb); have HC5 := Aside0.mk (HC4.out.below hb); have HN5 := Aside0.mk (HN4.out.below hb); clear hb HB4 HS4 HV4 HC4 HN4
        obtain ⟨v0_5, v1_5, v2_5, v3_5, v4_5, v5_5⟩ := HV5.out.six
        obtain ⟨c0_5, c1_5, c2_5, c3_5, c4_5, c5_5⟩ := HC5.out.six
        obtain ⟨n0_5, n1_5, n2_5, n3_5, n4_5, n5_5⟩ := HN5.out.six
        go_wp2_with fail
        refine (semver_Version_Prerelease.calls y0 y1 y2 yp ym yo _ _ rfl).mono ?_
        rintro e w6 ⟨rfl, hb⟩
        clear v0_5 v1_5 v2_5 v3_5 v4_5 v5_5 c0_5 c1_5 c2_5 c3_5 c4_5 c5_5 n0_5 n1_5 n2_5 n3_5 n4_5 n5_5
        have HB6 := Aside0.mk (HB5.out.trans (hb.mono HB5.out.size)); have HS6 := Aside0.mk (HS5.out.below hb); have HV6 := Aside0.mk (HV5.out.below hb); have HC6 := Aside0.mk (HC5.out.below hb); have HN6 := Aside0.mk (HN5.out.below hb); clear hb HB5 HS5 HV5 HC5 HN5
        cases t7 : (yp.toList == []) with
        | true =>
         have t7' := bne_of t7
         replace t7' : (yp.toList != []) = false := t7'
         obtain ⟨v0_6, v1_6, v2_6, v3_6, v4_6, v5_6⟩ := HV6.out.six
         obtain ⟨c0_6, c1_6, c2_6, c3_6, c4_6, c5_6⟩ := HC6.out.six
         obtain ⟨n0_6, n1_6, n2_6, n3_6, n4_6, n5_6⟩ := HN6.out.six
         go_wp2_with fail
         refine (errNew _ _).mono ?_
         rintro e w7 ⟨et6, ep6, rfl, hb⟩
         clear v0_6 v1_6 v2_6 v3_6 v4_6 v5_6 c0_6 c1_6 c2_6 c3_6 c4_6 c5_6 n0_6 n1_6 n2_6 n3_6 n4_6 n5_6
         have HB7 := Aside0.mk (HB6.out.trans (hb.mono HB6.out.size)); have HS7 := Aside0.mk (HS6.out.below hb); have HV7 := Aside0.mk (HV6.out.below hb); have HC7 := Aside0.mk (HC6.out.below hb); have HN7 := Aside0.mk (HN6.out.below hb); clear hb HB6 HS6 HV6 HC6 HN6
         obtain ⟨v0_7, v1_7, v2_7, v3_7, v4_7, v5_7⟩ := HV7.out.six
         obtain ⟨c0_7, c1_7, c2_7, c3_7, c4_7, c5_7⟩ := HC7.out.six
         obtain ⟨n0_7, n1_7, n2_7, n3_7, n4_7, n5_7⟩ := HN7.out.six
         go_wp2_with fail
         go_ret2
         exact ⟨_, (by first | rfl | (rw [t0, t2, t3, t5, t7]; rfl)), HB7.out⟩
        | false =>
         have t7' := bne_of t7
         replace t7' : (yp.toList != []) = true := t7'
         obtain ⟨v0_6, v1_6, v2_6, v3_6, v4_6, v5_6⟩ := HV6.out.six
         obtain ⟨c0_6, c1_6, c2_6, c3_6, c4_6, c5_6⟩ := HC6.out.six
         obtain ⟨n0_6, n1_6, n2_6, n3_6, n4_6, n5_6⟩ := HN6.out.six
         go_wp2_with fail
         clear v0_6 v1_6 v2_6 v3_6 v4_6 v5_6 c0_6 c1_6 c2_6 c3_6 c4_6 c5_6 n0_6 n1_6 n2_6 n3_6 n4_6 n5_6
         obtain ⟨v0_6, v1_6, v2_6, v3_6, v4_6, v5_6⟩ := HV6.out.sixR
         obtain ⟨c0_6, c1_6, c2_6, c3_6, c4_6, c5_6⟩ := HC6.out.sixR
         obtain ⟨n0_6, n1_6, n2_6, n3_6, n4_6, n5_6⟩ := HN6.out.sixR
         have c0 := fun d os => Calls.regrown_of (semver_Version_Prerelease.calls x0 x1 x2 xp xm xo _ (grow (redrawn w6 d) os) rfl)
         have c1 := fun d os => Calls.regrown_of (semver_Version_Prerelease.calls y0 y1 y2 yp ym yo _ (grow (redrawn w6 d) os) rfl)
         have c2 := fun d os => Calls.regrown_of (KCP.out (grow (redrawn w6 d) os)  (HS6.out.below (below_regrown w6 d os)))
         refine wp_region_quiet_below (by kernel_rfl) (by kernel_rfl) ?_
         repeat (first | go_big_quiet_step (first | exact c0 _ _ | exact c1 _ _ | exact c2 _ _) | quiet_step (first | exact c0 _ _ | exact c1 _ _ | exact c2 _ _))
         refine wpQuiet_nil ?_
         intro _ hw'; obtain ⟨⟨dq, osq⟩, hw''⟩ := hw'; subst hw''; clear c0 c1 c2 v0_6 v1_6 v2_6 v3_6 v4_6 v5_6 c0_6 c1_6 c2_6 c3_6 c4_6 c5_6 n0_6 n1_6 n2_6 n3_6 n4_6 n5_6
         have hb := below_regrown w6 dq osq
         generalize grow (redrawn w6 dq) osq = w7 at *
         have HB7 := Aside0.mk (HB6.out.trans (hb.mono HB6.out.size)); have HS7 := Aside0.mk (HS6.out.below hb); have HV7 := Aside0.mk (HV6.out.below hb); have HC7 := Aside0.mk (HC6.out.below hb); have HN7 := Aside0.mk (HN6.out.below hb); clear hb HB6 HS6 HV6 HC6 HN6
         cases t8 : (cp == 0) with
         | true =>
          have t8' := bne_of t8
          replace t8' : (cp != 0) = false := t8'
          obtain ⟨v0_7, v1_7, v2_7, v3_7, v4_7, v5_7⟩ := HV7.out.six
          obtain ⟨c0_7, c1_7, c2_7, c3_7, c4_7, c5_7⟩ := HC7.out.six
          obtain ⟨n0_7, n1_7, n2_7, n3_7, n4_7, n5_7⟩ := HN7.out.six
          go_wp2_with fail
          refine (errNew _ _).mono ?_
          rintro e w8 ⟨et7, ep7, rfl, hb⟩
          clear v0_7 v1_7 v2_7 v3_7 v4_7 v5_7 c0_7 c1_7 c2_7 c3_7 c4_7 c5_7 n0_7 n1_7 n2_7 n3_7 n4_7 n5_7
          have HB8 := Aside0.mk (HB7.out.trans (hb.mono HB7.out.size)); have HS8 := Aside0.mk (HS7.out.below hb); have HV8 := Aside0.mk (HV7.out.below hb); have HC8 := Aside0.mk (HC7.out.below hb); have HN8 := Aside0.mk (HN7.out.below hb); clear hb HB7 HS7 HV7 HC7 HN7
          obtain ⟨v0_8, v1_8, v2_8, v3_8, v4_8, v5_8⟩ := HV8.out.six
          obtain ⟨c0_8, c1_8, c2_8, c3_8, c4_8, c5_8⟩ := HC8.out.six
          obtain ⟨n0_8, n1_8, n2_8, n3_8, n4_8, n5_8⟩ := HN8.out.six
          go_wp2_with fail
          go_ret2
          exact ⟨_, (by first | rfl | (rw [t0, t2, t3, t5, t7, t8]; rfl)), HB8.out⟩
         | false =>
          have t8' := bne_of t8
          replace t8' : (cp != 0) = true := t8'
          obtain ⟨v0_7, v1_7, v2_7, v3_7, v4_7, v5_7⟩ := HV7.out.six
          obtain ⟨c0_7, c1_7, c2_7, c3_7, c4_7, c5_7⟩ := HC7.out.six
          obtain ⟨n0_7, n1_7, n2_7, n3_7, n4_7, n5_7⟩ := HN7.out.six
          go_wp2_with fail
          go_ret2
          exact ⟨_, (by first | rfl | (rw [t0, t2, t3, t5, t7, t8]; rfl)), HB7.out⟩
       | false =>
        obtain ⟨v0_4, v1_4, v2_4, v3_4, v4_4, v5_4⟩ := HV4.out.six
        obtain ⟨c0_4, c1_4, c2_4, c3_4, c4_4, c5_4⟩ := HC4.out.six
        obtain ⟨n0_4, n1_4, n2_4, n3_4, n4_4, n5_4⟩ := HN4.out.six
        go_wp2_with fail
        go_ret2
        exact ⟨_, (by first | rfl | (rw [t0, t2, t3, t5]; rfl)), HB4.out⟩
    | false =>
     have t3' := bne_of t3
     replace t3' : (y1 != x1) = true := t3'
     obtain ⟨v0_2, v1_2, v2_2, v3_2, v4_2, v5_2⟩ := HV2.out.six
     obtain ⟨c0_2, c1_2, c2_2, c3_2, c4_2, c5_2⟩ := HC2.out.six
     obtain ⟨n0_2, n1_2, n2_2, n3_2, n4_2, n5_2⟩ := HN2.out.six
     go_wp2_with fail
     clear v0_2 v1_2 v2_2 v3_2 v4_2 v5_2 c0_2 c1_2 c2_2 c3_2 c4_2 c5_2 n0_2 n1_2 n2_2 n3_2 n4_2 n5_2
     obtain ⟨v0_2, v1_2, v2_2, v3_2, v4_2, v5_2⟩ := HV2.out.sixR
     obtain ⟨c0_2, c1_2, c2_2, c3_2, c4_2, c5_2⟩ := HC2.out.sixR
     obtain ⟨n0_2, n1_2, n2_2, n3_2, n4_2, n5_2⟩ := HN2.out.sixR
     have c0 := fun d os => Calls.regrown_of (semver_Version_Minor.calls y0 y1 y2 yp ym yo _ (grow (redrawn w2 d) os) rfl)
     have c1 := fun d os => Calls.regrown_of (semver_Version_Minor.calls x0 x1 x2 xp xm xo _ (grow (redrawn w2 d) os) rfl)
     refine wp_region_quiet_below (by kernel_rfl) (by kernel_rfl) ?_
     repeat (first | go_big_quiet_step (first | exact c0 _ _ | exact c1 _ _) | quiet_step (first | exact c0 _ _ | exact c1 _ _))
     refine wpQuiet_nil ?_
     intro _ hw'; obtain ⟨⟨dq, osq⟩, hw''⟩ := hw'; subst hw''; clear c0 c1 v0_2 v1_2 v2_2 v3_2 v4_2 v5_2 c0_2 c1_2 c2_2 c3_2 c4_2 c5_2 n0_2 n1_2 n2_2 n3_2 n4_2 n5_2
     have hb := below_regrown w2 dq osq
     generalize grow (redrawn w2 dq) osq = w3 at *
     have HB3 := Aside0.mk (HB2.out.trans (hb.mono HB2.out.size)); have HS3 := Aside0.mk (HS2.out.below hb); have HV3 := Aside0.mk (HV2.out.below hb); have HC3 := Aside0.mk (HC2.out.below hb); have HN3 := Aside0.mk (HN2.out.below hb); clear hb HB2 HS2 HV2 HC2 HN2
     cases mD with
     | true =>
      obtain ⟨v0_3, v1_3, v2_3, v3_3, v4_3, v5_3⟩ := HV3.out.six
      obtain ⟨c0_3, c1_3, c2_3, c3_3, c4_3, c5_3⟩ := HC3.out.six
      obtain ⟨n0_3, n1_3, n2_3, n3_3, n4_3, n5_3⟩ := HN3.out.six
      go_wp2_with fail
      refine (errNew _ _).mono ?_
      rintro e w4 ⟨et3, ep3, rfl, hb⟩
      clear v0_3 v1_3 v2_3 v3_3 v4_3 v5_3 c0_3 c1_3 c2_3 c3_3 c4_3 c5_3 n0_3 n1_3 n2_3 n3_3 n4_3 n5_3
      have HB4 := Aside0.mk (HB3.out.trans (hb.mono HB3.out.size)); have HS4 := Aside0.mk (HS3.out.below hb); have HV4 := Aside0.mk (HV3.out.below hb); have HC4 := Aside0.mk (HC3.out.below hb); have HN4 := Aside0.mk (HN3.out.below hb); clear hb HB3 HS3 HV3 HC3 HN3
      obtain ⟨v0_4, v1_4, v2_4, v3_4, v4_4, v5_4⟩ := HV4.out.six
      obtain ⟨c0_4, c1_4, c2_4, c3_4, c4_4, c5_4⟩ := HC4.out.six
      obtain ⟨n0_4, n1_4, n2_4, n3_4, n4_4, n5_4⟩ := HN4.out.six
      go_wp2_with fail
      go_ret2
      exact ⟨_, (by first | rfl | (rw [t0, t2, t3]; rfl)), HB4.out⟩
     | false =>
      obtain ⟨v0_3, v1_3, v2_3, v3_3, v4_3, v5_3⟩ := HV3.out.six
      obtain ⟨c0_3, c1_3, c2_3, c3_3, c4_3, c5_3⟩ := HC3.out.six
      obtain ⟨n0_3, n1_3, n2_3, n3_3, n4_3, n5_3⟩ := HN3.out.six
      go_wp2_with fail
      go_ret2
      exact ⟨_, (by first | rfl | (rw [t0, t2, t3]; rfl)), HB3.out⟩
   | false =>
    have t2' := bne_of t2
    replace t2' : (y0 != x0) = true := t2'
    obtain ⟨v0_2, v1_2, v2_2, v3_2, v4_2, v5_2⟩ := HV2.out.six
    obtain ⟨c0_2, c1_2, c2_2, c3_2, c4_2, c5_2⟩ := HC2.out.six
    obtain ⟨n0_2, n1_2, n2_2, n3_2, n4_2, n5_2⟩ := HN2.out.six
    go_wp2_with fail
    go_ret2
    exact ⟨_, (by first | rfl | (rw [t0, t2]; rfl)), HB2.out⟩
  | false =>
   obtain ⟨v0_1, v1_1, v2_1, v3_1, v4_1, v5_1⟩ := HV1.out.six
   obtain ⟨c0_1, c1_1, c2_1, c3_1, c4_1, c5_1⟩ := HC1.out.six
   obtain ⟨n0_1, n1_1, n2_1, n3_1, n4_1, n5_1⟩ := HN1.out.six
   go_wp2_with fail
   refine (KEQ.out _ HV1.out HN1.out HS1.out).mono ?_
   rintro e w2 ⟨rfl, hb⟩
   clear v0_1 v1_1 v2_1 v3_1 v4_1 v5_1 c0_1 c1_1 c2_1 c3_1 c4_1 c5_1 n0_1 n1_1 n2_1 n3_1 n4_1 n5_1
   have HB2 := Aside0.mk (HB1.out.trans (hb.mono HB1.out.size)); have HS2 := Aside0.mk (HS1.out.below hb); have HV2 := Aside0.mk (HV1.out.below hb); have HC2 := Aside0.mk (HC1.out.below hb); have HN2 := Aside0.mk (HN1.out.below hb); clear hb HB1 HS1 HV1 HC1 HN1
   cases eqv with
   | true =>
    obtain ⟨v0_2, v1_2, v2_2, v3_2, v4_2, v5_2⟩ := HV2.out.six
    obtain ⟨c0_2, c1_2, c2_2, c3_2, c4_2, c5_2⟩ := HC2.out.six
    obtain ⟨n0_2, n1_2, n2_2, n3_2, n4_2, n5_2⟩ := HN2.out.six
    go_wp2_with fail
    refine (errNew _ _).mono ?_
    rintro e w3 ⟨et2, ep2, rfl, hb⟩
    clear v0_2 v1_2 v2_2 v3_2 v4_2 v5_2 c0_2 c1_2 c2_2 c3_2 c4_2 c5_2 n0_2 n1_2 n2_2 n3_2 n4_2 n5_2
    have HB3 := Aside0.mk (HB2.out.trans (hb.mono HB2.out.size)); have HS3 := Aside0.mk (HS2.out.below hb); have HV3 := Aside0.mk (HV2.out.below hb); have HC3 := Aside0.mk (HC2.out.below hb); have HN3 := Aside0.mk (HN2.out.below hb); clear hb HB2 HS2 HV2 HC2 HN2
    obtain ⟨v0_3, v1_3, v2_3, v3_3, v4_3, v5_3⟩ := HV3.out.six
    obtain ⟨c0_3, c1_3, c2_3, c3_3, c4_3, c5_3⟩ := HC3.out.six
    obtain ⟨n0_3, n1_3, n2_3, n3_3, n4_3, n5_3⟩ := HN3.out.six
    go_wp2_with fail
    go_ret2
    exact ⟨_, (by first | rfl | (rw [t0]; rfl)), HB3.out⟩
   | false =>
    obtain ⟨v0_2, v1_2, v2_2, v3_2, v4_2, v5_2⟩ := HV2.out.six
    obtain ⟨c0_2, c1_2, c2_2, c3_2, c4_2, c5_2⟩ := HC2.out.six
    obtain ⟨n0_2, n1_2, n2_2, n3_2, n4_2, n5_2⟩ := HN2.out.six
    go_wp2_with fail
    go_ret2
    exact ⟨_, (by first | rfl | (rw [t0]; rfl)), HB2.out⟩
 | false =>
  have t0' := bne_of t0
  replace t0' : (xp.toList != []) = true := t0'
  cases pre with
  | true =>
   cases d with
   | true =>
    obtain ⟨v0_1, v1_1, v2_1, v3_1, v4_1, v5_1⟩ := HV1.out.six
    obtain ⟨c0_1, c1_1, c2_1, c3_1, c4_1, c5_1⟩ := HC1.out.six
    obtain ⟨n0_1, n1_1, n2_1, n3_1, n4_1, n5_1⟩ := HN1.out.six
    go_wp2_with fail
    clear v0_1 v1_1 v2_1 v3_1 v4_1 v5_1 c0_1 c1_1 c2_1 c3_1 c4_1 c5_1 n0_1 n1_1 n2_1 n3_1 n4_1 n5_1
    obtain ⟨v0_1, v1_1, v2_1, v3_1, v4_1, v5_1⟩ := HV1.out.sixR
    obtain ⟨c0_1, c1_1, c2_1, c3_1, c4_1, c5_1⟩ := HC1.out.sixR
    obtain ⟨n0_1, n1_1, n2_1, n3_1, n4_1, n5_1⟩ := HN1.out.sixR
    have c0 := fun d os => Calls.regrown_of (semver_Version_Major.calls y0 y1 y2 yp ym yo _ (grow (redrawn w1 d) os) rfl)
    have c1 := fun d os => Calls.regrown_of (semver_Version_Major.calls x0 x1 x2 xp xm xo _ (grow (redrawn w1 d) os) rfl)
    refine wp_region_quiet_below (by kernel_rfl) (by kernel_rfl) ?_
    repeat (first | go_big_quiet_step (first | exact c0 _ _ | exact c1 _ _) | quiet_step (first | exact c0 _ _ | exact c1 _ _))
    refine wpQuiet_nil ?_
    intro _ hw'; obtain ⟨⟨dq, osq⟩, hw''⟩ := hw'; subst hw''; clear c0 c1 v0_1 v1_1 v2_1 v3_1 v4_1 v5_1 c0_1 c1_1 c2_1 c3_1 c4_1 c5_1 n0_1 n1_1 n2_1 n3_1 n4_1 n5_1
    have hb := below_regrown w1 dq osq
    generalize grow (redrawn w1 dq) osq = w2 at *
    have HB2 := Aside0.mk (HB1.out.trans (hb.mono HB1.out.size)); have HS2 := Aside0.mk (HS1.out.below hb); have HV2 := Aside0.mk (HV1.out.below hb); have HC2 := Aside0.mk (HC1.out.below hb); have HN2 := Aside0.mk (HN1.out.below hb); clear hb HB1 HS1 HV1 HC1 HN1
    cases t2 : (y0 == x0) with
    | true =>
     have t2' := bne_of t2
     replace t2' : (y0 != x0) = false := t2'
     cases t3 : (y1 == x1) with
     | true =>
      have t3' := bne_of t3
      replace t3' : (y1 != x1) = false := t3'
      obtain ⟨v0_2, v1_2, v2_2, v3_2, v4_2, v5_2⟩ := HV2.out.six
      obtain ⟨c0_2, c1_2, c2_2, c3_2, c4_2, c5_2⟩ := HC2.out.six
      obtain ⟨n0_2, n1_2, n2_2, n3_2, n4_2, n5_2⟩ := HN2.out.six
      go_wp2_with fail
      clear v0_2 v1_2 v2_2 v3_2 v4_2 v5_2 c0_2 c1_2 c2_2 c3_2 c4_2 c5_2 n0_2 n1_2 n2_2 n3_2 n4_2 n5_2
      obtain ⟨v0_2, v1_2, v2_2, v3_2, v4_2, v5_2⟩ := HV2.out.sixR
      obtain ⟨c0_2, c1_2, c2_2, c3_2, c4_2, c5_2⟩ := HC2.out.sixR
      obtain ⟨n0_2, n1_2, n2_2, n3_2, n4_2, n5_2⟩ := HN2.out.sixR
      have c0 := fun d os => Calls.regrown_of (semver_Version_Minor.calls y0 y1 y2 yp ym yo _ (grow (redrawn w2 d) os) rfl)
      have c1 := fun d os => Calls.regrown_of (semver_Version_Minor.calls x0 x1 x2 xp xm xo _ (grow (redrawn w2 d) os) rfl)
      refine wp_region_quiet_below (by kernel_rfl) (by kernel_rfl) ?_
      repeat (first | go_big_quiet_step (first | exact c0 _ _ | exact c1 _ _) | quiet_step (first | exact c0 _ _ | exact c1 _ _))
      refine wpQuiet_nil ?_
      intro _ hw'; obtain ⟨⟨dq, osq⟩, hw''⟩ := hw'; subst hw''; clear c0 c1 v0_2 v1_2 v2_2 v3_2 v4_2 v5_2 c0_2 c1_2 c2_2 c3_2 c4_2 c5_2 n0_2 n1_2 n2_2 n3_2 n4_2 n5_2
      have hb := below_regrown w2 dq osq
      generalize grow (redrawn w2 dq) osq = w3 at *
      have HB3 := Aside0.mk (HB2.out.trans (hb.mono HB2.out.size)); have HS3 := Aside0.mk (HS2.out.below hb); have HV3 := Aside0.mk (HV2.out.below hb); have HC3 := Aside0.mk (HC2.out.below hb); have HN3 := Aside0.mk (HN2.out.below hb); clear hb HB2 HS2 HV2 HC2 HN2
      cases mD with
      | true =>
       obtain ⟨v0_3, v1_3, v2_3, v3_3, v4_3, v5_3⟩ := HV3.out.six
       obtain ⟨c0_3, c1_3, c2_3, c3_3, c4_3, c5_3⟩ := HC3.out.six
       obtain ⟨n0_3, n1_3, n2_3, n3_3, n4_3, n5_3⟩ := HN3.out.six
       go_wp2_with fail
       refine (errNew _ _).mono ?_
       rintro e w4 ⟨et3, ep3, rfl, hb⟩
       clear v0_3 v1_3 v2_3 v3_3 v4_3 v5_3 c0_3 c1_3 c2_3 c3_3 c4_3 c5_3 n0_3 n1_3 n2_3 n3_3 n4_3 n5_3
       have HB4 := Aside0.mk (HB3.out.trans (hb.mono HB3.out.size)); have HS4 := Aside0.mk (HS3.out.below hb); have HV4 := Aside0.mk (HV3.out.below hb); have HC4 := Aside0.mk (HC3.out.below hb); have HN4 := Aside0.mk (HN3.out.below hb); clear hb HB3 HS3 HV3 HC3 HN3
       obtain ⟨v0_4, v1_4, v2_4, v3_4, v4_4, v5_4⟩ := HV4.out.six
       obtain ⟨c0_4, c1_4, c2_4, c3_4, c4_4, c5_4⟩ := HC4.out.six
       obtain ⟨n0_4, n1_4, n2_4, n3_4, n4_4, n5_4⟩ := HN4.out.six
       go_wp2_with fail
       go_ret2
       exact ⟨_, (by first | rfl | (rw [t0, t2, t3]; rfl)), HB4.out⟩
      | false =>
       cases t5 : (y2 == x2) with
       | true =>
        have t5' := bne_of t5
        replace t5' : (y2 != x2) = false := t5'
        obtain ⟨v0_3, v1_3, v2_3, v3_3, v4_3, v5_3⟩ := HV3.out.six
        obtain ⟨c0_3, c1_3, c2_3, c3_3, c4_3, c5_3⟩ := HC3.out.six
        obtain ⟨n0_3, n1_3, n2_3, n3_3, n4_3, n5_3⟩ := HN3.out.six
        go_wp2_with fail
        clear v0_3 v1_3 v2_3 v3_3 v4_3 v5_3 c0_3 c1_3 c2_3 c3_3 c4_3 c5_3 n0_3 n1_3 n2_3 n3_3 n4_3 n5_3
        obtain ⟨v0_3, v1_3, v2_3, v3_3, v4_3, v5_3⟩ := HV3.out.sixR
        obtain ⟨c0_3, c1_3, c2_3, c3_3, c4_3, c5_3⟩ := HC3.out.sixR
        obtain ⟨n0_3, n1_3, n2_3, n3_3, n4_3, n5_3⟩ := HN3.out.sixR
        have c0 := fun d os => Calls.regrown_of (semver_Version_Patch.calls y0 y1 y2 yp ym yo _ (grow (redrawn w3 d) os) rfl)
        have c1 := fun d os => Calls.regrown_of (semver_Version_Patch.calls x0 x1 x2 xp xm xo _ (grow (redrawn w3 d) os) rfl)
        refine wp_region_quiet_below (by kernel_rfl) (by kernel_rfl) ?_
        repeat (first | go_big_quiet_step (first | exact c0 _ _ | exact c1 _ _) | quiet_step (first | exact c0 _ _ | exact c1 _ _))
        refine wpQuiet_nil ?_
        intro _ hw'; obtain ⟨⟨dq, osq⟩, hw''⟩ := hw'; subst hw''; clear c0 c1 v0_3 v1_3 v2_3 v3_3 v4_3 v5_3 c0_3 c1_3 c2_3 c3_3 c4_3 c5_3 n0_3 n1_3 n2_3 n3_3 n4_3 n5_3
        have hb := below_regrown w3 dq osq
        generalize grow (redrawn w3 dq) osq = w4 at *
        have HB4 := Aside0.mk (HB3.out.trans (hb.mono HB3.out.size)); have HS4 := Aside0.mk (HS3.out.below hb); have HV4 := Aside0.mk (HV3.out.below hb); have HC4 := Aside0.mk (HC3.out.below hb); have HN4 := Aside0.mk (HN3.out.below hb); clear hb HB3 HS3 HV3 HC3 HN3
        cases pD with
        | true =>
         obtain ⟨v0_4, v1_4, v2_4, v3_4, v4_4, v5_4⟩ := HV4.out.six
         obtain ⟨c0_4, c1_4, c2_4, c3_4, c4_4, c5_4⟩ := HC4.out.six
         obtain ⟨n0_4, n1_4, n2_4, n3_4, n4_4, n5_4⟩ := HN4.out.six
         go_wp2_with fail
         refine (semver_Version_Prerelease.calls x0 x1 x2 xp xm xo _ _ rfl).mono ?_
         rintro e w5 ⟨rfl, hb⟩
         clear v0_4 v1_4 v2_4 v3_4 v4_4 v5_4 c0_4 c1_4 c2_4 c3_4 c4_4 c5_4 n0_4 n1_4 n2_4 n3_4 n4_4 n5_4
         have HB5 := Aside0.mk (HB4.out.trans (hb.mono HB4.out.size)); have HS5 := Aside0.mk (HS4.out.below hb); have HV5 := Aside0.mk (HV4.out.below hb); have HC5 := Aside0.mk (HC4.out.below hb); have HN5 := Aside0.mk (HN4.out.below hb); clear hb HB4 HS4 HV4 HC4 HN4
         obtain ⟨v0_5, v1_5, v2_5, v3_5, v4_5, v5_5⟩ := HV5.out.six
         obtain ⟨c0_5, c1_5, c2_5, c3_5, c4_5, c5_5⟩ := HC5.out.six
         obtain ⟨n0_5, n1_5, n2_5, n3_5, n4_5, n5_5⟩ := HN5.out.six
         go_wp2_with fail
         clear v0_5 v1_5 v2_5 v3_5 v4_5 v5_5 c0_5 c1_5 c2_5 c3_5 c4_5 c5_5 n0_5 n1_5 n2_5 n3_5 n4_5 n5_5
         obtain ⟨v0_5, v1_5, v2_5, v3_5, v4_5, v5_5⟩ := HV5.out.sixR
         obtain ⟨c0_5, c1_5, c2_5, c3_5, c4_5, c5_5⟩ := HC5.out.sixR
         obtain ⟨n0_5, n1_5, n2_5, n3_5, n4_5, n5_5⟩ := HN5.out.sixR
         have c0 := fun d os => Calls.regrown_of (semver_Version_Prerelease.calls x0 x1 x2 xp xm xo _ (grow (redrawn w5 d) os) rfl)
         have c1 := fun d os => Calls.regrown_of (semver_Version_Prerelease.calls y0 y1 y2 yp ym yo _ (grow (redrawn w5 d) os) rfl)
         have c2 := fun d os => Calls.regrown_of (KCP.out (grow (redrawn w5 d) os)  (HS5.out.below (below_regrown w5 d os)))
         refine wp_region_quiet_below (by kernel_rfl) (by kernel_rfl) ?_
         repeat (first | go_big_quiet_step (first | exact c0 _ _ | exact c1 _ _ | exact c2 _ _) | quiet_step (first | exact c0 _ _ | exact c1 _ _ | exact c2 _ _))
         refine wpQuiet_nil ?_
         intro _ hw'; obtain ⟨⟨dq, osq⟩, hw''⟩ := hw'; subst hw''; clear c0 c1 c2 v0_5 v1_5 v2_5 v3_5 v4_5 v5_5 c0_5 c1_5 c2_5 c3_5 c4_5 c5_5 n0_5 n1_5 n2_5 n3_5 n4_5 n5_5
         have hb := below_regrown w5 dq osq
         generalize grow (redrawn w5 dq) osq = w6 at *
         have HB6 := Aside0.mk (HB5.out.trans (hb.mono HB5.out.size)); have HS6 := Aside0.mk (HS5.out.below hb); have HV6 := Aside0.mk (HV5.out.below hb); have HC6 := Aside0.mk (HC5.out.below hb); have HN6 := Aside0.mk (HN5.out.below hb); clear hb HB5 HS5 HV5 HC5 HN5
         cases t8 : (cp == 0) with
         | true =>
          have t8' := bne_of t8
          replace t8' : (cp != 0) = false := t8'
          obtain ⟨v0_6, v1_6, v2_6, v3_6, v4_6, v5_6⟩ := HV6.out.six
          obtain ⟨c0_6, c1_6, c2_6, c3_6, c4_6, c5_6⟩ := HC6.out.six
          obtain ⟨n0_6, n1_6, n2_6, n3_6, n4_6, n5_6⟩ := HN6.out.six
          go_wp2_with fail
          refine (errNew _ _).mono ?_
          rintro e w7 ⟨et6, ep6, rfl, hb⟩
          clear v0_6 v1_6 v2_6 v3_6 v4_6 v5_6 c0_6 c1_6 c2_6 c3_6 c4_6 c5_6 n0_6 n1_6 n2_6 n3_6 n4_6 n5_6
          have HB7 := Aside0.mk (HB6.out.trans (hb.mono HB6.out.size)); have HS7 := Aside0.mk (HS6.out.below hb); have HV7 := Aside0.mk (HV6.out.below hb); have HC7 := Aside0.mk (HC6.out.below hb); have HN7 := Aside0.mk (HN6.out.below hb); clear hb HB6 HS6 HV6 HC6 HN6
          obtain ⟨v0_7, v1_7, v2_7, v3_7, v4_7, v5_7⟩ := HV7.out.six
          obtain ⟨c0_7, c1_7, c2_7, c3_7, c4_7, c5_7⟩ := HC7.out.six
          obtain ⟨n0_7, n1_7, n2_7, n3_7, n4_7, n5_7⟩ := HN7.out.six
          go_wp2_with fail
          go_ret2
          exact ⟨_, (by first | rfl | (rw [t0, t2, t3, t5, t8]; rfl)), HB7.out⟩
         | false =>
          have t8' := bne_of t8
          replace t8' : (cp != 0) = true := t8'
          obtain ⟨v0_6, v1_6, v2_6, v3_6, v4_6, v5_6⟩ := HV6.out.six
          obtain ⟨c0_6, c1_6, c2_6, c3_6, c4_6, c5_6⟩ := HC6.out.six
          obtain ⟨n0_6, n1_6, n2_6, n3_6, n4_6, n5_6⟩ := HN6.out.six
          go_wp2_with fail
          go_ret2
          exact ⟨_, (by first | rfl | (rw [t0, t2, t3, t5, t8]; rfl)), HB6.out⟩
        | false =>
         obtain ⟨v0_4, v1_4, v2_4, v3_4, v4_4, v5_4⟩ := HV4.out.six
         obtain ⟨c0_4, c1_4, c2_4, c3_4, c4_4, c5_4⟩ := HC4.out.six
         obtain ⟨n0_4, n1_4, n2_4, n3_4, n4_4, n5_4⟩ := HN4.out.six
         go_wp2_with fail
         refine (KEQ.out _ HV4.out HN4.out HS4.out).mono ?_
         rintro e w5 ⟨rfl, hb⟩
         clear v0_4 v1_4 v2_4 v3_4 v4_4 v5_4 c0_4 c1_4 c2_4 c3_4 c4_4 c5_4 n0_4 n1_4 n2_4 n3_4 n4_4 n5_4
         have HB5 := Aside0.mk (HB4.out.trans (hb.mono HB4.out.size)); have HS5 := Aside0.mk (HS4.out.below hb); have HV5 := Aside0.mk (HV4.out.below hb); have HC5 := Aside0.mk (HC4.out.below hb); have HN5 := Aside0.mk (HN4.out.below hb); clear hb HB4 HS4 HV4 HC4 HN4
         cases eqv with
         | true =>
          obtain ⟨v0_5, v1_5, v2_5, v3_5, v4_5, v5_5⟩ := HV5.out.six
          obtain ⟨c0_5, c1_5, c2_5, c3_5, c4_5, c5_5⟩ := HC5.out.six
          obtain ⟨n0_5, n1_5, n2_5, n3_5, n4_5, n5_5⟩ := HN5.out.six
          go_wp2_with fail
          refine (errNew _ _).mono ?_
          rintro e w6 ⟨et5, ep5, rfl, hb⟩
          clear v0_5 v1_5 v2_5 v3_5 v4_5 v5_5 c0_5 c1_5 c2_5 c3_5 c4_5 c5_5 n0_5 n1_5 n2_5 n3_5 n4_5 n5_5
          have HB6 := Aside0.mk (HB5.out.trans (hb.mono HB5.out.size)); have HS6 := Aside0.mk (HS5.out.below hb); have HV6 := Aside0.mk (HV5.out.below hb); have HC6 := Aside0.mk (HC5.out.below hb); have HN6 := Aside0.mk (HN5.out.below hb); clear hb HB5 HS5 HV5 HC5 HN5
          obtain ⟨v0_6, v1_6, v2_6, v3_6, v4_6, v5_6⟩ := HV6.out.six
          obtain ⟨c0_6, c1_6, c2_6, c3_6, c4_6, c5_6⟩ := HC6.out.six
          obtain ⟨n0_6, n1_6, n2_6, n3_6, n4_6, n5_6⟩ := HN6.out.six
          go_wp2_with fail
          go_ret2
          exact ⟨_, (by first | rfl | (rw [t0, t2, t3, t5]; rfl)), HB6.out⟩
         | false =>
          obtain ⟨v0_5, v1_5, v2_5, v3_5, v4_5, v5_5⟩ := HV5.out.six
          obtain ⟨c0_5, c1_5, c2_5, c3_5, c4_5, c5_5⟩ := HC5.out.six
          obtain ⟨n0_5, n1_5, n2_5, n3_5, n4_5, n5_5⟩ := HN5.out.six
          go_wp2_with fail
          go_ret2
          exact ⟨_, (by first | rfl | (rw [t0, t2, t3, t5]; rfl)), HB5.out⟩
       | false =>
        have t5' := bne_of t5
        replace t5' : (y2 != x2) = true := t5'
        obtain ⟨v0_3, v1_3, v2_3, v3_3, v4_3, v5_3⟩ := HV3.out.six
        obtain ⟨c0_3, c1_3, c2_3, c3_3, c4_3, c5_3⟩ := HC3.out.six
        obtain ⟨n0_3, n1_3, n2_3, n3_3, n4_3, n5_3⟩ := HN3.out.six
        go_wp2_with fail
        clear v0_3 v1_3 v2_3 v3_3 v4_3 v5_3 c0_3 c1_3 c2_3 c3_3 c4_3 c5_3 n0_3 n1_3 n2_3 n3_3 n4_3 n5_3
        obtain ⟨v0_3, v1_3, v2_3, v3_3, v4_3, v5_3⟩ := HV3.out.sixR
        obtain ⟨c0_3, c1_3, c2_3, c3_3, c4_3, c5_3⟩ := HC3.out.sixR
        obtain ⟨n0_3, n1_3, n2_3, n3_3, n4_3, n5_3⟩ := HN3.out.sixR
        have c0 := fun d os => Calls.regrown_of (semver_Version_Patch.calls y0 y1 y2 yp ym yo _ (grow (redrawn w3 d) os) rfl)
        have c1 := fun d os => Calls.regrown_of (semver_Version_Patch.calls x0 x1 x2 xp xm xo _ (grow (redrawn w3 d) os) rfl)
        refine wp_region_quiet_below (by kernel_rfl) (by kernel_rfl) ?_
        repeat (first | go_big_quiet_step (first | exact c0 _ _ | exact c1 _ _) | quiet_step (first | exact c0 _ _ | exact c1 _ _))
        refine wpQuiet_nil ?_
        intro _ hw'; obtain ⟨⟨dq, osq⟩, hw''⟩ := hw'; subst hw''; clear c0 c1 v0_3 v1_3 v2_3 v3_3 v4_3 v5_3 c0_3 c1_3 c2_3 c3_3 c4_3 c5_3 n0_3 n1_3 n2_3 n3_3 n4_3 n5_3
        have hb := below_regrown w3 dq osq
        generalize grow (redrawn w3 dq) osq = w4 at *
        have HB4 := Aside0.mk (HB3.out.trans (hb.mono HB3.out.size)); have HS4 := Aside0.mk (HS3.out.below hb); have HV4 := Aside0.mk (HV3.out.below hb); have HC4 := Aside0.mk (HC3.out.below hb); have HN4 := Aside0.mk (HN3.out.below hb); clear hb HB3 HS3 HV3 HC3 HN3
        cases pD with
        | true =>
         obtain ⟨v0_4, v1_4, v2_4, v3_4, v4_4, v5_4⟩ := HV4.out.six
         obtain ⟨c0_4, c1_4, c2_4, c3_4, c4_4, c5_4⟩ := HC4.out.six
         obtain ⟨n0_4, n1_4, n2_4, n3_4, n4_4, n5_4⟩ := HN4.out.six
         go_wp2_with fail
         refine (semver_Version_Prerelease.calls x0 x1 x2 xp xm xo _ _ rfl).mono ?_
         rintro e w5 ⟨rfl, hb⟩
         clear v0_4 v1_4 v2_4 v3_4 v4_4 v5_4 c0_4 c1_4 c2_4 c3_4 c4_4 c5_4 n0_4 n1_4 n2_4 n3_4 n4_4 n5_4
         have HB5 := Aside0.mk (HB4.out.trans (hb.mono HB4.out.size)); have HS5 := Aside0.mk (HS4.out.below hb); have HV5 := Aside0.mk (HV4.out.below hb); have HC5 := Aside0.mk (HC4.out.below hb); have HN5 := Aside0.mk (HN4.out.below hb); clear hb HB4 HS4 HV4 HC4 HN4
         obtain ⟨v0_5, v1_5, v2_5, v3_5, v4_5, v5_5⟩ := HV5.out.six
         obtain ⟨c0_5, c1_5, c2_5, c3_5, c4_5, c5_5⟩ := HC5.out.six
         obtain ⟨n0_5, n1_5, n2_5, n3_5, n4_5, n5_5⟩ := HN5.out.six
         go_wp2_with fail
         clear v0_5 v1_5 v2_5 v3_5 v4_5 v5_5 c0_5 c1_5 c2_5 c3_5 c4_5 c5_5 n0_5 n1_5 n2_5 n3_5 n4_5 n5_5
         obtain ⟨v0_5, v1_5, v2_5, v3_5, v4_5, v5_5⟩ := HV5.out.sixR
         obtain ⟨c0_5, c1_5, c2_5, c3_5, c4_5, c5_5⟩ := HC5.out.sixR
         obtain ⟨n0_5, n1_5, n2_5, n3_5, n4_5, n5_5⟩ := HN5.out.sixR
         have c0 := fun d os => Calls.regrown_of (semver_Version_Prerelease.calls x0 x1 x2 xp xm xo _ (grow (redrawn w5 d) os) rfl)
         have c1 := fun d os => Calls.regrown_of (semver_Version_Prerelease.calls y0 y1 y2 yp ym yo _ (grow (redrawn w5 d) os) rfl)
         have c2 := fun d os => Calls.regrown_of (KCP.out (grow (redrawn w5 d) os)  (HS5.out.below (below_regrown w5 d os)))
         refine wp_region_quiet_below (by kernel_rfl) (by kernel_rfl) ?_
         repeat (first | go_big_quiet_step (first | exact c0 _ _ | exact c1 _ _ | exact c2 _ _) | quiet_step (first | exact c0 _ _ | exact c1 _ _ | exact c2 _ _))
         refine wpQuiet_nil ?_
         intro _ hw'; obtain ⟨⟨dq, osq⟩, hw''⟩ := hw'; subst hw''; clear c0 c1 c2 v0_5 v1_5 v2_5 v3_5 v4_5 v5_5 c0_5 c1_5 c2_5 c3_5 c4_5 c5_5 n0_5 n1_5 n2_5 n3_5 n4_5 n5_5
         have hb := below_regrown w5 dq osq
         generalize grow (redrawn w5 dq) osq = w6 at *
         have HB6 := Aside0.mk (HB5.out.trans (hb.mono HB5.out.size)); have HS6 := Aside0.mk (HS5.out.below hb); have HV6 := Aside0.mk (HV5.out.below hb); have HC6 := Aside0.mk (HC5.out.below hb); have HN6 := Aside0.mk (HN5.out.below hb); clear hb HB5 HS5 HV5 HC5 HN5
         cases t8 : (cp == 0) with
         | true =>
          have t8' := bne_of t8
          replace t8' : (cp != 0) = false := t8'
          obtain ⟨v0_6, v1_6, v2_6, v3_6, v4_6, v5_6⟩ := HV6.out.six
          obtain ⟨c0_6, c1_6, c2_6, c3_6, c4_6, c5_6⟩ := HC6.out.six
          obtain ⟨n0_6, n1_6, n2_6, n3_6, n4_6, n5_6⟩ := HN6.out.six
          go_wp2_with fail
          refine (errNew _ _).mono ?_
          rintro e w7 ⟨et6, ep6, rfl, hb⟩
          clear v0_6 v1_6 v2_6 v3_6 v4_6 v5_6 c0_6 c1_6 c2_6 c3_6 c4_6 c5_6 n0_6 n1_6 n2_6 n3_6 n4_6 n5_6
          have HB7 := Aside0.mk (HB6.out.trans (hb.mono HB6.out.size)); have HS7 := Aside0.mk (HS6.out.below hb); have HV7 := Aside0.mk (HV6.out.below hb); have HC7 := Aside0.mk (HC6.out.below hb); have HN7 := Aside0.mk (HN6.out.below hb); clear hb HB6 HS6 HV6 HC6 HN6
          obtain ⟨v0_7, v1_7, v2_7, v3_7, v4_7, v5_7⟩ := HV7.out.six
          obtain ⟨c0_7, c1_7, c2_7, c3_7, c4_7, c5_7⟩ := HC7.out.six
          obtain ⟨n0_7, n1_7, n2_7, n3_7, n4_7, n5_7⟩ := HN7.out.six
          go_wp2_with fail
          go_ret2
          exact ⟨_, (by first | rfl | (rw [t0, t2, t3, t5, t8]; rfl)), HB7.out⟩
         | false =>
          have t8' := bne_of t8
          replace t8' : (cp != 0) = true := t8'
          obtain ⟨v0_6, v1_6, v2_6, v3_6, v4_6, v5_6⟩ := HV6.out.six
          obtain ⟨c0_6, c1_6, c2_6, c3_6, c4_6, c5_6⟩ := HC6.out.six
          obtain ⟨n0_6, n1_6, n2_6, n3_6, n4_6, n5_6⟩ := HN6.out.six
          go_wp2_with fail
          go_ret2
          exact ⟨_, (by first | rfl | (rw [t0, t2, t3, t5, t8]; rfl)), HB6.out⟩
        | false =>
         obtain ⟨v0_4, v1_4, v2_4, v3_4, v4_4, v5_4⟩ := HV4.out.six
         obtain ⟨c0_4, c1_4, c2_4, c3_4, c4_4, c5_4⟩ := HC4.out.six
         obtain ⟨n0_4, n1_4, n2_4, n3_4, n4_4, n5_4⟩ := HN4.out.six
         go_wp2_with fail
         go_ret2
         exact ⟨_, (by first | rfl | (rw [t0, t2, t3, t5]; rfl)), HB4.out⟩
     | false =>
      have t3' := bne_of t3
      replace t3' : (y1 != x1) = true := t3'
      obtain ⟨v0_2, v1_2, v2_2, v3_2, v4_2, v5_2⟩ := HV2.out.six
      obtain ⟨c0_2, c1_2, c2_2, c3_2, c4_2, c5_2⟩ := HC2.out.six
      obtain ⟨n0_2, n1_2, n2_2, n3_2, n4_2, n5_2⟩ := HN2.out.six
      go_wp2_with fail
      clear v0_2 v1_2 v2_2 v3_2 v4_2 v5_2 c0_2 c1_2 c2_2 c3_2 c4_2 c5_2 n0_2 n1_2 n2_2 n3_2 n4_2 n5_2
      obtain ⟨v0_2, v1_2, v2_2, v3_2, v4_2, v5_2⟩ := HV2.out.sixR
      obtain ⟨c0_2, c1_2, c2_2, c3_2, c4_2, c5_2⟩ := HC2.out.sixR
      obtain ⟨n0_2, n1_2, n2_2, n3_2, n4_2, n5_2⟩ := HN2.out.sixR
      have c0 := fun d os => Calls.regrown_of (semver_Version_Minor.calls y0 y1 y2 yp ym yo _ (grow (redrawn w2 d) os) rfl)
      have c1 := fun d os => Calls.regrown_of (semver_Version_Minor.calls x0 x1 x2 xp xm xo _ (grow (redrawn w2 d) os) rfl)
      refine wp_region_quiet_below (by kernel_rfl) (by kernel_rfl) ?_
      repeat (first | go_big_quiet_step (first | exact c0 _ _ | exact c1 _ _) | quiet_step (first | exact c0 _ _ | exact c1 _ _))
      refine wpQuiet_nil ?_
      intro _ hw'; obtain ⟨⟨dq, osq⟩, hw''⟩ := hw'; subst hw''; clear c0 c1 v0_2 v1_2 v2_2 v3_2 v4_2 v5_2 c0_2 c1_2 c2_2 c3_2 c4_2 c5_2 n0_2 n1_2 n2_2 n3_2 n4_2 n5_2
      have hb := below_regrown w2 dq osq
      generalize grow (redrawn w2 dq) osq = w3 at *
      have HB3 := Aside0.mk (HB2.out.trans (hb.mono HB2.out.size)); have HS3 := Aside0.mk (HS2.out.below hb); have HV3 := Aside0.mk (HV2.out.below hb); have HC3 := Aside0.mk (HC2.out.below hb); have HN3 := Aside0.mk (HN2.out.below hb); clear hb HB2 HS2 HV2 HC2 HN2
      cases mD with
      | true =>
       obtain ⟨v0_3, v1_3, v2_3, v3_3, v4_3, v5_3⟩ := HV3.out.six
       obtain ⟨c0_3, c1_3, c2_3, c3_3, c4_3, c5_3⟩ := HC3.out.six
       obtain ⟨n0_3, n1_3, n2_3, n3_3, n4_3, n5_3⟩ := HN3.out.six
       go_wp2_with fail
       refine (errNew _ _).mono ?_
       rintro e w4 ⟨et3, ep3, rfl, hb⟩
       clear v0_3 v1_3 v2_3 v3_3 v4_3 v5_3 c0_3 c1_3 c2_3 c3_3 c4_3 c5_3 n0_3 n1_3 n2_3 n3_3 n4_3 n5_3
       have HB4 := Aside0.mk (HB3.out.trans (hb.mono HB3.out.size)); have HS4 := Aside0.mk (HS3.out.below hb); have HV4 := Aside0.mk (HV3.out.below hb); have HC4 := Aside0.mk (HC3.out.below hb); have HN4 := Aside0.mk (HN3.out.below hb); clear hb HB3 HS3 HV3 HC3 HN3
       obtain ⟨v0_4, v1_4, v2_4, v3_4, v4_4, v5_4⟩ := HV4.out.six
       obtain ⟨c0_4, c1_4, c2_4, c3_4, c4_4, c5_4⟩ := HC4.out.six
       obtain ⟨n0_4, n1_4, n2_4, n3_4, n4_4, n5_4⟩ := HN4.out.six
       go_wp2_with fail
       go_ret2
       exact ⟨_, (by first | rfl | (rw [t0, t2, t3]; rfl)), HB4.out⟩
      | false =>
       obtain ⟨v0_3, v1_3, v2_3, v3_3, v4_3, v5_3⟩ := HV3.out.six
       obtain ⟨c0_3, c1_3, c2_3, c3_3, c4_3, c5_3⟩ := HC3.out.six
       obtain ⟨n0_3, n1_3, n2_3, n3_3, n4_3, n5_3⟩ := HN3.out.six
       go_wp2_with fail
       go_ret2
       exact ⟨_, (by first | rfl | (rw [t0, t2, t3]; rfl)), HB3.out⟩
    | false =>
     have t2' := bne_of t2
     replace t2' : (y0 != x0) = true := t2'
     obtain ⟨v0_2, v1_2, v2_2, v3_2, v4_2, v5_2⟩ := HV2.out.six
     obtain ⟨c0_2, c1_2, c2_2, c3_2, c4_2, c5_2⟩ := HC2.out.six
     obtain ⟨n0_2, n1_2, n2_2, n3_2, n4_2, n5_2⟩ := HN2.out.six
     go_wp2_with fail
     go_ret2
     exact ⟨_, (by first | rfl | (rw [t0, t2]; rfl)), HB2.out⟩
   | false =>
    obtain ⟨v0_1, v1_1, v2_1, v3_1, v4_1, v5_1⟩ := HV1.out.six
    obtain ⟨c0_1, c1_1, c2_1, c3_1, c4_1, c5_1⟩ := HC1.out.six
    obtain ⟨n0_1, n1_1, n2_1, n3_1, n4_1, n5_1⟩ := HN1.out.six
    go_wp2_with fail
    refine (KEQ.out _ HV1.out HN1.out HS1.out).mono ?_
    rintro e w2 ⟨rfl, hb⟩
    clear v0_1 v1_1 v2_1 v3_1 v4_1 v5_1 c0_1 c1_1 c2_1 c3_1 c4_1 c5_1 n0_1 n1_1 n2_1 n3_1 n4_1 n5_1
    have HB2 := Aside0.mk (HB1.out.trans (hb.mono HB1.out.size)); have HS2 := Aside0.mk (HS1.out.below hb); have HV2 := Aside0.mk (HV1.out.below hb); have HC2 := Aside0.mk (HC1.out.below hb); have HN2 := Aside0.mk (HN1.out.below hb); clear hb HB1 HS1 HV1 HC1 HN1
    cases eqv with
    | true =>
     obtain ⟨v0_2, v1_2, v2_2, v3_2, v4_2, v5_2⟩ := HV2.out.six
     obtain ⟨c0_2, c1_2, c2_2, c3_2, c4_2, c5_2⟩ := HC2.out.six
     obtain ⟨n0_2, n1_2, n2_2, n3_2, n4_2, n5_2⟩ := HN2.out.six
     go_wp2_with fail
     refine (errNew _ _).mono ?_
     rintro e w3 ⟨et2, ep2, rfl, hb⟩
     clear v0_2 v1_2 v2_2 v3_2 v4_2 v5_2 c0_2 c1_2 c2_2 c3_2 c4_2 c5_2 n0_2 n1_2 n2_2 n3_2 n4_2 n5_2
     have HB3 := Aside0.mk (HB2.out.trans (hb.mono HB2.out.size)); have HS3 := Aside0.mk (HS2.out.below hb); have HV3 := Aside0.mk (HV2.out.below hb); have HC3 := Aside0.mk (HC2.out.below hb); have HN3 := Aside0.mk (HN2.out.below hb); clear hb HB2 HS2 HV2 HC2 HN2
     obtain ⟨v0_3, v1_3, v2_3, v3_3, v4_3, v5_3⟩ := HV3.out.six
     obtain ⟨c0_3, c1_3, c2_3, c3_3, c4_3, c5_3⟩ := HC3.out.six
     obtain ⟨n0_3, n1_3, n2_3, n3_3, n4_3, n5_3⟩ := HN3.out.six
     go_wp2_with fail
     go_ret2
     exact ⟨_, (by first | rfl | (rw [t0]; rfl)), HB3.out⟩
    | false =>
     obtain ⟨v0_2, v1_2, v2_2, v3_2, v4_2, v5_2⟩ := HV2.out.six
     obtain ⟨c0_2, c1_2, c2_2, c3_2, c4_2, c5_2⟩ := HC2.out.six
     obtain ⟨n0_2, n1_2, n2_2, n3_2, n4_2, n5_2⟩ := HN2.out.six
     go_wp2_with fail
     go_ret2
     exact ⟨_, (by first | rfl | (rw [t0]; rfl)), HB2.out⟩
  | false =>
   obtain ⟨v0_1, v1_1, v2_1, v3_1, v4_1, v5_1⟩ := HV1.out.six
   obtain ⟨c0_1, c1_1, c2_1, c3_1, c4_1, c5_1⟩ := HC1.out.six
   obtain ⟨n0_1, n1_1, n2_1, n3_1, n4_1, n5_1⟩ := HN1.out.six
   go_wp2_with fail
   refine (errNew _ _).mono ?_
   rintro e w2 ⟨et1, ep1, rfl, hb⟩
   clear v0_1 v1_1 v2_1 v3_1 v4_1 v5_1 c0_1 c1_1 c2_1 c3_1 c4_1 c5_1 n0_1 n1_1 n2_1 n3_1 n4_1 n5_1
   have HB2 := Aside0.mk (HB1.out.trans (hb.mono HB1.out.size)); have HS2 := Aside0.mk (HS1.out.below hb); have HV2 := Aside0.mk (HV1.out.below hb); have HC2 := Aside0.mk (HC1.out.below hb); have HN2 := Aside0.mk (HN1.out.below hb); clear hb HB1 HS1 HV1 HC1 HN1
   obtain ⟨v0_2, v1_2, v2_2, v3_2, v4_2, v5_2⟩ := HV2.out.six
   obtain ⟨c0_2, c1_2, c2_2, c3_2, c4_2, c5_2⟩ := HC2.out.six
   obtain ⟨n0_2, n1_2, n2_2, n3_2, n4_2, n5_2⟩ := HN2.out.six
   go_wp2_with fail
   go_ret2
   exact ⟨_, (by first | rfl | (rw [t0]; rfl)), HB2.out⟩

end Go.Proofs.YtllkoadcpobdaaaDoor.KX
namespace Go.Proofs.YtllkoadcpobdaaaDoor.KX

open Go.RowKit Go.Lib Go.Proofs Go.Sort Go.Proofs.YtllkoadcpobdaaaDoor Go.Proofs.YtllkoadcpobdaaaDoor.Base Go.Proofs.YtllkoadcpobdaaaDoor.L Go.Proofs.YtllkoadcpobdaaaDoor.Bt Go.Proofs.YtllkoadcpobdaaaDoor.PX

open Go.Proofs.YtllkoadcpobdaaaDoorW.PrintWords Go.Proofs.YtllkoadcpobdaaaDoorW.PrintLast Go.Proofs.YtllkoadcpobdaaaDoorW.PrintMore

/-- What semver.constraintTilde answers, out of its tests: b0: (xp.toList == []); b1: lt; b2: (y0 == 0); b3: (y1 == 0); b4: (y2 == 0); b5: mD; b6: (x0 == y0); b7: (x1 == y1); b8: pD; b9: pre. -/
def cTilde_r (b0 b1 b2 b3 b4 b5 b6 b7 b8 b9 : Bool) : Bool := bif b0 then (bif b1 then false else (bif b2 then (bif b3 then (bif b4 then (bif b5 then (bif b6 then (bif b7 then true else true) else false) else (bif b8 then (bif b6 then (bif b7 then true else false) else false) else true)) else (bif b6 then (bif b7 then true else (bif b5 then true else false)) else false)) else (bif b6 then (bif b7 then true else (bif b5 then true else false)) else false)) else (bif b6 then (bif b7 then true else (bif b5 then true else false)) else false))) else (bif b9 then (bif b1 then false else (bif b2 then (bif b3 then (bif b4 then (bif b5 then (bif b6 then (bif b7 then true else true) else false) else (bif b8 then (bif b6 then (bif b7 then true else false) else false) else true)) else (bif b6 then (bif b7 then true else (bif b5 then true else false)) else false)) else (bif b6 then (bif b7 then true else (bif b5 then true else false)) else false)) else (bif b6 then (bif b7 then true else (bif b5 then true else false)) else false))) else false)

set_option maxHeartbeats 100000000 in
set_option maxRecDepth 100000 in
theorem cTilde_calls (x0 x1 x2 : Int) (xp xm xo : ByteArray) (y0 y1 y2 : Int) (yp ym yo : ByteArray) (og op : ByteArray) (bv bc bn : Nat) (mD d pD pre : Bool) (lt : Bool) (w : World) (hV : At w bv [.int .u64 x0, .int .u64 x1, .int .u64 x2, .string xp, .string xm, .string xo]) (hC : At w bc [.pointer (some ⟨bn, 0, none⟩), .string og, .string op, .bool mD, .bool d, .bool pD]) (hN : At w bn [.int .u64 y0, .int .u64 y1, .int .u64 y2, .string yp, .string ym, .string yo]) (hStd : Std w) (KLT : Hid (∀ (W : World), At W bv [.int .u64 x0, .int .u64 x1, .int .u64 x2, .string xp, .string xm, .string xo] → At W bn [.int .u64 y0, .int .u64 y1, .int .u64 y2, .string yp, .string ym, .string yo] → Std W → Calls Tryd.prog 61 #[.pointer (some ⟨bv, 0, none⟩), .pointer (some ⟨bn, 0, none⟩)] W fun e w' => e = .returned (.bool lt) ∧ Below W.heap.size W w'))  :
  Calls Tryd.prog 87 #[.pointer (some ⟨bv, 0, none⟩), .pointer (some ⟨bc, 0, none⟩), .bool pre] w (RetB w (cTilde_r (xp.toList == []) lt (y0 == 0) (y1 == 0) (y2 == 0) mD (x0 == y0) (x1 == y1) pD pre)) := by
 have HB0 := Aside0.mk (Below.refl w.heap.size w); have HS0 := Aside0.mk hStd; have HV0 := Aside0.mk hV; have HC0 := Aside0.mk hC; have HN0 := Aside0.mk hN; clear hStd hV hC hN
 obtain ⟨v0_0, v1_0, v2_0, v3_0, v4_0, v5_0⟩ := HV0.out.six
 obtain ⟨c0_0, c1_0, c2_0, c3_0, c4_0, c5_0⟩ := HC0.out.six
 obtain ⟨n0_0, n1_0, n2_0, n3_0, n4_0, n5_0⟩ := HN0.out.six
 go_enter Tryd.func87, Tryd.ntmps87
 go_wp2_with fail
 refine (semver_Version_Prerelease.calls x0 x1 x2 xp xm xo _ _ rfl).mono ?_
 rintro e w1 ⟨rfl, hb⟩
 clear v0_0 v1_0 v2_0 v3_0 v4_0 v5_0 c0_0 c1_0 c2_0 c3_0 c4_0 c5_0 n0_0 n1_0 n2_0 n3_0 n4_0 n5_0
 have HB1 := Aside0.mk (HB0.out.trans (hb.mono HB0.out.size)); have HS1 := Aside0.mk (HS0.out.below hb); have HV1 := Aside0.mk (HV0.out.below hb); have HC1 := Aside0.mk (HC0.out.below hb); have HN1 := Aside0.mk (HN0.out.below hb); clear hb HB0 HS0 HV0 HC0 HN0
 cases t0 : (xp.toList == []) with
 | true =>
  have t0' := bne_of t0
  replace t0' : (xp.toList != []) = false := t0'
  obtain ⟨v0_1, v1_1, v2_1, v3_1, v4_1, v5_1⟩ := HV1.out.six
  obtain ⟨c0_1, c1_1, c2_1, c3_1, c4_1, c5_1⟩ := HC1.out.six
  obtain ⟨n0_1, n1_1, n2_1, n3_1, n4_1, n5_1⟩ := HN1.out.six
  go_wp2_with fail
  refine (KLT.out _ HV1.out HN1.out HS1.out).mono ?_
  rintro e w2 ⟨rfl, hb⟩
  clear v0_1 v1_1 v2_1 v3_1 v4_1 v5_1 c0_1 c1_1 c2_1 c3_1 c4_1 c5_1 n0_1 n1_1 n2_1 n3_1 n4_1 n5_1
  have HB2 := Aside0.mk (HB1.out.trans (hb.mono HB1.out.size)); have HS2 := Aside0.mk (HS1.out.below hb); have HV2 := Aside0.mk (HV1.out.below hb); have HC2 := Aside0.mk (HC1.out.below hb); have HN2 := Aside0.mk (HN1.out.below hb); clear hb HB1 HS1 HV1 HC1 HN1
  cases lt with
  | true =>
   obtain ⟨v0_2, v1_2, v2_2, v3_2, v4_2, v5_2⟩ := HV2.out.six
   obtain ⟨c0_2, c1_2, c2_2, c3_2, c4_2, c5_2⟩ := HC2.out.six
   obtain ⟨n0_2, n1_2, n2_2, n3_2, n4_2, n5_2⟩ := HN2.out.six
   go_wp2_with fail
   refine (errNew _ _).mono ?_
   rintro e w3 ⟨et2, ep2, rfl, hb⟩
   clear v0_2 v1_2 v2_2 v3_2 v4_2 v5_2 c0_2 c1_2 c2_2 c3_2 c4_2 c5_2 n0_2 n1_2 n2_2 n3_2 n4_2 n5_2
   have HB3 := Aside0.mk (HB2.out.trans (hb.mono HB2.out.size)); have HS3 := Aside0.mk (HS2.out.below hb); have HV3 := Aside0.mk (HV2.out.below hb); have HC3 := Aside0.mk (HC2.out.below hb); have HN3 := Aside0.mk (HN2.out.below hb); clear hb HB2 HS2 HV2 HC2 HN2
   obtain ⟨v0_3, v1_3, v2_3, v3_3, v4_3, v5_3⟩ := HV3.out.six
   obtain ⟨c0_3, c1_3, c2_3, c3_3, c4_3, c5_3⟩ := HC3.out.six
   obtain ⟨n0_3, n1_3, n2_3, n3_3, n4_3, n5_3⟩ := HN3.out.six
   go_wp2_with fail
   go_ret2
   exact ⟨_, (by first | rfl | (rw [t0]; rfl)), HB3.out⟩
  | false =>
   obtain ⟨v0_2, v1_2, v2_2, v3_2, v4_2, v5_2⟩ := HV2.out.six
   obtain ⟨c0_2, c1_2, c2_2, c3_2, c4_2, c5_2⟩ := HC2.out.six
   obtain ⟨n0_2, n1_2, n2_2, n3_2, n4_2, n5_2⟩ := HN2.out.six
   go_wp2_with fail
   refine (semver_Version_Major.calls y0 y1 y2 yp ym yo _ _ rfl).mono ?_
   rintro e w3 ⟨rfl, hb⟩
   clear v0_2 v1_2 v2_2 v3_2 v4_2 v5_2 c0_2 c1_2 c2_2 c3_2 c4_2 c5_2 n0_2 n1_2 n2_2 n3_2 n4_2 n5_2
   have HB3 := Aside0.mk (HB2.out.trans (hb.mono HB2.out.size)); have HS3 := Aside0.mk (HS2.out.below hb); have HV3 := Aside0.mk (HV2.out.below hb); have HC3 := Aside0.mk (HC2.out.below hb); have HN3 := Aside0.mk (HN2.out.below hb); clear hb HB2 HS2 HV2 HC2 HN2
   cases t2 : (y0 == 0) with
   | true =>
    have t2' := bne_of t2
    replace t2' : (y0 != 0) = false := t2'
    obtain ⟨v0_3, v1_3, v2_3, v3_3, v4_3, v5_3⟩ := HV3.out.six
    obtain ⟨c0_3, c1_3, c2_3, c3_3, c4_3, c5_3⟩ := HC3.out.six
    obtain ⟨n0_3, n1_3, n2_3, n3_3, n4_3, n5_3⟩ := HN3.out.six
    go_wp2_with fail
    refine (semver_Version_Minor.calls y0 y1 y2 yp ym yo _ _ rfl).mono ?_
    rintro e w4 ⟨rfl, hb⟩
    clear v0_3 v1_3 v2_3 v3_3 v4_3 v5_3 c0_3 c1_3 c2_3 c3_3 c4_3 c5_3 n0_3 n1_3 n2_3 n3_3 n4_3 n5_3
    have HB4 := Aside0.mk (HB3.out.trans (hb.mono HB3.out.size)); have HS4 := Aside0.mk (HS3.out.below hb); have HV4 := Aside0.mk (HV3.out.below hb); have HC4 := Aside0.mk (HC3.out.below hb); have HN4 := Aside0.mk (HN3.out.below hb); clear hb HB3 HS3 HV3 HC3 HN3
    cases t3 : (y1 == 0) with
    | true =>
     have t3' := bne_of t3
     replace t3' : (y1 != 0) = false := t3'
     obtain ⟨v0_4, v1_4, v2_4, v3_4, v4_4, v5_4⟩ := HV4.out.six
     obtain ⟨c0_4, c1_4, c2_4, c3_4, c4_4, c5_4⟩ := HC4.out.six
     obtain ⟨n0_4, n1_4, n2_4, n3_4, n4_4, n5_4⟩ := HN4.out.six
     go_wp2_with fail
     refine (semver_Version_Patch.calls y0 y1 y2 yp ym yo _ _ rfl).mono ?_
     rintro e w5 ⟨rfl, hb⟩
     clear v0_4 v1_4 v2_4 v3_4 v4_4 v5_4 c0_4 c1_4 c2_4 c3_4 c4_4 c5_4 n0_4 n1_4 n2_4 n3_4 n4_4 n5_4
     have HB5 := Aside0.mk (HB4.out.trans (hb.mono HB4.out.size)); have HS5 := Aside0.mk (HS4.out.below hb); have HV5 := Aside0.mk (HV4.out.below hb); have HC5 := Aside0.mk (HC4.out.below hb); have HN5 := Aside0.mk (HN4.out.below hb); clear hb HB4 HS4 HV4 HC4 HN4
     cases t4 : (y2 == 0) with
     | true =>
      have t4' := bne_of t4
      replace t4' : (y2 != 0) = false := t4'
      cases mD with
      | true =>
       obtain ⟨v0_5, v1_5, v2_5, v3_5, v4_5, v5_5⟩ := HV5.out.six
       obtain ⟨c0_5, c1_5, c2_5, c3_5, c4_5, c5_5⟩ := HC5.out.six
       obtain ⟨n0_5, n1_5, n2_5, n3_5, n4_5, n5_5⟩ := HN5.out.six
       go_wp2_with fail
       clear v0_5 v1_5 v2_5 v3_5 v4_5 v5_5 c0_5 c1_5 c2_5 c3_5 c4_5 c5_5 n0_5 n1_5 n2_5 n3_5 n4_5 n5_5
       obtain ⟨v0_5, v1_5, v2_5, v3_5, v4_5, v5_5⟩ := HV5.out.sixR
       obtain ⟨c0_5, c1_5, c2_5, c3_5, c4_5, c5_5⟩ := HC5.out.sixR
       obtain ⟨n0_5, n1_5, n2_5, n3_5, n4_5, n5_5⟩ := HN5.out.sixR
       have c0 := fun d os => Calls.regrown_of (semver_Version_Major.calls x0 x1 x2 xp xm xo _ (grow (redrawn w5 d) os) rfl)
       have c1 := fun d os => Calls.regrown_of (semver_Version_Major.calls y0 y1 y2 yp ym yo _ (grow (redrawn w5 d) os) rfl)
       refine wp_region_quiet_below (by kernel_rfl) (by kernel_rfl) ?_
       repeat (first | go_big_quiet_step (first | exact c0 _ _ | exact c1 _ _) | quiet_step (first | exact c0 _ _ | exact c1 _ _))
       refine wpQuiet_nil ?_
       intro _ hw'; obtain ⟨⟨dq, osq⟩, hw''⟩ := hw'; subst hw''; clear c0 c1 v0_5 v1_5 v2_5 v3_5 v4_5 v5_5 c0_5 c1_5 c2_5 c3_5 c4_5 c5_5 n0_5 n1_5 n2_5 n3_5 n4_5 n5_5
       have hb := below_regrown w5 dq osq
       generalize grow (redrawn w5 dq) osq = w6 at *
       have HB6 := Aside0.mk (HB5.out.trans (hb.mono HB5.out.size)); have HS6 := Aside0.mk (HS5.out.below hb); have HV6 := Aside0.mk (HV5.out.below hb); have HC6 := Aside0.mk (HC5.out.below hb); have HN6 := Aside0.mk (HN5.out.below hb); clear hb HB5 HS5 HV5 HC5 HN5
       cases t6 : (x0 == y0) with
       | true =>
        have t6' := bne_of t6
        replace t6' : (x0 != y0) = false := t6'
        cases t7 : (x1 == y1) with
        | true =>
         have t7' := bne_of t7
         replace t7' : (x1 != y1) = false := t7'
         obtain ⟨v0_6, v1_6, v2_6, v3_6, v4_6, v5_6⟩ := HV6.out.six
         obtain ⟨c0_6, c1_6, c2_6, c3_6, c4_6, c5_6⟩ := HC6.out.six
         obtain ⟨n0_6, n1_6, n2_6, n3_6, n4_6, n5_6⟩ := HN6.out.six
         go_wp2_with fail
         clear v0_6 v1_6 v2_6 v3_6 v4_6 v5_6 c0_6 c1_6 c2_6 c3_6 c4_6 c5_6 n0_6 n1_6 n2_6 n3_6 n4_6 n5_6
         obtain ⟨v0_6, v1_6, v2_6, v3_6, v4_6, v5_6⟩ := HV6.out.sixR
         obtain ⟨c0_6, c1_6, c2_6, c3_6, c4_6, c5_6⟩ := HC6.out.sixR
         obtain ⟨n0_6, n1_6, n2_6, n3_6, n4_6, n5_6⟩ := HN6.out.sixR
         have c0 := fun d os => Calls.regrown_of (semver_Version_Minor.calls x0 x1 x2 xp xm xo _ (grow (redrawn w6 d) os) rfl)
         have c1 := fun d os => Calls.regrown_of (semver_Version_Minor.calls y0 y1 y2 yp ym yo _ (grow (redrawn w6 d) os) rfl)
         refine wp_region_quiet_below (by kernel_rfl) (by kernel_rfl) ?_
         repeat (first | go_big_quiet_step (first | exact c0 _ _ | exact c1 _ _) | quiet_step (first | exact c0 _ _ | exact c1 _ _))
         refine wpQuiet_nil ?_
         intro _ hw'; obtain ⟨⟨dq, osq⟩, hw''⟩ := hw'; subst hw''; clear c0 c1 v0_6 v1_6 v2_6 v3_6 v4_6 v5_6 c0_6 c1_6 c2_6 c3_6 c4_6 c5_6 n0_6 n1_6 n2_6 n3_6 n4_6 n5_6
         have hb := below_regrown w6 dq osq
         generalize grow (redrawn w6 dq) osq = w7 at *
         have HB7 := Aside0.mk (HB6.out.trans (hb.mono HB6.out.size)); have HS7 := Aside0.mk (HS6.out.below hb); have HV7 := Aside0.mk (HV6.out.below hb); have HC7 := Aside0.mk (HC6.out.below hb); have HN7 := Aside0.mk (HN6.out.below hb); clear hb HB6 HS6 HV6 HC6 HN6
         obtain ⟨v0_7, v1_7, v2_7, v3_7, v4_7, v5_7⟩ := HV7.out.six
         obtain ⟨c0_7, c1_7, c2_7, c3_7, c4_7, c5_7⟩ := HC7.out.six
         obtain ⟨n0_7, n1_7, n2_7, n3_7, n4_7, n5_7⟩ := HN7.out.six
         go_wp2_with fail
         go_ret2
         exact ⟨_, (by first | rfl | (rw [t0, t2, t3, t4, t6, t7]; rfl)), HB7.out⟩
        | false =>
         have t7' := bne_of t7
         replace t7' : (x1 != y1) = true := t7'
         obtain ⟨v0_6, v1_6, v2_6, v3_6, v4_6, v5_6⟩ := HV6.out.six
         obtain ⟨c0_6, c1_6, c2_6, c3_6, c4_6, c5_6⟩ := HC6.out.six
         obtain ⟨n0_6, n1_6, n2_6, n3_6, n4_6, n5_6⟩ := HN6.out.six
         go_wp2_with fail
         clear v0_6 v1_6 v2_6 v3_6 v4_6 v5_6 c0_6 c1_6 c2_6 c3_6 c4_6 c5_6 n0_6 n1_6 n2_6 n3_6 n4_6 n5_6
         obtain ⟨v0_6, v1_6, v2_6, v3_6, v4_6, v5_6⟩ := HV6.out.sixR
         obtain ⟨c0_6, c1_6, c2_6, c3_6, c4_6, c5_6⟩ := HC6.out.sixR
         obtain ⟨n0_6, n1_6, n2_6, n3_6, n4_6, n5_6⟩ := HN6.out.sixR
         have c0 := fun d os => Calls.regrown_of (semver_Version_Minor.calls x0 x1 x2 xp xm xo _ (grow (redrawn w6 d) os) rfl)
         have c1 := fun d os => Calls.regrown_of (semver_Version_Minor.calls y0 y1 y2 yp ym yo _ (grow (redrawn w6 d) os) rfl)
         refine wp_region_quiet_below (by kernel_rfl) (by kernel_rfl) ?_
         repeat (first | go_big_quiet_step (first | exact c0 _ _ | exact c1 _ _) | quiet_step (first | exact c0 _ _ | exact c1 _ _))
         refine wpQuiet_nil ?_
         intro _ hw'; obtain ⟨⟨dq, osq⟩, hw''⟩ := hw'; subst hw''; clear c0 c1 v0_6 v1_6 v2_6 v3_6 v4_6 v5_6 c0_6 c1_6 c2_6 c3_6 c4_6 c5_6 n0_6 n1_6 n2_6 n3_6 n4_6 n5_6
         have hb := below_regrown w6 dq osq
         generalize grow (redrawn w6 dq) osq = w7 at *
         have HB7 := Aside0.mk (HB6.out.trans (hb.mono HB6.out.size)); have HS7 := Aside0.mk (HS6.out.below hb); have HV7 := Aside0.mk (HV6.out.below hb); have HC7 := Aside0.mk (HC6.out.below hb); have HN7 := Aside0.mk (HN6.out.below hb); clear hb HB6 HS6 HV6 HC6 HN6
         obtain ⟨v0_7, v1_7, v2_7, v3_7, v4_7, v5_7⟩ := HV7.out.six
         obtain ⟨c0_7, c1_7, c2_7, c3_7, c4_7, c5_7⟩ := HC7.out.six
         obtain ⟨n0_7, n1_7, n2_7, n3_7, n4_7, n5_7⟩ := HN7.out.six
         go_wp2_with fail
         go_ret2
         exact ⟨_, (by first | rfl | (rw [t0, t2, t3, t4, t6, t7]; rfl)), HB7.out⟩
       | false =>
        have t6' := bne_of t6
        replace t6' : (x0 != y0) = true := t6'
        obtain ⟨v0_6, v1_6, v2_6, v3_6, v4_6, v5_6⟩ := HV6.out.six
        obtain ⟨c0_6, c1_6, c2_6, c3_6, c4_6, c5_6⟩ := HC6.out.six
        obtain ⟨n0_6, n1_6, n2_6, n3_6, n4_6, n5_6⟩ := HN6.out.six
        go_wp2_with fail
        refine (errNew _ _).mono ?_
        rintro e w7 ⟨et6, ep6, rfl, hb⟩
        clear v0_6 v1_6 v2_6 v3_6 v4_6 v5_6 c0_6 c1_6 c2_6 c3_6 c4_6 c5_6 n0_6 n1_6 n2_6 n3_6 n4_6 n5_6
        have HB7 := Aside0.mk (HB6.out.trans (hb.mono HB6.out.size)); have HS7 := Aside0.mk (HS6.out.below hb); have HV7 := Aside0.mk (HV6.out.below hb); have HC7 := Aside0.mk (HC6.out.below hb); have HN7 := Aside0.mk (HN6.out.below hb); clear hb HB6 HS6 HV6 HC6 HN6
        obtain ⟨v0_7, v1_7, v2_7, v3_7, v4_7, v5_7⟩ := HV7.out.six
        obtain ⟨c0_7, c1_7, c2_7, c3_7, c4_7, c5_7⟩ := HC7.out.six
        obtain ⟨n0_7, n1_7, n2_7, n3_7, n4_7, n5_7⟩ := HN7.out.six
        go_wp2_with fail
        go_ret2
        exact ⟨_, (by first | rfl | (rw [t0, t2, t3, t4, t6]; rfl)), HB7.out⟩
      | false =>
       cases pD with
       | true =>
        obtain ⟨v0_5, v1_5, v2_5, v3_5, v4_5, v5_5⟩ := HV5.out.six
        obtain ⟨c0_5, c1_5, c2_5, c3_5, c4_5, c5_5⟩ := HC5.out.six
        obtain ⟨n0_5, n1_5, n2_5, n3_5, n4_5, n5_5⟩ := HN5.out.six
        go_wp2_with fail
        clear v0_5 v1_5 v2_5 v3_5 v4_5 v5_5 c0_5 c1_5 c2_5 c3_5 c4_5 c5_5 n0_5 n1_5 n2_5 n3_5 n4_5 n5_5
        obtain ⟨v0_5, v1_5, v2_5, v3_5, v4_5, v5_5⟩ := HV5.out.sixR
        obtain ⟨c0_5, c1_5, c2_5, c3_5, c4_5, c5_5⟩ := HC5.out.sixR
        obtain ⟨n0_5, n1_5, n2_5, n3_5, n4_5, n5_5⟩ := HN5.out.sixR
        have c0 := fun d os => Calls.regrown_of (semver_Version_Major.calls x0 x1 x2 xp xm xo _ (grow (redrawn w5 d) os) rfl)
        have c1 := fun d os => Calls.regrown_of (semver_Version_Major.calls y0 y1 y2 yp ym yo _ (grow (redrawn w5 d) os) rfl)
        refine wp_region_quiet_below (by kernel_rfl) (by kernel_rfl) ?_
        repeat (first | go_big_quiet_step (first | exact c0 _ _ | exact c1 _ _) | quiet_step (first | exact c0 _ _ | exact c1 _ _))
        refine wpQuiet_nil ?_
        intro _ hw'; obtain ⟨⟨dq, osq⟩, hw''⟩ := hw'; subst hw''; clear c0 c1 v0_5 v1_5 v2_5 v3_5 v4_5 v5_5 c0_5 c1_5 c2_5 c3_5 c4_5 c5_5 n0_5 n1_5 n2_5 n3_5 n4_5 n5_5
        have hb := below_regrown w5 dq osq
        generalize grow (redrawn w5 dq) osq = w6 at *
        have HB6 := Aside0.mk (HB5.out.trans (hb.mono HB5.out.size)); have HS6 := Aside0.mk (HS5.out.below hb); have HV6 := Aside0.mk (HV5.out.below hb); have HC6 := Aside0.mk (HC5.out.below hb); have HN6 := Aside0.mk (HN5.out.below hb); clear hb HB5 HS5 HV5 HC5 HN5
        cases t6 : (x0 == y0) with
        | true =>
         have t6' := bne_of t6
         replace t6' : (x0 != y0) = false := t6'
         cases t7 : (x1 == y1) with
         | true =>
          have t7' := bne_of t7
          replace t7' : (x1 != y1) = false := t7'
          obtain ⟨v0_6, v1_6, v2_6, v3_6, v4_6, v5_6⟩ := HV6.out.six
          obtain ⟨c0_6, c1_6, c2_6, c3_6, c4_6, c5_6⟩ := HC6.out.six
          obtain ⟨n0_6, n1_6, n2_6, n3_6, n4_6, n5_6⟩ := HN6.out.six
          go_wp2_with fail
          clear v0_6 v1_6 v2_6 v3_6 v4_6 v5_6 c0_6 c1_6 c2_6 c3_6 c4_6 c5_6 n0_6 n1_6 n2_6 n3_6 n4_6 n5_6
          obtain ⟨v0_6, v1_6, v2_6, v3_6, v4_6, v5_6⟩ := HV6.out.sixR
          obtain ⟨c0_6, c1_6, c2_6, c3_6, c4_6, c5_6⟩ := HC6.out.sixR
          obtain ⟨n0_6, n1_6, n2_6, n3_6, n4_6, n5_6⟩ := HN6.out.sixR
          have c0 := fun d os => Calls.regrown_of (semver_Version_Minor.calls x0 x1 x2 xp xm xo _ (grow (redrawn w6 d) os) rfl)
          have c1 := fun d os => Calls.regrown_of (semver_Version_Minor.calls y0 y1 y2 yp ym yo _ (grow (redrawn w6 d) os) rfl)
          refine wp_region_quiet_below (by kernel_rfl) (by kernel_rfl) ?_
          repeat (first | go_big_quiet_step (first | exact c0 _ _ | exact c1 _ _) | quiet_step (first | exact c0 _ _ | exact c1 _ _))
          refine wpQuiet_nil ?_
          intro _ hw'; obtain ⟨⟨dq, osq⟩, hw''⟩ := hw'; subst hw''; clear c0 c1 v0_6 v1_6 v2_6 v3_6 v4_6 v5_6 c0_6 c1_6 c2_6 c3_6 c4_6 c5_6 n0_6 n1_6 n2_6 n3_6 n4_6 n5_6
          have hb := below_regrown w6 dq osq
          generalize grow (redrawn w6 dq) osq = w7 at *
          have HB7 := Aside0.mk (HB6.out.trans (hb.mono HB6.out.size)); have HS7 := Aside0.mk (HS6.out.below hb); have HV7 := Aside0.mk (HV6.out.below hb); have HC7 := Aside0.mk (HC6.out.below hb); have HN7 := Aside0.mk (HN6.out.below hb); clear hb HB6 HS6 HV6 HC6 HN6
          obtain ⟨v0_7, v1_7, v2_7, v3_7, v4_7, v5_7⟩ := HV7.out.six
          obtain ⟨c0_7, c1_7, c2_7, c3_7, c4_7, c5_7⟩ := HC7.out.six
          obtain ⟨n0_7, n1_7, n2_7, n3_7, n4_7, n5_7⟩ := HN7.out.six
          go_wp2_with fail
          go_ret2
          exact ⟨_, (by first | rfl | (rw [t0, t2, t3, t4, t6, t7]; rfl)), HB7.out⟩
         | false =>
          have t7' := bne_of t7
          replace t7' : (x1 != y1) = true := t7'
          obtain ⟨v0_6, v1_6, v2_6, v3_6, v4_6, v5_6⟩ := HV6.out.six
          obtain ⟨c0_6, c1_6, c2_6, c3_6, c4_6, c5_6⟩ := HC6.out.six
          obtain ⟨n0_6, n1_6, n2_6, n3_6, n4_6, n5_6⟩ := HN6.out.six
          go_wp2_with fail
          clear v0_6 v1_6 v2_6 v3_6 v4_6 v5_6 c0_6 c1_6 c2_6 c3_6 c4_6 c5_6 n0_6 n1_6 n2_6 n3_6 n4_6 n5_6
          obtain ⟨v0_6, v1_6, v2_6, v3_6, v4_6, v5_6⟩ := HV6.out.sixR
          obtain ⟨c0_6, c1_6, c2_6, c3_6, c4_6, c5_6⟩ := HC6.out.sixR
          obtain ⟨n0_6, n1_6, n2_6, n3_6, n4_6, n5_6⟩ := HN6.out.sixR
          have c0 := fun d os => Calls.regrown_of (semver_Version_Minor.calls x0 x1 x2 xp xm xo _ (grow (redrawn w6 d) os) rfl)
          have c1 := fun d os => Calls.regrown_of (semver_Version_Minor.calls y0 y1 y2 yp ym yo _ (grow (redrawn w6 d) os) rfl)
          refine wp_region_quiet_below (by kernel_rfl) (by kernel_rfl) ?_
          repeat (first | go_big_quiet_step (first | exact c0 _ _ | exact c1 _ _) | quiet_step (first | exact c0 _ _ | exact c1 _ _))
          refine wpQuiet_nil ?_
          intro _ hw'; obtain ⟨⟨dq, osq⟩, hw''⟩ := hw'; subst hw''; clear c0 c1 v0_6 v1_6 v2_6 v3_6 v4_6 v5_6 c0_6 c1_6 c2_6 c3_6 c4_6 c5_6 n0_6 n1_6 n2_6 n3_6 n4_6 n5_6
          have hb := below_regrown w6 dq osq
          generalize grow (redrawn w6 dq) osq = w7 at *
          have HB7 := Aside0.mk (HB6.out.trans (hb.mono HB6.out.size)); have HS7 := Aside0.mk (HS6.out.below hb); have HV7 := Aside0.mk (HV6.out.below hb); have HC7 := Aside0.mk (HC6.out.below hb); have HN7 := Aside0.mk (HN6.out.below hb); clear hb HB6 HS6 HV6 HC6 HN6
          obtain ⟨v0_7, v1_7, v2_7, v3_7, v4_7, v5_7⟩ := HV7.out.six
          obtain ⟨c0_7, c1_7, c2_7, c3_7, c4_7, c5_7⟩ := HC7.out.six
          obtain ⟨n0_7, n1_7, n2_7, n3_7, n4_7, n5_7⟩ := HN7.out.six
          go_wp2_with fail
          refine (errNew _ _).mono ?_
          rintro e w8 ⟨et7, ep7, rfl, hb⟩
          clear v0_7 v1_7 v2_7 v3_7 v4_7 v5_7 c0_7 c1_7 c2_7 c3_7 c4_7 c5_7 n0_7 n1_7 n2_7 n3_7 n4_7 n5_7
          have HB8 := Aside0.mk (HB7.out.trans (hb.mono HB7.out.size)); have HS8 := Aside0.mk (HS7.out.below hb); have HV8 := Aside0.mk (HV7.out.below hb); have HC8 := Aside0.mk (HC7.out.below hb); have HN8 := Aside0.mk (HN7.out.below hb); clear hb HB7 HS7 HV7 HC7 HN7
          obtain ⟨v0_8, v1_8, v2_8, v3_8, v4_8, v5_8⟩ := HV8.out.six
          obtain ⟨c0_8, c1_8, c2_8, c3_8, c4_8, c5_8⟩ := HC8.out.six
          obtain ⟨n0_8, n1_8, n2_8, n3_8, n4_8, n5_8⟩ := HN8.out.six
          go_wp2_with fail
          go_ret2
          exact ⟨_, (by first | rfl | (rw [t0, t2, t3, t4, t6, t7]; rfl)), HB8.out⟩
        | false =>
         have t6' := bne_of t6
         replace t6' : (x0 != y0) = true := t6'
         obtain ⟨v0_6, v1_6, v2_6, v3_6, v4_6, v5_6⟩ := HV6.out.six
         obtain ⟨c0_6, c1_6, c2_6, c3_6, c4_6, c5_6⟩ := HC6.out.six
         obtain ⟨n0_6, n1_6, n2_6, n3_6, n4_6, n5_6⟩ := HN6.out.six
         go_wp2_with fail
         refine (errNew _ _).mono ?_
         rintro e w7 ⟨et6, ep6, rfl, hb⟩
         clear v0_6 v1_6 v2_6 v3_6 v4_6 v5_6 c0_6 c1_6 c2_6 c3_6 c4_6 c5_6 n0_6 n1_6 n2_6 n3_6 n4_6 n5_6
         have HB7 := Aside0.mk (HB6.out.trans (hb.mono HB6.out.size)); have HS7 := Aside0.mk (HS6.out.below hb); have HV7 := Aside0.mk (HV6.out.below hb); have HC7 := Aside0.mk (HC6.out.below hb); have HN7 := Aside0.mk (HN6.out.below hb); clear hb HB6 HS6 HV6 HC6 HN6
         obtain ⟨v0_7, v1_7, v2_7, v3_7, v4_7, v5_7⟩ := HV7.out.six
         obtain ⟨c0_7, c1_7, c2_7, c3_7, c4_7, c5_7⟩ := HC7.out.six
         obtain ⟨n0_7, n1_7, n2_7, n3_7, n4_7, n5_7⟩ := HN7.out.six
         go_wp2_with fail
         go_ret2
         exact ⟨_, (by first | rfl | (rw [t0, t2, t3, t4, t6]; rfl)), HB7.out⟩
       | false =>
        obtain ⟨v0_5, v1_5, v2_5, v3_5, v4_5, v5_5⟩ := HV5.out.six
        obtain ⟨c0_5, c1_5, c2_5, c3_5, c4_5, c5_5⟩ := HC5.out.six
        obtain ⟨n0_5, n1_5, n2_5, n3_5, n4_5, n5_5⟩ := HN5.out.six
        go_wp2_with fail
        go_ret2
        exact ⟨_, (by first | rfl | (rw [t0, t2, t3, t4]; rfl)), HB5.out⟩
     | false =>
      have t4' := bne_of t4
      replace t4' : (y2 != 0) = true := t4'
      obtain ⟨v0_5, v1_5, v2_5, v3_5, v4_5, v5_5⟩ := HV5.out.six
      obtain ⟨c0_5, c1_5, c2_5, c3_5, c4_5, c5_5⟩ := HC5.out.six
      obtain ⟨n0_5, n1_5, n2_5, n3_5, n4_5, n5_5⟩ := HN5.out.six
      go_wp2_with fail
      clear v0_5 v1_5 v2_5 v3_5 v4_5 v5_5 c0_5 c1_5 c2_5 c3_5 c4_5 c5_5 n0_5 n1_5 n2_5 n3_5 n4_5 n5_5
      obtain ⟨v0_5, v1_5, v2_5, v3_5, v4_5, v5_5⟩ := HV5.out.sixR
      obtain ⟨c0_5, c1_5, c2_5, c3_5, c4_5, c5_5⟩ := HC5.out.sixR
      obtain ⟨n0_5, n1_5, n2_5, n3_5, n4_5, n5_5⟩ := HN5.out.sixR
      have c0 := fun d os => Calls.regrown_of (semver_Version_Major.calls x0 x1 x2 xp xm xo _ (grow (redrawn w5 d) os) rfl)
      have c1 := fun d os => Calls.regrown_of (semver_Version_Major.calls y0 y1 y2 yp ym yo _ (grow (redrawn w5 d) os) rfl)
      refine wp_region_quiet_below (by kernel_rfl) (by kernel_rfl) ?_
      repeat (first | go_big_quiet_step (first | exact c0 _ _ | exact c1 _ _) | quiet_step (first | exact c0 _ _ | exact c1 _ _))
      refine wpQuiet_nil ?_
      intro _ hw'; obtain ⟨⟨dq, osq⟩, hw''⟩ := hw'; subst hw''; clear c0 c1 v0_5 v1_5 v2_5 v3_5 v4_5 v5_5 c0_5 c1_5 c2_5 c3_5 c4_5 c5_5 n0_5 n1_5 n2_5 n3_5 n4_5 n5_5
      have hb := below_regrown w5 dq osq
      generalize grow (redrawn w5 dq) osq = w6 at *
      have HB6 := Aside0.mk (HB5.out.trans (hb.mono HB5.out.size)); have HS6 := Aside0.mk (HS5.out.below hb); have HV6 := Aside0.mk (HV5.out.below hb); have HC6 := Aside0.mk (HC5.out.below hb); have HN6 := Aside0.mk (HN5.out.below hb); clear hb HB5 HS5 HV5 HC5 HN5
      cases t6 : (x0 == y0) with
      | true =>
       have t6' := bne_of t6
       replace t6' : (x0 != y0) = false := t6'
       cases t7 : (x1 == y1) with
       | true =>
        have t7' := bne_of t7
        replace t7' : (x1 != y1) = false := t7'
        obtain ⟨v0_6, v1_6, v2_6, v3_6, v4_6, v5_6⟩ := HV6.out.six
        obtain ⟨c0_6, c1_6, c2_6, c3_6, c4_6, c5_6⟩ := HC6.out.six
        obtain ⟨n0_6, n1_6, n2_6, n3_6, n4_6, n5_6⟩ := HN6.out.six
        go_wp2_with fail
        clear v0_6 v1_6 v2_6 v3_6 v4_6 v5_6 c0_6 c1_6 c2_6 c3_6 c4_6 c5_6 n0_6 n1_6 n2_6 n3_6 n4_6 n5_6
        obtain ⟨v0_6, v1_6, v2_6, v3_6, v4_6, v5_6⟩ := HV6.out.sixR
        obtain ⟨c0_6, c1_6, c2_6, c3_6, c4_6, c5_6⟩ := HC6.out.sixR
        obtain ⟨n0_6, n1_6, n2_6, n3_6, n4_6, n5_6⟩ := HN6.out.sixR
        have c0 := fun d os => Calls.regrown_of (semver_Version_Minor.calls x0 x1 x2 xp xm xo _ (grow (redrawn w6 d) os) rfl)
        have c1 := fun d os => Calls.regrown_of (semver_Version_Minor.calls y0 y1 y2 yp ym yo _ (grow (redrawn w6 d) os) rfl)
        refine wp_region_quiet_below (by kernel_rfl) (by kernel_rfl) ?_
        repeat (first | go_big_quiet_step (first | exact c0 _ _ | exact c1 _ _) | quiet_step (first | exact c0 _ _ | exact c1 _ _))
        refine wpQuiet_nil ?_
        intro _ hw'; obtain ⟨⟨dq, osq⟩, hw''⟩ := hw'; subst hw''; clear c0 c1 v0_6 v1_6 v2_6 v3_6 v4_6 v5_6 c0_6 c1_6 c2_6 c3_6 c4_6 c5_6 n0_6 n1_6 n2_6 n3_6 n4_6 n5_6
        have hb := below_regrown w6 dq osq
        generalize grow (redrawn w6 dq) osq = w7 at *
        have HB7 := Aside0.mk (HB6.out.trans (hb.mono HB6.out.size)); have HS7 := Aside0.mk (HS6.out.below hb); have HV7 := Aside0.mk (HV6.out.below hb); have HC7 := Aside0.mk (HC6.out.below hb); have HN7 := Aside0.mk (HN6.out.below hb); clear hb HB6 HS6 HV6 HC6 HN6
        obtain ⟨v0_7, v1_7, v2_7, v3_7, v4_7, v5_7⟩ := HV7.out.six
        obtain ⟨c0_7, c1_7, c2_7, c3_7, c4_7, c5_7⟩ := HC7.out.six
        obtain ⟨n0_7, n1_7, n2_7, n3_7, n4_7, n5_7⟩ := HN7.out.six
        go_wp2_with fail
        go_ret2
        exact ⟨_, (by first | rfl | (rw [t0, t2, t3, t4, t6, t7]; rfl)), HB7.out⟩
       | false =>
        have t7' := bne_of t7
        replace t7' : (x1 != y1) = true := t7'
        obtain ⟨v0_6, v1_6, v2_6, v3_6, v4_6, v5_6⟩ := HV6.out.six
        obtain ⟨c0_6, c1_6, c2_6, c3_6, c4_6, c5_6⟩ := HC6.out.six
        obtain ⟨n0_6, n1_6, n2_6, n3_6, n4_6, n5_6⟩ := HN6.out.six
        go_wp2_with fail
        clear v0_6 v1_6 v2_6 v3_6 v4_6 v5_6 c0_6 c1_6 c2_6 c3_6 c4_6 c5_6 n0_6 n1_6 n2_6 n3_6 n4_6 n5_6
        obtain ⟨v0_6, v1_6, v2_6, v3_6, v4_6, v5_6⟩ := HV6.out.sixR
        obtain ⟨c0_6, c1_6, c2_6, c3_6, c4_6, c5_6⟩ := HC6.out.sixR
        obtain ⟨n0_6, n1_6, n2_6, n3_6, n4_6, n5_6⟩ := HN6.out.sixR
        have c0 := fun d os => Calls.regrown_of (semver_Version_Minor.calls x0 x1 x2 xp xm xo _ (grow (redrawn w6 d) os) rfl)
        have c1 := fun d os => Calls.regrown_of (semver_Version_Minor.calls y0 y1 y2 yp ym yo _ (grow (redrawn w6 d) os) rfl)
        refine wp_region_quiet_below (by kernel_rfl) (by kernel_rfl) ?_
        repeat (first | go_big_quiet_step (first | exact c0 _ _ | exact c1 _ _) | quiet_step (first | exact c0 _ _ | exact c1 _ _))
        refine wpQuiet_nil ?_
        intro _ hw'; obtain ⟨⟨dq, osq⟩, hw''⟩ := hw'; subst hw''; clear c0 c1 v0_6 v1_6 v2_6 v3_6 v4_6 v5_6 c0_6 c1_6 c2_6 c3_6 c4_6 c5_6 n0_6 n1_6 n2_6 n3_6 n4_6 n5_6
        have hb := below_regrown w6 dq osq
        generalize grow (redrawn w6 dq) osq = w7 at *
        have HB7 := Aside0.mk (HB6.out.trans (hb.mono HB6.out.size)); have HS7 := Aside0.mk (HS6.out.below hb); have HV7 := Aside0.mk (HV6.out.below hb); have HC7 := Aside0.mk (HC6.out.below hb); have HN7 := Aside0.mk (HN6.out.below hb); clear hb HB6 HS6 HV6 HC6 HN6
        cases mD with
        | true =>
         obtain ⟨v0_7, v1_7, v2_7, v3_7, v4_7, v5_7⟩ := HV7.out.six
         obtain ⟨c0_7, c1_7, c2_7, c3_7, c4_7, c5_7⟩ := HC7.out.six
         obtain ⟨n0_7, n1_7, n2_7, n3_7, n4_7, n5_7⟩ := HN7.out.six
         go_wp2_with fail
         go_ret2
         exact ⟨_, (by first | rfl | (rw [t0, t2, t3, t4, t6, t7]; rfl)), HB7.out⟩
        | false =>
         obtain ⟨v0_7, v1_7, v2_7, v3_7, v4_7, v5_7⟩ := HV7.out.six
         obtain ⟨c0_7, c1_7, c2_7, c3_7, c4_7, c5_7⟩ := HC7.out.six
         obtain ⟨n0_7, n1_7, n2_7, n3_7, n4_7, n5_7⟩ := HN7.out.six
         go_wp2_with fail
         refine (errNew _ _).mono ?_
         rintro e w8 ⟨et7, ep7, rfl, hb⟩
         clear v0_7 v1_7 v2_7 v3_7 v4_7 v5_7 c0_7 c1_7 c2_7 c3_7 c4_7 c5_7 n0_7 n1_7 n2_7 n3_7 n4_7 n5_7
         have HB8 := Aside0.mk (HB7.out.trans (hb.mono HB7.out.size)); have HS8 := Aside0.mk (HS7.out.below hb); have HV8 := Aside0.mk (HV7.out.below hb); have HC8 := Aside0.mk (HC7.out.below hb); have HN8 := Aside0.mk (HN7.out.below hb); clear hb HB7 HS7 HV7 HC7 HN7
         obtain ⟨v0_8, v1_8, v2_8, v3_8, v4_8, v5_8⟩ := HV8.out.six
         obtain ⟨c0_8, c1_8, c2_8, c3_8, c4_8, c5_8⟩ := HC8.out.six
         obtain ⟨n0_8, n1_8, n2_8, n3_8, n4_8, n5_8⟩ := HN8.out.six
         go_wp2_with fail
         go_ret2
         exact ⟨_, (by first | rfl | (rw [t0, t2, t3, t4, t6, t7]; rfl)), HB8.out⟩
      | false =>
       have t6' := bne_of t6
       replace t6' : (x0 != y0) = true := t6'
       obtain ⟨v0_6, v1_6, v2_6, v3_6, v4_6, v5_6⟩ := HV6.out.six
       obtain ⟨c0_6, c1_6, c2_6, c3_6, c4_6, c5_6⟩ := HC6.out.six
       obtain ⟨n0_6, n1_6, n2_6, n3_6, n4_6, n5_6⟩ := HN6.out.six
       go_wp2_with fail
       refine (errNew _ _).mono ?_
       rintro e w7 ⟨et6, ep6, rfl, hb⟩
       clear v0_6 v1_6 v2_6 v3_6 v4_6 v5_6 c0_6 c1_6 c2_6 c3_6 c4_6 c5_6 n0_6 n1_6 n2_6 n3_6 n4_6 n5_6
       have HB7 := Aside0.mk (HB6.out.trans (hb.mono HB6.out.size)); have HS7 := Aside0.mk (HS6.out.below hb); have HV7 := Aside0.mk (HV6.out.below hb); have HC7 := Aside0.mk (HC6.out.below hb); have HN7 := Aside0.mk (HN6.out.below hb); clear hb HB6 HS6 HV6 HC6 HN6
       obtain ⟨v0_7, v1_7, v2_7, v3_7, v4_7, v5_7⟩ := HV7.out.six
       obtain ⟨c0_7, c1_7, c2_7, c3_7, c4_7, c5_7⟩ := HC7.out.six
       obtain ⟨n0_7, n1_7, n2_7, n3_7, n4_7, n5_7⟩ := HN7.out.six
       go_wp2_with fail
       go_ret2
       exact ⟨_, (by first | rfl | (rw [t0, t2, t3, t4, t6]; rfl)), HB7.out⟩
    | false =>
     have t3' := bne_of t3
     replace t3' : (y1 != 0) = true := t3'
     obtain ⟨v0_4, v1_4, v2_4, v3_4, v4_4, v5_4⟩ := HV4.out.six
     obtain ⟨c0_4, c1_4, c2_4, c3_4, c4_4, c5_4⟩ := HC4.out.six
     obtain ⟨n0_4, n1_4, n2_4, n3_4, n4_4, n5_4⟩ := HN4.out.six
     go_wp2_with fail
     clear v0_4 v1_4 v2_4 v3_4 v4_4 v5_4 c0_4 c1_4 c2_4 c3_4 c4_4 c5_4 n0_4 n1_4 n2_4 n3_4 n4_4 n5_4
     obtain ⟨v0_4, v1_4, v2_4, v3_4, v4_4, v5_4⟩ := HV4.out.sixR
     obtain ⟨c0_4, c1_4, c2_4, c3_4, c4_4, c5_4⟩ := HC4.out.sixR
     obtain ⟨n0_4, n1_4, n2_4, n3_4, n4_4, n5_4⟩ := HN4.out.sixR
     have c0 := fun d os => Calls.regrown_of (semver_Version_Major.calls x0 x1 x2 xp xm xo _ (grow (redrawn w4 d) os) rfl)
     have c1 := fun d os => Calls.regrown_of (semver_Version_Major.calls y0 y1 y2 yp ym yo _ (grow (redrawn w4 d) os) rfl)
     refine wp_region_quiet_below (by kernel_rfl) (by kernel_rfl) ?_
     repeat (first | go_big_quiet_step (first | exact c0 _ _ | exact c1 _ _) | quiet_step (first | exact c0 _ _ | exact c1 _ _))
     refine wpQuiet_nil ?_
     intro _ hw'; obtain ⟨⟨dq, osq⟩, hw''⟩ := hw'; subst hw''; clear c0 c1 v0_4 v1_4 v2_4 v3_4 v4_4 v5_4 c0_4 c1_4 c2_4 c3_4 c4_4 c5_4 n0_4 n1_4 n2_4 n3_4 n4_4 n5_4
     have hb := below_regrown w4 dq osq
     generalize grow (redrawn w4 dq) osq = w5 at *
     have HB5 := Aside0.mk (HB4.out.trans (hb.mono HB4.out.size)); have HS5 := Aside0.mk (HS4.out.below hb); have HV5 := Aside0.mk (HV4.out.below hb); have HC5 := Aside0.mk (HC4.out.below hb); have HN5 := Aside0.mk (HN4.out.below hb); clear hb HB4 HS4 HV4 HC4 HN4
     cases t6 : (x0 == y0) with
     | true =>
      have t6' := bne_of t6
      replace t6' : (x0 != y0) = false := t6'
      cases t7 : (x1 == y1) with
      | true =>
       have t7' := bne_of t7
       replace t7' : (x1 != y1) = false := t7'
       obtain ⟨v0_5, v1_5, v2_5, v3_5, v4_5, v5_5⟩ := HV5.out.six
       obtain ⟨c0_5, c1_5, c2_5, c3_5, c4_5, c5_5⟩ := HC5.out.six
       obtain ⟨n0_5, n1_5, n2_5, n3_5, n4_5, n5_5⟩ := HN5.out.six
       go_wp2_with fail
       clear v0_5 v1_5 v2_5 v3_5 v4_5 v5_5 c0_5 c1_5 c2_5 c3_5 c4_5 c5_5 n0_5 n1_5 n2_5 n3_5 n4_5 n5_5
       obtain ⟨v0_5, v1_5, v2_5, v3_5, v4_5, v5_5⟩ := HV5.out.sixR
       obtain ⟨c0_5, c1_5, c2_5, c3_5, c4_5, c5_5⟩ := HC5.out.sixR
       obtain ⟨n0_5, n1_5, n2_5, n3_5, n4_5, n5_5⟩ := HN5.out.sixR
       have c0 := fun d os => Calls.regrown_of (semver_Version_Minor.calls x0 x1 x2 xp xm xo _ (grow (redrawn w5 d) os) rfl)
       have c1 := fun d os => Calls.regrown_of (semver_Version_Minor.calls y0 y1 y2 yp ym yo _ (grow (redrawn w5 d) os) rfl)
       refine wp_region_quiet_below (by kernel_rfl) (by kernel_rfl) ?_
       repeat (first | go_big_quiet_step (first | exact c0 _ _ | exact c1 _ _) | quiet_step (first | exact c0 _ _ | exact c1 _ _))
       refine wpQuiet_nil ?_
       intro _ hw'; obtain ⟨⟨dq, osq⟩, hw''⟩ := hw'; subst hw''; clear c0 c1 v0_5 v1_5 v2_5 v3_5 v4_5 v5_5 c0_5 c1_5 c2_5 c3_5 c4_5 c5_5 n0_5 n1_5 n2_5 n3_5 n4_5 n5_5
       have hb := below_regrown w5 dq osq
       generalize grow (redrawn w5 dq) osq = w6 at *
       have HB6 := Aside0.mk (HB5.out.trans (hb.mono HB5.out.size)); have HS6 := Aside0.mk (HS5.out.below hb); have HV6 := Aside0.mk (HV5.out.below hb); have HC6 := Aside0.mk (HC5.out.below hb); have HN6 := Aside0.mk (HN5.out.below hb); clear hb HB5 HS5 HV5 HC5 HN5
       obtain ⟨v0_6, v1_6, v2_6, v3_6, v4_6, v5_6⟩ := HV6.out.six
       obtain ⟨c0_6, c1_6, c2_6, c3_6, c4_6, c5_6⟩ := HC6.out.six
       obtain ⟨n0_6, n1_6, n2_6, n3_6, n4_6, n5_6⟩ := HN6.out.six
       go_wp2_with fail
       go_ret2
       exact ⟨_, (by first | rfl | (rw [t0, t2, t3, t6, t7]; rfl)), HB6.out⟩
      | false =>
       have t7' := bne_of t7
       replace t7' : (x1 != y1) = true := t7'
       obtain ⟨v0_5, v1_5, v2_5, v3_5, v4_5, v5_5⟩ := HV5.out.six
       obtain ⟨c0_5, c1_5, c2_5, c3_5, c4_5, c5_5⟩ := HC5.out.six
       obtain ⟨n0_5, n1_5, n2_5, n3_5, n4_5, n5_5⟩ := HN5.out.six
       go_wp2_with fail
       clear v0_5 v1_5 v2_5 v3_5 v4_5 v5_5 c0_5 c1_5 c2_5 c3_5 c4_5 c5_5 n0_5 n1_5 n2_5 n3_5 n4_5 n5_5
       obtain ⟨v0_5, v1_5, v2_5, v3_5, v4_5, v5_5⟩ := HV5.out.sixR
       obtain ⟨c0_5, c1_5, c2_5, c3_5, c4_5, c5_5⟩ := HC5.out.sixR
       obtain ⟨n0_5, n1_5, n2_5, n3_5, n4_5, n5_5⟩ := HN5.out.sixR
       have c0 := fun d os => Calls.regrown_of (semver_Version_Minor.calls x0 x1 x2 xp xm xo _ (grow (redrawn w5 d) os) rfl)
       have c1 := fun d os => Calls.regrown_of (semver_Version_Minor.calls y0 y1 y2 yp ym yo _ (grow (redrawn w5 d) os) rfl)
       refine wp_region_quiet_below (by kernel_rfl) (by kernel_rfl) ?_
       repeat (first | go_big_quiet_step (first | exact c0 _ _ | exact c1 _ _) | quiet_step (first | exact c0 _ _ | exact c1 _ _))
       refine wpQuiet_nil ?_
       intro _ hw'; obtain ⟨⟨dq, osq⟩, hw''⟩ := hw'; subst hw''; clear c0 c1 v0_5 v1_5 v2_5 v3_5 v4_5 v5_5 c0_5 c1_5 c2_5 c3_5 c4_5 c5_5 n0_5 n1_5 n2_5 n3_5 n4_5 n5_5
       have hb := below_regrown w5 dq osq
       generalize grow (redrawn w5 dq) osq = w6 at *
       have HB6 := Aside0.mk (HB5.out.trans (hb.mono HB5.out.size)); have HS6 := Aside0.mk (HS5.out.below hb); have HV6 := Aside0.mk (HV5.out.below hb); have HC6 := Aside0.mk (HC5.out.below hb); have HN6 := Aside0.mk (HN5.out.below hb); clear hb HB5 HS5 HV5 HC5 HN5
       cases mD with
       | true =>
        obtain ⟨v0_6, v1_6, v2_6, v3_6, v4_6, v5_6⟩ := HV6.out.six
        obtain ⟨c0_6, c1_6, c2_6, c3_6, c4_6, c5_6⟩ := HC6.out.six
        obtain ⟨n0_6, n1_6, n2_6, n3_6, n4_6, n5_6⟩ := HN6.out.six
        go_wp2_with fail
        go_ret2
        exact ⟨_, (by first | rfl | (rw [t0, t2, t3, t6, t7]; rfl)), HB6.out⟩
       | false =>
        obtain ⟨v0_6, v1_6, v2_6, v3_6, v4_6, v5_6⟩ := HV6.out.six
        obtain ⟨c0_6, c1_6, c2_6, c3_6, c4_6, c5_6⟩ := HC6.out.six
        obtain ⟨n0_6, n1_6, n2_6, n3_6, n4_6, n5_6⟩ := HN6.out.six
        go_wp2_with fail
        refine (errNew _ _).mono ?_
        rintro e w7 ⟨et6, ep6, rfl, hb⟩
        clear v0_6 v1_6 v2_6 v3_6 v4_6 v5_6 c0_6 c1_6 c2_6 c3_6 c4_6 c5_6 n0_6 n1_6 n2_6 n3_6 n4_6 n5_6
        have HB7 := Aside0.mk (HB6.out.trans (hb.mono HB6.out.size)); have HS7 := Aside0.mk (HS6.out.below hb); have HV7 := Aside0.mk (HV6.out.below hb); have HC7 := Aside0.mk (HC6.out.below hb); have HN7 := Aside0.mk (HN6.out.below hb); clear hb HB6 HS6 HV6 HC6 HN6
        obtain ⟨v0_7, v1_7, v2_7, v3_7, v4_7, v5_7⟩ := HV7.out.six
        obtain ⟨c0_7, c1_7, c2_7, c3_7, c4_7, c5_7⟩ := HC7.out.six
        obtain ⟨n0_7, n1_7, n2_7, n3_7, n4_7, n5_7⟩ := HN7.out.six
        go_wp2_with fail
        go_ret2
        exact ⟨_, (by first | rfl | (rw [t0, t2, t3, t6, t7]; rfl)), HB7.out⟩
     | false =>
      have t6' := bne_of t6
      replace t6' : (x0 != y0) = true := t6'
      obtain ⟨v0_5, v1_5, v2_5, v3_5, v4_5, v5_5⟩ := HV5.out.six
      obtain ⟨c0_5, c1_5, c2_5, c3_5, c4_5, c5_5⟩ := HC5.out.six
      obtain ⟨n0_5, n1_5, n2_5, n3_5, n4_5, n5_5⟩ := HN5.out.six
      go_wp2_with fail
      refine (errNew _ _).mono ?_
      rintro e w6 ⟨et5, ep5, rfl, hb⟩
      clear v0_5 v1_5 v2_5 v3_5 v4_5 v5_5 c0_5 c1_5 c2_5 c3_5 c4_5 c5_5 n0_5 n1_5 n2_5 n3_5 n4_5 n5_5
      have HB6 := Aside0.mk (HB5.out.trans (hb.mono HB5.out.size)); have HS6 := Aside0.mk (HS5.out.below hb); have HV6 := Aside0.mk (HV5.out.below hb); have HC6 := Aside0.mk (HC5.out.below hb); have HN6 := Aside0.mk (HN5.out.below hb); clear hb HB5 HS5 HV5 HC5 HN5
      obtain ⟨v0_6, v1_6, v2_6, v3_6, v4_6, v5_6⟩ := HV6.out.six
      obtain ⟨c0_6, c1_6, c2_6, c3_6, c4_6, c5_6⟩ := HC6.out.six
      obtain ⟨n0_6, n1_6, n2_6, n3_6, n4_6, n5_6⟩ := HN6.out.six
      go_wp2_with fail
      go_ret2
      exact ⟨_, (by first | rfl | (rw [t0, t2, t3, t6]; rfl)), HB6.out⟩
   | false =>
    have t2' := bne_of t2
    replace t2' : (y0 != 0) = true := t2'
    obtain ⟨v0_3, v1_3, v2_3, v3_3, v4_3, v5_3⟩ := HV3.out.six
    obtain ⟨c0_3, c1_3, c2_3, c3_3, c4_3, c5_3⟩ := HC3.out.six
    obtain ⟨n0_3, n1_3, n2_3, n3_3, n4_3, n5_3⟩ := HN3.out.six
    go_wp2_with fail
    clear v0_3 v1_3 v2_3 v3_3 v4_3 v5_3 c0_3 c1_3 c2_3 c3_3 c4_3 c5_3 n0_3 n1_3 n2_3 n3_3 n4_3 n5_3
    obtain ⟨v0_3, v1_3, v2_3, v3_3, v4_3, v5_3⟩ := HV3.out.sixR
    obtain ⟨c0_3, c1_3, c2_3, c3_3, c4_3, c5_3⟩ := HC3.out.sixR
    obtain ⟨n0_3, n1_3, n2_3, n3_3, n4_3, n5_3⟩ := HN3.out.sixR
    have c0 := fun d os => Calls.regrown_of (semver_Version_Major.calls x0 x1 x2 xp xm xo _ (grow (redrawn w3 d) os) rfl)
    have c1 := fun d os => Calls.regrown_of (semver_Version_Major.calls y0 y1 y2 yp ym yo _ (grow (redrawn w3 d) os) rfl)
    refine wp_region_quiet_below (by kernel_rfl) (by kernel_rfl) ?_
    repeat (first | go_big_quiet_step (first | exact c0 _ _ | exact c1 _ _) | quiet_step (first | exact c0 _ _ | exact c1 _ _))
    refine wpQuiet_nil ?_
    intro _ hw'; obtain ⟨⟨dq, osq⟩, hw''⟩ := hw'; subst hw''; clear c0 c1 v0_3 v1_3 v2_3 v3_3 v4_3 v5_3 c0_3 c1_3 c2_3 c3_3 c4_3 c5_3 n0_3 n1_3 n2_3 n3_3 n4_3 n5_3
    have hb := below_regrown w3 dq osq
    generalize grow (redrawn w3 dq) osq = w4 at *
    have HB4 := Aside0.mk (HB3.out.trans (hb.mono HB3.out.size)); have HS4 := Aside0.mk (HS3.out.below hb); have HV4 := Aside0.mk (HV3.out.below hb); have HC4 := Aside0.mk (HC3.out.below hb); have HN4 := Aside0.mk (HN3.out.below hb); clear hb HB3 HS3 HV3 HC3 HN3
    cases t6 : (x0 == y0) with
    | true =>
     have t6' := bne_of t6
     replace t6' : (x0 != y0) = false := t6'
     cases t7 : (x1 == y1) with
     | true =>
      have t7' := bne_of t7
      replace t7' : (x1 != y1) = false := t7'
      obtain ⟨v0_4, v1_4, v2_4, v3_4, v4_4, v5_4⟩ := HV4.out.six
      obtain ⟨c0_4, c1_4, c2_4, c3_4, c4_4, c5_4⟩ := HC4.out.six
      obtain ⟨n0_4, n1_4, n2_4, n3_4, n4_4, n5_4⟩ := HN4.out.six
      go_wp2_with fail
      clear v0_4 v1_4 v2_4 v3_4 v4_4 v5_4 c0_4 c1_4 c2_4 c3_4 c4_4 c5_4 n0_4 n1_4 n2_4 n3_4 n4_4 n5_4
      obtain ⟨v0_4, v1_4, v2_4, v3_4, v4_4, v5_4⟩ := HV4.out.sixR
      obtain ⟨c0_4, c1_4, c2_4, c3_4, c4_4, c5_4⟩ := HC4.out.sixR
      obtain ⟨n0_4, n1_4, n2_4, n3_4, n4_4, n5_4⟩ := HN4.out.sixR
      have c0 := fun d os => Calls.regrown_of (semver_Version_Minor.calls x0 x1 x2 xp xm xo _ (grow (redrawn w4 d) os) rfl)
      have c1 := fun d os => Calls.regrown_of (semver_Version_Minor.calls y0 y1 y2 yp ym yo _ (grow (redrawn w4 d) os) rfl)
      refine wp_region_quiet_below (by kernel_rfl) (by kernel_rfl) ?_
      repeat (first | go_big_quiet_step (first | exact c0 _ _ | exact c1 _ _) | quiet_step (first | exact c0 _ _ | exact c1 _ _))
      refine wpQuiet_nil ?_
      intro _ hw'; obtain ⟨⟨dq, osq⟩, hw''⟩ := hw'; subst hw''; clear c0 c1 v0_4 v1_4 v2_4 v3_4 v4_4 v5_4 c0_4 c1_4 c2_4 c3_4 c4_4 c5_4 n0_4 n1_4 n2_4 n3_4 n4_4 n5_4
      have hb := below_regrown w4 dq osq
      generalize grow (redrawn w4 dq) osq = w5 at *
      have HB5 := Aside0.mk (HB4.out.trans (hb.mono HB4.out.size)); have HS5 := Aside0.mk (HS4.out.below hb); have HV5 := Aside0.mk (HV4.out.below hb); have HC5 := Aside0.mk (HC4.out.below hb); have HN5 := Aside0.mk (HN4.out.below hb); clear hb HB4 HS4 HV4 HC4 HN4
      obtain ⟨v0_5, v1_5, v2_5, v3_5, v4_5, v5_5⟩ := HV5.out.six
      obtain ⟨c0_5, c1_5, c2_5, c3_5, c4_5, c5_5⟩ := HC5.out.six
      obtain ⟨n0_5, n1_5, n2_5, n3_5, n4_5, n5_5⟩ := HN5.out.six
      go_wp2_with fail
      go_ret2
      exact ⟨_, (by first | rfl | (rw [t0, t2, t6, t7]; rfl)), HB5.out⟩
     | false =>
      have t7' := bne_of t7
      replace t7' : (x1 != y1) = true := t7'
      obtain ⟨v0_4, v1_4, v2_4, v3_4, v4_4, v5_4⟩ := HV4.out.six
      obtain ⟨c0_4, c1_4, c2_4, c3_4, c4_4, c5_4⟩ := HC4.out.six
      obtain ⟨n0_4, n1_4, n2_4, n3_4, n4_4, n5_4⟩ := HN4.out.six
      go_wp2_with fail
      clear v0_4 v1_4 v2_4 v3_4 v4_4 v5_4 c0_4 c1_4 c2_4 c3_4 c4_4 c5_4 n0_4 n1_4 n2_4 n3_4 n4_4 n5_4
      obtain ⟨v0_4, v1_4, v2_4, v3_4, v4_4, v5_4⟩ := HV4.out.sixR
      obtain ⟨c0_4, c1_4, c2_4, c3_4, c4_4, c5_4⟩ := HC4.out.sixR
      obtain ⟨n0_4, n1_4, n2_4, n3_4, n4_4, n5_4⟩ := HN4.out.sixR
      have c0 := fun d os => Calls.regrown_of (semver_Version_Minor.calls x0 x1 x2 xp xm xo _ (grow (redrawn w4 d) os) rfl)
      have c1 := fun d os => Calls.regrown_of (semver_Version_Minor.calls y0 y1 y2 yp ym yo _ (grow (redrawn w4 d) os) rfl)
      refine wp_region_quiet_below (by kernel_rfl) (by kernel_rfl) ?_
      repeat (first | go_big_quiet_step (first | exact c0 _ _ | exact c1 _ _) | quiet_step (first | exact c0 _ _ | exact c1 _ _))
      refine wpQuiet_nil ?_
      intro _ hw'; obtain ⟨⟨dq, osq⟩, hw''⟩ := hw'; subst hw''; clear c0 c1 v0_4 v1_4 v2_4 v3_4 v4_4 v5_4 c0_4 c1_4 c2_4 c3_4 c4_4 c5_4 n0_4 n1_4 n2_4 n3_4 n4_4 n5_4
      have hb := below_regrown w4 dq osq
      generalize grow (redrawn w4 dq) osq = w5 at *
      have HB5 := Aside0.mk (HB4.out.trans (hb.mono HB4.out.size)); have HS5 := Aside0.mk (HS4.out.below hb); have HV5 := Aside0.mk (HV4.out.below hb); have HC5 := Aside0.mk (HC4.out.below hb); have HN5 := Aside0.mk (HN4.out.below hb); clear hb HB4 HS4 HV4 HC4 HN4
      cases mD with
      | true =>
       obtain ⟨v0_5, v1_5, v2_5, v3_5, v4_5, v5_5⟩ := HV5.out.six
       obtain ⟨c0_5, c1_5, c2_5, c3_5, c4_5, c5_5⟩ := HC5.out.six
       obtain ⟨n0_5, n1_5, n2_5, n3_5, n4_5, n5_5⟩ := HN5.out.six
       go_wp2_with fail
       go_ret2
       exact ⟨_, (by first | rfl | (rw [t0, t2, t6, t7]; rfl)), HB5.out⟩
      | false =>
       obtain ⟨v0_5, v1_5, v2_5, v3_5, v4_5, v5_5⟩ := HV5.out.six
       obtain ⟨c0_5, c1_5, c2_5, c3_5, c4_5, c5_5⟩ := HC5.out.six
       obtain ⟨n0_5, n1_5, n2_5, n3_5, n4_5, n5_5⟩ := HN5.out.six
       go_wp2_with fail
       refine (errNew _ _).mono ?_
       rintro e w6 ⟨et5, ep5, rfl, hb⟩
       clear v0_5 v1_5 v2_5 v3_5 v4_5 v5_5 c0_5 c1_5 c2_5 c3_5 c4_5 c5_5 n0_5 n1_5 n2_5 n3_5 n4_5 n5_5
       have HB6 := Aside0.mk (HB5.out.trans (hb.mono HB5.out.size)); have HS6 := Aside0.mk (HS5.out.below hb); have HV6 := Aside0.mk (HV5.out.below hb); have HC6 := Aside0.mk (HC5.out.below hb); have HN6 := Aside0.mk (HN5.out.below hb); clear hb HB5 HS5 HV5 HC5 HN5
       obtain ⟨v0_6, v1_6, v2_6, v3_6, v4_6, v5_6⟩ := HV6.out.six
       obtain ⟨c0_6, c1_6, c2_6, c3_6, c4_6, c5_6⟩ := HC6.out.six
       obtain ⟨n0_6, n1_6, n2_6, n3_6, n4_6, n5_6⟩ := HN6.out.six
       go_wp2_with fail
       go_ret2
       exact ⟨_, (by first | rfl | (rw [t0, t2, t6, t7]; rfl)), HB6.out⟩
    | false =>
     have t6' := bne_of t6
     replace t6' : (x0 != y0) = true := t6'
     obtain ⟨v0_4, v1_4, v2_4, v3_4, v4_4, v5_4⟩ := HV4.out.six
     obtain ⟨c0_4, c1_4, c2_4, c3_4, c4_4, c5_4⟩ := HC4.out.six
     obtain ⟨n0_4, n1_4, n2_4, n3_4, n4_4, n5_4⟩ := HN4.out.six
     go_wp2_with fail
     refine (errNew _ _).mono ?_
     rintro e w5 ⟨et4, ep4, rfl, hb⟩
     clear v0_4 v1_4 v2_4 v3_4 v4_4 v5_4 c0_4 c1_4 c2_4 c3_4 c4_4 c5_4 n0_4 n1_4 n2_4 n3_4 n4_4 n5_4
     have HB5 := Aside0.mk (HB4.out.trans (hb.mono HB4.out.size)); have HS5 := Aside0.mk (HS4.out.below hb); have HV5 := Aside0.mk (HV4.out.below hb); have HC5 := Aside0.mk (HC4.out.below hb); have HN5 := Aside0.mk (HN4.out.below hb); clear hb HB4 HS4 HV4 HC4 HN4
     obtain ⟨v0_5, v1_5, v2_5, v3_5, v4_5, v5_5⟩ := HV5.out.six
     obtain ⟨c0_5, c1_5, c2_5, c3_5, c4_5, c5_5⟩ := HC5.out.six
     obtain ⟨n0_5, n1_5, n2_5, n3_5, n4_5, n5_5⟩ := HN5.out.six
     go_wp2_with fail
     go_ret2
     exact ⟨_, (by first | rfl | (rw [t0, t2, t6]; rfl)), HB5.out⟩
 | false =>
  have t0' := bne_of t0
  replace t0' : (xp.toList != []) = true := t0'
  cases pre with
  | true =>
   obtain ⟨v0_1, v1_1, v2_1, v3_1, v4_1, v5_1⟩ := HV1.out.six
   obtain ⟨c0_1, c1_1, c2_1, c3_1, c4_1, c5_1⟩ := HC1.out.six
   obtain ⟨n0_1, n1_1, n2_1, n3_1, n4_1, n5_1⟩ := HN1.out.six
   go_wp2_with fail
   refine (KLT.out _ HV1.out HN1.out HS1.out).mono ?_
   rintro e w2 ⟨rfl, hb⟩
   clear v0_1 v1_1 v2_1 v3_1 v4_1 v5_1 c0_1 c1_1 c2_1 c3_1 c4_1 c5_1 n0_1 n1_1 n2_1 n3_1 n4_1 n5_1
   have HB2 := Aside0.mk (HB1.out.trans (hb.mono HB1.out.size)); have HS2 := Aside0.mk (HS1.out.below hb); have HV2 := Aside0.mk (HV1.out.below hb); have HC2 := Aside0.mk (HC1.out.below hb); have HN2 := Aside0.mk (HN1.out.below hb); clear hb HB1 HS1 HV1 HC1 HN1
   cases lt with
   | true =>
    obtain ⟨v0_2, v1_2, v2_2, v3_2, v4_2, v5_2⟩ := HV2.out.six
    obtain ⟨c0_2, c1_2, c2_2, c3_2, c4_2, c5_2⟩ := HC2.out.six
    obtain ⟨n0_2, n1_2, n2_2, n3_2, n4_2, n5_2⟩ := HN2.out.six
    go_wp2_with fail
    refine (errNew _ _).mono ?_
    rintro e w3 ⟨et2, ep2, rfl, hb⟩
    clear v0_2 v1_2 v2_2 v3_2 v4_2 v5_2 c0_2 c1_2 c2_2 c3_2 c4_2 c5_2 n0_2 n1_2 n2_2 n3_2 n4_2 n5_2
    have HB3 := Aside0.mk (HB2.out.trans (hb.mono HB2.out.size)); have HS3 := Aside0.mk (HS2.out.below hb); have HV3 := Aside0.mk (HV2.out.below hb); have HC3 := Aside0.mk (HC2.out.below hb); have HN3 := Aside0.mk (HN2.out.below hb); clear hb HB2 HS2 HV2 HC2 HN2
    obtain ⟨v0_3, v1_3, v2_3, v3_3, v4_3, v5_3⟩ := HV3.out.six
    obtain ⟨c0_3, c1_3, c2_3, c3_3, c4_3, c5_3⟩ := HC3.out.six
    obtain ⟨n0_3, n1_3, n2_3, n3_3, n4_3, n5_3⟩ := HN3.out.six
    go_wp2_with fail
    go_ret2
    exact ⟨_, (by first | rfl | (rw [t0]; rfl)), HB3.out⟩
   | false =>
    obtain ⟨v0_2, v1_2, v2_2, v3_2, v4_2, v5_2⟩ := HV2.out.six
    obtain ⟨c0_2, c1_2, c2_2, c3_2, c4_2, c5_2⟩ := HC2.out.six
    obtain ⟨n0_2, n1_2, n2_2, n3_2, n4_2, n5_2⟩ := HN2.out.six
    go_wp2_with fail
    refine (semver_Version_Major.calls y0 y1 y2 yp ym yo _ _ rfl).mono ?_
    rintro e w3 ⟨rfl, hb⟩
    clear v0_2 v1_2 v2_2 v3_2 v4_2 v5_2 c0_2 c1_2 c2_2 c3_2 c4_2 c5_2 n0_2 n1_2 n2_2 n3_2 n4_2 n5_2
    have HB3 := Aside0.mk (HB2.out.trans (hb.mono HB2.out.size)); have HS3 := Aside0.mk (HS2.out.below hb); have HV3 := Aside0.mk (HV2.out.below hb); have HC3 := Aside0.mk (HC2.out.below hb); have HN3 := Aside0.mk (HN2.out.below hb); clear hb HB2 HS2 HV2 HC2 HN2
    cases t2 : (y0 == 0) with
    | true =>
     have t2' := bne_of t2
     replace t2' : (y0 != 0) = false := t2'
     obtain ⟨v0_3, v1_3, v2_3, v3_3, v4_3, v5_3⟩ := HV3.out.six
     obtain ⟨c0_3, c1_3, c2_3, c3_3, c4_3, c5_3⟩ := HC3.out.six
     obtain ⟨n0_3, n1_3, n2_3, n3_3, n4_3, n5_3⟩ := HN3.out.six
     go_wp2_with fail
     refine (semver_Version_Minor.calls y0 y1 y2 yp ym yo _ _ rfl).mono ?_
     rintro e w4 ⟨rfl, hb⟩
     clear v0_3 v1_3 v2_3 v3_3 v4_3 v5_3 c0_3 c1_3 c2_3 c3_3 c4_3 c5_3 n0_3 n1_3 n2_3 n3_3 n4_3 n5_3
     have HB4 := Aside0.mk (HB3.out.trans (hb.mono HB3.out.size)); have HS4 := Aside0.mk (HS3.out.below hb); have HV4 := Aside0.mk (HV3.out.below hb); have HC4 := Aside0.mk (HC3.out.below hb); have HN4 := Aside0.mk (HN3.out.below hb); clear hb HB3 HS3 HV3 HC3 HN3
     cases t3 : (y1 == 0) with
     | true =>
      have t3' := bne_of t3
      replace t3' : (y1 != 0) = false := t3'
      obtain ⟨v0_4, v1_4, v2_4, v3_4, v4_4, v5_4⟩ := HV4.out.six
      obtain ⟨c0_4, c1_4, c2_4, c3_4, c4_4, c5_4⟩ := HC4.out.six
      obtain ⟨n0_4, n1_4, n2_4, n3_4, n4_4, n5_4⟩ := HN4.out.six
      go_wp2_with fail
      refine (semver_Version_Patch.calls y0 y1 y2 yp ym yo _ _ rfl).mono ?_
      rintro e w5 ⟨rfl, hb⟩
      clear v0_4 v1_4 v2_4 v3_4 v4_4 v5_4 c0_4 c1_4 c2_4 c3_4 c4_4 c5_4 n0_4 n1_4 n2_4 n3_4 n4_4 n5_4
      have HB5 := Aside0.mk (HB4.out.trans (hb.mono HB4.out.size)); have HS5 := Aside0.mk (HS4.out.below hb); have HV5 := Aside0.mk (HV4.out.below hb); have HC5 := Aside0.mk (HC4.out.below hb); have HN5 := Aside0.mk (HN4.out.below hb); clear hb HB4 HS4 HV4 HC4 HN4
      cases t4 : (y2 == 0) with
      | true =>
       have t4' := bne_of t4
       replace t4' : (y2 != 0) = false := t4'
       cases mD with
       | true =>
        obtain ⟨v0_5, v1_5, v2_5, v3_5, v4_5, v5_5⟩ := HV5.out.six
        obtain ⟨c0_5, c1_5, c2_5, c3_5, c4_5, c5_5⟩ := HC5.out.six
        obtain ⟨n0_5, n1_5, n2_5, n3_5, n4_5, n5_5⟩ := HN5.out.six
        go_wp2_with fail
        clear v0_5 v1_5 v2_5 v3_5 v4_5 v5_5 c0_5 c1_5 c2_5 c3_5 c4_5 c5_5 n0_5 n1_5 n2_5 n3_5 n4_5 n5_5
        obtain ⟨v0_5, v1_5, v2_5, v3_5, v4_5, v5_5⟩ := HV5.out.sixR
        obtain ⟨c0_5, c1_5, c2_5, c3_5, c4_5, c5_5⟩ := HC5.out.sixR
        obtain ⟨n0_5, n1_5, n2_5, n3_5, n4_5, n5_5⟩ := HN5.out.sixR
        have c0 := fun d os => Calls.regrown_of (semver_Version_Major.calls x0 x1 x2 xp xm xo _ (grow (redrawn w5 d) os) rfl)
        have c1 := fun d os => Calls.regrown_of (semver_Version_Major.calls y0 y1 y2 yp ym yo _ (grow (redrawn w5 d) os) rfl)
        refine wp_region_quiet_below (by kernel_rfl) (by kernel_rfl) ?_
        repeat (first | go_big_quiet_step (first | exact c0 _ _ | exact c1 _ _) | quiet_step (first | exact c0 _ _ | exact c1 _ _))
        refine wpQuiet_nil ?_
        intro _ hw'; obtain ⟨⟨dq, osq⟩, hw''⟩ := hw'; subst hw''; clear c0 c1 v0_5 v1_5 v2_5 v3_5 v4_5 v5_5 c0_5 c1_5 c2_5 c3_5 c4_5 c5_5 n0_5 n1_5 n2_5 n3_5 n4_5 n5_5
        have hb := below_regrown w5 dq osq
        generalize grow (redrawn w5 dq) osq = w6 at *
        have HB6 := Aside0.mk (HB5.out.trans (hb.mono HB5.out.size)); have HS6 := Aside0.mk (HS5.out.below hb); have HV6 := Aside0.mk (HV5.out.below hb); have HC6 := Aside0.mk (HC5.out.below hb); have HN6 := Aside0.mk (HN5.out.below hb); clear hb HB5 HS5 HV5 HC5 HN5
        cases t6 : (x0 == y0) with
        | true =>
         have t6' := bne_of t6
         replace t6' : (x0 != y0) = false := t6'
         cases t7 : (x1 == y1) with
         | true =>
          have t7' := bne_of t7
          replace t7' : (x1 != y1) = false := t7'
          obtain ⟨v0_6, v1_6, v2_6, v3_6, v4_6, v5_6⟩ := HV6.out.six
          obtain ⟨c0_6, c1_6, c2_6, c3_6, c4_6, c5_6⟩ := HC6.out.six
          obtain ⟨n0_6, n1_6, n2_6, n3_6, n4_6, n5_6⟩ := HN6.out.six
          go_wp2_with fail
          clear v0_6 v1_6 v2_6 v3_6 v4_6 v5_6 c0_6 c1_6 c2_6 c3_6 c4_6 c5_6 n0_6 n1_6 n2_6 n3_6 n4_6 n5_6
          obtain ⟨v0_6, v1_6, v2_6, v3_6, v4_6, v5_6⟩ := HV6.out.sixR
          obtain ⟨c0_6, c1_6, c2_6, c3_6, c4_6, c5_6⟩ := HC6.out.sixR
          obtain ⟨n0_6, n1_6, n2_6, n3_6, n4_6, n5_6⟩ := HN6.out.sixR
          have c0 := fun d os => Calls.regrown_of (semver_Version_Minor.calls x0 x1 x2 xp xm xo _ (grow (redrawn w6 d) os) rfl)
          have c1 := fun d os => Calls.regrown_of (semver_Version_Minor.calls y0 y1 y2 yp ym yo _ (grow (redrawn w6 d) os) rfl)
          refine wp_region_quiet_below (by kernel_rfl) (by kernel_rfl) ?_
          repeat (first | go_big_quiet_step (first | exact c0 _ _ | exact c1 _ _) | quiet_step (first | exact c0 _ _ | exact c1 _ _))
          refine wpQuiet_nil ?_
          intro _ hw'; obtain ⟨⟨dq, osq⟩, hw''⟩ := hw'; subst hw''; clear c0 c1 v0_6 v1_6 v2_6 v3_6 v4_6 v5_6 c0_6 c1_6 c2_6 c3_6 c4_6 c5_6 n0_6 n1_6 n2_6 n3_6 n4_6 n5_6
          have hb := below_regrown w6 dq osq
          generalize grow (redrawn w6 dq) osq = w7 at *
          have HB7 := Aside0.mk (HB6.out.trans (hb.mono HB6.out.size)); have HS7 := Aside0.mk (HS6.out.below hb); have HV7 := Aside0.mk (HV6.out.below hb); have HC7 := Aside0.mk (HC6.out.below hb); have HN7 := Aside0.mk (HN6.out.below hb); clear hb HB6 HS6 HV6 HC6 HN6
          obtain ⟨v0_7, v1_7, v2_7, v3_7, v4_7, v5_7⟩ := HV7.out.six
          obtain ⟨c0_7, c1_7, c2_7, c3_7, c4_7, c5_7⟩ := HC7.out.six
          obtain ⟨n0_7, n1_7, n2_7, n3_7, n4_7, n5_7⟩ := HN7.out.six
          go_wp2_with fail
          go_ret2
          exact ⟨_, (by first | rfl | (rw [t0, t2, t3, t4, t6, t7]; rfl)), HB7.out⟩
         | false =>
          have t7' := bne_of t7
          replace t7' : (x1 != y1) = true := t7'
          obtain ⟨v0_6, v1_6, v2_6, v3_6, v4_6, v5_6⟩ := HV6.out.six
          obtain ⟨c0_6, c1_6, c2_6, c3_6, c4_6, c5_6⟩ := HC6.out.six
          obtain ⟨n0_6, n1_6, n2_6, n3_6, n4_6, n5_6⟩ := HN6.out.six
          go_wp2_with fail
          clear v0_6 v1_6 v2_6 v3_6 v4_6 v5_6 c0_6 c1_6 c2_6 c3_6 c4_6 c5_6 n0_6 n1_6 n2_6 n3_6 n4_6 n5_6
          obtain ⟨v0_6, v1_6, v2_6, v3_6, v4_6, v5_6⟩ := HV6.out.sixR
          obtain ⟨c0_6, c1_6, c2_6, c3_6, c4_6, c5_6⟩ := HC6.out.sixR
          obtain ⟨n0_6, n1_6, n2_6, n3_6, n4_6, n5_6⟩ := HN6.out.sixR
          have c0 := fun d os => Calls.regrown_of (semver_Version_Minor.calls x0 x1 x2 xp xm xo _ (grow (redrawn w6 d) os) rfl)
          have c1 := fun d os => Calls.regrown_of (semver_Version_Minor.calls y0 y1 y2 yp ym yo _ (grow (redrawn w6 d) os) rfl)
          refine wp_region_quiet_below (by kernel_rfl) (by kernel_rfl) ?_
          repeat (first | go_big_quiet_step (first | exact c0 _ _ | exact c1 _ _) | quiet_step (first | exact c0 _ _ | exact c1 _ _))
          refine wpQuiet_nil ?_
          intro _ hw'; obtain ⟨⟨dq, osq⟩, hw''⟩ := hw'; subst hw''; clear c0 c1 v0_6 v1_6 v2_6 v3_6 v4_6 v5_6 c0_6 c1_6 c2_6 c3_6 c4_6 c5_6 n0_6 n1_6 n2_6 n3_6 n4_6 n5_6
          have hb := below_regrown w6 dq osq
          generalize grow (redrawn w6 dq) osq = w7 at *
          have HB7 := Aside0.mk (HB6.out.trans (hb.mono HB6.out.size)); have HS7 := Aside0.mk (HS6.out.below hb); have HV7 := Aside0.mk (HV6.out.below hb); have HC7 := Aside0.mk (HC6.out.below hb); have HN7 := Aside0.mk (HN6.out.below hb); clear hb HB6 HS6 HV6 HC6 HN6
          obtain ⟨v0_7, v1_7, v2_7, v3_7, v4_7, v5_7⟩ := HV7.out.six
          obtain ⟨c0_7, c1_7, c2_7, c3_7, c4_7, c5_7⟩ := HC7.out.six
          obtain ⟨n0_7, n1_7, n2_7, n3_7, n4_7, n5_7⟩ := HN7.out.six
          go_wp2_with fail
          go_ret2
          exact ⟨_, (by first | rfl | (rw [t0, t2, t3, t4, t6, t7]; rfl)), HB7.out⟩
        | false =>
         have t6' := bne_of t6
         replace t6' : (x0 != y0) = true := t6'
         obtain ⟨v0_6, v1_6, v2_6, v3_6, v4_6, v5_6⟩ := HV6.out.six
         obtain ⟨c0_6, c1_6, c2_6, c3_6, c4_6, c5_6⟩ := HC6.out.six
         obtain ⟨n0_6, n1_6, n2_6, n3_6, n4_6, n5_6⟩ := HN6.out.six
         go_wp2_with fail
         refine (errNew _ _).mono ?_
         rintro e w7 ⟨et6, ep6, rfl, hb⟩
         clear v0_6 v1_6 v2_6 v3_6 v4_6 v5_6 c0_6 c1_6 c2_6 c3_6 c4_6 c5_6 n0_6 n1_6 n2_6 n3_6 n4_6 n5_6
         have HB7 := Aside0.mk (HB6.out.trans (hb.mono HB6.out.size)); have HS7 := Aside0.mk (HS6.out.below hb); have HV7 := Aside0.mk (HV6.out.below hb); have HC7 := Aside0.mk (HC6.out.below hb); have HN7 := Aside0.mk (HN6.out.below hb); clear hb HB6 HS6 HV6 HC6 HN6
         obtain ⟨v0_7, v1_7, v2_7, v3_7, v4_7, v5_7⟩ := HV7.out.six
         obtain ⟨c0_7, c1_7, c2_7, c3_7, c4_7, c5_7⟩ := HC7.out.six
         obtain ⟨n0_7, n1_7, n2_7, n3_7, n4_7, n5_7⟩ := HN7.out.six
         go_wp2_with fail
         go_ret2
         exact ⟨_, (by first | rfl | (rw [t0, t2, t3, t4, t6]; rfl)), HB7.out⟩
       | false =>
        cases pD with
        | true =>
         obtain ⟨v0_5, v1_5, v2_5, v3_5, v4_5, v5_5⟩ := HV5.out.six
         obtain ⟨c0_5, c1_5, c2_5, c3_5, c4_5, c5_5⟩ := HC5.out.six
         obtain ⟨n0_5, n1_5, n2_5, n3_5, n4_5, n5_5⟩ := HN5.out.six
         go_wp2_with fail
         clear v0_5 v1_5 v2_5 v3_5 v4_5 v5_5 c0_5 c1_5 c2_5 c3_5 c4_5 c5_5 n0_5 n1_5 n2_5 n3_5 n4_5 n5_5
         obtain ⟨v0_5, v1_5, v2_5, v3_5, v4_5, v5_5⟩ := HV5.out.sixR
         obtain ⟨c0_5, c1_5, c2_5, c3_5, c4_5, c5_5⟩ := HC5.out.sixR
         obtain ⟨n0_5, n1_5, n2_5, n3_5, n4_5, n5_5⟩ := HN5.out.sixR
         have c0 := fun d os => Calls.regrown_of (semver_Version_Major.calls x0 x1 x2 xp xm xo _ (grow (redrawn w5 d) os) rfl)
         have c1 := fun d os => Calls.regrown_of (semver_Version_Major.calls y0 y1 y2 yp ym yo _ (grow (redrawn w5 d) os) rfl)
         refine wp_region_quiet_below (by kernel_rfl) (by kernel_rfl) ?_
         repeat (first | go_big_quiet_step (first | exact c0 _ _ | exact c1 _ _) | quiet_step (first | exact c0 _ _ | exact c1 _ _))
         refine wpQuiet_nil ?_
         intro _ hw'; obtain ⟨⟨dq, osq⟩, hw''⟩ := hw'; subst hw''; clear c0 c1 v0_5 v1_5 v2_5 v3_5 v4_5 v5_5 c0_5 c1_5 c2_5 c3_5 c4_5 c5_5 n0_5 n1_5 n2_5 n3_5 n4_5 n5_5
         have hb := below_regrown w5 dq osq
         generalize grow (redrawn w5 dq) osq = w6 at *
         have HB6 := Aside0.mk (HB5.out.trans (hb.mono HB5.out.size)); have HS6 := Aside0.mk (HS5.out.below hb); have HV6 := Aside0.mk (HV5.out.below hb); have HC6 := Aside0.mk (HC5.out.below hb); have HN6 := Aside0.mk (HN5.out.below hb); clear hb HB5 HS5 HV5 HC5 HN5
         cases t6 : (x0 == y0) with
         | true =>
          have t6' := bne_of t6
          replace t6' : (x0 != y0) = false := t6'
          cases t7 : (x1 == y1) with
          | true =>
           have t7' := bne_of t7
           replace t7' : (x1 != y1) = false := t7'
           obtain ⟨v0_6, v1_6, v2_6, v3_6, v4_6, v5_6⟩ := HV6.out.six
           obtain ⟨c0_6, c1_6, c2_6, c3_6, c4_6, c5_6⟩ := HC6.out.six
           obtain ⟨n0_6, n1_6, n2_6, n3_6, n4_6, n5_6⟩ := HN6.out.six
           go_wp2_with fail
           clear v0_6 v1_6 v2_6 v3_6 v4_6 v5_6 c0_6 c1_6 c2_6 c3_6 c4_6 c5_6 n0_6 n1_6 n2_6 n3_6 n4_6 n5_6
           obtain ⟨v0_6, v1_6, v2_6, v3_6, v4_6, v5_6⟩ := HV6.out.sixR
           obtain ⟨c0_6, c1_6, c2_6, c3_6, c4_6, c5_6⟩ := HC6.out.sixR
           obtain ⟨n0_6, n1_6, n2_6, n3_6, n4_6, n5_6⟩ := HN6.out.sixR
           have c0 := fun d os => Calls.regrown_of (semver_Version_Minor.calls x0 x1 x2 xp xm xo _ (grow (redrawn w6 d) os) rfl)
           have c1 := fun d os => Calls.regrown_of (semver_Version_Minor.calls y0 y1 y2 yp ym yo _ (grow (redrawn w6 d) os) rfl)
           refine wp_region_quiet_below (by kernel_rfl) (by kernel_rfl) ?_
           repeat (first | go_big_quiet_step (first | exact c0 _ _ | exact c1 _ _) | quiet_step (first | exact c0 _ _ | exact c1 _ _))
           refine wpQuiet_nil ?_
           intro _ hw'; obtain ⟨⟨dq, osq⟩, hw''⟩ := hw'; subst hw''; clear c0 c1 v0_6 v1_6 v2_6 v3_6 v4_6 v5_6 c0_6 c1_6 c2_6 c3_6 c4_6 c5_6 n0_6 n1_6 n2_6 n3_6 n4_6 n5_6
           have hb := below_regrown w6 dq osq
           generalize grow (redrawn w6 dq) osq = w7 at *
           have HB7 := Aside0.mk (HB6.out.trans (hb.mono HB6.out.size)); have HS7 := Aside0.mk (HS6.out.below hb); have HV7 := Aside0.mk (HV6.out.below hb); have HC7 := Aside0.mk (HC6.out.below hb); have HN7 := Aside0.mk (HN6.out.below hb); clear hb HB6 HS6 HV6 HC6 HN6
           obtain ⟨v0_7, v1_7, v2_7, v3_7, v4_7, v5_7⟩ := HV7.out.six
           obtain ⟨c0_7, c1_7, c2_7, c3_7, c4_7, c5_7⟩ := HC7.out.six
           obtain ⟨n0_7, n1_7, n2_7, n3_7, n4_7, n5_7⟩ := HN7.out.six
           go_wp2_with fail
           go_ret2
           exact ⟨_, (by first | rfl | (rw [t0, t2, t3, t4, t6, t7]; rfl)), HB7.out⟩
          | false =>
           have t7' := bne_of t7
           replace t7' : (x1 != y1) = true := t7'
           obtain ⟨v0_6, v1_6, v2_6, v3_6, v4_6, v5_6⟩ := HV6.out.six
           obtain ⟨c0_6, c1_6, c2_6, c3_6, c4_6, c5_6⟩ := HC6.out.six
           obtain ⟨n0_6, n1_6, n2_6, n3_6, n4_6, n5_6⟩ := HN6.out.six
           go_wp2_with fail
           clear v0_6 v1_6 v2_6 v3_6 v4_6 v5_6 c0_6 c1_6 c2_6 c3_6 c4_6 c5_6 n0_6 n1_6 n2_6 n3_6 n4_6 n5_6
           obtain ⟨v0_6, v1_6, v2_6, v3_6, v4_6, v5_6⟩ := HV6.out.sixR
           obtain ⟨c0_6, c1_6, c2_6, c3_6, c4_6, c5_6⟩ := HC6.out.sixR
           obtain ⟨n0_6, n1_6, n2_6, n3_6, n4_6, n5_6⟩ := HN6.out.sixR
           have c0 := fun d os => Calls.regrown_of (semver_Version_Minor.calls x0 x1 x2 xp xm xo _ (grow (redrawn w6 d) os) rfl)
           have c1 := fun d os => Calls.regrown_of (semver_Version_Minor.calls y0 y1 y2 yp ym yo _ (grow (redrawn w6 d) os) rfl)
           refine wp_region_quiet_below (by kernel_rfl) (by kernel_rfl) ?_
           repeat (first | go_big_quiet_step (first | exact c0 _ _ | exact c1 _ _) | quiet_step (first | exact c0 _ _ | exact c1 _ _))
           refine wpQuiet_nil ?_
           intro _ hw'; obtain ⟨⟨dq, osq⟩, hw''⟩ := hw'; subst hw''; clear c0 c1 v0_6 v1_6 v2_6 v3_6 v4_6 v5_6 c0_6 c1_6 c2_6 c3_6 c4_6 c5_6 n0_6 n1_6 n2_6 n3_6 n4_6 n5_6
           have hb := below_regrown w6 dq osq
           generalize grow (redrawn w6 dq) osq = w7 at *
           have HB7 := Aside0.mk (HB6.out.trans (hb.mono HB6.out.size)); have HS7 := Aside0.mk (HS6.out.below hb); have HV7 := Aside0.mk (HV6.out.below hb); have HC7 := Aside0.mk (HC6.out.below hb); have HN7 := Aside0.mk (HN6.out.below hb); clear hb HB6 HS6 HV6 HC6 HN6
           obtain ⟨v0_7, v1_7, v2_7, v3_7, v4_7, v5_7⟩ := HV7.out.six
           obtain ⟨c0_7, c1_7, c2_7, c3_7, c4_7, c5_7⟩ := HC7.out.six
           obtain ⟨n0_7, n1_7, n2_7, n3_7, n4_7, n5_7⟩ := HN7.out.six
           go_wp2_with fail
           refine (errNew _ _).mono ?_
           rintro e w8 ⟨et7, ep7, rfl, hb⟩
           clear v0_7 v1_7 v2_7 v3_7 v4_7 v5_7 c0_7 c1_7 c2_7 c3_7 c4_7 c5_7 n0_7 n1_7 n2_7 n3_7 n4_7 n5_7
           have HB8 := Aside0.mk (HB7.out.trans (hb.mono HB7.out.size)); have HS8 := Aside0.mk (HS7.out.below hb); have HV8 := Aside0.mk (HV7.out.below hb); have HC8 := Aside0.mk (HC7.out.below hb); have HN8 := Aside0.mk (HN7.out.below hb); clear hb HB7 HS7 HV7 HC7 HN7
           obtain ⟨v0_8, v1_8, v2_8, v3_8, v4_8, v5_8⟩ := HV8.out.six
           obtain ⟨c0_8, c1_8, c2_8, c3_8, c4_8, c5_8⟩ := HC8.out.six
           obtain ⟨n0_8, n1_8, n2_8, n3_8, n4_8, n5_8⟩ := HN8.out.six
           go_wp2_with fail
           go_ret2
           exact ⟨_, (by first | rfl | (rw [t0, t2, t3, t4, t6, t7]; rfl)), HB8.out⟩
         | false =>
          have t6' := bne_of t6
          replace t6' : (x0 != y0) = true := t6'
          obtain ⟨v0_6, v1_6, v2_6, v3_6, v4_6, v5_6⟩ := HV6.out.six
          obtain ⟨c0_6, c1_6, c2_6, c3_6, c4_6, c5_6⟩ := HC6.out.six
          obtain ⟨n0_6, n1_6, n2_6, n3_6, n4_6, n5_6⟩ := HN6.out.six
          go_wp2_with fail
          refine (errNew _ _).mono ?_
          rintro e w7 ⟨et6, ep6, rfl, hb⟩
          clear v0_6 v1_6 v2_6 v3_6 v4_6 v5_6 c0_6 c1_6 c2_6 c3_6 c4_6 c5_6 n0_6 n1_6 n2_6 n3_6 n4_6 n5_6
          have HB7 := Aside0.mk (HB6.out.trans (hb.mono HB6.out.size)); have HS7 := Aside0.mk (HS6.out.below hb); have HV7 := Aside0.mk (HV6.out.below hb); have HC7 := Aside0.mk (HC6.out.below hb); have HN7 := Aside0.mk (HN6.out.below hb); clear hb HB6 HS6 HV6 HC6 HN6
          obtain ⟨v0_7, v1_7, v2_7, v3_7, v4_7, v5_7⟩ := HV7.out.six
          obtain ⟨c0_7, c1_7, c2_7, c3_7, c4_7, c5_7⟩ := HC7.out.six
          obtain ⟨n0_7, n1_7, n2_7, n3_7, n4_7, n5_7⟩ := HN7.out.six
          go_wp2_with fail
          go_ret2
          exact ⟨_, (by first | rfl | (rw [t0, t2, t3, t4, t6]; rfl)), HB7.out⟩
        | false =>
         obtain ⟨v0_5, v1_5, v2_5, v3_5, v4_5, v5_5⟩ := HV5.out.six
         obtain ⟨c0_5, c1_5, c2_5, c3_5, c4_5, c5_5⟩ := HC5.out.six
         obtain ⟨n0_5, n1_5, n2_5, n3_5, n4_5, n5_5⟩ := HN5.out.six
         go_wp2_with fail
         go_ret2
         exact ⟨_, (by first | rfl | (rw [t0, t2, t3, t4]; rfl)), HB5.out⟩
      | false =>
       have t4' := bne_of t4
       replace t4' : (y2 != 0) = true := t4'
       obtain ⟨v0_5, v1_5, v2_5, v3_5, v4_5, v5_5⟩ := HV5.out.six
       obtain ⟨c0_5, c1_5, c2_5, c3_5, c4_5, c5_5⟩ := HC5.out.six
       obtain ⟨n0_5, n1_5, n2_5, n3_5, n4_5, n5_5⟩ := HN5.out.six
       go_wp2_with fail
       clear v0_5 v1_5 v2_5 v3_5 v4_5 v5_5 c0_5 c1_5 c2_5 c3_5 c4_5 c5_5 n0_5 n1_5 n2_5 n3_5 n4_5 n5_5
       obtain ⟨v0_5, v1_5, v2_5, v3_5, v4_5, v5_5⟩ := HV5.out.sixR
       obtain ⟨c0_5, c1_5, c2_5, c3_5, c4_5, c5_5⟩ := HC5.out.sixR
       obtain ⟨n0_5, n1_5, n2_5, n3_5, n4_5, n5_5⟩ := HN5.out.sixR
       have c0 := fun d os => Calls.regrown_of (semver_Version_Major.calls x0 x1 x2 xp xm xo _ (grow (redrawn w5 d) os) rfl)
       have c1 := fun d os => Calls.regrown_of (semver_Version_Major.calls y0 y1 y2 yp ym yo _ (grow (redrawn w5 d) os) rfl)
       refine wp_region_quiet_below (by kernel_rfl) (by kernel_rfl) ?_
       repeat (first | go_big_quiet_step (first | exact c0 _ _ | exact c1 _ _) | quiet_step (first | exact c0 _ _ | exact c1 _ _))
       refine wpQuiet_nil ?_
       intro _ hw'; obtain ⟨⟨dq, osq⟩, hw''⟩ := hw'; subst hw''; clear c0 c1 v0_5 v1_5 v2_5 v3_5 v4_5 v5_5 c0_5 c1_5 c2_5 c3_5 c4_5 c5_5 n0_5 n1_5 n2_5 n3_5 n4_5 n5_5
       have hb := below_regrown w5 dq osq
       generalize grow (redrawn w5 dq) osq = w6 at *
       have HB6 := Aside0.mk (HB5.out.trans (hb.mono HB5.out.size)); have HS6 := Aside0.mk (HS5.out.below hb); have HV6 := Aside0.mk (HV5.out.below hb); have HC6 := Aside0.mk (HC5.out.below hb); have HN6 := Aside0.mk (HN5.out.below hb); clear hb HB5 HS5 HV5 HC5 HN5
       cases t6 : (x0 == y0) with
       | true =>
        have t6' := bne_of t6
        replace t6' : (x0 != y0) = false := t6'
        cases t7 : (x1 == y1) with
        | true =>
         have t7' := bne_of t7
         replace t7' : (x1 != y1) = false := t7'
         obtain ⟨v0_6, v1_6, v2_6, v3_6, v4_6, v5_6⟩ := HV6.out.six
         obtain ⟨c0_6, c1_6, c2_6, c3_6, c4_6, c5_6⟩ := HC6.out.six
         obtain ⟨n0_6, n1_6, n2_6, n3_6, n4_6, n5_6⟩ := HN6.out.six
         go_wp2_with fail
         clear v0_6 v1_6 v2_6 v3_6 v4_6 v5_6 c0_6 c1_6 c2_6 c3_6 c4_6 c5_6 n0_6 n1_6 n2_6 n3_6 n4_6 n5_6
         obtain ⟨v0_6, v1_6, v2_6, v3_6, v4_6, v5_6⟩ := HV6.out.sixR
         obtain ⟨c0_6, c1_6, c2_6, c3_6, c4_6, c5_6⟩ := HC6.out.sixR
         obtain ⟨n0_6, n1_6, n2_6, n3_6, n4_6, n5_6⟩ := HN6.out.sixR
         have c0 := fun d os => Calls.regrown_of (semver_Version_Minor.calls x0 x1 x2 xp xm xo _ (grow (redrawn w6 d) os) rfl)
         have c1 := fun d os => Calls.regrown_of (semver_Version_Minor.calls y0 y1 y2 yp ym yo _ (grow (redrawn w6 d) os) rfl)
         refine wp_region_quiet_below (by kernel_rfl) (by kernel_rfl) ?_
         repeat (first | go_big_quiet_step (first | exact c0 _ _ | exact c1 _ _) | quiet_step (first | exact c0 _ _ | exact c1 _ _))
         refine wpQuiet_nil ?_
         intro _ hw'; obtain ⟨⟨dq, osq⟩, hw''⟩ := hw'; subst hw''; clear c0 c1 v0_6 v1_6 v2_6 v3_6 v4_6 v5_6 c0_6 c1_6 c2_6 c3_6 c4_6 c5_6 n0_6 n1_6 n2_6 n3_6 n4_6 n5_6
         have hb := below_regrown w6 dq osq
         generalize grow (redrawn w6 dq) osq = w7 at *
         have HB7 := Aside0.mk (HB6.out.trans (hb.mono HB6.out.size)); have HS7 := Aside0.mk (HS6.out.below hb); have HV7 := Aside0.mk (HV6.out.below hb); have HC7 := Aside0.mk (HC6.out.below hb); have HN7 := Aside0.mk (HN6.out.below hb); clear hb HB6 HS6 HV6 HC6 HN6
         obtain ⟨v0_7, v1_7, v2_7, v3_7, v4_7, v5_7⟩ := HV7.out.six
         obtain ⟨c0_7, c1_7, c2_7, c3_7, c4_7, c5_7⟩ := HC7.out.six
         obtain ⟨n0_7, n1_7, n2_7, n3_7, n4_7, n5_7⟩ := HN7.out.six
         go_wp2_with fail
         go_ret2
         exact ⟨_, (by first | rfl | (rw [t0, t2, t3, t4, t6, t7]; rfl)), HB7.out⟩
        | false =>
         have t7' := bne_of t7
         replace t7' : (x1 != y1) = true := t7'
         obtain ⟨v0_6, v1_6, v2_6, v3_6, v4_6, v5_6⟩ := HV6.out.six
         obtain ⟨c0_6, c1_6, c2_6, c3_6, c4_6, c5_6⟩ := HC6.out.six
         obtain ⟨n0_6, n1_6, n2_6, n3_6, n4_6, n5_6⟩ := HN6.out.six
         go_wp2_with fail
         clear v0_6 v1_6 v2_6 v3_6 v4_6 v5_6 c0_6 c1_6 c2_6 c3_6 c4_6 c5_6 n0_6 n1_6 n2_6 n3_6 n4_6 n5_6
         obtain ⟨v0_6, v1_6, v2_6, v3_6, v4_6, v5_6⟩ := HV6.out.sixR
         obtain ⟨c0_6, c1_6, c2_6, c3_6, c4_6, c5_6⟩ := HC6.out.sixR
         obtain ⟨n0_6, n1_6, n2_6, n3_6, n4_6, n5_6⟩ := HN6.out.sixR
         have c0 := fun d os => Calls.regrown_of (semver_Version_Minor.calls x0 x1 x2 xp xm xo _ (grow (redrawn w6 d) os) rfl)
         have c1 := fun d os => Calls.regrown_of (semver_Version_Minor.calls y0 y1 y2 yp ym yo _ (grow (redrawn w6 d) os) rfl)
         refine wp_region_quiet_below (by kernel_rfl) (by kernel_rfl) ?_
         repeat (first | go_big_quiet_step (first | exact c0 _ _ | exact c1 _ _) | quiet_step (first | exact c0 _ _ | exact c1 _ _))
         refine wpQuiet_nil ?_
         intro _ hw'; obtain ⟨⟨dq, osq⟩, hw''⟩ := hw'; subst hw''; clear c0 c1 v0_6 v1_6 v2_6 v3_6 v4_6 v5_6 c0_6 c1_6 c2_6 c3_6 c4_6 c5_6 n0_6 n1_6 n2_6 n3_6 n4_6 n5_6
         have hb := below_regrown w6 dq osq
         generalize grow (redrawn w6 dq) osq = w7 at *
         have HB7 := Aside0.mk (HB6.out.trans (hb.mono HB6.out.size)); have HS7 := Aside0.mk (HS6.out.below hb); have HV7 := Aside0.mk (HV6.out.below hb); have HC7 := Aside0.mk (HC6.out.below hb); have HN7 := Aside0.mk (HN6.out.below hb); clear hb HB6 HS6 HV6 HC6 HN6
         cases mD with
         | true =>
          obtain ⟨v0_7, v1_7, v2_7, v3_7, v4_7, v5_7⟩ := HV7.out.six
          obtain ⟨c0_7, c1_7, c2_7, c3_7, c4_7, c5_7⟩ := HC7.out.six
          obtain ⟨n0_7, n1_7, n2_7, n3_7, n4_7, n5_7⟩ := HN7.out.six
          go_wp2_with fail
          go_ret2
          exact ⟨_, (by first | rfl | (rw [t0, t2, t3, t4, t6, t7]; rfl)), HB7.out⟩
         | false =>
          obtain ⟨v0_7, v1_7, v2_7, v3_7, v4_7, v5_7⟩ := HV7.out.six
          obtain ⟨c0_7, c1_7, c2_7, c3_7, c4_7, c5_7⟩ := HC7.out.six
          obtain ⟨n0_7, n1_7, n2_7, n3_7, n4_7, n5_7⟩ := HN7.out.six
          go_wp2_with fail
          refine (errNew _ _).mono ?_
          rintro e w8 ⟨et7, ep7, rfl, hb⟩
          clear v0_7 v1_7 v2_7 v3_7 v4_7 v5_7 c0_7 c1_7 c2_7 c3_7 c4_7 c5_7 n0_7 n1_7 n2_7 n3_7 n4_7 n5_7
          have HB8 := Aside0.mk (HB7.out.trans (hb.mono HB7.out.size)); have HS8 := Aside0.mk (HS7.out.below hb); have HV8 := Aside0.mk (HV7.out.below hb); have HC8 := Aside0.mk (HC7.out.below hb); have HN8 := Aside0.mk (HN7.out.below hb); clear hb HB7 HS7 HV7 HC7 HN7
          obtain ⟨v0_8, v1_8, v2_8, v3_8, v4_8, v5_8⟩ := HV8.out.six
          obtain ⟨c0_8, c1_8, c2_8, c3_8, c4_8, c5_8⟩ := HC8.out.six
          obtain ⟨n0_8, n1_8, n2_8, n3_8, n4_8, n5_8⟩ := HN8.out.six
          go_wp2_with fail
          go_ret2
          exact ⟨_, (by first | rfl | (rw [t0, t2, t3, t4, t6, t7]; rfl)), HB8.out⟩
       | false =>
        have t6' := bne_of t6
        replace t6' : (x0 != y0) = true := t6'
        obtain ⟨v0_6, v1_6, v2_6, v3_6, v4_6, v5_6⟩ := HV6.out.six
        obtain ⟨c0_6, c1_6, c2_6, c3_6, c4_6, c5_6⟩ := HC6.out.six
        obtain ⟨n0_6, n1_6, n2_6, n3_6, n4_6, n5_6⟩ := HN6.out.six
        go_wp2_with fail
        refine (errNew _ _).mono ?_
        rintro e w7 ⟨et6, ep6, rfl, hb⟩
        clear v0_6 v1_6 v2_6 v3_6 v4_6 v5_6 c0_6 c1_6 c2_6 c3_6 c4_6 c5_6 n0_6 n1_6 n2_6 n3_6 n4_6 n5_6
        have HB7 := Aside0.mk (HB6.out.trans (hb.mono HB6.out.size)); have HS7 := Aside0.mk (HS6.out.below hb); have HV7 := Aside0.mk (HV6.out.below hb); have HC7 := Aside0.mk (HC6.out.below hb); have HN7 := Aside0.mk (HN6.out.below hb); clear hb HB6 HS6 HV6 HC6 HN6
        obtain ⟨v0_7, v1_7, v2_7, v3_7, v4_7, v5_7⟩ := HV7.out.six
        obtain ⟨c0_7, c1_7, c2_7, c3_7, c4_7, c5_7⟩ := HC7.out.six
        obtain ⟨n0_7, n1_7, n2_7, n3_7, n4_7, n5_7⟩ := HN7.out.six
        go_wp2_with fail
        go_ret2
        exact ⟨_, (by first | rfl | (rw [t0, t2, t3, t4, t6]; rfl)), HB7.out⟩
     | false =>
      have t3' := bne_of t3
      replace t3' : (y1 != 0) = true := t3'
      obtain ⟨v0_4, v1_4, v2_4, v3_4, v4_4, v5_4⟩ := HV4.out.six
      obtain ⟨c0_4, c1_4, c2_4, c3_4, c4_4, c5_4⟩ := HC4.out.six
      obtain ⟨n0_4, n1_4, n2_4, n3_4, n4_4, n5_4⟩ := HN4.out.six
      go_wp2_with fail
      clear v0_4 v1_4 v2_4 v3_4 v4_4 v5_4 c0_4 c1_4 c2_4 c3_4 c4_4 c5_4 n0_4 n1_4 n2_4 n3_4 n4_4 n5_4
      obtain ⟨v0_4, v1_4, v2_4, v3_4, v4_4, v5_4⟩ := HV4.out.sixR
      obtain ⟨c0_4, c1_4, c2_4, c3_4, c4_4, c5_4⟩ := HC4.out.sixR
      obtain ⟨n0_4, n1_4, n2_4, n3_4, n4_4, n5_4⟩ := HN4.out.sixR
      have c0 := fun d os => Calls.regrown_of (semver_Version_Major.calls x0 x1 x2 xp xm xo _ (grow (redrawn w4 d) os) rfl)
      have c1 := fun d os => Calls.regrown_of (semver_Version_Major.calls y0 y1 y2 yp ym yo _ (grow (redrawn w4 d) os) rfl)
      refine wp_region_quiet_below (by kernel_rfl) (by kernel_rfl) ?_
      repeat (first | go_big_quiet_step (first | exact c0 _ _ | exact c1 _ _) | quiet_step (first | exact c0 _ _ | exact c1 _ _))
      refine wpQuiet_nil ?_
      intro _ hw'; obtain ⟨⟨dq, osq⟩, hw''⟩ := hw'; subst hw''; clear c0 c1 v0_4 v1_4 v2_4 v3_4 v4_4 v5_4 c0_4 c1_4 c2_4 c3_4 c4_4 c5_4 n0_4 n1_4 n2_4 n3_4 n4_4 n5_4
      have hb := below_regrown w4 dq osq
      generalize grow (redrawn w4 dq) osq = w5 at *
      have HB5 := Aside0.mk (HB4.out.trans (hb.mono HB4.out.size)); have HS5 := Aside0.mk (HS4.out.below hb); have HV5 := Aside0.mk (HV4.out.below hb); have HC5 := Aside0.mk (HC4.out.below hb); have HN5 := Aside0.mk (HN4.out.below hb); clear hb HB4 HS4 HV4 HC4 HN4
      cases t6 : (x0 == y0) with
      | true =>
       have t6' := bne_of t6
       replace t6' : (x0 != y0) = false := t6'
       cases t7 : (x1 == y1) with
       | true =>
        have t7' := bne_of t7
        replace t7' : (x1 != y1) = false := t7'
        obtain ⟨v0_5, v1_5, v2_5, v3_5, v4_5, v5_5⟩ := HV5.out.six
        obtain ⟨c0_5, c1_5, c2_5, c3_5, c4_5, c5_5⟩ := HC5.out.six
        obtain ⟨n0_5, n1_5, n2_5, n3_5, n4_5, n5_5⟩ := HN5.out.six
        go_wp2_with fail
        clear v0_5 v1_5 v2_5 v3_5 v4_5 v5_5 c0_5 c1_5 c2_5 c3_5 c4_5 c5_5 n0_5 n1_5 n2_5 n3_5 n4_5 n5_5
        obtain ⟨v0_5, v1_5, v2_5, v3_5, v4_5, v5_5⟩ := HV5.out.sixR
        obtain ⟨c0_5, c1_5, c2_5, c3_5, c4_5, c5_5⟩ := HC5.out.sixR
        obtain ⟨n0_5, n1_5, n2_5, n3_5, n4_5, n5_5⟩ := HN5.out.sixR
        have c0 := fun d os => Calls.regrown_of (semver_Version_Minor.calls x0 x1 x2 xp xm xo _ (grow (redrawn w5 d) os) rfl)
        have c1 := fun d os => Calls.regrown_of (semver_Version_Minor.calls y0 y1 y2 yp ym yo _ (grow (redrawn w5 d) os) rfl)
        refine wp_region_quiet_below (by kernel_rfl) (by kernel_rfl) ?_
        repeat (first | go_big_quiet_step (first | exact c0 _ _ | exact c1 _ _) | quiet_step (first | exact c0 _ _ | exact c1 _ _))
        refine wpQuiet_nil ?_
        intro _ hw'; obtain ⟨⟨dq, osq⟩, hw''⟩ := hw'; subst hw''; clear c0 c1 v0_5 v1_5 v2_5 v3_5 v4_5 v5_5 c0_5 c1_5 c2_5 c3_5 c4_5 c5_5 n0_5 n1_5 n2_5 n3_5 n4_5 n5_5
        have hb := below_regrown w5 dq osq
        generalize grow (redrawn w5 dq) osq = w6 at *
        have HB6 := Aside0.mk (HB5.out.trans (hb.mono HB5.out.size)); have HS6 := Aside0.mk (HS5.out.below hb); have HV6 := Aside0.mk (HV5.out.below hb); have HC6 := Aside0.mk (HC5.out.below hb); have HN6 := Aside0.mk (HN5.out.below hb); clear hb HB5 HS5 HV5 HC5 HN5
        obtain ⟨v0_6, v1_6, v2_6, v3_6, v4_6, v5_6⟩ := HV6.out.six
        obtain ⟨c0_6, c1_6, c2_6, c3_6, c4_6, c5_6⟩ := HC6.out.six
        obtain ⟨n0_6, n1_6, n2_6, n3_6, n4_6, n5_6⟩ := HN6.out.six
        go_wp2_with fail
        go_ret2
        exact ⟨_, (by first | rfl | (rw [t0, t2, t3, t6, t7]; rfl)), HB6.out⟩
       | false =>
        have t7' := bne_of t7
        replace t7' : (x1 != y1) = true := t7'
        obtain ⟨v0_5, v1_5, v2_5, v3_5, v4_5, v5_5⟩ := HV5.out.six
        obtain ⟨c0_5, c1_5, c2_5, c3_5, c4_5, c5_5⟩ := HC5.out.six
        obtain ⟨n0_5, n1_5, n2_5, n3_5, n4_5, n5_5⟩ := HN5.out.six
        go_wp2_with fail
        clear v0_5 v1_5 v2_5 v3_5 v4_5 v5_5 c0_5 c1_5 c2_5 c3_5 c4_5 c5_5 n0_5 n1_5 n2_5 n3_5 n4_5 n5_5
        obtain ⟨v0_5, v1_5, v2_5, v3_5, v4_5, v5_5⟩ := HV5.out.sixR
        obtain ⟨c0_5, c1_5, c2_5, c3_5, c4_5, c5_5⟩ := HC5.out.sixR
        obtain ⟨n0_5, n1_5, n2_5, n3_5, n4_5, n5_5⟩ := HN5.out.sixR
        have c0 := fun d os => Calls.regrown_of (semver_Version_Minor.calls x0 x1 x2 xp xm xo _ (grow (redrawn w5 d) os) rfl)
        have c1 := fun d os => Calls.regrown_of (semver_Version_Minor.calls y0 y1 y2 yp ym yo _ (grow (redrawn w5 d) os) rfl)
        refine wp_region_quiet_below (by kernel_rfl) (by kernel_rfl) ?_
        repeat (first | go_big_quiet_step (first | exact c0 _ _ | exact c1 _ _) | quiet_step (first | exact c0 _ _ | exact c1 _ _))
        refine wpQuiet_nil ?_
        intro _ hw'; obtain ⟨⟨dq, osq⟩, hw''⟩ := hw'; subst hw''; clear c0 c1 v0_5 v1_5 v2_5 v3_5 v4_5 v5_5 c0_5 c1_5 c2_5 c3_5 c4_5 c5_5 n0_5 n1_5 n2_5 n3_5 n4_5 n5_5
        have hb := below_regrown w5 dq osq
        generalize grow (redrawn w5 dq) osq = w6 at *
        have HB6 := Aside0.mk (HB5.out.trans (hb.mono HB5.out.size)); have HS6 := Aside0.mk (HS5.out.below hb); have HV6 := Aside0.mk (HV5.out.below hb); have HC6 := Aside0.mk (HC5.out.below hb); have HN6 := Aside0.mk (HN5.out.below hb); clear hb HB5 HS5 HV5 HC5 HN5
        cases mD with
        | true =>
         obtain ⟨v0_6, v1_6, v2_6, v3_6, v4_6, v5_6⟩ := HV6.out.six
         obtain ⟨c0_6, c1_6, c2_6, c3_6, c4_6, c5_6⟩ := HC6.out.six
         obtain ⟨n0_6, n1_6, n2_6, n3_6, n4_6, n5_6⟩ := HN6.out.six
         go_wp2_with fail
         go_ret2
         exact ⟨_, (by first | rfl | (rw [t0, t2, t3, t6, t7]; rfl)), HB6.out⟩
        | false =>
         obtain ⟨v0_6, v1_6, v2_6, v3_6, v4_6, v5_6⟩ := HV6.out.six
         obtain ⟨c0_6, c1_6, c2_6, c3_6, c4_6, c5_6⟩ := HC6.out.six
         obtain ⟨n0_6, n1_6, n2_6, n3_6, n4_6, n5_6⟩ := HN6.out.six
         go_wp2_with fail
         refine (errNew _ _).mono ?_
         rintro e w7 ⟨et6, ep6, rfl, hb⟩
         clear v0_6 v1_6 v2_6 v3_6 v4_6 v5_6 c0_6 c1_6 c2_6 c3_6 c4_6 c5_6 n0_6 n1_6 n2_6 n3_6 n4_6 n5_6
         have HB7 := Aside0.mk (HB6.out.trans (hb.mono HB6.out.size)); have HS7 := Aside0.mk (HS6.out.below hb); have HV7 := Aside0.mk (HV6.out.below hb); have HC7 := Aside0.mk (HC6.out.below hb); have HN7 := Aside0.mk (HN6.out.below hb); clear hb HB6 HS6 HV6 HC6 HN6
         obtain ⟨v0_7, v1_7, v2_7, v3_7, v4_7, v5_7⟩ := HV7.out.six
         obtain ⟨c0_7, c1_7, c2_7, c3_7, c4_7, c5_7⟩ := HC7.out.six
         obtain ⟨n0_7, n1_7, n2_7, n3_7, n4_7, n5_7⟩ := HN7.out.six
         go_wp2_with fail
         go_ret2
         exact ⟨_, (by first | rfl | (rw [t0, t2, t3, t6, t7]; rfl)), HB7.out⟩
      | false =>
       have t6' := bne_of t6
       replace t6' : (x0 != y0) = true := t6'
       obtain ⟨v0_5, v1_5, v2_5, v3_5, v4_5, v5_5⟩ := HV5.out.six
       obtain ⟨c0_5, c1_5, c2_5, c3_5, c4_5, c5_5⟩ := HC5.out.six
       obtain ⟨n0_5, n1_5, n2_5, n3_5, n4_5, n5_5⟩ := HN5.out.six
       go_wp2_with fail
       refine (errNew _ _).mono ?_
       rintro e w6 ⟨et5, ep5, rfl, hb⟩
       clear v0_5 v1_5 v2_5 v3_5 v4_5 v5_5 c0_5 c1_5 c2_5 c3_5 c4_5 c5_5 n0_5 n1_5 n2_5 n3_5 n4_5 n5_5
       have HB6 := Aside0.mk (HB5.out.trans (hb.mono HB5.out.size)); have HS6 := Aside0.mk (HS5.out.below hb); have HV6 := Aside0.mk (HV5.out.below hb); have HC6 := Aside0.mk (HC5.out.below hb); have HN6 := Aside0.mk (HN5.out.below hb); clear hb HB5 HS5 HV5 HC5 HN5
       obtain ⟨v0_6, v1_6, v2_6, v3_6, v4_6, v5_6⟩ := HV6.out.six
       obtain ⟨c0_6, c1_6, c2_6, c3_6, c4_6, c5_6⟩ := HC6.out.six
       obtain ⟨n0_6, n1_6, n2_6, n3_6, n4_6, n5_6⟩ := HN6.out.six
       go_wp2_with fail
       go_ret2
       exact ⟨_, (by first | rfl | (rw [t0, t2, t3, t6]; rfl)), HB6.out⟩
    | false =>
     have t2' := bne_of t2
     replace t2' : (y0 != 0) = true := t2'
     obtain ⟨v0_3, v1_3, v2_3, v3_3, v4_3, v5_3⟩ := HV3.out.six
     obtain ⟨c0_3, c1_3, c2_3, c3_3, c4_3, c5_3⟩ := HC3.out.six
     obtain ⟨n0_3, n1_3, n2_3, n3_3, n4_3, n5_3⟩ := HN3.out.six
     go_wp2_with fail
     clear v0_3 v1_3 v2_3 v3_3 v4_3 v5_3 c0_3 c1_3 c2_3 c3_3 c4_3 c5_3 n0_3 n1_3 n2_3 n3_3 n4_3 n5_3
     obtain ⟨v0_3, v1_3, v2_3, v3_3, v4_3, v5_3⟩ := HV3.out.sixR
     obtain ⟨c0_3, c1_3, c2_3, c3_3, c4_3, c5_3⟩ := HC3.out.sixR
     obtain ⟨n0_3, n1_3, n2_3, n3_3, n4_3, n5_3⟩ := HN3.out.sixR
     have c0 := fun d os => Calls.regrown_of (semver_Version_Major.calls x0 x1 x2 xp xm xo _ (grow (redrawn w3 d) os) rfl)
     have c1 := fun d os => Calls.regrown_of (semver_Version_Major.calls y0 y1 y2 yp ym yo _ (grow (redrawn w3 d) os) rfl)
     refine wp_region_quiet_below (by kernel_rfl) (by kernel_rfl) ?_
     repeat (first | go_big_quiet_step (first | exact c0 _ _ | exact c1 _ _) | quiet_step (first | exact c0 _ _ | exact c1 _ _))
     refine wpQuiet_nil ?_
     intro _ hw'; obtain ⟨⟨dq, osq⟩, hw''⟩ := hw'; subst hw''; clear c0 c1 v0_3 v1_3 v2_3 v3_3 v4_3 v5_3 c0_3 c1_3 c2_3 c3_3 c4_3 c5_3 n0_3 n1_3 n2_3 n3_3 n4_3 n5_3
     have hb := below_regrown w3 dq osq
     generalize grow (redrawn w3 dq) osq = w4 at *
     have HB4 := Aside0.mk (HB3.out.trans (hb.mono HB3.out.size)); have HS4 := Aside0.mk (HS3.out.below hb); have HV4 := Aside0.mk (HV3.out.below hb); have HC4 := Aside0.mk (HC3.out.below hb); have HN4 := Aside0.mk (HN3.out.below hb); clear hb HB3 HS3 HV3 HC3 HN3
     cases t6 : (x0 == y0) with
     | true =>
      have t6' := bne_of t6
      replace t6' : (x0 != y0) = false := t6'
      cases t7 : (x1 == y1) with
      | true =>
       have t7' := bne_of t7
       replace t7' : (x1 != y1) = false := t7'
       obtain ⟨v0_4, v1_4, v2_4, v3_4, v4_4, v5_4⟩ := HV4.out.six
       obtain ⟨c0_4, c1_4, c2_4, c3_4, c4_4, c5_4⟩ := HC4.out.six
       obtain ⟨n0_4, n1_4, n2_4, n3_4, n4_4, n5_4⟩ := HN4.out.six
       go_wp2_with fail
       clear v0_4 v1_4 v2_4 v3_4 v4_4 v5_4 c0_4 c1_4 c2_4 c3_4 c4_4 c5_4 n0_4 n1_4 n2_4 n3_4 n4_4 n5_4
       obtain ⟨v0_4, v1_4, v2_4, v3_4, v4_4, v5_4⟩ := HV4.out.sixR
       obtain ⟨c0_4, c1_4, c2_4, c3_4, c4_4, c5_4⟩ := HC4.out.sixR
       obtain ⟨n0_4, n1_4, n2_4, n3_4, n4_4, n5_4⟩ := HN4.out.sixR
       have c0 := fun d os => Calls.regrown_of (semver_Version_Minor.calls x0 x1 x2 xp xm xo _ (grow (redrawn w4 d) os) rfl)
       have c1 := fun d os => Calls.regrown_of (semver_Version_Minor.calls y0 y1 y2 yp ym yo _ (grow (redrawn w4 d) os) rfl)
       refine wp_region_quiet_below (by kernel_rfl) (by kernel_rfl) ?_
       repeat (first | go_big_quiet_step (first | exact c0 _ _ | exact c1 _ _) | quiet_step (first | exact c0 _ _ | exact c1 _ _))
       refine wpQuiet_nil ?_
       intro _ hw'; obtain ⟨⟨dq, osq⟩, hw''⟩ := hw'; subst hw''; clear c0 c1 v0_4 v1_4 v2_4 v3_4 v4_4 v5_4 c0_4 c1_4 c2_4 c3_4 c4_4 c5_4 n0_4 n1_4 n2_4 n3_4 n4_4 n5_4
       have hb := below_regrown w4 dq osq
       generalize grow (redrawn w4 dq) osq = w5 at *
       have HB5 := Aside0.mk (HB4.out.trans (hb.mono HB4.out.size)); have HS5 := Aside0.mk (HS4.out.below hb); have HV5 := Aside0.mk (HV4.out.below hb); have HC5 := Aside0.mk (HC4.out.below hb); have HN5 := Aside0.mk (HN4.out.below hb); clear hb HB4 HS4 HV4 HC4 HN4
       obtain ⟨v0_5, v1_5, v2_5, v3_5, v4_5, v5_5⟩ := HV5.out.six
       obtain ⟨c0_5, c1_5, c2_5, c3_5, c4_5, c5_5⟩ := HC5.out.six
       obtain ⟨n0_5, n1_5, n2_5, n3_5, n4_5, n5_5⟩ := HN5.out.six
       go_wp2_with fail
       go_ret2
       exact ⟨_, (by first | rfl | (rw [t0, t2, t6, t7]; rfl)), HB5.out⟩
      | false =>
       have t7' := bne_of t7
       replace t7' : (x1 != y1) = true := t7'
       obtain ⟨v0_4, v1_4, v2_4, v3_4, v4_4, v5_4⟩ := HV4.out.six
       obtain ⟨c0_4, c1_4, c2_4, c3_4, c4_4, c5_4⟩ := HC4.out.six
       obtain ⟨n0_4, n1_4, n2_4, n3_4, n4_4, n5_4⟩ := HN4.out.six
       go_wp2_with fail
       clear v0_4 v1_4 v2_4 v3_4 v4_4 v5_4 c0_4 c1_4 c2_4 c3_4 c4_4 c5_4 n0_4 n1_4 n2_4 n3_4 n4_4 n5_4
       obtain ⟨v0_4, v1_4, v2_4, v3_4, v4_4, v5_4⟩ := HV4.out.sixR
       obtain ⟨c0_4, c1_4, c2_4, c3_4, c4_4, c5_4⟩ := HC4.out.sixR
       obtain ⟨n0_4, n1_4, n2_4, n3_4, n4_4, n5_4⟩ := HN4.out.sixR
       have c0 := fun d os => Calls.regrown_of (semver_Version_Minor.calls x0 x1 x2 xp xm xo _ (grow (redrawn w4 d) os) rfl)
       have c1 := fun d os => Calls.regrown_of (semver_Version_Minor.calls y0 y1 y2 yp ym yo _ (grow (redrawn w4 d) os) rfl)
       refine wp_region_quiet_below (by kernel_rfl) (by kernel_rfl) ?_
       repeat (first | go_big_quiet_step (first | exact c0 _ _ | exact c1 _ _) | quiet_step (first | exact c0 _ _ | exact c1 _ _))
       refine wpQuiet_nil ?_
       intro _ hw'; obtain ⟨⟨dq, osq⟩, hw''⟩ := hw'; subst hw''; clear c0 c1 v0_4 v1_4 v2_4 v3_4 v4_4 v5_4 c0_4 c1_4 c2_4 c3_4 c4_4 c5_4 n0_4 n1_4 n2_4 n3_4 n4_4 n5_4
       have hb := below_regrown w4 dq osq
       generalize grow (redrawn w4 dq) osq = w5 at *
       have HB5 := Aside0.mk (HB4.out.trans (hb.mono HB4.out.size)); have HS5 := Aside0.mk (HS4.out.below hb); have HV5 := Aside0.mk (HV4.out.below hb); have HC5 := Aside0.mk (HC4.out.below hb); have HN5 := Aside0.mk (HN4.out.below hb); clear hb HB4 HS4 HV4 HC4 HN4
       cases mD with
       | true =>
        obtain ⟨v0_5, v1_5, v2_5, v3_5, v4_5, v5_5⟩ := HV5.out.six
        obtain ⟨c0_5, c1_5, c2_5, c3_5, c4_5, c5_5⟩ := HC5.out.six
        obtain ⟨n0_5, n1_5, n2_5, n3_5, n4_5, n5_5⟩ := HN5.out.six
        go_wp2_with fail
        go_ret2
        exact ⟨_, (by first | rfl | (rw [t0, t2, t6, t7]; rfl)), HB5.out⟩
       | false =>
        obtain ⟨v0_5, v1_5, v2_5, v3_5, v4_5, v5_5⟩ := HV5.out.six
        obtain ⟨c0_5, c1_5, c2_5, c3_5, c4_5, c5_5⟩ := HC5.out.six
        obtain ⟨n0_5, n1_5, n2_5, n3_5, n4_5, n5_5⟩ := HN5.out.six
        go_wp2_with fail
        refine (errNew _ _).mono ?_
        rintro e w6 ⟨et5, ep5, rfl, hb⟩
        clear v0_5 v1_5 v2_5 v3_5 v4_5 v5_5 c0_5 c1_5 c2_5 c3_5 c4_5 c5_5 n0_5 n1_5 n2_5 n3_5 n4_5 n5_5
        have HB6 := Aside0.mk (HB5.out.trans (hb.mono HB5.out.size)); have HS6 := Aside0.mk (HS5.out.below hb); have HV6 := Aside0.mk (HV5.out.below hb); have HC6 := Aside0.mk (HC5.out.below hb); have HN6 := Aside0.mk (HN5.out.below hb); clear hb HB5 HS5 HV5 HC5 HN5
        obtain ⟨v0_6, v1_6, v2_6, v3_6, v4_6, v5_6⟩ := HV6.out.six
        obtain ⟨c0_6, c1_6, c2_6, c3_6, c4_6, c5_6⟩ := HC6.out.six
        obtain ⟨n0_6, n1_6, n2_6, n3_6, n4_6, n5_6⟩ := HN6.out.six
        go_wp2_with fail
        go_ret2
        exact ⟨_, (by first | rfl | (rw [t0, t2, t6, t7]; rfl)), HB6.out⟩
     | false =>
      have t6' := bne_of t6
      replace t6' : (x0 != y0) = true := t6'
      obtain ⟨v0_4, v1_4, v2_4, v3_4, v4_4, v5_4⟩ := HV4.out.six
      obtain ⟨c0_4, c1_4, c2_4, c3_4, c4_4, c5_4⟩ := HC4.out.six
      obtain ⟨n0_4, n1_4, n2_4, n3_4, n4_4, n5_4⟩ := HN4.out.six
      go_wp2_with fail
      refine (errNew _ _).mono ?_
      rintro e w5 ⟨et4, ep4, rfl, hb⟩
      clear v0_4 v1_4 v2_4 v3_4 v4_4 v5_4 c0_4 c1_4 c2_4 c3_4 c4_4 c5_4 n0_4 n1_4 n2_4 n3_4 n4_4 n5_4
      have HB5 := Aside0.mk (HB4.out.trans (hb.mono HB4.out.size)); have HS5 := Aside0.mk (HS4.out.below hb); have HV5 := Aside0.mk (HV4.out.below hb); have HC5 := Aside0.mk (HC4.out.below hb); have HN5 := Aside0.mk (HN4.out.below hb); clear hb HB4 HS4 HV4 HC4 HN4
      obtain ⟨v0_5, v1_5, v2_5, v3_5, v4_5, v5_5⟩ := HV5.out.six
      obtain ⟨c0_5, c1_5, c2_5, c3_5, c4_5, c5_5⟩ := HC5.out.six
      obtain ⟨n0_5, n1_5, n2_5, n3_5, n4_5, n5_5⟩ := HN5.out.six
      go_wp2_with fail
      go_ret2
      exact ⟨_, (by first | rfl | (rw [t0, t2, t6]; rfl)), HB5.out⟩
  | false =>
   obtain ⟨v0_1, v1_1, v2_1, v3_1, v4_1, v5_1⟩ := HV1.out.six
   obtain ⟨c0_1, c1_1, c2_1, c3_1, c4_1, c5_1⟩ := HC1.out.six
   obtain ⟨n0_1, n1_1, n2_1, n3_1, n4_1, n5_1⟩ := HN1.out.six
   go_wp2_with fail
   refine (errNew _ _).mono ?_
   rintro e w2 ⟨et1, ep1, rfl, hb⟩
   clear v0_1 v1_1 v2_1 v3_1 v4_1 v5_1 c0_1 c1_1 c2_1 c3_1 c4_1 c5_1 n0_1 n1_1 n2_1 n3_1 n4_1 n5_1
   have HB2 := Aside0.mk (HB1.out.trans (hb.mono HB1.out.size)); have HS2 := Aside0.mk (HS1.out.below hb); have HV2 := Aside0.mk (HV1.out.below hb); have HC2 := Aside0.mk (HC1.out.below hb); have HN2 := Aside0.mk (HN1.out.below hb); clear hb HB1 HS1 HV1 HC1 HN1
   obtain ⟨v0_2, v1_2, v2_2, v3_2, v4_2, v5_2⟩ := HV2.out.six
   obtain ⟨c0_2, c1_2, c2_2, c3_2, c4_2, c5_2⟩ := HC2.out.six
   obtain ⟨n0_2, n1_2, n2_2, n3_2, n4_2, n5_2⟩ := HN2.out.six
   go_wp2_with fail
   go_ret2
   exact ⟨_, (by first | rfl | (rw [t0]; rfl)), HB2.out⟩

end Go.Proofs.YtllkoadcpobdaaaDoor.KX
namespace Go.Proofs.YtllkoadcpobdaaaDoor.KX

open Go.RowKit Go.Lib Go.Proofs Go.Sort Go.Proofs.YtllkoadcpobdaaaDoor Go.Proofs.YtllkoadcpobdaaaDoor.Base Go.Proofs.YtllkoadcpobdaaaDoor.L Go.Proofs.YtllkoadcpobdaaaDoor.Bt Go.Proofs.YtllkoadcpobdaaaDoor.PX

open Go.Proofs.YtllkoadcpobdaaaDoorW.PrintWords Go.Proofs.YtllkoadcpobdaaaDoorW.PrintLast Go.Proofs.YtllkoadcpobdaaaDoorW.PrintMore

/-- What semver.constraintGreaterThan answers, out of its tests: b0: (xp.toList == []); b1: d; b2: (decide (y0 < x0)); b3: (decide (x0 < y0)); b4: mD; b5: pD; b6: (decide (y1 < x1)); b7: (r == 1); b8: pre. -/
def cAbove_r (b0 b1 b2 b3 b4 b5 b6 b7 b8 : Bool) : Bool := bif b0 then (bif b1 then (bif b2 then true else (bif b3 then false else (bif b4 then false else (bif b5 then (bif b6 then true else false) else (bif b7 then true else false))))) else (bif b7 then true else false)) else (bif b8 then (bif b1 then (bif b2 then true else (bif b3 then false else (bif b4 then false else (bif b5 then (bif b6 then true else false) else (bif b7 then true else false))))) else (bif b7 then true else false)) else false)

set_option maxHeartbeats 100000000 in
set_option maxRecDepth 100000 in
theorem cAbove_calls (x0 x1 x2 : Int) (xp xm xo : ByteArray) (y0 y1 y2 : Int) (yp ym yo : ByteArray) (og op : ByteArray) (bv bc bn : Nat) (mD d pD pre : Bool) (r : Int) (w : World) (hV : At w bv [.int .u64 x0, .int .u64 x1, .int .u64 x2, .string xp, .string xm, .string xo]) (hC : At w bc [.pointer (some ⟨bn, 0, none⟩), .string og, .string op, .bool mD, .bool d, .bool pD]) (hN : At w bn [.int .u64 y0, .int .u64 y1, .int .u64 y2, .string yp, .string ym, .string yo]) (hStd : Std w) (KCM : Hid (∀ (W : World), At W bv [.int .u64 x0, .int .u64 x1, .int .u64 x2, .string xp, .string xm, .string xo] → At W bn [.int .u64 y0, .int .u64 y1, .int .u64 y2, .string yp, .string ym, .string yo] → Std W → Calls Tryd.prog 86 #[.pointer (some ⟨bv, 0, none⟩), .pointer (some ⟨bn, 0, none⟩)] W fun e w' => e = .returned (.int .i64 r) ∧ Below W.heap.size W w'))  :
  Calls Tryd.prog 101 #[.pointer (some ⟨bv, 0, none⟩), .pointer (some ⟨bc, 0, none⟩), .bool pre] w (RetB w (cAbove_r (xp.toList == []) d (decide (y0 < x0)) (decide (x0 < y0)) mD pD (decide (y1 < x1)) (r == 1) pre)) := by
 have HB0 := Aside0.mk (Below.refl w.heap.size w); have HS0 := Aside0.mk hStd; have HV0 := Aside0.mk hV; have HC0 := Aside0.mk hC; have HN0 := Aside0.mk hN; clear hStd hV hC hN
 obtain ⟨v0_0, v1_0, v2_0, v3_0, v4_0, v5_0⟩ := HV0.out.six
 obtain ⟨c0_0, c1_0, c2_0, c3_0, c4_0, c5_0⟩ := HC0.out.six
 obtain ⟨n0_0, n1_0, n2_0, n3_0, n4_0, n5_0⟩ := HN0.out.six
 go_enter Tryd.func101, Tryd.ntmps101
 go_wp2_with fail
 refine (semver_Version_Prerelease.calls x0 x1 x2 xp xm xo _ _ rfl).mono ?_
 rintro e w1 ⟨rfl, hb⟩
 clear v0_0 v1_0 v2_0 v3_0 v4_0 v5_0 c0_0 c1_0 c2_0 c3_0 c4_0 c5_0 n0_0 n1_0 n2_0 n3_0 n4_0 n5_0
 have HB1 := Aside0.mk (HB0.out.trans (hb.mono HB0.out.size)); have HS1 := Aside0.mk (HS0.out.below hb); have HV1 := Aside0.mk (HV0.out.below hb); have HC1 := Aside0.mk (HC0.out.below hb); have HN1 := Aside0.mk (HN0.out.below hb); clear hb HB0 HS0 HV0 HC0 HN0
 cases t0 : (xp.toList == []) with
 | true =>
  have t0' := bne_of t0
  replace t0' : (xp.toList != []) = false := t0'
  cases d with
  | true =>
   obtain ⟨v0_1, v1_1, v2_1, v3_1, v4_1, v5_1⟩ := HV1.out.six
   obtain ⟨c0_1, c1_1, c2_1, c3_1, c4_1, c5_1⟩ := HC1.out.six
   obtain ⟨n0_1, n1_1, n2_1, n3_1, n4_1, n5_1⟩ := HN1.out.six
   go_wp2_with fail
   clear v0_1 v1_1 v2_1 v3_1 v4_1 v5_1 c0_1 c1_1 c2_1 c3_1 c4_1 c5_1 n0_1 n1_1 n2_1 n3_1 n4_1 n5_1
   obtain ⟨v0_1, v1_1, v2_1, v3_1, v4_1, v5_1⟩ := HV1.out.sixR
   obtain ⟨c0_1, c1_1, c2_1, c3_1, c4_1, c5_1⟩ := HC1.out.sixR
   obtain ⟨n0_1, n1_1, n2_1, n3_1, n4_1, n5_1⟩ := HN1.out.sixR
   have c0 := fun d os => Calls.regrown_of (semver_Version_Major.calls x0 x1 x2 xp xm xo _ (grow (redrawn w1 d) os) rfl)
   have c1 := fun d os => Calls.regrown_of (semver_Version_Major.calls y0 y1 y2 yp ym yo _ (grow (redrawn w1 d) os) rfl)
   refine wp_region_quiet_below (by kernel_rfl) (by kernel_rfl) ?_
   repeat (first | go_big_quiet_step (first | exact c0 _ _ | exact c1 _ _) | quiet_step (first | exact c0 _ _ | exact c1 _ _))
   refine wpQuiet_nil ?_
   intro _ hw'; obtain ⟨⟨dq, osq⟩, hw''⟩ := hw'; subst hw''; clear c0 c1 v0_1 v1_1 v2_1 v3_1 v4_1 v5_1 c0_1 c1_1 c2_1 c3_1 c4_1 c5_1 n0_1 n1_1 n2_1 n3_1 n4_1 n5_1
   have hb := below_regrown w1 dq osq
   generalize grow (redrawn w1 dq) osq = w2 at *
   have HB2 := Aside0.mk (HB1.out.trans (hb.mono HB1.out.size)); have HS2 := Aside0.mk (HS1.out.below hb); have HV2 := Aside0.mk (HV1.out.below hb); have HC2 := Aside0.mk (HC1.out.below hb); have HN2 := Aside0.mk (HN1.out.below hb); clear hb HB1 HS1 HV1 HC1 HN1
   cases t2 : (decide (y0 < x0)) with
   | true =>
    obtain ⟨v0_2, v1_2, v2_2, v3_2, v4_2, v5_2⟩ := HV2.out.six
    obtain ⟨c0_2, c1_2, c2_2, c3_2, c4_2, c5_2⟩ := HC2.out.six
    obtain ⟨n0_2, n1_2, n2_2, n3_2, n4_2, n5_2⟩ := HN2.out.six
    go_wp2_with fail
    go_ret2
    exact ⟨_, (by first | rfl | (rw [t0, t2]; rfl)), HB2.out⟩
   | false =>
    obtain ⟨v0_2, v1_2, v2_2, v3_2, v4_2, v5_2⟩ := HV2.out.six
    obtain ⟨c0_2, c1_2, c2_2, c3_2, c4_2, c5_2⟩ := HC2.out.six
    obtain ⟨n0_2, n1_2, n2_2, n3_2, n4_2, n5_2⟩ := HN2.out.six
    go_wp2_with fail
    clear v0_2 v1_2 v2_2 v3_2 v4_2 v5_2 c0_2 c1_2 c2_2 c3_2 c4_2 c5_2 n0_2 n1_2 n2_2 n3_2 n4_2 n5_2
    obtain ⟨v0_2, v1_2, v2_2, v3_2, v4_2, v5_2⟩ := HV2.out.sixR
    obtain ⟨c0_2, c1_2, c2_2, c3_2, c4_2, c5_2⟩ := HC2.out.sixR
    obtain ⟨n0_2, n1_2, n2_2, n3_2, n4_2, n5_2⟩ := HN2.out.sixR
    have c0 := fun d os => Calls.regrown_of (semver_Version_Major.calls x0 x1 x2 xp xm xo _ (grow (redrawn w2 d) os) rfl)
    have c1 := fun d os => Calls.regrown_of (semver_Version_Major.calls y0 y1 y2 yp ym yo _ (grow (redrawn w2 d) os) rfl)
    refine wp_region_quiet_below (by kernel_rfl) (by kernel_rfl) ?_
    repeat (first | go_big_quiet_step (first | exact c0 _ _ | exact c1 _ _) | quiet_step (first | exact c0 _ _ | exact c1 _ _))
    refine wpQuiet_nil ?_
    intro _ hw'; obtain ⟨⟨dq, osq⟩, hw''⟩ := hw'; subst hw''; clear c0 c1 v0_2 v1_2 v2_2 v3_2 v4_2 v5_2 c0_2 c1_2 c2_2 c3_2 c4_2 c5_2 n0_2 n1_2 n2_2 n3_2 n4_2 n5_2
    have hb := below_regrown w2 dq osq
    generalize grow (redrawn w2 dq) osq = w3 at *
    have HB3 := Aside0.mk (HB2.out.trans (hb.mono HB2.out.size)); have HS3 := Aside0.mk (HS2.out.below hb); have HV3 := Aside0.mk (HV2.out.below hb); have HC3 := Aside0.mk (HC2.out.below hb); have HN3 := Aside0.mk (HN2.out.below hb); clear hb HB2 HS2 HV2 HC2 HN2
    cases t3 : (decide (x0 < y0)) with
    | true =>
     obtain ⟨v0_3, v1_3, v2_3, v3_3, v4_3, v5_3⟩ := HV3.out.six
     obtain ⟨c0_3, c1_3, c2_3, c3_3, c4_3, c5_3⟩ := HC3.out.six
     obtain ⟨n0_3, n1_3, n2_3, n3_3, n4_3, n5_3⟩ := HN3.out.six
     go_wp2_with fail
     refine (errNew _ _).mono ?_
     rintro e w4 ⟨et3, ep3, rfl, hb⟩
     clear v0_3 v1_3 v2_3 v3_3 v4_3 v5_3 c0_3 c1_3 c2_3 c3_3 c4_3 c5_3 n0_3 n1_3 n2_3 n3_3 n4_3 n5_3
     have HB4 := Aside0.mk (HB3.out.trans (hb.mono HB3.out.size)); have HS4 := Aside0.mk (HS3.out.below hb); have HV4 := Aside0.mk (HV3.out.below hb); have HC4 := Aside0.mk (HC3.out.below hb); have HN4 := Aside0.mk (HN3.out.below hb); clear hb HB3 HS3 HV3 HC3 HN3
     obtain ⟨v0_4, v1_4, v2_4, v3_4, v4_4, v5_4⟩ := HV4.out.six
     obtain ⟨c0_4, c1_4, c2_4, c3_4, c4_4, c5_4⟩ := HC4.out.six
     obtain ⟨n0_4, n1_4, n2_4, n3_4, n4_4, n5_4⟩ := HN4.out.six
     go_wp2_with fail
     go_ret2
     exact ⟨_, (by first | rfl | (rw [t0, t2, t3]; rfl)), HB4.out⟩
    | false =>
     cases mD with
     | true =>
      obtain ⟨v0_3, v1_3, v2_3, v3_3, v4_3, v5_3⟩ := HV3.out.six
      obtain ⟨c0_3, c1_3, c2_3, c3_3, c4_3, c5_3⟩ := HC3.out.six
      obtain ⟨n0_3, n1_3, n2_3, n3_3, n4_3, n5_3⟩ := HN3.out.six
      go_wp2_with fail
      refine (errNew _ _).mono ?_
      rintro e w4 ⟨et3, ep3, rfl, hb⟩
      clear v0_3 v1_3 v2_3 v3_3 v4_3 v5_3 c0_3 c1_3 c2_3 c3_3 c4_3 c5_3 n0_3 n1_3 n2_3 n3_3 n4_3 n5_3
      have HB4 := Aside0.mk (HB3.out.trans (hb.mono HB3.out.size)); have HS4 := Aside0.mk (HS3.out.below hb); have HV4 := Aside0.mk (HV3.out.below hb); have HC4 := Aside0.mk (HC3.out.below hb); have HN4 := Aside0.mk (HN3.out.below hb); clear hb HB3 HS3 HV3 HC3 HN3
      obtain ⟨v0_4, v1_4, v2_4, v3_4, v4_4, v5_4⟩ := HV4.out.six
      obtain ⟨c0_4, c1_4, c2_4, c3_4, c4_4, c5_4⟩ := HC4.out.six
      obtain ⟨n0_4, n1_4, n2_4, n3_4, n4_4, n5_4⟩ := HN4.out.six
      go_wp2_with fail
      go_ret2
      exact ⟨_, (by first | rfl | (rw [t0, t2, t3]; rfl)), HB4.out⟩
     | false =>
      cases pD with
      | true =>
       obtain ⟨v0_3, v1_3, v2_3, v3_3, v4_3, v5_3⟩ := HV3.out.six
       obtain ⟨c0_3, c1_3, c2_3, c3_3, c4_3, c5_3⟩ := HC3.out.six
       obtain ⟨n0_3, n1_3, n2_3, n3_3, n4_3, n5_3⟩ := HN3.out.six
       go_wp2_with fail
       clear v0_3 v1_3 v2_3 v3_3 v4_3 v5_3 c0_3 c1_3 c2_3 c3_3 c4_3 c5_3 n0_3 n1_3 n2_3 n3_3 n4_3 n5_3
       obtain ⟨v0_3, v1_3, v2_3, v3_3, v4_3, v5_3⟩ := HV3.out.sixR
       obtain ⟨c0_3, c1_3, c2_3, c3_3, c4_3, c5_3⟩ := HC3.out.sixR
       obtain ⟨n0_3, n1_3, n2_3, n3_3, n4_3, n5_3⟩ := HN3.out.sixR
       have c0 := fun d os => Calls.regrown_of (semver_Version_Minor.calls x0 x1 x2 xp xm xo _ (grow (redrawn w3 d) os) rfl)
       have c1 := fun d os => Calls.regrown_of (semver_Version_Minor.calls y0 y1 y2 yp ym yo _ (grow (redrawn w3 d) os) rfl)
       refine wp_region_quiet_below (by kernel_rfl) (by kernel_rfl) ?_
       repeat (first | go_big_quiet_step (first | exact c0 _ _ | exact c1 _ _) | quiet_step (first | exact c0 _ _ | exact c1 _ _))
       refine wpQuiet_nil ?_
       intro _ hw'; obtain ⟨⟨dq, osq⟩, hw''⟩ := hw'; subst hw''; clear c0 c1 v0_3 v1_3 v2_3 v3_3 v4_3 v5_3 c0_3 c1_3 c2_3 c3_3 c4_3 c5_3 n0_3 n1_3 n2_3 n3_3 n4_3 n5_3
       have hb := below_regrown w3 dq osq
       generalize grow (redrawn w3 dq) osq = w4 at *
       have HB4 := Aside0.mk (HB3.out.trans (hb.mono HB3.out.size)); have HS4 := Aside0.mk (HS3.out.below hb); have HV4 := Aside0.mk (HV3.out.below hb); have HC4 := Aside0.mk (HC3.out.below hb); have HN4 := Aside0.mk (HN3.out.below hb); clear hb HB3 HS3 HV3 HC3 HN3
       cases t6 : (decide (y1 < x1)) with
       | true =>
        obtain ⟨v0_4, v1_4, v2_4, v3_4, v4_4, v5_4⟩ := HV4.out.six
        obtain ⟨c0_4, c1_4, c2_4, c3_4, c4_4, c5_4⟩ := HC4.out.six
        obtain ⟨n0_4, n1_4, n2_4, n3_4, n4_4, n5_4⟩ := HN4.out.six
        go_wp2_with fail
        go_ret2
        exact ⟨_, (by first | rfl | (rw [t0, t2, t3, t6]; rfl)), HB4.out⟩
       | false =>
        obtain ⟨v0_4, v1_4, v2_4, v3_4, v4_4, v5_4⟩ := HV4.out.six
        obtain ⟨c0_4, c1_4, c2_4, c3_4, c4_4, c5_4⟩ := HC4.out.six
        obtain ⟨n0_4, n1_4, n2_4, n3_4, n4_4, n5_4⟩ := HN4.out.six
        go_wp2_with fail
        refine (errNew _ _).mono ?_
        rintro e w5 ⟨et4, ep4, rfl, hb⟩
        clear v0_4 v1_4 v2_4 v3_4 v4_4 v5_4 c0_4 c1_4 c2_4 c3_4 c4_4 c5_4 n0_4 n1_4 n2_4 n3_4 n4_4 n5_4
        have HB5 := Aside0.mk (HB4.out.trans (hb.mono HB4.out.size)); have HS5 := Aside0.mk (HS4.out.below hb); have HV5 := Aside0.mk (HV4.out.below hb); have HC5 := Aside0.mk (HC4.out.below hb); have HN5 := Aside0.mk (HN4.out.below hb); clear hb HB4 HS4 HV4 HC4 HN4
        obtain ⟨v0_5, v1_5, v2_5, v3_5, v4_5, v5_5⟩ := HV5.out.six
        obtain ⟨c0_5, c1_5, c2_5, c3_5, c4_5, c5_5⟩ := HC5.out.six
        obtain ⟨n0_5, n1_5, n2_5, n3_5, n4_5, n5_5⟩ := HN5.out.six
        go_wp2_with fail
        go_ret2
        exact ⟨_, (by first | rfl | (rw [t0, t2, t3, t6]; rfl)), HB5.out⟩
      | false =>
       obtain ⟨v0_3, v1_3, v2_3, v3_3, v4_3, v5_3⟩ := HV3.out.six
       obtain ⟨c0_3, c1_3, c2_3, c3_3, c4_3, c5_3⟩ := HC3.out.six
       obtain ⟨n0_3, n1_3, n2_3, n3_3, n4_3, n5_3⟩ := HN3.out.six
       go_wp2_with fail
       refine (KCM.out _ HV3.out HN3.out HS3.out).mono ?_
       rintro e w4 ⟨rfl, hb⟩
       clear v0_3 v1_3 v2_3 v3_3 v4_3 v5_3 c0_3 c1_3 c2_3 c3_3 c4_3 c5_3 n0_3 n1_3 n2_3 n3_3 n4_3 n5_3
       have HB4 := Aside0.mk (HB3.out.trans (hb.mono HB3.out.size)); have HS4 := Aside0.mk (HS3.out.below hb); have HV4 := Aside0.mk (HV3.out.below hb); have HC4 := Aside0.mk (HC3.out.below hb); have HN4 := Aside0.mk (HN3.out.below hb); clear hb HB3 HS3 HV3 HC3 HN3
       cases t7 : (r == 1) with
       | true =>
        have t7' := bne_of t7
        replace t7' : (r != 1) = false := t7'
        obtain ⟨v0_4, v1_4, v2_4, v3_4, v4_4, v5_4⟩ := HV4.out.six
        obtain ⟨c0_4, c1_4, c2_4, c3_4, c4_4, c5_4⟩ := HC4.out.six
        obtain ⟨n0_4, n1_4, n2_4, n3_4, n4_4, n5_4⟩ := HN4.out.six
        go_wp2_with fail
        go_ret2
        exact ⟨_, (by first | rfl | (rw [t0, t2, t3, t7]; rfl)), HB4.out⟩
       | false =>
        have t7' := bne_of t7
        replace t7' : (r != 1) = true := t7'
        obtain ⟨v0_4, v1_4, v2_4, v3_4, v4_4, v5_4⟩ := HV4.out.six
        obtain ⟨c0_4, c1_4, c2_4, c3_4, c4_4, c5_4⟩ := HC4.out.six
        obtain ⟨n0_4, n1_4, n2_4, n3_4, n4_4, n5_4⟩ := HN4.out.six
        go_wp2_with fail
        refine (errNew _ _).mono ?_
        rintro e w5 ⟨et4, ep4, rfl, hb⟩
        clear v0_4 v1_4 v2_4 v3_4 v4_4 v5_4 c0_4 c1_4 c2_4 c3_4 c4_4 c5_4 n0_4 n1_4 n2_4 n3_4 n4_4 n5_4
        have HB5 := Aside0.mk (HB4.out.trans (hb.mono HB4.out.size)); have HS5 := Aside0.mk (HS4.out.below hb); have HV5 := Aside0.mk (HV4.out.below hb); have HC5 := Aside0.mk (HC4.out.below hb); have HN5 := Aside0.mk (HN4.out.below hb); clear hb HB4 HS4 HV4 HC4 HN4
        obtain ⟨v0_5, v1_5, v2_5, v3_5, v4_5, v5_5⟩ := HV5.out.six
        obtain ⟨c0_5, c1_5, c2_5, c3_5, c4_5, c5_5⟩ := HC5.out.six
        obtain ⟨n0_5, n1_5, n2_5, n3_5, n4_5, n5_5⟩ := HN5.out.six
        go_wp2_with fail
        go_ret2
        exact ⟨_, (by first | rfl | (rw [t0, t2, t3, t7]; rfl)), HB5.out⟩
  | false =>
   obtain ⟨v0_1, v1_1, v2_1, v3_1, v4_1, v5_1⟩ := HV1.out.six
   obtain ⟨c0_1, c1_1, c2_1, c3_1, c4_1, c5_1⟩ := HC1.out.six
   obtain ⟨n0_1, n1_1, n2_1, n3_1, n4_1, n5_1⟩ := HN1.out.six
   go_wp2_with fail
   refine (KCM.out _ HV1.out HN1.out HS1.out).mono ?_
   rintro e w2 ⟨rfl, hb⟩
   clear v0_1 v1_1 v2_1 v3_1 v4_1 v5_1 c0_1 c1_1 c2_1 c3_1 c4_1 c5_1 n0_1 n1_1 n2_1 n3_1 n4_1 n5_1
   have HB2 := Aside0.mk (HB1.out.trans (hb.mono HB1.out.size)); have HS2 := Aside0.mk (HS1.out.below hb); have HV2 := Aside0.mk (HV1.out.below hb); have HC2 := Aside0.mk (HC1.out.below hb); have HN2 := Aside0.mk (HN1.out.below hb); clear hb HB1 HS1 HV1 HC1 HN1
   cases t7 : (r == 1) with
   | true =>
    have t7' := bne_of t7
    replace t7' : (r != 1) = false := t7'
    obtain ⟨v0_2, v1_2, v2_2, v3_2, v4_2, v5_2⟩ := HV2.out.six
    obtain ⟨c0_2, c1_2, c2_2, c3_2, c4_2, c5_2⟩ := HC2.out.six
    obtain ⟨n0_2, n1_2, n2_2, n3_2, n4_2, n5_2⟩ := HN2.out.six
    go_wp2_with fail
    go_ret2
    exact ⟨_, (by first | rfl | (rw [t0, t7]; rfl)), HB2.out⟩
   | false =>
    have t7' := bne_of t7
    replace t7' : (r != 1) = true := t7'
    obtain ⟨v0_2, v1_2, v2_2, v3_2, v4_2, v5_2⟩ := HV2.out.six
    obtain ⟨c0_2, c1_2, c2_2, c3_2, c4_2, c5_2⟩ := HC2.out.six
    obtain ⟨n0_2, n1_2, n2_2, n3_2, n4_2, n5_2⟩ := HN2.out.six
    go_wp2_with fail
    refine (errNew _ _).mono ?_
    rintro e w3 ⟨et2, ep2, rfl, hb⟩
    clear v0_2 v1_2 v2_2 v3_2 v4_2 v5_2 c0_2 c1_2 c2_2 c3_2 c4_2 c5_2 n0_2 n1_2 n2_2 n3_2 n4_2 n5_2
    have HB3 := Aside0.mk (HB2.out.trans (hb.mono HB2.out.size)); have HS3 := Aside0.mk (HS2.out.below hb); have HV3 := Aside0.mk (HV2.out.below hb); have HC3 := Aside0.mk (HC2.out.below hb); have HN3 := Aside0.mk (HN2.out.below hb); clear hb HB2 HS2 HV2 HC2 HN2
    obtain ⟨v0_3, v1_3, v2_3, v3_3, v4_3, v5_3⟩ := HV3.out.six
    obtain ⟨c0_3, c1_3, c2_3, c3_3, c4_3, c5_3⟩ := HC3.out.six
    obtain ⟨n0_3, n1_3, n2_3, n3_3, n4_3, n5_3⟩ := HN3.out.six
    go_wp2_with fail
    go_ret2
    exact ⟨_, (by first | rfl | (rw [t0, t7]; rfl)), HB3.out⟩
 | false =>
  have t0' := bne_of t0
  replace t0' : (xp.toList != []) = true := t0'
  cases pre with
  | true =>
   cases d with
   | true =>
    obtain ⟨v0_1, v1_1, v2_1, v3_1, v4_1, v5_1⟩ := HV1.out.six
    obtain ⟨c0_1, c1_1, c2_1, c3_1, c4_1, c5_1⟩ := HC1.out.six
    obtain ⟨n0_1, n1_1, n2_1, n3_1, n4_1, n5_1⟩ := HN1.out.six
    go_wp2_with fail
    clear v0_1 v1_1 v2_1 v3_1 v4_1 v5_1 c0_1 c1_1 c2_1 c3_1 c4_1 c5_1 n0_1 n1_1 n2_1 n3_1 n4_1 n5_1
    obtain ⟨v0_1, v1_1, v2_1, v3_1, v4_1, v5_1⟩ := HV1.out.sixR
    obtain ⟨c0_1, c1_1, c2_1, c3_1, c4_1, c5_1⟩ := HC1.out.sixR
    obtain ⟨n0_1, n1_1, n2_1, n3_1, n4_1, n5_1⟩ := HN1.out.sixR
    have c0 := fun d os => Calls.regrown_of (semver_Version_Major.calls x0 x1 x2 xp xm xo _ (grow (redrawn w1 d) os) rfl)
    have c1 := fun d os => Calls.regrown_of (semver_Version_Major.calls y0 y1 y2 yp ym yo _ (grow (redrawn w1 d) os) rfl)
    refine wp_region_quiet_below (by kernel_rfl) (by kernel_rfl) ?_
    repeat (first | go_big_quiet_step (first | exact c0 _ _ | exact c1 _ _) | quiet_step (first | exact c0 _ _ | exact c1 _ _))
    refine wpQuiet_nil ?_
    intro _ hw'; obtain ⟨⟨dq, osq⟩, hw''⟩ := hw'; subst hw''; clear c0 c1 v0_1 v1_1 v2_1 v3_1 v4_1 v5_1 c0_1 c1_1 c2_1 c3_1 c4_1 c5_1 n0_1 n1_1 n2_1 n3_1 n4_1 n5_1
    have hb := below_regrown w1 dq osq
    generalize grow (redrawn w1 dq) osq = w2 at *
    have HB2 := Aside0.mk (HB1.out.trans (hb.mono HB1.out.size)); have HS2 := Aside0.mk (HS1.out.below hb); have HV2 := Aside0.mk (HV1.out.below hb); have HC2 := Aside0.mk (HC1.out.below hb); have HN2 := Aside0.mk (HN1.out.below hb); clear hb HB1 HS1 HV1 HC1 HN1
    cases t2 : (decide (y0 < x0)) with
    | true =>
     obtain ⟨v0_2, v1_2, v2_2, v3_2, v4_2, v5_2⟩ := HV2.out.six
     obtain ⟨c0_2, c1_2, c2_2, c3_2, c4_2, c5_2⟩ := HC2.out.six
     obtain ⟨n0_2, n1_2, n2_2, n3_2, n4_2, n5_2⟩ := HN2.out.six
     go_wp2_with fail
     go_ret2
     exact ⟨_, (by first | rfl | (rw [t0, t2]; rfl)), HB2.out⟩
    | false =>
     obtain ⟨v0_2, v1_2, v2_2, v3_2, v4_2, v5_2⟩ := HV2.out.six
     obtain ⟨c0_2, c1_2, c2_2, c3_2, c4_2, c5_2⟩ := HC2.out.six
     obtain ⟨n0_2, n1_2, n2_2, n3_2, n4_2, n5_2⟩ := HN2.out.six
     go_wp2_with fail
     clear v0_2 v1_2 v2_2 v3_2 v4_2 v5_2 c0_2 c1_2 c2_2 c3_2 c4_2 c5_2 n0_2 n1_2 n2_2 n3_2 n4_2 n5_2
     obtain ⟨v0_2, v1_2, v2_2, v3_2, v4_2, v5_2⟩ := HV2.out.sixR
     obtain ⟨c0_2, c1_2, c2_2, c3_2, c4_2, c5_2⟩ := HC2.out.sixR
     obtain ⟨n0_2, n1_2, n2_2, n3_2, n4_2, n5_2⟩ := HN2.out.sixR
     have c0 := fun d os => Calls.regrown_of (semver_Version_Major.calls x0 x1 x2 xp xm xo _ (grow (redrawn w2 d) os) rfl)
     have c1 := fun d os => Calls.regrown_of (semver_Version_Major.calls y0 y1 y2 yp ym yo _ (grow (redrawn w2 d) os) rfl)
     refine wp_region_quiet_below (by kernel_rfl) (by kernel_rfl) ?_
     repeat (first | go_big_quiet_step (first | exact c0 _ _ | exact c1 _ _) | quiet_step (first | exact c0 _ _ | exact c1 _ _))
     refine wpQuiet_nil ?_
     intro _ hw'; obtain ⟨⟨dq, osq⟩, hw''⟩ := hw'; subst hw''; clear c0 c1 v0_2 v1_2 v2_2 v3_2 v4_2 v5_2 c0_2 c1_2 c2_2 c3_2 c4_2 c5_2 n0_2 n1_2 n2_2 n3_2 n4_2 n5_2
     have hb := below_regrown w2 dq osq
     generalize grow (redrawn w2 dq) osq = w3 at *
     have HB3 := Aside0.mk (HB2.out.trans (hb.mono HB2.out.size)); have HS3 := Aside0.mk (HS2.out.below hb); have HV3 := Aside0.mk (HV2.out.below hb); have HC3 := Aside0.mk (HC2.out.below hb); have HN3 := Aside0.mk (HN2.out.below hb); clear hb HB2 HS2 HV2 HC2 HN2
     cases t3 : (decide (x0 < y0)) with
     | true =>
      obtain ⟨v0_3, v1_3, v2_3, v3_3, v4_3, v5_3⟩ := HV3.out.six
      obtain ⟨c0_3, c1_3, c2_3, c3_3, c4_3, c5_3⟩ := HC3.out.six
      obtain ⟨n0_3, n1_3, n2_3, n3_3, n4_3, n5_3⟩ := HN3.out.six
      go_wp2_with fail
      refine (errNew _ _).mono ?_
      rintro e w4 ⟨et3, ep3, rfl, hb⟩
      clear v0_3 v1_3 v2_3 v3_3 v4_3 v5_3 c0_3 c1_3 c2_3 c3_3 c4_3 c5_3 n0_3 n1_3 n2_3 n3_3 n4_3 n5_3
      have HB4 := Aside0.mk (HB3.out.trans (hb.mono HB3.out.size)); have HS4 := Aside0.mk (HS3.out.below hb); have HV4 := Aside0.mk (HV3.out.below hb); have HC4 := Aside0.mk (HC3.out.below hb); have HN4 := Aside0.mk (HN3.out.below hb); clear hb HB3 HS3 HV3 HC3 HN3
      obtain ⟨v0_4, v1_4, v2_4, v3_4, v4_4, v5_4⟩ := HV4.out.six
      obtain ⟨c0_4, c1_4, c2_4, c3_4, c4_4, c5_4⟩ := HC4.out.six
      obtain ⟨n0_4, n1_4, n2_4, n3_4, n4_4, n5_4⟩ := HN4.out.six
      go_wp2_with fail
      go_ret2
      exact ⟨_, (by first | rfl | (rw [t0, t2, t3]; rfl)), HB4.out⟩
     | false =>
      cases mD with
      | true =>
       obtain ⟨v0_3, v1_3, v2_3, v3_3, v4_3, v5_3⟩ := HV3.out.six
       obtain ⟨c0_3, c1_3, c2_3, c3_3, c4_3, c5_3⟩ := HC3.out.six
       obtain ⟨n0_3, n1_3, n2_3, n3_3, n4_3, n5_3⟩ := HN3.out.six
       go_wp2_with fail
       refine (errNew _ _).mono ?_
       rintro e w4 ⟨et3, ep3, rfl, hb⟩
       clear v0_3 v1_3 v2_3 v3_3 v4_3 v5_3 c0_3 c1_3 c2_3 c3_3 c4_3 c5_3 n0_3 n1_3 n2_3 n3_3 n4_3 n5_3
       have HB4 := Aside0.mk (HB3.out.trans (hb.mono HB3.out.size)); have HS4 := Aside0.mk (HS3.out.below hb); have HV4 := Aside0.mk (HV3.out.below hb); have HC4 := Aside0.mk (HC3.out.below hb); have HN4 := Aside0.mk (HN3.out.below hb); clear hb HB3 HS3 HV3 HC3 HN3
       obtain ⟨v0_4, v1_4, v2_4, v3_4, v4_4, v5_4⟩ := HV4.out.six
       obtain ⟨c0_4, c1_4, c2_4, c3_4, c4_4, c5_4⟩ := HC4.out.six
       obtain ⟨n0_4, n1_4, n2_4, n3_4, n4_4, n5_4⟩ := HN4.out.six
       go_wp2_with fail
       go_ret2
       exact ⟨_, (by first | rfl | (rw [t0, t2, t3]; rfl)), HB4.out⟩
      | false =>
       cases pD with
       | true =>
        obtain ⟨v0_3, v1_3, v2_3, v3_3, v4_3, v5_3⟩ := HV3.out.six
        obtain ⟨c0_3, c1_3, c2_3, c3_3, c4_3, c5_3⟩ := HC3.out.six
        obtain ⟨n0_3, n1_3, n2_3, n3_3, n4_3, n5_3⟩ := HN3.out.six
        go_wp2_with fail
        clear v0_3 v1_3 v2_3 v3_3 v4_3 v5_3 c0_3 c1_3 c2_3 c3_3 c4_3 c5_3 n0_3 n1_3 n2_3 n3_3 n4_3 n5_3
        obtain ⟨v0_3, v1_3, v2_3, v3_3, v4_3, v5_3⟩ := HV3.out.sixR
        obtain ⟨c0_3, c1_3, c2_3, c3_3, c4_3, c5_3⟩ := HC3.out.sixR
        obtain ⟨n0_3, n1_3, n2_3, n3_3, n4_3, n5_3⟩ := HN3.out.sixR
        have c0 := fun d os => Calls.regrown_of (semver_Version_Minor.calls x0 x1 x2 xp xm xo _ (grow (redrawn w3 d) os) rfl)
        have c1 := fun d os => Calls.regrown_of (semver_Version_Minor.calls y0 y1 y2 yp ym yo _ (grow (redrawn w3 d) os) rfl)
        refine wp_region_quiet_below (by kernel_rfl) (by kernel_rfl) ?_
        repeat (first | go_big_quiet_step (first | exact c0 _ _ | exact c1 _ _) | quiet_step (first | exact c0 _ _ | exact c1 _ _))
        refine wpQuiet_nil ?_
        intro _ hw'; obtain ⟨⟨dq, osq⟩, hw''⟩ := hw'; subst hw''; clear c0 c1 v0_3 v1_3 v2_3 v3_3 v4_3 v5_3 c0_3 c1_3 c2_3 c3_3 c4_3 c5_3 n0_3 n1_3 n2_3 n3_3 n4_3 n5_3
        have hb := below_regrown w3 dq osq
        generalize grow (redrawn w3 dq) osq = w4 at *
        have HB4 := Aside0.mk (HB3.out.trans (hb.mono HB3.out.size)); have HS4 := Aside0.mk (HS3.out.below hb); have HV4 := Aside0.mk (HV3.out.below hb); have HC4 := Aside0.mk (HC3.out.below hb); have HN4 := Aside0.mk (HN3.out.below hb); clear hb HB3 HS3 HV3 HC3 HN3
        cases t6 : (decide (y1 < x1)) with
        | true =>
         obtain ⟨v0_4, v1_4, v2_4, v3_4, v4_4, v5_4⟩ := HV4.out.six
         obtain ⟨c0_4, c1_4, c2_4, c3_4, c4_4, c5_4⟩ := HC4.out.six
         obtain ⟨n0_4, n1_4, n2_4, n3_4, n4_4, n5_4⟩ := HN4.out.six
         go_wp2_with fail
         go_ret2
         exact ⟨_, (by first | rfl | (rw [t0, t2, t3, t6]; rfl)), HB4.out⟩
        | false =>
         obtain ⟨v0_4, v1_4, v2_4, v3_4, v4_4, v5_4⟩ := HV4.out.six
         obtain ⟨c0_4, c1_4, c2_4, c3_4, c4_4, c5_4⟩ := HC4.out.six
         obtain ⟨n0_4, n1_4, n2_4, n3_4, n4_4, n5_4⟩ := HN4.out.six
         go_wp2_with fail
         refine (errNew _ _).mono ?_
         rintro e w5 ⟨et4, ep4, rfl, hb⟩
         clear v0_4 v1_4 v2_4 v3_4 v4_4 v5_4 c0_4 c1_4 c2_4 c3_4 c4_4 c5_4 n0_4 n1_4 n2_4 n3_4 n4_4 n5_4
         have HB5 := Aside0.mk (HB4.out.trans (hb.mono HB4.out.size)); have HS5 := Aside0.mk (HS4.out.below hb); have HV5 := Aside0.mk (HV4.out.below hb); have HC5 := Aside0.mk (HC4.out.below hb); have HN5 := Aside0.mk (HN4.out.below hb); clear hb HB4 HS4 HV4 HC4 HN4
         obtain ⟨v0_5, v1_5, v2_5, v3_5, v4_5, v5_5⟩ := HV5.out.six
         obtain ⟨c0_5, c1_5, c2_5, c3_5, c4_5, c5_5⟩ := HC5.out.six
         obtain ⟨n0_5, n1_5, n2_5, n3_5, n4_5, n5_5⟩ := HN5.out.six
         go_wp2_with fail
         go_ret2
         exact ⟨_, (by first | rfl | (rw [t0, t2, t3, t6]; rfl)), HB5.out⟩
       | false =>
        obtain ⟨v0_3, v1_3, v2_3, v3_3, v4_3, v5_3⟩ := HV3.out.six
        obtain ⟨c0_3, c1_3, c2_3, c3_3, c4_3, c5_3⟩ := HC3.out.six
        obtain ⟨n0_3, n1_3, n2_3, n3_3, n4_3, n5_3⟩ := HN3.out.six
        go_wp2_with fail
        refine (KCM.out _ HV3.out HN3.out HS3.out).mono ?_
        rintro e w4 ⟨rfl, hb⟩
        clear v0_3 v1_3 v2_3 v3_3 v4_3 v5_3 c0_3 c1_3 c2_3 c3_3 c4_3 c5_3 n0_3 n1_3 n2_3 n3_3 n4_3 n5_3
        have HB4 := Aside0.mk (HB3.out.trans (hb.mono HB3.out.size)); have HS4 := Aside0.mk (HS3.out.below hb); have HV4 := Aside0.mk (HV3.out.below hb); have HC4 := Aside0.mk (HC3.out.below hb); have HN4 := Aside0.mk (HN3.out.below hb); clear hb HB3 HS3 HV3 HC3 HN3
        cases t7 : (r == 1) with
        | true =>
         have t7' := bne_of t7
         replace t7' : (r != 1) = false := t7'
         obtain ⟨v0_4, v1_4, v2_4, v3_4, v4_4, v5_4⟩ := HV4.out.six
         obtain ⟨c0_4, c1_4, c2_4, c3_4, c4_4, c5_4⟩ := HC4.out.six
         obtain ⟨n0_4, n1_4, n2_4, n3_4, n4_4, n5_4⟩ := HN4.out.six
         go_wp2_with fail
         go_ret2
         exact ⟨_, (by first | rfl | (rw [t0, t2, t3, t7]; rfl)), HB4.out⟩
        | false =>
         have t7' := bne_of t7
         replace t7' : (r != 1) = true := t7'
         obtain ⟨v0_4, v1_4, v2_4, v3_4, v4_4, v5_4⟩ := HV4.out.six
         obtain ⟨c0_4, c1_4, c2_4, c3_4, c4_4, c5_4⟩ := HC4.out.six
         obtain ⟨n0_4, n1_4, n2_4, n3_4, n4_4, n5_4⟩ := HN4.out.six
         go_wp2_with fail
         refine (errNew _ _).mono ?_
         rintro e w5 ⟨et4, ep4, rfl, hb⟩
         clear v0_4 v1_4 v2_4 v3_4 v4_4 v5_4 c0_4 c1_4 c2_4 c3_4 c4_4 c5_4 n0_4 n1_4 n2_4 n3_4 n4_4 n5_4
         have HB5 := Aside0.mk (HB4.out.trans (hb.mono HB4.out.size)); have HS5 := Aside0.mk (HS4.out.below hb); have HV5 := Aside0.mk (HV4.out.below hb); have HC5 := Aside0.mk (HC4.out.below hb); have HN5 := Aside0.mk (HN4.out.below hb); clear hb HB4 HS4 HV4 HC4 HN4
         obtain ⟨v0_5, v1_5, v2_5, v3_5, v4_5, v5_5⟩ := HV5.out.six
         obtain ⟨c0_5, c1_5, c2_5, c3_5, c4_5, c5_5⟩ := HC5.out.six
         obtain ⟨n0_5, n1_5, n2_5, n3_5, n4_5, n5_5⟩ := HN5.out.six
         go_wp2_with fail
         go_ret2
         exact ⟨_, (by first | rfl | (rw [t0, t2, t3, t7]; rfl)), HB5.out⟩
   | false =>
    obtain ⟨v0_1, v1_1, v2_1, v3_1, v4_1, v5_1⟩ := HV1.out.six
    obtain ⟨c0_1, c1_1, c2_1, c3_1, c4_1, c5_1⟩ := HC1.out.six
    obtain ⟨n0_1, n1_1, n2_1, n3_1, n4_1, n5_1⟩ := HN1.out.six
    go_wp2_with fail
    refine (KCM.out _ HV1.out HN1.out HS1.out).mono ?_
    rintro e w2 ⟨rfl, hb⟩
    clear v0_1 v1_1 v2_1 v3_1 v4_1 v5_1 c0_1 c1_1 c2_1 c3_1 c4_1 c5_1 n0_1 n1_1 n2_1 n3_1 n4_1 n5_1
    have HB2 := Aside0.mk (HB1.out.trans (hb.mono HB1.out.size)); have HS2 := Aside0.mk (HS1.out.below hb); have HV2 := Aside0.mk (HV1.out.below hb); have HC2 := Aside0.mk (HC1.out.below hb); have HN2 := Aside0.mk (HN1.out.below hb); clear hb HB1 HS1 HV1 HC1 HN1
    cases t7 : (r == 1) with
    | true =>
     have t7' := bne_of t7
     replace t7' : (r != 1) = false := t7'
     obtain ⟨v0_2, v1_2, v2_2, v3_2, v4_2, v5_2⟩ := HV2.out.six
     obtain ⟨c0_2, c1_2, c2_2, c3_2, c4_2, c5_2⟩ := HC2.out.six
     obtain ⟨n0_2, n1_2, n2_2, n3_2, n4_2, n5_2⟩ := HN2.out.six
     go_wp2_with fail
     go_ret2
     exact ⟨_, (by first | rfl | (rw [t0, t7]; rfl)), HB2.out⟩
    | false =>
     have t7' := bne_of t7
     replace t7' : (r != 1) = true := t7'
     obtain ⟨v0_2, v1_2, v2_2, v3_2, v4_2, v5_2⟩ := HV2.out.six
     obtain ⟨c0_2, c1_2, c2_2, c3_2, c4_2, c5_2⟩ := HC2.out.six
     obtain ⟨n0_2, n1_2, n2_2, n3_2, n4_2, n5_2⟩ := HN2.out.six
     go_wp2_with fail
     refine (errNew _ _).mono ?_
     rintro e w3 ⟨et2, ep2, rfl, hb⟩
     clear v0_2 v1_2 v2_2 v3_2 v4_2 v5_2 c0_2 c1_2 c2_2 c3_2 c4_2 c5_2 n0_2 n1_2 n2_2 n3_2 n4_2 n5_2
     have HB3 := Aside0.mk (HB2.out.trans (hb.mono HB2.out.size)); have HS3 := Aside0.mk (HS2.out.below hb); have HV3 := Aside0.mk (HV2.out.below hb); have HC3 := Aside0.mk (HC2.out.below hb); have HN3 := Aside0.mk (HN2.out.below hb); clear hb HB2 HS2 HV2 HC2 HN2
     obtain ⟨v0_3, v1_3, v2_3, v3_3, v4_3, v5_3⟩ := HV3.out.six
     obtain ⟨c0_3, c1_3, c2_3, c3_3, c4_3, c5_3⟩ := HC3.out.six
     obtain ⟨n0_3, n1_3, n2_3, n3_3, n4_3, n5_3⟩ := HN3.out.six
     go_wp2_with fail
     go_ret2
     exact ⟨_, (by first | rfl | (rw [t0, t7]; rfl)), HB3.out⟩
  | false =>
   obtain ⟨v0_1, v1_1, v2_1, v3_1, v4_1, v5_1⟩ := HV1.out.six
   obtain ⟨c0_1, c1_1, c2_1, c3_1, c4_1, c5_1⟩ := HC1.out.six
   obtain ⟨n0_1, n1_1, n2_1, n3_1, n4_1, n5_1⟩ := HN1.out.six
   go_wp2_with fail
   refine (errNew _ _).mono ?_
   rintro e w2 ⟨et1, ep1, rfl, hb⟩
   clear v0_1 v1_1 v2_1 v3_1 v4_1 v5_1 c0_1 c1_1 c2_1 c3_1 c4_1 c5_1 n0_1 n1_1 n2_1 n3_1 n4_1 n5_1
   have HB2 := Aside0.mk (HB1.out.trans (hb.mono HB1.out.size)); have HS2 := Aside0.mk (HS1.out.below hb); have HV2 := Aside0.mk (HV1.out.below hb); have HC2 := Aside0.mk (HC1.out.below hb); have HN2 := Aside0.mk (HN1.out.below hb); clear hb HB1 HS1 HV1 HC1 HN1
   obtain ⟨v0_2, v1_2, v2_2, v3_2, v4_2, v5_2⟩ := HV2.out.six
   obtain ⟨c0_2, c1_2, c2_2, c3_2, c4_2, c5_2⟩ := HC2.out.six
   obtain ⟨n0_2, n1_2, n2_2, n3_2, n4_2, n5_2⟩ := HN2.out.six
   go_wp2_with fail
   go_ret2
   exact ⟨_, (by first | rfl | (rw [t0]; rfl)), HB2.out⟩

end Go.Proofs.YtllkoadcpobdaaaDoor.KX
namespace Go.Proofs.YtllkoadcpobdaaaDoor.KX

open Go.RowKit Go.Lib Go.Proofs Go.Sort Go.Proofs.YtllkoadcpobdaaaDoor Go.Proofs.YtllkoadcpobdaaaDoor.Base Go.Proofs.YtllkoadcpobdaaaDoor.L Go.Proofs.YtllkoadcpobdaaaDoor.Bt Go.Proofs.YtllkoadcpobdaaaDoor.PX

open Go.Proofs.YtllkoadcpobdaaaDoorW.PrintWords Go.Proofs.YtllkoadcpobdaaaDoorW.PrintLast Go.Proofs.YtllkoadcpobdaaaDoorW.PrintMore

/-- What semver.constraintLessThan answers, out of its tests: b0: (xp.toList == []); b1: (decide (r < 0)); b2: pre. -/
def cBelow_r (b0 b1 b2 : Bool) : Bool := bif b0 then (bif b1 then true else false) else (bif b2 then (bif b1 then true else false) else false)

set_option maxHeartbeats 100000000 in
set_option maxRecDepth 100000 in
theorem cBelow_calls (x0 x1 x2 : Int) (xp xm xo : ByteArray) (y0 y1 y2 : Int) (yp ym yo : ByteArray) (og op : ByteArray) (bv bc bn : Nat) (mD d pD pre : Bool) (r : Int) (w : World) (hV : At w bv [.int .u64 x0, .int .u64 x1, .int .u64 x2, .string xp, .string xm, .string xo]) (hC : At w bc [.pointer (some ⟨bn, 0, none⟩), .string og, .string op, .bool mD, .bool d, .bool pD]) (hN : At w bn [.int .u64 y0, .int .u64 y1, .int .u64 y2, .string yp, .string ym, .string yo]) (hStd : Std w) (KCM : Hid (∀ (W : World), At W bv [.int .u64 x0, .int .u64 x1, .int .u64 x2, .string xp, .string xm, .string xo] → At W bn [.int .u64 y0, .int .u64 y1, .int .u64 y2, .string yp, .string ym, .string yo] → Std W → Calls Tryd.prog 86 #[.pointer (some ⟨bv, 0, none⟩), .pointer (some ⟨bn, 0, none⟩)] W fun e w' => e = .returned (.int .i64 r) ∧ Below W.heap.size W w'))  :
  Calls Tryd.prog 102 #[.pointer (some ⟨bv, 0, none⟩), .pointer (some ⟨bc, 0, none⟩), .bool pre] w (RetB w (cBelow_r (xp.toList == []) (decide (r < 0)) pre)) := by
 have HB0 := Aside0.mk (Below.refl w.heap.size w); have HS0 := Aside0.mk hStd; have HV0 := Aside0.mk hV; have HC0 := Aside0.mk hC; have HN0 := Aside0.mk hN; clear hStd hV hC hN
 obtain ⟨v0_0, v1_0, v2_0, v3_0, v4_0, v5_0⟩ := HV0.out.six
 obtain ⟨c0_0, c1_0, c2_0, c3_0, c4_0, c5_0⟩ := HC0.out.six
 obtain ⟨n0_0, n1_0, n2_0, n3_0, n4_0, n5_0⟩ := HN0.out.six
 go_enter Tryd.func102, Tryd.ntmps102
 go_wp2_with fail
 refine (semver_Version_Prerelease.calls x0 x1 x2 xp xm xo _ _ rfl).mono ?_
 rintro e w1 ⟨rfl, hb⟩
 clear v0_0 v1_0 v2_0 v3_0 v4_0 v5_0 c0_0 c1_0 c2_0 c3_0 c4_0 c5_0 n0_0 n1_0 n2_0 n3_0 n4_0 n5_0
 have HB1 := Aside0.mk (HB0.out.trans (hb.mono HB0.out.size)); have HS1 := Aside0.mk (HS0.out.below hb); have HV1 := Aside0.mk (HV0.out.below hb); have HC1 := Aside0.mk (HC0.out.below hb); have HN1 := Aside0.mk (HN0.out.below hb); clear hb HB0 HS0 HV0 HC0 HN0
 cases t0 : (xp.toList == []) with
 | true =>
  have t0' := bne_of t0
  replace t0' : (xp.toList != []) = false := t0'
  obtain ⟨v0_1, v1_1, v2_1, v3_1, v4_1, v5_1⟩ := HV1.out.six
  obtain ⟨c0_1, c1_1, c2_1, c3_1, c4_1, c5_1⟩ := HC1.out.six
  obtain ⟨n0_1, n1_1, n2_1, n3_1, n4_1, n5_1⟩ := HN1.out.six
  go_wp2_with fail
  refine (KCM.out _ HV1.out HN1.out HS1.out).mono ?_
  rintro e w2 ⟨rfl, hb⟩
  clear v0_1 v1_1 v2_1 v3_1 v4_1 v5_1 c0_1 c1_1 c2_1 c3_1 c4_1 c5_1 n0_1 n1_1 n2_1 n3_1 n4_1 n5_1
  have HB2 := Aside0.mk (HB1.out.trans (hb.mono HB1.out.size)); have HS2 := Aside0.mk (HS1.out.below hb); have HV2 := Aside0.mk (HV1.out.below hb); have HC2 := Aside0.mk (HC1.out.below hb); have HN2 := Aside0.mk (HN1.out.below hb); clear hb HB1 HS1 HV1 HC1 HN1
  cases t1 : (decide (r < 0)) with
  | true =>
   obtain ⟨v0_2, v1_2, v2_2, v3_2, v4_2, v5_2⟩ := HV2.out.six
   obtain ⟨c0_2, c1_2, c2_2, c3_2, c4_2, c5_2⟩ := HC2.out.six
   obtain ⟨n0_2, n1_2, n2_2, n3_2, n4_2, n5_2⟩ := HN2.out.six
   go_wp2_with fail
   go_ret2
   exact ⟨_, (by first | rfl | (rw [t0, t1]; rfl)), HB2.out⟩
  | false =>
   obtain ⟨v0_2, v1_2, v2_2, v3_2, v4_2, v5_2⟩ := HV2.out.six
   obtain ⟨c0_2, c1_2, c2_2, c3_2, c4_2, c5_2⟩ := HC2.out.six
   obtain ⟨n0_2, n1_2, n2_2, n3_2, n4_2, n5_2⟩ := HN2.out.six
   go_wp2_with fail
   refine (errNew _ _).mono ?_
   rintro e w3 ⟨et2, ep2, rfl, hb⟩
   clear v0_2 v1_2 v2_2 v3_2 v4_2 v5_2 c0_2 c1_2 c2_2 c3_2 c4_2 c5_2 n0_2 n1_2 n2_2 n3_2 n4_2 n5_2
   have HB3 := Aside0.mk (HB2.out.trans (hb.mono HB2.out.size)); have HS3 := Aside0.mk (HS2.out.below hb); have HV3 := Aside0.mk (HV2.out.below hb); have HC3 := Aside0.mk (HC2.out.below hb); have HN3 := Aside0.mk (HN2.out.below hb); clear hb HB2 HS2 HV2 HC2 HN2
   obtain ⟨v0_3, v1_3, v2_3, v3_3, v4_3, v5_3⟩ := HV3.out.six
   obtain ⟨c0_3, c1_3, c2_3, c3_3, c4_3, c5_3⟩ := HC3.out.six
   obtain ⟨n0_3, n1_3, n2_3, n3_3, n4_3, n5_3⟩ := HN3.out.six
   go_wp2_with fail
   go_ret2
   exact ⟨_, (by first | rfl | (rw [t0, t1]; rfl)), HB3.out⟩
 | false =>
  have t0' := bne_of t0
  replace t0' : (xp.toList != []) = true := t0'
  cases pre with
  | true =>
   obtain ⟨v0_1, v1_1, v2_1, v3_1, v4_1, v5_1⟩ := HV1.out.six
   obtain ⟨c0_1, c1_1, c2_1, c3_1, c4_1, c5_1⟩ := HC1.out.six
   obtain ⟨n0_1, n1_1, n2_1, n3_1, n4_1, n5_1⟩ := HN1.out.six
   go_wp2_with fail
   refine (KCM.out _ HV1.out HN1.out HS1.out).mono ?_
   rintro e w2 ⟨rfl, hb⟩
   clear v0_1 v1_1 v2_1 v3_1 v4_1 v5_1 c0_1 c1_1 c2_1 c3_1 c4_1 c5_1 n0_1 n1_1 n2_1 n3_1 n4_1 n5_1
   have HB2 := Aside0.mk (HB1.out.trans (hb.mono HB1.out.size)); have HS2 := Aside0.mk (HS1.out.below hb); have HV2 := Aside0.mk (HV1.out.below hb); have HC2 := Aside0.mk (HC1.out.below hb); have HN2 := Aside0.mk (HN1.out.below hb); clear hb HB1 HS1 HV1 HC1 HN1
   cases t1 : (decide (r < 0)) with
   | true =>
    obtain ⟨v0_2, v1_2, v2_2, v3_2, v4_2, v5_2⟩ := HV2.out.six
    obtain ⟨c0_2, c1_2, c2_2, c3_2, c4_2, c5_2⟩ := HC2.out.six
    obtain ⟨n0_2, n1_2, n2_2, n3_2, n4_2, n5_2⟩ := HN2.out.six
    go_wp2_with fail
    go_ret2
    exact ⟨_, (by first | rfl | (rw [t0, t1]; rfl)), HB2.out⟩
   | false =>
    obtain ⟨v0_2, v1_2, v2_2, v3_2, v4_2, v5_2⟩ := HV2.out.six
    obtain ⟨c0_2, c1_2, c2_2, c3_2, c4_2, c5_2⟩ := HC2.out.six
    obtain ⟨n0_2, n1_2, n2_2, n3_2, n4_2, n5_2⟩ := HN2.out.six
    go_wp2_with fail
    refine (errNew _ _).mono ?_
    rintro e w3 ⟨et2, ep2, rfl, hb⟩
    clear v0_2 v1_2 v2_2 v3_2 v4_2 v5_2 c0_2 c1_2 c2_2 c3_2 c4_2 c5_2 n0_2 n1_2 n2_2 n3_2 n4_2 n5_2
    have HB3 := Aside0.mk (HB2.out.trans (hb.mono HB2.out.size)); have HS3 := Aside0.mk (HS2.out.below hb); have HV3 := Aside0.mk (HV2.out.below hb); have HC3 := Aside0.mk (HC2.out.below hb); have HN3 := Aside0.mk (HN2.out.below hb); clear hb HB2 HS2 HV2 HC2 HN2
    obtain ⟨v0_3, v1_3, v2_3, v3_3, v4_3, v5_3⟩ := HV3.out.six
    obtain ⟨c0_3, c1_3, c2_3, c3_3, c4_3, c5_3⟩ := HC3.out.six
    obtain ⟨n0_3, n1_3, n2_3, n3_3, n4_3, n5_3⟩ := HN3.out.six
    go_wp2_with fail
    go_ret2
    exact ⟨_, (by first | rfl | (rw [t0, t1]; rfl)), HB3.out⟩
  | false =>
   obtain ⟨v0_1, v1_1, v2_1, v3_1, v4_1, v5_1⟩ := HV1.out.six
   obtain ⟨c0_1, c1_1, c2_1, c3_1, c4_1, c5_1⟩ := HC1.out.six
   obtain ⟨n0_1, n1_1, n2_1, n3_1, n4_1, n5_1⟩ := HN1.out.six
   go_wp2_with fail
   refine (errNew _ _).mono ?_
   rintro e w2 ⟨et1, ep1, rfl, hb⟩
   clear v0_1 v1_1 v2_1 v3_1 v4_1 v5_1 c0_1 c1_1 c2_1 c3_1 c4_1 c5_1 n0_1 n1_1 n2_1 n3_1 n4_1 n5_1
   have HB2 := Aside0.mk (HB1.out.trans (hb.mono HB1.out.size)); have HS2 := Aside0.mk (HS1.out.below hb); have HV2 := Aside0.mk (HV1.out.below hb); have HC2 := Aside0.mk (HC1.out.below hb); have HN2 := Aside0.mk (HN1.out.below hb); clear hb HB1 HS1 HV1 HC1 HN1
   obtain ⟨v0_2, v1_2, v2_2, v3_2, v4_2, v5_2⟩ := HV2.out.six
   obtain ⟨c0_2, c1_2, c2_2, c3_2, c4_2, c5_2⟩ := HC2.out.six
   obtain ⟨n0_2, n1_2, n2_2, n3_2, n4_2, n5_2⟩ := HN2.out.six
   go_wp2_with fail
   go_ret2
   exact ⟨_, (by first | rfl | (rw [t0]; rfl)), HB2.out⟩

end Go.Proofs.YtllkoadcpobdaaaDoor.KX
namespace Go.Proofs.YtllkoadcpobdaaaDoor.KX

open Go.RowKit Go.Lib Go.Proofs Go.Sort Go.Proofs.YtllkoadcpobdaaaDoor Go.Proofs.YtllkoadcpobdaaaDoor.Base Go.Proofs.YtllkoadcpobdaaaDoor.L Go.Proofs.YtllkoadcpobdaaaDoor.Bt Go.Proofs.YtllkoadcpobdaaaDoor.PX

open Go.Proofs.YtllkoadcpobdaaaDoorW.PrintWords Go.Proofs.YtllkoadcpobdaaaDoorW.PrintLast Go.Proofs.YtllkoadcpobdaaaDoorW.PrintMore

/-- What semver.constraintGreaterThanEqual answers, out of its tests: b0: (xp.toList == []); b1: (decide (0 ≤ r)); b2: pre. -/
def cLeast_r (b0 b1 b2 : Bool) : Bool := bif b0 then (bif b1 then true else false) else (bif b2 then (bif b1 then true else false) else false)

set_option maxHeartbeats 100000000 in
set_option maxRecDepth 100000 in
theorem cLeast_calls (x0 x1 x2 : Int) (xp xm xo : ByteArray) (y0 y1 y2 : Int) (yp ym yo : ByteArray) (og op : ByteArray) (bv bc bn : Nat) (mD d pD pre : Bool) (r : Int) (w : World) (hV : At w bv [.int .u64 x0, .int .u64 x1, .int .u64 x2, .string xp, .string xm, .string xo]) (hC : At w bc [.pointer (some ⟨bn, 0, none⟩), .string og, .string op, .bool mD, .bool d, .bool pD]) (hN : At w bn [.int .u64 y0, .int .u64 y1, .int .u64 y2, .string yp, .string ym, .string yo]) (hStd : Std w) (KCM : Hid (∀ (W : World), At W bv [.int .u64 x0, .int .u64 x1, .int .u64 x2, .string xp, .string xm, .string xo] → At W bn [.int .u64 y0, .int .u64 y1, .int .u64 y2, .string yp, .string ym, .string yo] → Std W → Calls Tryd.prog 86 #[.pointer (some ⟨bv, 0, none⟩), .pointer (some ⟨bn, 0, none⟩)] W fun e w' => e = .returned (.int .i64 r) ∧ Below W.heap.size W w'))  :
  Calls Tryd.prog 103 #[.pointer (some ⟨bv, 0, none⟩), .pointer (some ⟨bc, 0, none⟩), .bool pre] w (RetB w (cLeast_r (xp.toList == []) (decide (0 ≤ r)) pre)) := by
 have HB0 := Aside0.mk (Below.refl w.heap.size w); have HS0 := Aside0.mk hStd; have HV0 := Aside0.mk hV; have HC0 := Aside0.mk hC; have HN0 := Aside0.mk hN; clear hStd hV hC hN
 obtain ⟨v0_0, v1_0, v2_0, v3_0, v4_0, v5_0⟩ := HV0.out.six
 obtain ⟨c0_0, c1_0, c2_0, c3_0, c4_0, c5_0⟩ := HC0.out.six
 obtain ⟨n0_0, n1_0, n2_0, n3_0, n4_0, n5_0⟩ := HN0.out.six
 go_enter Tryd.func103, Tryd.ntmps103
 go_wp2_with fail
 refine (semver_Version_Prerelease.calls x0 x1 x2 xp xm xo _ _ rfl).mono ?_
 rintro e w1 ⟨rfl, hb⟩
 clear v0_0 v1_0 v2_0 v3_0 v4_0 v5_0 c0_0 c1_0 c2_0 c3_0 c4_0 c5_0 n0_0 n1_0 n2_0 n3_0 n4_0 n5_0
 have HB1 := Aside0.mk (HB0.out.trans (hb.mono HB0.out.size)); have HS1 := Aside0.mk (HS0.out.below hb); have HV1 := Aside0.mk (HV0.out.below hb); have HC1 := Aside0.mk (HC0.out.below hb); have HN1 := Aside0.mk (HN0.out.below hb); clear hb HB0 HS0 HV0 HC0 HN0
 cases t0 : (xp.toList == []) with
 | true =>
  have t0' := bne_of t0
  replace t0' : (xp.toList != []) = false := t0'
  obtain ⟨v0_1, v1_1, v2_1, v3_1, v4_1, v5_1⟩ := HV1.out.six
  obtain ⟨c0_1, c1_1, c2_1, c3_1, c4_1, c5_1⟩ := HC1.out.six
  obtain ⟨n0_1, n1_1, n2_1, n3_1, n4_1, n5_1⟩ := HN1.out.six
  go_wp2_with fail
  refine (KCM.out _ HV1.out HN1.out HS1.out).mono ?_
  rintro e w2 ⟨rfl, hb⟩
  clear v0_1 v1_1 v2_1 v3_1 v4_1 v5_1 c0_1 c1_1 c2_1 c3_1 c4_1 c5_1 n0_1 n1_1 n2_1 n3_1 n4_1 n5_1
  have HB2 := Aside0.mk (HB1.out.trans (hb.mono HB1.out.size)); have HS2 := Aside0.mk (HS1.out.below hb); have HV2 := Aside0.mk (HV1.out.below hb); have HC2 := Aside0.mk (HC1.out.below hb); have HN2 := Aside0.mk (HN1.out.below hb); clear hb HB1 HS1 HV1 HC1 HN1
  cases t1 : (decide (0 ≤ r)) with
  | true =>
   obtain ⟨v0_2, v1_2, v2_2, v3_2, v4_2, v5_2⟩ := HV2.out.six
   obtain ⟨c0_2, c1_2, c2_2, c3_2, c4_2, c5_2⟩ := HC2.out.six
   obtain ⟨n0_2, n1_2, n2_2, n3_2, n4_2, n5_2⟩ := HN2.out.six
   go_wp2_with fail
   go_ret2
   exact ⟨_, (by first | rfl | (rw [t0, t1]; rfl)), HB2.out⟩
  | false =>
   obtain ⟨v0_2, v1_2, v2_2, v3_2, v4_2, v5_2⟩ := HV2.out.six
   obtain ⟨c0_2, c1_2, c2_2, c3_2, c4_2, c5_2⟩ := HC2.out.six
   obtain ⟨n0_2, n1_2, n2_2, n3_2, n4_2, n5_2⟩ := HN2.out.six
   go_wp2_with fail
   refine (errNew _ _).mono ?_
   rintro e w3 ⟨et2, ep2, rfl, hb⟩
   clear v0_2 v1_2 v2_2 v3_2 v4_2 v5_2 c0_2 c1_2 c2_2 c3_2 c4_2 c5_2 n0_2 n1_2 n2_2 n3_2 n4_2 n5_2
   have HB3 := Aside0.mk (HB2.out.trans (hb.mono HB2.out.size)); have HS3 := Aside0.mk (HS2.out.below hb); have HV3 := Aside0.mk (HV2.out.below hb); have HC3 := Aside0.mk (HC2.out.below hb); have HN3 := Aside0.mk (HN2.out.below hb); clear hb HB2 HS2 HV2 HC2 HN2
   obtain ⟨v0_3, v1_3, v2_3, v3_3, v4_3, v5_3⟩ := HV3.out.six
   obtain ⟨c0_3, c1_3, c2_3, c3_3, c4_3, c5_3⟩ := HC3.out.six
   obtain ⟨n0_3, n1_3, n2_3, n3_3, n4_3, n5_3⟩ := HN3.out.six
   go_wp2_with fail
   go_ret2
   exact ⟨_, (by first | rfl | (rw [t0, t1]; rfl)), HB3.out⟩
 | false =>
  have t0' := bne_of t0
  replace t0' : (xp.toList != []) = true := t0'
  cases pre with
  | true =>
   obtain ⟨v0_1, v1_1, v2_1, v3_1, v4_1, v5_1⟩ := HV1.out.six
   obtain ⟨c0_1, c1_1, c2_1, c3_1, c4_1, c5_1⟩ := HC1.out.six
   obtain ⟨n0_1, n1_1, n2_1, n3_1, n4_1, n5_1⟩ := HN1.out.six
   go_wp2_with fail
   refine (KCM.out _ HV1.out HN1.out HS1.out).mono ?_
   rintro e w2 ⟨rfl, hb⟩
   clear v0_1 v1_1 v2_1 v3_1 v4_1 v5_1 c0_1 c1_1 c2_1 c3_1 c4_1 c5_1 n0_1 n1_1 n2_1 n3_1 n4_1 n5_1
   have HB2 := Aside0.mk (HB1.out.trans (hb.mono HB1.out.size)); have HS2 := Aside0.mk (HS1.out.below hb); have HV2 := Aside0.mk (HV1.out.below hb); have HC2 := Aside0.mk (HC1.out.below hb); have HN2 := Aside0.mk (HN1.out.below hb); clear hb HB1 HS1 HV1 HC1 HN1
   cases t1 : (decide (0 ≤ r)) with
   | true =>
    obtain ⟨v0_2, v1_2, v2_2, v3_2, v4_2, v5_2⟩ := HV2.out.six
    obtain ⟨c0_2, c1_2, c2_2, c3_2, c4_2, c5_2⟩ := HC2.out.six
    obtain ⟨n0_2, n1_2, n2_2, n3_2, n4_2, n5_2⟩ := HN2.out.six
    go_wp2_with fail
    go_ret2
    exact ⟨_, (by first | rfl | (rw [t0, t1]; rfl)), HB2.out⟩
   | false =>
    obtain ⟨v0_2, v1_2, v2_2, v3_2, v4_2, v5_2⟩ := HV2.out.six
    obtain ⟨c0_2, c1_2, c2_2, c3_2, c4_2, c5_2⟩ := HC2.out.six
    obtain ⟨n0_2, n1_2, n2_2, n3_2, n4_2, n5_2⟩ := HN2.out.six
    go_wp2_with fail
    refine (errNew _ _).mono ?_
    rintro e w3 ⟨et2, ep2, rfl, hb⟩
    clear v0_2 v1_2 v2_2 v3_2 v4_2 v5_2 c0_2 c1_2 c2_2 c3_2 c4_2 c5_2 n0_2 n1_2 n2_2 n3_2 n4_2 n5_2
    have HB3 := Aside0.mk (HB2.out.trans (hb.mono HB2.out.size)); have HS3 := Aside0.mk (HS2.out.below hb); have HV3 := Aside0.mk (HV2.out.below hb); have HC3 := Aside0.mk (HC2.out.below hb); have HN3 := Aside0.mk (HN2.out.below hb); clear hb HB2 HS2 HV2 HC2 HN2
    obtain ⟨v0_3, v1_3, v2_3, v3_3, v4_3, v5_3⟩ := HV3.out.six
    obtain ⟨c0_3, c1_3, c2_3, c3_3, c4_3, c5_3⟩ := HC3.out.six
    obtain ⟨n0_3, n1_3, n2_3, n3_3, n4_3, n5_3⟩ := HN3.out.six
    go_wp2_with fail
    go_ret2
    exact ⟨_, (by first | rfl | (rw [t0, t1]; rfl)), HB3.out⟩
  | false =>
   obtain ⟨v0_1, v1_1, v2_1, v3_1, v4_1, v5_1⟩ := HV1.out.six
   obtain ⟨c0_1, c1_1, c2_1, c3_1, c4_1, c5_1⟩ := HC1.out.six
   obtain ⟨n0_1, n1_1, n2_1, n3_1, n4_1, n5_1⟩ := HN1.out.six
   go_wp2_with fail
   refine (errNew _ _).mono ?_
   rintro e w2 ⟨et1, ep1, rfl, hb⟩
   clear v0_1 v1_1 v2_1 v3_1 v4_1 v5_1 c0_1 c1_1 c2_1 c3_1 c4_1 c5_1 n0_1 n1_1 n2_1 n3_1 n4_1 n5_1
   have HB2 := Aside0.mk (HB1.out.trans (hb.mono HB1.out.size)); have HS2 := Aside0.mk (HS1.out.below hb); have HV2 := Aside0.mk (HV1.out.below hb); have HC2 := Aside0.mk (HC1.out.below hb); have HN2 := Aside0.mk (HN1.out.below hb); clear hb HB1 HS1 HV1 HC1 HN1
   obtain ⟨v0_2, v1_2, v2_2, v3_2, v4_2, v5_2⟩ := HV2.out.six
   obtain ⟨c0_2, c1_2, c2_2, c3_2, c4_2, c5_2⟩ := HC2.out.six
   obtain ⟨n0_2, n1_2, n2_2, n3_2, n4_2, n5_2⟩ := HN2.out.six
   go_wp2_with fail
   go_ret2
   exact ⟨_, (by first | rfl | (rw [t0]; rfl)), HB2.out⟩

end Go.Proofs.YtllkoadcpobdaaaDoor.KX
namespace Go.Proofs.YtllkoadcpobdaaaDoor.KX

open Go.RowKit Go.Lib Go.Proofs Go.Sort Go.Proofs.YtllkoadcpobdaaaDoor Go.Proofs.YtllkoadcpobdaaaDoor.Base Go.Proofs.YtllkoadcpobdaaaDoor.L Go.Proofs.YtllkoadcpobdaaaDoor.Bt Go.Proofs.YtllkoadcpobdaaaDoor.PX

open Go.Proofs.YtllkoadcpobdaaaDoorW.PrintWords Go.Proofs.YtllkoadcpobdaaaDoorW.PrintLast Go.Proofs.YtllkoadcpobdaaaDoorW.PrintMore

/-- What semver.constraintLessThanEqual answers, out of its tests: b0: (xp.toList == []); b1: d; b2: (decide (y0 < x0)); b3: (x0 == y0); b4: (decide (y1 < x1)); b5: mD; b6: (decide (r ≤ 0)); b7: pre. -/
def cMost_r (b0 b1 b2 b3 b4 b5 b6 b7 : Bool) : Bool := bif b0 then (bif b1 then (bif b2 then false else (bif b3 then (bif b4 then (bif b5 then true else false) else true) else true)) else (bif b6 then true else false)) else (bif b7 then (bif b1 then (bif b2 then false else (bif b3 then (bif b4 then (bif b5 then true else false) else true) else true)) else (bif b6 then true else false)) else false)

set_option maxHeartbeats 100000000 in
set_option maxRecDepth 100000 in
theorem cMost_calls (x0 x1 x2 : Int) (xp xm xo : ByteArray) (y0 y1 y2 : Int) (yp ym yo : ByteArray) (og op : ByteArray) (bv bc bn : Nat) (mD d pD pre : Bool) (r : Int) (w : World) (hV : At w bv [.int .u64 x0, .int .u64 x1, .int .u64 x2, .string xp, .string xm, .string xo]) (hC : At w bc [.pointer (some ⟨bn, 0, none⟩), .string og, .string op, .bool mD, .bool d, .bool pD]) (hN : At w bn [.int .u64 y0, .int .u64 y1, .int .u64 y2, .string yp, .string ym, .string yo]) (hStd : Std w) (KCM : Hid (∀ (W : World), At W bv [.int .u64 x0, .int .u64 x1, .int .u64 x2, .string xp, .string xm, .string xo] → At W bn [.int .u64 y0, .int .u64 y1, .int .u64 y2, .string yp, .string ym, .string yo] → Std W → Calls Tryd.prog 86 #[.pointer (some ⟨bv, 0, none⟩), .pointer (some ⟨bn, 0, none⟩)] W fun e w' => e = .returned (.int .i64 r) ∧ Below W.heap.size W w'))  :
  Calls Tryd.prog 104 #[.pointer (some ⟨bv, 0, none⟩), .pointer (some ⟨bc, 0, none⟩), .bool pre] w (RetB w (cMost_r (xp.toList == []) d (decide (y0 < x0)) (x0 == y0) (decide (y1 < x1)) mD (decide (r ≤ 0)) pre)) := by
 have HB0 := Aside0.mk (Below.refl w.heap.size w); have HS0 := Aside0.mk hStd; have HV0 := Aside0.mk hV; have HC0 := Aside0.mk hC; have HN0 := Aside0.mk hN; clear hStd hV hC hN
 obtain ⟨v0_0, v1_0, v2_0, v3_0, v4_0, v5_0⟩ := HV0.out.six
 obtain ⟨c0_0, c1_0, c2_0, c3_0, c4_0, c5_0⟩ := HC0.out.six
 obtain ⟨n0_0, n1_0, n2_0, n3_0, n4_0, n5_0⟩ := HN0.out.six
 go_enter Tryd.func104, Tryd.ntmps104
 go_wp2_with fail
 refine (semver_Version_Prerelease.calls x0 x1 x2 xp xm xo _ _ rfl).mono ?_
 rintro e w1 ⟨rfl, hb⟩
 clear v0_0 v1_0 v2_0 v3_0 v4_0 v5_0 c0_0 c1_0 c2_0 c3_0 c4_0 c5_0 n0_0 n1_0 n2_0 n3_0 n4_0 n5_0
 have HB1 := Aside0.mk (HB0.out.trans (hb.mono HB0.out.size)); have HS1 := Aside0.mk (HS0.out.below hb); have HV1 := Aside0.mk (HV0.out.below hb); have HC1 := Aside0.mk (HC0.out.below hb); have HN1 := Aside0.mk (HN0.out.below hb); clear hb HB0 HS0 HV0 HC0 HN0
 cases t0 : (xp.toList == []) with
 | true =>
  have t0' := bne_of t0
  replace t0' : (xp.toList != []) = false := t0'
  cases d with
  | true =>
   obtain ⟨v0_1, v1_1, v2_1, v3_1, v4_1, v5_1⟩ := HV1.out.six
   obtain ⟨c0_1, c1_1, c2_1, c3_1, c4_1, c5_1⟩ := HC1.out.six
   obtain ⟨n0_1, n1_1, n2_1, n3_1, n4_1, n5_1⟩ := HN1.out.six
   go_wp2_with fail
   clear v0_1 v1_1 v2_1 v3_1 v4_1 v5_1 c0_1 c1_1 c2_1 c3_1 c4_1 c5_1 n0_1 n1_1 n2_1 n3_1 n4_1 n5_1
   obtain ⟨v0_1, v1_1, v2_1, v3_1, v4_1, v5_1⟩ := HV1.out.sixR
   obtain ⟨c0_1, c1_1, c2_1, c3_1, c4_1, c5_1⟩ := HC1.out.sixR
   obtain ⟨n0_1, n1_1, n2_1, n3_1, n4_1, n5_1⟩ := HN1.out.sixR
   have c0 := fun d os => Calls.regrown_of (semver_Version_Major.calls x0 x1 x2 xp xm xo _ (grow (redrawn w1 d) os) rfl)
   have c1 := fun d os => Calls.regrown_of (semver_Version_Major.calls y0 y1 y2 yp ym yo _ (grow (redrawn w1 d) os) rfl)
   refine wp_region_quiet_below (by kernel_rfl) (by kernel_rfl) ?_
   repeat (first | go_big_quiet_step (first | exact c0 _ _ | exact c1 _ _) | quiet_step (first | exact c0 _ _ | exact c1 _ _))
   refine wpQuiet_nil ?_
   intro _ hw'; obtain ⟨⟨dq, osq⟩, hw''⟩ := hw'; subst hw''; clear c0 c1 v0_1 v1_1 v2_1 v3_1 v4_1 v5_1 c0_1 c1_1 c2_1 c3_1 c4_1 c5_1 n0_1 n1_1 n2_1 n3_1 n4_1 n5_1
   have hb := below_regrown w1 dq osq
   generalize grow (redrawn w1 dq) osq = w2 at *
   have HB2 := Aside0.mk (HB1.out.trans (hb.mono HB1.out.size)); have HS2 := Aside0.mk (HS1.out.below hb); have HV2 := Aside0.mk (HV1.out.below hb); have HC2 := Aside0.mk (HC1.out.below hb); have HN2 := Aside0.mk (HN1.out.below hb); clear hb HB1 HS1 HV1 HC1 HN1
   cases t2 : (decide (y0 < x0)) with
   | true =>
    obtain ⟨v0_2, v1_2, v2_2, v3_2, v4_2, v5_2⟩ := HV2.out.six
    obtain ⟨c0_2, c1_2, c2_2, c3_2, c4_2, c5_2⟩ := HC2.out.six
    obtain ⟨n0_2, n1_2, n2_2, n3_2, n4_2, n5_2⟩ := HN2.out.six
    go_wp2_with fail
    refine (errNew _ _).mono ?_
    rintro e w3 ⟨et2, ep2, rfl, hb⟩
    clear v0_2 v1_2 v2_2 v3_2 v4_2 v5_2 c0_2 c1_2 c2_2 c3_2 c4_2 c5_2 n0_2 n1_2 n2_2 n3_2 n4_2 n5_2
    have HB3 := Aside0.mk (HB2.out.trans (hb.mono HB2.out.size)); have HS3 := Aside0.mk (HS2.out.below hb); have HV3 := Aside0.mk (HV2.out.below hb); have HC3 := Aside0.mk (HC2.out.below hb); have HN3 := Aside0.mk (HN2.out.below hb); clear hb HB2 HS2 HV2 HC2 HN2
    obtain ⟨v0_3, v1_3, v2_3, v3_3, v4_3, v5_3⟩ := HV3.out.six
    obtain ⟨c0_3, c1_3, c2_3, c3_3, c4_3, c5_3⟩ := HC3.out.six
    obtain ⟨n0_3, n1_3, n2_3, n3_3, n4_3, n5_3⟩ := HN3.out.six
    go_wp2_with fail
    go_ret2
    exact ⟨_, (by first | rfl | (rw [t0, t2]; rfl)), HB3.out⟩
   | false =>
    cases t3 : (x0 == y0) with
    | true =>
     have t3' := bne_of t3
     replace t3' : (x0 != y0) = false := t3'
     cases t4 : (decide (y1 < x1)) with
     | true =>
      obtain ⟨v0_2, v1_2, v2_2, v3_2, v4_2, v5_2⟩ := HV2.out.six
      obtain ⟨c0_2, c1_2, c2_2, c3_2, c4_2, c5_2⟩ := HC2.out.six
      obtain ⟨n0_2, n1_2, n2_2, n3_2, n4_2, n5_2⟩ := HN2.out.six
      go_wp2_with fail
      clear v0_2 v1_2 v2_2 v3_2 v4_2 v5_2 c0_2 c1_2 c2_2 c3_2 c4_2 c5_2 n0_2 n1_2 n2_2 n3_2 n4_2 n5_2
      obtain ⟨v0_2, v1_2, v2_2, v3_2, v4_2, v5_2⟩ := HV2.out.sixR
      obtain ⟨c0_2, c1_2, c2_2, c3_2, c4_2, c5_2⟩ := HC2.out.sixR
      obtain ⟨n0_2, n1_2, n2_2, n3_2, n4_2, n5_2⟩ := HN2.out.sixR
      have c0 := fun d os => Calls.regrown_of (semver_Version_Major.calls x0 x1 x2 xp xm xo _ (grow (redrawn w2 d) os) rfl)
      have c1 := fun d os => Calls.regrown_of (semver_Version_Major.calls y0 y1 y2 yp ym yo _ (grow (redrawn w2 d) os) rfl)
      have c2 := fun d os => Calls.regrown_of (semver_Version_Minor.calls x0 x1 x2 xp xm xo _ (grow (redrawn w2 d) os) rfl)
      have c3 := fun d os => Calls.regrown_of (semver_Version_Minor.calls y0 y1 y2 yp ym yo _ (grow (redrawn w2 d) os) rfl)
      refine wp_region_quiet_below (by kernel_rfl) (by kernel_rfl) ?_
      repeat (first | go_big_quiet_step (first | exact c0 _ _ | exact c1 _ _ | exact c2 _ _ | exact c3 _ _) | quiet_step (first | exact c0 _ _ | exact c1 _ _ | exact c2 _ _ | exact c3 _ _))
      refine wpQuiet_nil ?_
      intro _ hw'; obtain ⟨⟨dq, osq⟩, hw''⟩ := hw'; subst hw''; clear c0 c1 c2 c3 v0_2 v1_2 v2_2 v3_2 v4_2 v5_2 c0_2 c1_2 c2_2 c3_2 c4_2 c5_2 n0_2 n1_2 n2_2 n3_2 n4_2 n5_2
      have hb := below_regrown w2 dq osq
      generalize grow (redrawn w2 dq) osq = w3 at *
      have HB3 := Aside0.mk (HB2.out.trans (hb.mono HB2.out.size)); have HS3 := Aside0.mk (HS2.out.below hb); have HV3 := Aside0.mk (HV2.out.below hb); have HC3 := Aside0.mk (HC2.out.below hb); have HN3 := Aside0.mk (HN2.out.below hb); clear hb HB2 HS2 HV2 HC2 HN2
      cases mD with
      | true =>
       obtain ⟨v0_3, v1_3, v2_3, v3_3, v4_3, v5_3⟩ := HV3.out.six
       obtain ⟨c0_3, c1_3, c2_3, c3_3, c4_3, c5_3⟩ := HC3.out.six
       obtain ⟨n0_3, n1_3, n2_3, n3_3, n4_3, n5_3⟩ := HN3.out.six
       go_wp2_with fail
       go_ret2
       exact ⟨_, (by first | rfl | (rw [t0, t2, t3, t4]; rfl)), HB3.out⟩
      | false =>
       obtain ⟨v0_3, v1_3, v2_3, v3_3, v4_3, v5_3⟩ := HV3.out.six
       obtain ⟨c0_3, c1_3, c2_3, c3_3, c4_3, c5_3⟩ := HC3.out.six
       obtain ⟨n0_3, n1_3, n2_3, n3_3, n4_3, n5_3⟩ := HN3.out.six
       go_wp2_with fail
       refine (errNew _ _).mono ?_
       rintro e w4 ⟨et3, ep3, rfl, hb⟩
       clear v0_3 v1_3 v2_3 v3_3 v4_3 v5_3 c0_3 c1_3 c2_3 c3_3 c4_3 c5_3 n0_3 n1_3 n2_3 n3_3 n4_3 n5_3
       have HB4 := Aside0.mk (HB3.out.trans (hb.mono HB3.out.size)); have HS4 := Aside0.mk (HS3.out.below hb); have HV4 := Aside0.mk (HV3.out.below hb); have HC4 := Aside0.mk (HC3.out.below hb); have HN4 := Aside0.mk (HN3.out.below hb); clear hb HB3 HS3 HV3 HC3 HN3
       obtain ⟨v0_4, v1_4, v2_4, v3_4, v4_4, v5_4⟩ := HV4.out.six
       obtain ⟨c0_4, c1_4, c2_4, c3_4, c4_4, c5_4⟩ := HC4.out.six
       obtain ⟨n0_4, n1_4, n2_4, n3_4, n4_4, n5_4⟩ := HN4.out.six
       go_wp2_with fail
       go_ret2
       exact ⟨_, (by first | rfl | (rw [t0, t2, t3, t4]; rfl)), HB4.out⟩
     | false =>
      obtain ⟨v0_2, v1_2, v2_2, v3_2, v4_2, v5_2⟩ := HV2.out.six
      obtain ⟨c0_2, c1_2, c2_2, c3_2, c4_2, c5_2⟩ := HC2.out.six
      obtain ⟨n0_2, n1_2, n2_2, n3_2, n4_2, n5_2⟩ := HN2.out.six
      go_wp2_with fail
      clear v0_2 v1_2 v2_2 v3_2 v4_2 v5_2 c0_2 c1_2 c2_2 c3_2 c4_2 c5_2 n0_2 n1_2 n2_2 n3_2 n4_2 n5_2
      obtain ⟨v0_2, v1_2, v2_2, v3_2, v4_2, v5_2⟩ := HV2.out.sixR
      obtain ⟨c0_2, c1_2, c2_2, c3_2, c4_2, c5_2⟩ := HC2.out.sixR
      obtain ⟨n0_2, n1_2, n2_2, n3_2, n4_2, n5_2⟩ := HN2.out.sixR
      have c0 := fun d os => Calls.regrown_of (semver_Version_Major.calls x0 x1 x2 xp xm xo _ (grow (redrawn w2 d) os) rfl)
      have c1 := fun d os => Calls.regrown_of (semver_Version_Major.calls y0 y1 y2 yp ym yo _ (grow (redrawn w2 d) os) rfl)
      have c2 := fun d os => Calls.regrown_of (semver_Version_Minor.calls x0 x1 x2 xp xm xo _ (grow (redrawn w2 d) os) rfl)
      have c3 := fun d os => Calls.regrown_of (semver_Version_Minor.calls y0 y1 y2 yp ym yo _ (grow (redrawn w2 d) os) rfl)
      refine wp_region_quiet_below (by kernel_rfl) (by kernel_rfl) ?_
      repeat (first | go_big_quiet_step (first | exact c0 _ _ | exact c1 _ _ | exact c2 _ _ | exact c3 _ _) | quiet_step (first | exact c0 _ _ | exact c1 _ _ | exact c2 _ _ | exact c3 _ _))
      refine wpQuiet_nil ?_
      intro _ hw'; obtain ⟨⟨dq, osq⟩, hw''⟩ := hw'; subst hw''; clear c0 c1 c2 c3 v0_2 v1_2 v2_2 v3_2 v4_2 v5_2 c0_2 c1_2 c2_2 c3_2 c4_2 c5_2 n0_2 n1_2 n2_2 n3_2 n4_2 n5_2
      have hb := below_regrown w2 dq osq
      generalize grow (redrawn w2 dq) osq = w3 at *
      have HB3 := Aside0.mk (HB2.out.trans (hb.mono HB2.out.size)); have HS3 := Aside0.mk (HS2.out.below hb); have HV3 := Aside0.mk (HV2.out.below hb); have HC3 := Aside0.mk (HC2.out.below hb); have HN3 := Aside0.mk (HN2.out.below hb); clear hb HB2 HS2 HV2 HC2 HN2
      obtain ⟨v0_3, v1_3, v2_3, v3_3, v4_3, v5_3⟩ := HV3.out.six
      obtain ⟨c0_3, c1_3, c2_3, c3_3, c4_3, c5_3⟩ := HC3.out.six
      obtain ⟨n0_3, n1_3, n2_3, n3_3, n4_3, n5_3⟩ := HN3.out.six
      go_wp2_with fail
      go_ret2
      exact ⟨_, (by first | rfl | (rw [t0, t2, t3, t4]; rfl)), HB3.out⟩
    | false =>
     have t3' := bne_of t3
     replace t3' : (x0 != y0) = true := t3'
     obtain ⟨v0_2, v1_2, v2_2, v3_2, v4_2, v5_2⟩ := HV2.out.six
     obtain ⟨c0_2, c1_2, c2_2, c3_2, c4_2, c5_2⟩ := HC2.out.six
     obtain ⟨n0_2, n1_2, n2_2, n3_2, n4_2, n5_2⟩ := HN2.out.six
     go_wp2_with fail
     clear v0_2 v1_2 v2_2 v3_2 v4_2 v5_2 c0_2 c1_2 c2_2 c3_2 c4_2 c5_2 n0_2 n1_2 n2_2 n3_2 n4_2 n5_2
     obtain ⟨v0_2, v1_2, v2_2, v3_2, v4_2, v5_2⟩ := HV2.out.sixR
     obtain ⟨c0_2, c1_2, c2_2, c3_2, c4_2, c5_2⟩ := HC2.out.sixR
     obtain ⟨n0_2, n1_2, n2_2, n3_2, n4_2, n5_2⟩ := HN2.out.sixR
     have c0 := fun d os => Calls.regrown_of (semver_Version_Major.calls x0 x1 x2 xp xm xo _ (grow (redrawn w2 d) os) rfl)
     have c1 := fun d os => Calls.regrown_of (semver_Version_Major.calls y0 y1 y2 yp ym yo _ (grow (redrawn w2 d) os) rfl)
     refine wp_region_quiet_below (by kernel_rfl) (by kernel_rfl) ?_
     repeat (first | go_big_quiet_step (first | exact c0 _ _ | exact c1 _ _) | quiet_step (first | exact c0 _ _ | exact c1 _ _))
     refine wpQuiet_nil ?_
     intro _ hw'; obtain ⟨⟨dq, osq⟩, hw''⟩ := hw'; subst hw''; clear c0 c1 v0_2 v1_2 v2_2 v3_2 v4_2 v5_2 c0_2 c1_2 c2_2 c3_2 c4_2 c5_2 n0_2 n1_2 n2_2 n3_2 n4_2 n5_2
     have hb := below_regrown w2 dq osq
     generalize grow (redrawn w2 dq) osq = w3 at *
     have HB3 := Aside0.mk (HB2.out.trans (hb.mono HB2.out.size)); have HS3 := Aside0.mk (HS2.out.below hb); have HV3 := Aside0.mk (HV2.out.below hb); have HC3 := Aside0.mk (HC2.out.below hb); have HN3 := Aside0.mk (HN2.out.below hb); clear hb HB2 HS2 HV2 HC2 HN2
     obtain ⟨v0_3, v1_3, v2_3, v3_3, v4_3, v5_3⟩ := HV3.out.six
     obtain ⟨c0_3, c1_3, c2_3, c3_3, c4_3, c5_3⟩ := HC3.out.six
     obtain ⟨n0_3, n1_3, n2_3, n3_3, n4_3, n5_3⟩ := HN3.out.six
     go_wp2_with fail
     go_ret2
     exact ⟨_, (by first | rfl | (rw [t0, t2, t3]; rfl)), HB3.out⟩
  | false =>
   obtain ⟨v0_1, v1_1, v2_1, v3_1, v4_1, v5_1⟩ := HV1.out.six
   obtain ⟨c0_1, c1_1, c2_1, c3_1, c4_1, c5_1⟩ := HC1.out.six
   obtain ⟨n0_1, n1_1, n2_1, n3_1, n4_1, n5_1⟩ := HN1.out.six
   go_wp2_with fail
   refine (KCM.out _ HV1.out HN1.out HS1.out).mono ?_
   rintro e w2 ⟨rfl, hb⟩
   clear v0_1 v1_1 v2_1 v3_1 v4_1 v5_1 c0_1 c1_1 c2_1 c3_1 c4_1 c5_1 n0_1 n1_1 n2_1 n3_1 n4_1 n5_1
   have HB2 := Aside0.mk (HB1.out.trans (hb.mono HB1.out.size)); have HS2 := Aside0.mk (HS1.out.below hb); have HV2 := Aside0.mk (HV1.out.below hb); have HC2 := Aside0.mk (HC1.out.below hb); have HN2 := Aside0.mk (HN1.out.below hb); clear hb HB1 HS1 HV1 HC1 HN1
   cases t6 : (decide (r ≤ 0)) with
   | true =>
    obtain ⟨v0_2, v1_2, v2_2, v3_2, v4_2, v5_2⟩ := HV2.out.six
    obtain ⟨c0_2, c1_2, c2_2, c3_2, c4_2, c5_2⟩ := HC2.out.six
    obtain ⟨n0_2, n1_2, n2_2, n3_2, n4_2, n5_2⟩ := HN2.out.six
    go_wp2_with fail
    go_ret2
    exact ⟨_, (by first | rfl | (rw [t0, t6]; rfl)), HB2.out⟩
   | false =>
    obtain ⟨v0_2, v1_2, v2_2, v3_2, v4_2, v5_2⟩ := HV2.out.six
    obtain ⟨c0_2, c1_2, c2_2, c3_2, c4_2, c5_2⟩ := HC2.out.six
    obtain ⟨n0_2, n1_2, n2_2, n3_2, n4_2, n5_2⟩ := HN2.out.six
    go_wp2_with fail
    refine (errNew _ _).mono ?_
    rintro e w3 ⟨et2, ep2, rfl, hb⟩
    clear v0_2 v1_2 v2_2 v3_2 v4_2 v5_2 c0_2 c1_2 c2_2 c3_2 c4_2 c5_2 n0_2 n1_2 n2_2 n3_2 n4_2 n5_2
    have HB3 := Aside0.mk (HB2.out.trans (hb.mono HB2.out.size)); have HS3 := Aside0.mk (HS2.out.below hb); have HV3 := Aside0.mk (HV2.out.below hb); have HC3 := Aside0.mk (HC2.out.below hb); have HN3 := Aside0.mk (HN2.out.below hb); clear hb HB2 HS2 HV2 HC2 HN2
    obtain ⟨v0_3, v1_3, v2_3, v3_3, v4_3, v5_3⟩ := HV3.out.six
    obtain ⟨c0_3, c1_3, c2_3, c3_3, c4_3, c5_3⟩ := HC3.out.six
    obtain ⟨n0_3, n1_3, n2_3, n3_3, n4_3, n5_3⟩ := HN3.out.six
    go_wp2_with fail
    go_ret2
    exact ⟨_, (by first | rfl | (rw [t0, t6]; rfl)), HB3.out⟩
 | false =>
  have t0' := bne_of t0
  replace t0' : (xp.toList != []) = true := t0'
  cases pre with
  | true =>
   cases d with
   | true =>
    obtain ⟨v0_1, v1_1, v2_1, v3_1, v4_1, v5_1⟩ := HV1.out.six
    obtain ⟨c0_1, c1_1, c2_1, c3_1, c4_1, c5_1⟩ := HC1.out.six
    obtain ⟨n0_1, n1_1, n2_1, n3_1, n4_1, n5_1⟩ := HN1.out.six
    go_wp2_with fail
    clear v0_1 v1_1 v2_1 v3_1 v4_1 v5_1 c0_1 c1_1 c2_1 c3_1 c4_1 c5_1 n0_1 n1_1 n2_1 n3_1 n4_1 n5_1
    obtain ⟨v0_1, v1_1, v2_1, v3_1, v4_1, v5_1⟩ := HV1.out.sixR
    obtain ⟨c0_1, c1_1, c2_1, c3_1, c4_1, c5_1⟩ := HC1.out.sixR
    obtain ⟨n0_1, n1_1, n2_1, n3_1, n4_1, n5_1⟩ := HN1.out.sixR
    have c0 := fun d os => Calls.regrown_of (semver_Version_Major.calls x0 x1 x2 xp xm xo _ (grow (redrawn w1 d) os) rfl)
    have c1 := fun d os => Calls.regrown_of (semver_Version_Major.calls y0 y1 y2 yp ym yo _ (grow (redrawn w1 d) os) rfl)
    refine wp_region_quiet_below (by kernel_rfl) (by kernel_rfl) ?_
    repeat (first | go_big_quiet_step (first | exact c0 _ _ | exact c1 _ _) | quiet_step (first | exact c0 _ _ | exact c1 _ _))
    refine wpQuiet_nil ?_
    intro _ hw'; obtain ⟨⟨dq, osq⟩, hw''⟩ := hw'; subst hw''; clear c0 c1 v0_1 v1_1 v2_1 v3_1 v4_1 v5_1 c0_1 c1_1 c2_1 c3_1 c4_1 c5_1 n0_1 n1_1 n2_1 n3_1 n4_1 n5_1
    have hb := below_regrown w1 dq osq
    generalize grow (redrawn w1 dq) osq = w2 at *
    have HB2 := Aside0.mk (HB1.out.trans (hb.mono HB1.out.size)); have HS2 := Aside0.mk (HS1.out.below hb); have HV2 := Aside0.mk (HV1.out.below hb); have HC2 := Aside0.mk (HC1.out.below hb); have HN2 := Aside0.mk (HN1.out.below hb); clear hb HB1 HS1 HV1 HC1 HN1
    cases t2 : (decide (y0 < x0)) with
    | true =>
     obtain ⟨v0_2, v1_2, v2_2, v3_2, v4_2, v5_2⟩ := HV2.out.six
     obtain ⟨c0_2, c1_2, c2_2, c3_2, c4_2, c5_2⟩ := HC2.out.six
     obtain ⟨n0_2, n1_2, n2_2, n3_2, n4_2, n5_2⟩ := HN2.out.six
     go_wp2_with fail
     refine (errNew _ _).mono ?_
     rintro e w3 ⟨et2, ep2, rfl, hb⟩
     clear v0_2 v1_2 v2_2 v3_2 v4_2 v5_2 c0_2 c1_2 c2_2 c3_2 c4_2 c5_2 n0_2 n1_2 n2_2 n3_2 n4_2 n5_2
     have HB3 := Aside0.mk (HB2.out.trans (hb.mono HB2.out.size)); have HS3 := Aside0.mk (HS2.out.below hb); have HV3 := Aside0.mk (HV2.out.below hb); have HC3 := Aside0.mk (HC2.out.below hb); have HN3 := Aside0.mk (HN2.out.below hb); clear hb HB2 HS2 HV2 HC2 HN2
     obtain ⟨v0_3, v1_3, v2_3, v3_3, v4_3, v5_3⟩ := HV3.out.six
     obtain ⟨c0_3, c1_3, c2_3, c3_3, c4_3, c5_3⟩ := HC3.out.six
     obtain ⟨n0_3, n1_3, n2_3, n3_3, n4_3, n5_3⟩ := HN3.out.six
     go_wp2_with fail
     go_ret2
     exact ⟨_, (by first | rfl | (rw [t0, t2]; rfl)), HB3.out⟩
    | false =>
     cases t3 : (x0 == y0) with
     | true =>
      have t3' := bne_of t3
      replace t3' : (x0 != y0) = false := t3'
      cases t4 : (decide (y1 < x1)) with
      | true =>
       obtain ⟨v0_2, v1_2, v2_2, v3_2, v4_2, v5_2⟩ := HV2.out.six
       obtain ⟨c0_2, c1_2, c2_2, c3_2, c4_2, c5_2⟩ := HC2.out.six
       obtain ⟨n0_2, n1_2, n2_2, n3_2, n4_2, n5_2⟩ := HN2.out.six
       go_wp2_with fail
       clear v0_2 v1_2 v2_2 v3_2 v4_2 v5_2 c0_2 c1_2 c2_2 c3_2 c4_2 c5_2 n0_2 n1_2 n2_2 n3_2 n4_2 n5_2
       obtain ⟨v0_2, v1_2, v2_2, v3_2, v4_2, v5_2⟩ := HV2.out.sixR
       obtain ⟨c0_2, c1_2, c2_2, c3_2, c4_2, c5_2⟩ := HC2.out.sixR
       obtain ⟨n0_2, n1_2, n2_2, n3_2, n4_2, n5_2⟩ := HN2.out.sixR
       have c0 := fun d os => Calls.regrown_of (semver_Version_Major.calls x0 x1 x2 xp xm xo _ (grow (redrawn w2 d) os) rfl)
       have c1 := fun d os => Calls.regrown_of (semver_Version_Major.calls y0 y1 y2 yp ym yo _ (grow (redrawn w2 d) os) rfl)
       have c2 := fun d os => Calls.regrown_of (semver_Version_Minor.calls x0 x1 x2 xp xm xo _ (grow (redrawn w2 d) os) rfl)
       have c3 := fun d os => Calls.regrown_of (semver_Version_Minor.calls y0 y1 y2 yp ym yo _ (grow (redrawn w2 d) os) rfl)
       refine wp_region_quiet_below (by kernel_rfl) (by kernel_rfl) ?_
       repeat (first | go_big_quiet_step (first | exact c0 _ _ | exact c1 _ _ | exact c2 _ _ | exact c3 _ _) | quiet_step (first | exact c0 _ _ | exact c1 _ _ | exact c2 _ _ | exact c3 _ _))
       refine wpQuiet_nil ?_
       intro _ hw'; obtain ⟨⟨dq, osq⟩, hw''⟩ := hw'; subst hw''; clear c0 c1 c2 c3 v0_2 v1_2 v2_2 v3_2 v4_2 v5_2 c0_2 c1_2 c2_2 c3_2 c4_2 c5_2 n0_2 n1_2 n2_2 n3_2 n4_2 n5_2
       have hb := below_regrown w2 dq osq
       generalize grow (redrawn w2 dq) osq = w3 at *
       have HB3 := Aside0.mk (HB2.out.trans (hb.mono HB2.out.size)); have HS3 := Aside0.mk (HS2.out.below hb); have HV3 := Aside0.mk (HV2.out.below hb); have HC3 := Aside0.mk (HC2.out.below hb); have HN3 := Aside0.mk (HN2.out.below hb); clear hb HB2 HS2 HV2 HC2 HN2
       cases mD with
       | true =>
        obtain ⟨v0_3, v1_3, v2_3, v3_3, v4_3, v5_3⟩ := HV3.out.six
        obtain ⟨c0_3, c1_3, c2_3, c3_3, c4_3, c5_3⟩ := HC3.out.six
        obtain ⟨n0_3, n1_3, n2_3, n3_3, n4_3, n5_3⟩ := HN3.out.six
        go_wp2_with fail
        go_ret2
        exact ⟨_, (by first | rfl | (rw [t0, t2, t3, t4]; rfl)), HB3.out⟩
       | false =>
        obtain ⟨v0_3, v1_3, v2_3, v3_3, v4_3, v5_3⟩ := HV3.out.six
        obtain ⟨c0_3, c1_3, c2_3, c3_3, c4_3, c5_3⟩ := HC3.out.six
        obtain ⟨n0_3, n1_3, n2_3, n3_3, n4_3, n5_3⟩ := HN3.out.six
        go_wp2_with fail
        refine (errNew _ _).mono ?_
        rintro e w4 ⟨et3, ep3, rfl, hb⟩
        clear v0_3 v1_3 v2_3 v3_3 v4_3 v5_3 c0_3 c1_3 c2_3 c3_3 c4_3 c5_3 n0_3 n1_3 n2_3 n3_3 n4_3 n5_3
        have HB4 := Aside0.mk (HB3.out.trans (hb.mono HB3.out.size)); have HS4 := Aside0.mk (HS3.out.below hb); have HV4 := Aside0.mk (HV3.out.below hb); have HC4 := Aside0.mk (HC3.out.below hb); have HN4 := Aside0.mk (HN3.out.below hb); clear hb HB3 HS3 HV3 HC3 HN3
        obtain ⟨v0_4, v1_4, v2_4, v3_4, v4_4, v5_4⟩ := HV4.out.six
        obtain ⟨c0_4, c1_4, c2_4, c3_4, c4_4, c5_4⟩ := HC4.out.six
        obtain ⟨n0_4, n1_4, n2_4, n3_4, n4_4, n5_4⟩ := HN4.out.six
        go_wp2_with fail
        go_ret2
        exact ⟨_, (by first | rfl | (rw [t0, t2, t3, t4]; rfl)), HB4.out⟩
      | false =>
       obtain ⟨v0_2, v1_2, v2_2, v3_2, v4_2, v5_2⟩ := HV2.out.six
       obtain ⟨c0_2, c1_2, c2_2, c3_2, c4_2, c5_2⟩ := HC2.out.six
       obtain ⟨n0_2, n1_2, n2_2, n3_2, n4_2, n5_2⟩ := HN2.out.six
       go_wp2_with fail
       clear v0_2 v1_2 v2_2 v3_2 v4_2 v5_2 c0_2 c1_2 c2_2 c3_2 c4_2 c5_2 n0_2 n1_2 n2_2 n3_2 n4_2 n5_2
       obtain ⟨v0_2, v1_2, v2_2, v3_2, v4_2, v5_2⟩ := HV2.out.sixR
       obtain ⟨c0_2, c1_2, c2_2, c3_2, c4_2, c5_2⟩ := HC2.out.sixR
       obtain ⟨n0_2, n1_2, n2_2, n3_2, n4_2, n5_2⟩ := HN2.out.sixR
       have c0 := fun d os => Calls.regrown_of (semver_Version_Major.calls x0 x1 x2 xp xm xo _ (grow (redrawn w2 d) os) rfl)
       have c1 := fun d os => Calls.regrown_of (semver_Version_Major.calls y0 y1 y2 yp ym yo _ (grow (redrawn w2 d) os) rfl)
       have c2 := fun d os => Calls.regrown_of (semver_Version_Minor.calls x0 x1 x2 xp xm xo _ (grow (redrawn w2 d) os) rfl)
       have c3 := fun d os => Calls.regrown_of (semver_Version_Minor.calls y0 y1 y2 yp ym yo _ (grow (redrawn w2 d) os) rfl)
       refine wp_region_quiet_below (by kernel_rfl) (by kernel_rfl) ?_
       repeat (first | go_big_quiet_step (first | exact c0 _ _ | exact c1 _ _ | exact c2 _ _ | exact c3 _ _) | quiet_step (first | exact c0 _ _ | exact c1 _ _ | exact c2 _ _ | exact c3 _ _))
       refine wpQuiet_nil ?_
       intro _ hw'; obtain ⟨⟨dq, osq⟩, hw''⟩ := hw'; subst hw''; clear c0 c1 c2 c3 v0_2 v1_2 v2_2 v3_2 v4_2 v5_2 c0_2 c1_2 c2_2 c3_2 c4_2 c5_2 n0_2 n1_2 n2_2 n3_2 n4_2 n5_2
       have hb := below_regrown w2 dq osq
       generalize grow (redrawn w2 dq) osq = w3 at *
       have HB3 := Aside0.mk (HB2.out.trans (hb.mono HB2.out.size)); have HS3 := Aside0.mk (HS2.out.below hb); have HV3 := Aside0.mk (HV2.out.below hb); have HC3 := Aside0.mk (HC2.out.below hb); have HN3 := Aside0.mk (HN2.out.below hb); clear hb HB2 HS2 HV2 HC2 HN2
       obtain ⟨v0_3, v1_3, v2_3, v3_3, v4_3, v5_3⟩ := HV3.out.six
       obtain ⟨c0_3, c1_3, c2_3, c3_3, c4_3, c5_3⟩ := HC3.out.six
       obtain ⟨n0_3, n1_3, n2_3, n3_3, n4_3, n5_3⟩ := HN3.out.six
       go_wp2_with fail
       go_ret2
       exact ⟨_, (by first | rfl | (rw [t0, t2, t3, t4]; rfl)), HB3.out⟩
     | false =>
      have t3' := bne_of t3
      replace t3' : (x0 != y0) = true := t3'
      obtain ⟨v0_2, v1_2, v2_2, v3_2, v4_2, v5_2⟩ := HV2.out.six
      obtain ⟨c0_2, c1_2, c2_2, c3_2, c4_2, c5_2⟩ := HC2.out.six
      obtain ⟨n0_2, n1_2, n2_2, n3_2, n4_2, n5_2⟩ := HN2.out.six
      go_wp2_with fail
      clear v0_2 v1_2 v2_2 v3_2 v4_2 v5_2 c0_2 c1_2 c2_2 c3_2 c4_2 c5_2 n0_2 n1_2 n2_2 n3_2 n4_2 n5_2
      obtain ⟨v0_2, v1_2, v2_2, v3_2, v4_2, v5_2⟩ := HV2.out.sixR
      obtain ⟨c0_2, c1_2, c2_2, c3_2, c4_2, c5_2⟩ := HC2.out.sixR
      obtain ⟨n0_2, n1_2, n2_2, n3_2, n4_2, n5_2⟩ := HN2.out.sixR
      have c0 := fun d os => Calls.regrown_of (semver_Version_Major.calls x0 x1 x2 xp xm xo _ (grow (redrawn w2 d) os) rfl)
      have c1 := fun d os => Calls.regrown_of (semver_Version_Major.calls y0 y1 y2 yp ym yo _ (grow (redrawn w2 d) os) rfl)
      refine wp_region_quiet_below (by kernel_rfl) (by kernel_rfl) ?_
      repeat (first | go_big_quiet_step (first | exact c0 _ _ | exact c1 _ _) | quiet_step (first | exact c0 _ _ | exact c1 _ _))
      refine wpQuiet_nil ?_
      intro _ hw'; obtain ⟨⟨dq, osq⟩, hw''⟩ := hw'; subst hw''; clear c0 c1 v0_2 v1_2 v2_2 v3_2 v4_2 v5_2 c0_2 c1_2 c2_2 c3_2 c4_2 c5_2 n0_2 n1_2 n2_2 n3_2 n4_2 n5_2
      have hb := below_regrown w2 dq osq
      generalize grow (redrawn w2 dq) osq = w3 at *
      have HB3 := Aside0.mk (HB2.out.trans (hb.mono HB2.out.size)); have HS3 := Aside0.mk (HS2.out.below hb); have HV3 := Aside0.mk (HV2.out.below hb); have HC3 := Aside0.mk (HC2.out.below hb); have HN3 := Aside0.mk (HN2.out.below hb); clear hb HB2 HS2 HV2 HC2 HN2
      obtain ⟨v0_3, v1_3, v2_3, v3_3, v4_3, v5_3⟩ := HV3.out.six
      obtain ⟨c0_3, c1_3, c2_3, c3_3, c4_3, c5_3⟩ := HC3.out.six
      obtain ⟨n0_3, n1_3, n2_3, n3_3, n4_3, n5_3⟩ := HN3.out.six
      go_wp2_with fail
      go_ret2
      exact ⟨_, (by first | rfl | (rw [t0, t2, t3]; rfl)), HB3.out⟩
   | false =>
    obtain ⟨v0_1, v1_1, v2_1, v3_1, v4_1, v5_1⟩ := HV1.out.six
    obtain ⟨c0_1, c1_1, c2_1, c3_1, c4_1, c5_1⟩ := HC1.out.six
    obtain ⟨n0_1, n1_1, n2_1, n3_1, n4_1, n5_1⟩ := HN1.out.six
    go_wp2_with fail
    refine (KCM.out _ HV1.out HN1.out HS1.out).mono ?_
    rintro e w2 ⟨rfl, hb⟩
    clear v0_1 v1_1 v2_1 v3_1 v4_1 v5_1 c0_1 c1_1 c2_1 c3_1 c4_1 c5_1 n0_1 n1_1 n2_1 n3_1 n4_1 n5_1
    have HB2 := Aside0.mk (HB1.out.trans (hb.mono HB1.out.size)); have HS2 := Aside0.mk (HS1.out.below hb); have HV2 := Aside0.mk (HV1.out.below hb); have HC2 := Aside0.mk (HC1.out.below hb); have HN2 := Aside0.mk (HN1.out.below hb); clear hb HB1 HS1 HV1 HC1 HN1
    cases t6 : (decide (r ≤ 0)) with
    | true =>
     obtain ⟨v0_2, v1_2, v2_2, v3_2, v4_2, v5_2⟩ := HV2.out.six
     obtain ⟨c0_2, c1_2, c2_2, c3_2, c4_2, c5_2⟩ := HC2.out.six
     obtain ⟨n0_2, n1_2, n2_2, n3_2, n4_2, n5_2⟩ := HN2.out.six
     go_wp2_with fail
     go_ret2
     exact ⟨_, (by first | rfl | (rw [t0, t6]; rfl)), HB2.out⟩
    | false =>
     obtain ⟨v0_2, v1_2, v2_2, v3_2, v4_2, v5_2⟩ := HV2.out.six
     obtain ⟨c0_2, c1_2, c2_2, c3_2, c4_2, c5_2⟩ := HC2.out.six
     obtain ⟨n0_2, n1_2, n2_2, n3_2, n4_2, n5_2⟩ := HN2.out.six
     go_wp2_with fail
     refine (errNew _ _).mono ?_
     rintro e w3 ⟨et2, ep2, rfl, hb⟩
     clear v0_2 v1_2 v2_2 v3_2 v4_2 v5_2 c0_2 c1_2 c2_2 c3_2 c4_2 c5_2 n0_2 n1_2 n2_2 n3_2 n4_2 n5_2
     have HB3 := Aside0.mk (HB2.out.trans (hb.mono HB2.out.size)); have HS3 := Aside0.mk (HS2.out.below hb); have HV3 := Aside0.mk (HV2.out.below hb); have HC3 := Aside0.mk (HC2.out.below hb); have HN3 := Aside0.mk (HN2.out.below hb); clear hb HB2 HS2 HV2 HC2 HN2
     obtain ⟨v0_3, v1_3, v2_3, v3_3, v4_3, v5_3⟩ := HV3.out.six
     obtain ⟨c0_3, c1_3, c2_3, c3_3, c4_3, c5_3⟩ := HC3.out.six
     obtain ⟨n0_3, n1_3, n2_3, n3_3, n4_3, n5_3⟩ := HN3.out.six
     go_wp2_with fail
     go_ret2
     exact ⟨_, (by first | rfl | (rw [t0, t6]; rfl)), HB3.out⟩
  | false =>
   obtain ⟨v0_1, v1_1, v2_1, v3_1, v4_1, v5_1⟩ := HV1.out.six
   obtain ⟨c0_1, c1_1, c2_1, c3_1, c4_1, c5_1⟩ := HC1.out.six
   obtain ⟨n0_1, n1_1, n2_1, n3_1, n4_1, n5_1⟩ := HN1.out.six
   go_wp2_with fail
   refine (errNew _ _).mono ?_
   rintro e w2 ⟨et1, ep1, rfl, hb⟩
   clear v0_1 v1_1 v2_1 v3_1 v4_1 v5_1 c0_1 c1_1 c2_1 c3_1 c4_1 c5_1 n0_1 n1_1 n2_1 n3_1 n4_1 n5_1
   have HB2 := Aside0.mk (HB1.out.trans (hb.mono HB1.out.size)); have HS2 := Aside0.mk (HS1.out.below hb); have HV2 := Aside0.mk (HV1.out.below hb); have HC2 := Aside0.mk (HC1.out.below hb); have HN2 := Aside0.mk (HN1.out.below hb); clear hb HB1 HS1 HV1 HC1 HN1
   obtain ⟨v0_2, v1_2, v2_2, v3_2, v4_2, v5_2⟩ := HV2.out.six
   obtain ⟨c0_2, c1_2, c2_2, c3_2, c4_2, c5_2⟩ := HC2.out.six
   obtain ⟨n0_2, n1_2, n2_2, n3_2, n4_2, n5_2⟩ := HN2.out.six
   go_wp2_with fail
   go_ret2
   exact ⟨_, (by first | rfl | (rw [t0]; rfl)), HB2.out⟩

end Go.Proofs.YtllkoadcpobdaaaDoor.KX
namespace Go.Proofs.YtllkoadcpobdaaaDoor.KX

open Go.RowKit Go.Lib Go.Proofs Go.Sort Go.Proofs.YtllkoadcpobdaaaDoor Go.Proofs.YtllkoadcpobdaaaDoor.Base Go.Proofs.YtllkoadcpobdaaaDoor.L Go.Proofs.YtllkoadcpobdaaaDoor.Bt Go.Proofs.YtllkoadcpobdaaaDoor.PX

open Go.Proofs.YtllkoadcpobdaaaDoorW.PrintWords Go.Proofs.YtllkoadcpobdaaaDoorW.PrintLast Go.Proofs.YtllkoadcpobdaaaDoorW.PrintMore

/-- What semver.constraintCaret answers, out of its tests: b0: (xp.toList == []); b1: lt; b2: (decide (0 < y0)); b3: (x0 == y0); b4: mD; b5: (y0 == 0); b6: (decide (0 < x0)); b7: (decide (0 < y1)); b8: (x1 == y1); b9: pD; b10: (y1 == 0); b11: (decide (0 < x1)); b12: (y2 == x2); b13: pre. -/
def cCaret_r (b0 b1 b2 b3 b4 b5 b6 b7 b8 b9 b10 b11 b12 b13 : Bool) : Bool := bif b0 then (bif b1 then false else (bif b2 then (bif b3 then true else false) else (bif b4 then (bif b3 then true else false) else (bif b5 then (bif b6 then false else (bif b7 then (bif b8 then true else false) else (bif b9 then (bif b8 then true else false) else (bif b10 then (bif b11 then false else (bif b12 then true else false)) else (bif b12 then true else false))))) else (bif b7 then (bif b8 then true else false) else (bif b9 then (bif b8 then true else false) else (bif b10 then (bif b11 then false else (bif b12 then true else false)) else (bif b12 then true else false)))))))) else (bif b13 then (bif b1 then false else (bif b2 then (bif b3 then true else false) else (bif b4 then (bif b3 then true else false) else (bif b5 then (bif b6 then false else (bif b7 then (bif b8 then true else false) else (bif b9 then (bif b8 then true else false) else (bif b10 then (bif b11 then false else (bif b12 then true else false)) else (bif b12 then true else false))))) else (bif b7 then (bif b8 then true else false) else (bif b9 then (bif b8 then true else false) else (bif b10 then (bif b11 then false else (bif b12 then true else false)) else (bif b12 then true else false)))))))) else false)

end Go.Proofs.YtllkoadcpobdaaaDoor.KX
