/- The row and the tied card of FnSemverApart, out of its printed walk and its plain law. For every input that the statement lets in. -/
import Derived.Test.YtllkoadcpobdaaaDoorZCardSemverApart7
import Derived.Test.YtllkoadcpobdaaaDoorZCardSemverApart8
import Derived.Test.YtllkoadcpobdaaaDoorZCardSemverApart9
import Derived.Test.YtllkoadcpobdaaaDoorZCardSemverApart12
import Derived.Test.YtllkoadcpobdaaaDoorZCardSemverApart13
import Derived.Test.YtllkoadcpobdaaaDoorZCardSemverApart14
import Derived.BigQuiet
import Derived.Lib.QuietBelow
namespace Go.Proofs.YtllkoadcpobdaaaDoor.Base
end Go.Proofs.YtllkoadcpobdaaaDoor.Base
namespace Go.Proofs.YtllkoadcpobdaaaDoor.Bt
end Go.Proofs.YtllkoadcpobdaaaDoor.Bt
namespace Go.Proofs.YtllkoadcpobdaaaDoor.L
end Go.Proofs.YtllkoadcpobdaaaDoor.L
namespace Go.Proofs.YtllkoadcpobdaaaDoor.PX
end Go.Proofs.YtllkoadcpobdaaaDoor.PX
namespace Go.Proofs.YtllkoadcpobdaaaDoor.KX

open Go.RowKit Go.Lib Go.Proofs Go.Sort Go.Proofs.YtllkoadcpobdaaaDoor Go.Proofs.YtllkoadcpobdaaaDoor.Base Go.Proofs.YtllkoadcpobdaaaDoor.L Go.Proofs.YtllkoadcpobdaaaDoor.Bt Go.Proofs.YtllkoadcpobdaaaDoor.PX

open Go.Proofs.YtllkoadcpobdaaaDoorW.PrintWords Go.Proofs.YtllkoadcpobdaaaDoorW.PrintLast Go.Proofs.YtllkoadcpobdaaaDoorW.PrintMore

set_option maxHeartbeats 100000000 in
set_option maxRecDepth 100000 in
theorem cCaret_calls (x0 x1 x2 : Int) (xp xm xo : ByteArray) (y0 y1 y2 : Int) (yp ym yo : ByteArray) (og op : ByteArray) (bv bc bn : Nat) (mD d pD pre : Bool) (lt : Bool) (w : World) (hV : At w bv [.int .u64 x0, .int .u64 x1, .int .u64 x2, .string xp, .string xm, .string xo]) (hC : At w bc [.pointer (some ⟨bn, 0, none⟩), .string og, .string op, .bool mD, .bool d, .bool pD]) (hN : At w bn [.int .u64 y0, .int .u64 y1, .int .u64 y2, .string yp, .string ym, .string yo]) (hStd : Std w) (KLT : Hid (∀ (W : World), At W bv [.int .u64 x0, .int .u64 x1, .int .u64 x2, .string xp, .string xm, .string xo] → At W bn [.int .u64 y0, .int .u64 y1, .int .u64 y2, .string yp, .string ym, .string yo] → Std W → Calls Tryd.prog 61 #[.pointer (some ⟨bv, 0, none⟩), .pointer (some ⟨bn, 0, none⟩)] W fun e w' => e = .returned (.bool lt) ∧ Below W.heap.size W w'))  :
  Calls Tryd.prog 105 #[.pointer (some ⟨bv, 0, none⟩), .pointer (some ⟨bc, 0, none⟩), .bool pre] w (RetB w (cCaret_r (xp.toList == []) lt (decide (0 < y0)) (x0 == y0) mD (y0 == 0) (decide (0 < x0)) (decide (0 < y1)) (x1 == y1) pD (y1 == 0) (decide (0 < x1)) (y2 == x2) pre)) := by
 have HB0 := Aside0.mk (Below.refl w.heap.size w); have HS0 := Aside0.mk hStd; have HV0 := Aside0.mk hV; have HC0 := Aside0.mk hC; have HN0 := Aside0.mk hN; clear hStd hV hC hN
 obtain ⟨v0_0, v1_0, v2_0, v3_0, v4_0, v5_0⟩ := HV0.out.six
 obtain ⟨c0_0, c1_0, c2_0, c3_0, c4_0, c5_0⟩ := HC0.out.six
 obtain ⟨n0_0, n1_0, n2_0, n3_0, n4_0, n5_0⟩ := HN0.out.six
 go_enter Tryd.func105, Tryd.ntmps105
 go_wp2_with fail
 refine (semver_Version_Prerelease.calls x0 x1 x2 xp xm xo _ _ rfl).mono ?_
 rintro e w1 ⟨rfl, hb⟩
 clear v0_0 v1_0 v2_0 v3_0 v4_0 v5_0 c0_0 c1_0 c2_0 c3_0 c4_0 c5_0 n0_0 n1_0 n2_0 n3_0 n4_0 n5_0
 have HB1 := Aside0.mk (HB0.out.trans (hb.mono HB0.out.size)); have HS1 := Aside0.mk (HS0.out.below hb); have HV1 := Aside0.mk (HV0.out.below hb); have HC1 := Aside0.mk (HC0.out.below hb); have HN1 := Aside0.mk (HN0.out.below hb); clear hb HB0 HS0 HV0 HC0 HN0
 cases t0 : (xp.toList == []) with
 | true =>
  have t0' := bne_of t0
  replace t0' : (xp.toList != []) = false := t0'
  obtain ⟨v0_1, v1_1, v2_1, v3_1, v4_1, v5_1⟩ := HV1.out.six
  obtain ⟨c0_1, c1_1, c2_1, c3_1, c4_1, c5_1⟩ := HC1.out.six
  obtain ⟨n0_1, n1_1, n2_1, n3_1, n4_1, n5_1⟩ := HN1.out.six
  go_wp2_with fail
  refine (KLT.out _ HV1.out HN1.out HS1.out).mono ?_
  rintro e w2 ⟨rfl, hb⟩
  clear v0_1 v1_1 v2_1 v3_1 v4_1 v5_1 c0_1 c1_1 c2_1 c3_1 c4_1 c5_1 n0_1 n1_1 n2_1 n3_1 n4_1 n5_1
  have HB2 := Aside0.mk (HB1.out.trans (hb.mono HB1.out.size)); have HS2 := Aside0.mk (HS1.out.below hb); have HV2 := Aside0.mk (HV1.out.below hb); have HC2 := Aside0.mk (HC1.out.below hb); have HN2 := Aside0.mk (HN1.out.below hb); clear hb HB1 HS1 HV1 HC1 HN1
  cases lt with
  | true =>
   obtain ⟨v0_2, v1_2, v2_2, v3_2, v4_2, v5_2⟩ := HV2.out.six
   obtain ⟨c0_2, c1_2, c2_2, c3_2, c4_2, c5_2⟩ := HC2.out.six
   obtain ⟨n0_2, n1_2, n2_2, n3_2, n4_2, n5_2⟩ := HN2.out.six
   go_wp2_with fail
   refine (errNew _ _).mono ?_
   rintro e w3 ⟨et2, ep2, rfl, hb⟩
   clear v0_2 v1_2 v2_2 v3_2 v4_2 v5_2 c0_2 c1_2 c2_2 c3_2 c4_2 c5_2 n0_2 n1_2 n2_2 n3_2 n4_2 n5_2
   have HB3 := Aside0.mk (HB2.out.trans (hb.mono HB2.out.size)); have HS3 := Aside0.mk (HS2.out.below hb); have HV3 := Aside0.mk (HV2.out.below hb); have HC3 := Aside0.mk (HC2.out.below hb); have HN3 := Aside0.mk (HN2.out.below hb); clear hb HB2 HS2 HV2 HC2 HN2
   obtain ⟨v0_3, v1_3, v2_3, v3_3, v4_3, v5_3⟩ := HV3.out.six
   obtain ⟨c0_3, c1_3, c2_3, c3_3, c4_3, c5_3⟩ := HC3.out.six
   obtain ⟨n0_3, n1_3, n2_3, n3_3, n4_3, n5_3⟩ := HN3.out.six
   go_wp2_with fail
   go_ret2
   exact ⟨_, (by first | rfl | (rw [t0]; rfl)), HB3.out⟩
  | false =>
   obtain ⟨v0_2, v1_2, v2_2, v3_2, v4_2, v5_2⟩ := HV2.out.six
   obtain ⟨c0_2, c1_2, c2_2, c3_2, c4_2, c5_2⟩ := HC2.out.six
   obtain ⟨n0_2, n1_2, n2_2, n3_2, n4_2, n5_2⟩ := HN2.out.six
   go_wp2_with fail
   refine (semver_Version_Major.calls y0 y1 y2 yp ym yo _ _ rfl).mono ?_
   rintro e w3 ⟨rfl, hb⟩
   clear v0_2 v1_2 v2_2 v3_2 v4_2 v5_2 c0_2 c1_2 c2_2 c3_2 c4_2 c5_2 n0_2 n1_2 n2_2 n3_2 n4_2 n5_2
   have HB3 := Aside0.mk (HB2.out.trans (hb.mono HB2.out.size)); have HS3 := Aside0.mk (HS2.out.below hb); have HV3 := Aside0.mk (HV2.out.below hb); have HC3 := Aside0.mk (HC2.out.below hb); have HN3 := Aside0.mk (HN2.out.below hb); clear hb HB2 HS2 HV2 HC2 HN2
   cases t2 : (decide (0 < y0)) with
   | true =>
    obtain ⟨v0_3, v1_3, v2_3, v3_3, v4_3, v5_3⟩ := HV3.out.six
    obtain ⟨c0_3, c1_3, c2_3, c3_3, c4_3, c5_3⟩ := HC3.out.six
    obtain ⟨n0_3, n1_3, n2_3, n3_3, n4_3, n5_3⟩ := HN3.out.six
    go_wp2_with fail
    clear v0_3 v1_3 v2_3 v3_3 v4_3 v5_3 c0_3 c1_3 c2_3 c3_3 c4_3 c5_3 n0_3 n1_3 n2_3 n3_3 n4_3 n5_3
    obtain ⟨v0_3, v1_3, v2_3, v3_3, v4_3, v5_3⟩ := HV3.out.sixR
    obtain ⟨c0_3, c1_3, c2_3, c3_3, c4_3, c5_3⟩ := HC3.out.sixR
    obtain ⟨n0_3, n1_3, n2_3, n3_3, n4_3, n5_3⟩ := HN3.out.sixR
    have c0 := fun d os => Calls.regrown_of (semver_Version_Major.calls x0 x1 x2 xp xm xo _ (grow (redrawn w3 d) os) rfl)
    have c1 := fun d os => Calls.regrown_of (semver_Version_Major.calls y0 y1 y2 yp ym yo _ (grow (redrawn w3 d) os) rfl)
    refine wp_region_quiet_below (by kernel_rfl) (by kernel_rfl) ?_
    repeat (first | go_big_quiet_step (first | exact c0 _ _ | exact c1 _ _) | quiet_step (first | exact c0 _ _ | exact c1 _ _))
    refine wpQuiet_nil ?_
    intro _ hw'; obtain ⟨⟨dq, osq⟩, hw''⟩ := hw'; subst hw''; clear c0 c1 v0_3 v1_3 v2_3 v3_3 v4_3 v5_3 c0_3 c1_3 c2_3 c3_3 c4_3 c5_3 n0_3 n1_3 n2_3 n3_3 n4_3 n5_3
    have hb := below_regrown w3 dq osq
    generalize grow (redrawn w3 dq) osq = w4 at *
    have HB4 := Aside0.mk (HB3.out.trans (hb.mono HB3.out.size)); have HS4 := Aside0.mk (HS3.out.below hb); have HV4 := Aside0.mk (HV3.out.below hb); have HC4 := Aside0.mk (HC3.out.below hb); have HN4 := Aside0.mk (HN3.out.below hb); clear hb HB3 HS3 HV3 HC3 HN3
    cases t3 : (x0 == y0) with
    | true =>
     have t3' := bne_of t3
     replace t3' : (x0 != y0) = false := t3'
     obtain ⟨v0_4, v1_4, v2_4, v3_4, v4_4, v5_4⟩ := HV4.out.six
     obtain ⟨c0_4, c1_4, c2_4, c3_4, c4_4, c5_4⟩ := HC4.out.six
     obtain ⟨n0_4, n1_4, n2_4, n3_4, n4_4, n5_4⟩ := HN4.out.six
     go_wp2_with fail
     go_ret2
     exact ⟨_, (by first | rfl | (rw [t0, t2, t3]; rfl)), HB4.out⟩
    | false =>
     have t3' := bne_of t3
     replace t3' : (x0 != y0) = true := t3'
     obtain ⟨v0_4, v1_4, v2_4, v3_4, v4_4, v5_4⟩ := HV4.out.six
     obtain ⟨c0_4, c1_4, c2_4, c3_4, c4_4, c5_4⟩ := HC4.out.six
     obtain ⟨n0_4, n1_4, n2_4, n3_4, n4_4, n5_4⟩ := HN4.out.six
     go_wp2_with fail
     refine (errNew _ _).mono ?_
     rintro e w5 ⟨et4, ep4, rfl, hb⟩
     clear v0_4 v1_4 v2_4 v3_4 v4_4 v5_4 c0_4 c1_4 c2_4 c3_4 c4_4 c5_4 n0_4 n1_4 n2_4 n3_4 n4_4 n5_4
     have HB5 := Aside0.mk (HB4.out.trans (hb.mono HB4.out.size)); have HS5 := Aside0.mk (HS4.out.below hb); have HV5 := Aside0.mk (HV4.out.below hb); have HC5 := Aside0.mk (HC4.out.below hb); have HN5 := Aside0.mk (HN4.out.below hb); clear hb HB4 HS4 HV4 HC4 HN4
     obtain ⟨v0_5, v1_5, v2_5, v3_5, v4_5, v5_5⟩ := HV5.out.six
     obtain ⟨c0_5, c1_5, c2_5, c3_5, c4_5, c5_5⟩ := HC5.out.six
     obtain ⟨n0_5, n1_5, n2_5, n3_5, n4_5, n5_5⟩ := HN5.out.six
     go_wp2_with fail
     go_ret2
     exact ⟨_, (by first | rfl | (rw [t0, t2, t3]; rfl)), HB5.out⟩
   | false =>
    cases mD with
    | true =>
     obtain ⟨v0_3, v1_3, v2_3, v3_3, v4_3, v5_3⟩ := HV3.out.six
     obtain ⟨c0_3, c1_3, c2_3, c3_3, c4_3, c5_3⟩ := HC3.out.six
     obtain ⟨n0_3, n1_3, n2_3, n3_3, n4_3, n5_3⟩ := HN3.out.six
     go_wp2_with fail
     clear v0_3 v1_3 v2_3 v3_3 v4_3 v5_3 c0_3 c1_3 c2_3 c3_3 c4_3 c5_3 n0_3 n1_3 n2_3 n3_3 n4_3 n5_3
     obtain ⟨v0_3, v1_3, v2_3, v3_3, v4_3, v5_3⟩ := HV3.out.sixR
     obtain ⟨c0_3, c1_3, c2_3, c3_3, c4_3, c5_3⟩ := HC3.out.sixR
     obtain ⟨n0_3, n1_3, n2_3, n3_3, n4_3, n5_3⟩ := HN3.out.sixR
     have c0 := fun d os => Calls.regrown_of (semver_Version_Major.calls x0 x1 x2 xp xm xo _ (grow (redrawn w3 d) os) rfl)
     have c1 := fun d os => Calls.regrown_of (semver_Version_Major.calls y0 y1 y2 yp ym yo _ (grow (redrawn w3 d) os) rfl)
     refine wp_region_quiet_below (by kernel_rfl) (by kernel_rfl) ?_
     repeat (first | go_big_quiet_step (first | exact c0 _ _ | exact c1 _ _) | quiet_step (first | exact c0 _ _ | exact c1 _ _))
     refine wpQuiet_nil ?_
     intro _ hw'; obtain ⟨⟨dq, osq⟩, hw''⟩ := hw'; subst hw''; clear c0 c1 v0_3 v1_3 v2_3 v3_3 v4_3 v5_3 c0_3 c1_3 c2_3 c3_3 c4_3 c5_3 n0_3 n1_3 n2_3 n3_3 n4_3 n5_3
     have hb := below_regrown w3 dq osq
     generalize grow (redrawn w3 dq) osq = w4 at *
     have HB4 := Aside0.mk (HB3.out.trans (hb.mono HB3.out.size)); have HS4 := Aside0.mk (HS3.out.below hb); have HV4 := Aside0.mk (HV3.out.below hb); have HC4 := Aside0.mk (HC3.out.below hb); have HN4 := Aside0.mk (HN3.out.below hb); clear hb HB3 HS3 HV3 HC3 HN3
     cases t3 : (x0 == y0) with
     | true =>
      have t3' := bne_of t3
      replace t3' : (x0 != y0) = false := t3'
      obtain ⟨v0_4, v1_4, v2_4, v3_4, v4_4, v5_4⟩ := HV4.out.six
      obtain ⟨c0_4, c1_4, c2_4, c3_4, c4_4, c5_4⟩ := HC4.out.six
      obtain ⟨n0_4, n1_4, n2_4, n3_4, n4_4, n5_4⟩ := HN4.out.six
      go_wp2_with fail
      go_ret2
      exact ⟨_, (by first | rfl | (rw [t0, t2, t3]; rfl)), HB4.out⟩
     | false =>
      have t3' := bne_of t3
      replace t3' : (x0 != y0) = true := t3'
      obtain ⟨v0_4, v1_4, v2_4, v3_4, v4_4, v5_4⟩ := HV4.out.six
      obtain ⟨c0_4, c1_4, c2_4, c3_4, c4_4, c5_4⟩ := HC4.out.six
      obtain ⟨n0_4, n1_4, n2_4, n3_4, n4_4, n5_4⟩ := HN4.out.six
      go_wp2_with fail
      refine (errNew _ _).mono ?_
      rintro e w5 ⟨et4, ep4, rfl, hb⟩
      clear v0_4 v1_4 v2_4 v3_4 v4_4 v5_4 c0_4 c1_4 c2_4 c3_4 c4_4 c5_4 n0_4 n1_4 n2_4 n3_4 n4_4 n5_4
      have HB5 := Aside0.mk (HB4.out.trans (hb.mono HB4.out.size)); have HS5 := Aside0.mk (HS4.out.below hb); have HV5 := Aside0.mk (HV4.out.below hb); have HC5 := Aside0.mk (HC4.out.below hb); have HN5 := Aside0.mk (HN4.out.below hb); clear hb HB4 HS4 HV4 HC4 HN4
      obtain ⟨v0_5, v1_5, v2_5, v3_5, v4_5, v5_5⟩ := HV5.out.six
      obtain ⟨c0_5, c1_5, c2_5, c3_5, c4_5, c5_5⟩ := HC5.out.six
      obtain ⟨n0_5, n1_5, n2_5, n3_5, n4_5, n5_5⟩ := HN5.out.six
      go_wp2_with fail
      go_ret2
      exact ⟨_, (by first | rfl | (rw [t0, t2, t3]; rfl)), HB5.out⟩
    | false =>
     obtain ⟨v0_3, v1_3, v2_3, v3_3, v4_3, v5_3⟩ := HV3.out.six
     obtain ⟨c0_3, c1_3, c2_3, c3_3, c4_3, c5_3⟩ := HC3.out.six
     obtain ⟨n0_3, n1_3, n2_3, n3_3, n4_3, n5_3⟩ := HN3.out.six
     go_wp2_with fail
     refine (semver_Version_Major.calls y0 y1 y2 yp ym yo _ _ rfl).mono ?_
     rintro e w4 ⟨rfl, hb⟩
     clear v0_3 v1_3 v2_3 v3_3 v4_3 v5_3 c0_3 c1_3 c2_3 c3_3 c4_3 c5_3 n0_3 n1_3 n2_3 n3_3 n4_3 n5_3
     have HB4 := Aside0.mk (HB3.out.trans (hb.mono HB3.out.size)); have HS4 := Aside0.mk (HS3.out.below hb); have HV4 := Aside0.mk (HV3.out.below hb); have HC4 := Aside0.mk (HC3.out.below hb); have HN4 := Aside0.mk (HN3.out.below hb); clear hb HB3 HS3 HV3 HC3 HN3
     cases t5 : (y0 == 0) with
     | true =>
      have t5' := bne_of t5
      replace t5' : (y0 != 0) = false := t5'
      obtain ⟨v0_4, v1_4, v2_4, v3_4, v4_4, v5_4⟩ := HV4.out.six
      obtain ⟨c0_4, c1_4, c2_4, c3_4, c4_4, c5_4⟩ := HC4.out.six
      obtain ⟨n0_4, n1_4, n2_4, n3_4, n4_4, n5_4⟩ := HN4.out.six
      go_wp2_with fail
      refine (semver_Version_Major.calls x0 x1 x2 xp xm xo _ _ rfl).mono ?_
      rintro e w5 ⟨rfl, hb⟩
      clear v0_4 v1_4 v2_4 v3_4 v4_4 v5_4 c0_4 c1_4 c2_4 c3_4 c4_4 c5_4 n0_4 n1_4 n2_4 n3_4 n4_4 n5_4
      have HB5 := Aside0.mk (HB4.out.trans (hb.mono HB4.out.size)); have HS5 := Aside0.mk (HS4.out.below hb); have HV5 := Aside0.mk (HV4.out.below hb); have HC5 := Aside0.mk (HC4.out.below hb); have HN5 := Aside0.mk (HN4.out.below hb); clear hb HB4 HS4 HV4 HC4 HN4
      cases t6 : (decide (0 < x0)) with
      | true =>
       obtain ⟨v0_5, v1_5, v2_5, v3_5, v4_5, v5_5⟩ := HV5.out.six
       obtain ⟨c0_5, c1_5, c2_5, c3_5, c4_5, c5_5⟩ := HC5.out.six
       obtain ⟨n0_5, n1_5, n2_5, n3_5, n4_5, n5_5⟩ := HN5.out.six
       go_wp2_with fail
       refine (errNew _ _).mono ?_
       rintro e w6 ⟨et5, ep5, rfl, hb⟩
       clear v0_5 v1_5 v2_5 v3_5 v4_5 v5_5 c0_5 c1_5 c2_5 c3_5 c4_5 c5_5 n0_5 n1_5 n2_5 n3_5 n4_5 n5_5
       have HB6 := Aside0.mk (HB5.out.trans (hb.mono HB5.out.size)); have HS6 := Aside0.mk (HS5.out.below hb); have HV6 := Aside0.mk (HV5.out.below hb); have HC6 := Aside0.mk (HC5.out.below hb); have HN6 := Aside0.mk (HN5.out.below hb); clear hb HB5 HS5 HV5 HC5 HN5
       obtain ⟨v0_6, v1_6, v2_6, v3_6, v4_6, v5_6⟩ := HV6.out.six
       obtain ⟨c0_6, c1_6, c2_6, c3_6, c4_6, c5_6⟩ := HC6.out.six
       obtain ⟨n0_6, n1_6, n2_6, n3_6, n4_6, n5_6⟩ := HN6.out.six
       go_wp2_with fail
       go_ret2
       exact ⟨_, (by first | rfl | (rw [t0, t2, t5, t6]; rfl)), HB6.out⟩
      | false =>
       obtain ⟨v0_5, v1_5, v2_5, v3_5, v4_5, v5_5⟩ := HV5.out.six
       obtain ⟨c0_5, c1_5, c2_5, c3_5, c4_5, c5_5⟩ := HC5.out.six
       obtain ⟨n0_5, n1_5, n2_5, n3_5, n4_5, n5_5⟩ := HN5.out.six
       go_wp2_with fail
       refine (semver_Version_Minor.calls y0 y1 y2 yp ym yo _ _ rfl).mono ?_
       rintro e w6 ⟨rfl, hb⟩
       clear v0_5 v1_5 v2_5 v3_5 v4_5 v5_5 c0_5 c1_5 c2_5 c3_5 c4_5 c5_5 n0_5 n1_5 n2_5 n3_5 n4_5 n5_5
       have HB6 := Aside0.mk (HB5.out.trans (hb.mono HB5.out.size)); have HS6 := Aside0.mk (HS5.out.below hb); have HV6 := Aside0.mk (HV5.out.below hb); have HC6 := Aside0.mk (HC5.out.below hb); have HN6 := Aside0.mk (HN5.out.below hb); clear hb HB5 HS5 HV5 HC5 HN5
       cases t7 : (decide (0 < y1)) with
       | true =>
        obtain ⟨v0_6, v1_6, v2_6, v3_6, v4_6, v5_6⟩ := HV6.out.six
        obtain ⟨c0_6, c1_6, c2_6, c3_6, c4_6, c5_6⟩ := HC6.out.six
        obtain ⟨n0_6, n1_6, n2_6, n3_6, n4_6, n5_6⟩ := HN6.out.six
        go_wp2_with fail
        clear v0_6 v1_6 v2_6 v3_6 v4_6 v5_6 c0_6 c1_6 c2_6 c3_6 c4_6 c5_6 n0_6 n1_6 n2_6 n3_6 n4_6 n5_6
        obtain ⟨v0_6, v1_6, v2_6, v3_6, v4_6, v5_6⟩ := HV6.out.sixR
        obtain ⟨c0_6, c1_6, c2_6, c3_6, c4_6, c5_6⟩ := HC6.out.sixR
        obtain ⟨n0_6, n1_6, n2_6, n3_6, n4_6, n5_6⟩ := HN6.out.sixR
        have c0 := fun d os => Calls.regrown_of (semver_Version_Minor.calls x0 x1 x2 xp xm xo _ (grow (redrawn w6 d) os) rfl)
        have c1 := fun d os => Calls.regrown_of (semver_Version_Minor.calls y0 y1 y2 yp ym yo _ (grow (redrawn w6 d) os) rfl)
        refine wp_region_quiet_below (by kernel_rfl) (by kernel_rfl) ?_
        repeat (first | go_big_quiet_step (first | exact c0 _ _ | exact c1 _ _) | quiet_step (first | exact c0 _ _ | exact c1 _ _))
        refine wpQuiet_nil ?_
        intro _ hw'; obtain ⟨⟨dq, osq⟩, hw''⟩ := hw'; subst hw''; clear c0 c1 v0_6 v1_6 v2_6 v3_6 v4_6 v5_6 c0_6 c1_6 c2_6 c3_6 c4_6 c5_6 n0_6 n1_6 n2_6 n3_6 n4_6 n5_6
        have hb := below_regrown w6 dq osq
        generalize grow (redrawn w6 dq) osq = w7 at *
        have HB7 := Aside0.mk (HB6.out.trans (hb.mono HB6.out.size)); have HS7 := Aside0.mk (HS6.out.below hb); have HV7 := Aside0.mk (HV6.out.below hb); have HC7 := Aside0.mk (HC6.out.below hb); have HN7 := Aside0.mk (HN6.out.below hb); clear hb HB6 HS6 HV6 HC6 HN6
        cases t8 : (x1 == y1) with
        | true =>
         have t8' := bne_of t8
         replace t8' : (x1 != y1) = false := t8'
         obtain ⟨v0_7, v1_7, v2_7, v3_7, v4_7, v5_7⟩ := HV7.out.six
         obtain ⟨c0_7, c1_7, c2_7, c3_7, c4_7, c5_7⟩ := HC7.out.six
         obtain ⟨n0_7, n1_7, n2_7, n3_7, n4_7, n5_7⟩ := HN7.out.six
         go_wp2_with fail
         go_ret2
         exact ⟨_, (by first | rfl | (rw [t0, t2, t5, t6, t7, t8]; rfl)), HB7.out⟩
        | false =>
         have t8' := bne_of t8
         replace t8' : (x1 != y1) = true := t8'
         obtain ⟨v0_7, v1_7, v2_7, v3_7, v4_7, v5_7⟩ := HV7.out.six
         obtain ⟨c0_7, c1_7, c2_7, c3_7, c4_7, c5_7⟩ := HC7.out.six
         obtain ⟨n0_7, n1_7, n2_7, n3_7, n4_7, n5_7⟩ := HN7.out.six
         go_wp2_with fail
         refine (errNew _ _).mono ?_
         rintro e w8 ⟨et7, ep7, rfl, hb⟩
         clear v0_7 v1_7 v2_7 v3_7 v4_7 v5_7 c0_7 c1_7 c2_7 c3_7 c4_7 c5_7 n0_7 n1_7 n2_7 n3_7 n4_7 n5_7
         have HB8 := Aside0.mk (HB7.out.trans (hb.mono HB7.out.size)); have HS8 := Aside0.mk (HS7.out.below hb); have HV8 := Aside0.mk (HV7.out.below hb); have HC8 := Aside0.mk (HC7.out.below hb); have HN8 := Aside0.mk (HN7.out.below hb); clear hb HB7 HS7 HV7 HC7 HN7
         obtain ⟨v0_8, v1_8, v2_8, v3_8, v4_8, v5_8⟩ := HV8.out.six
         obtain ⟨c0_8, c1_8, c2_8, c3_8, c4_8, c5_8⟩ := HC8.out.six
         obtain ⟨n0_8, n1_8, n2_8, n3_8, n4_8, n5_8⟩ := HN8.out.six
         go_wp2_with fail
         go_ret2
         exact ⟨_, (by first | rfl | (rw [t0, t2, t5, t6, t7, t8]; rfl)), HB8.out⟩
       | false =>
        cases pD with
        | true =>
         obtain ⟨v0_6, v1_6, v2_6, v3_6, v4_6, v5_6⟩ := HV6.out.six
         obtain ⟨c0_6, c1_6, c2_6, c3_6, c4_6, c5_6⟩ := HC6.out.six
         obtain ⟨n0_6, n1_6, n2_6, n3_6, n4_6, n5_6⟩ := HN6.out.six
         go_wp2_with fail
         clear v0_6 v1_6 v2_6 v3_6 v4_6 v5_6 c0_6 c1_6 c2_6 c3_6 c4_6 c5_6 n0_6 n1_6 n2_6 n3_6 n4_6 n5_6
         obtain ⟨v0_6, v1_6, v2_6, v3_6, v4_6, v5_6⟩ := HV6.out.sixR
         obtain ⟨c0_6, c1_6, c2_6, c3_6, c4_6, c5_6⟩ := HC6.out.sixR
         obtain ⟨n0_6, n1_6, n2_6, n3_6, n4_6, n5_6⟩ := HN6.out.sixR
         have c0 := fun d os => Calls.regrown_of (semver_Version_Minor.calls x0 x1 x2 xp xm xo _ (grow (redrawn w6 d) os) rfl)
         have c1 := fun d os => Calls.regrown_of (semver_Version_Minor.calls y0 y1 y2 yp ym yo _ (grow (redrawn w6 d) os) rfl)
         refine wp_region_quiet_below (by kernel_rfl) (by kernel_rfl) ?_
         repeat (first | go_big_quiet_step (first | exact c0 _ _ | exact c1 _ _) | quiet_step (first | exact c0 _ _ | exact c1 _ _))
         refine wpQuiet_nil ?_
         intro _ hw'; obtain ⟨⟨dq, osq⟩, hw''⟩ := hw'; subst hw''; clear c0 c1 v0_6 v1_6 v2_6 v3_6 v4_6 v5_6 c0_6 c1_6 c2_6 c3_6 c4_6 c5_6 n0_6 n1_6 n2_6 n3_6 n4_6 n5_6
         have hb := below_regrown w6 dq osq
         generalize grow (redrawn w6 dq) osq = w7 at *
         have HB7 := Aside0.mk (HB6.out.trans (hb.mono HB6.out.size)); have HS7 := Aside0.mk (HS6.out.below hb); have HV7 := Aside0.mk (HV6.out.below hb); have HC7 := Aside0.mk (HC6.out.below hb); have HN7 := Aside0.mk (HN6.out.below hb); clear hb HB6 HS6 HV6 HC6 HN6
         cases t8 : (x1 == y1) with
         | true =>
          have t8' := bne_of t8
          replace t8' : (x1 != y1) = false := t8'
          obtain ⟨v0_7, v1_7, v2_7, v3_7, v4_7, v5_7⟩ := HV7.out.six
          obtain ⟨c0_7, c1_7, c2_7, c3_7, c4_7, c5_7⟩ := HC7.out.six
          obtain ⟨n0_7, n1_7, n2_7, n3_7, n4_7, n5_7⟩ := HN7.out.six
          go_wp2_with fail
          go_ret2
          exact ⟨_, (by first | rfl | (rw [t0, t2, t5, t6, t7, t8]; rfl)), HB7.out⟩
         | false =>
          have t8' := bne_of t8
          replace t8' : (x1 != y1) = true := t8'
          obtain ⟨v0_7, v1_7, v2_7, v3_7, v4_7, v5_7⟩ := HV7.out.six
          obtain ⟨c0_7, c1_7, c2_7, c3_7, c4_7, c5_7⟩ := HC7.out.six
          obtain ⟨n0_7, n1_7, n2_7, n3_7, n4_7, n5_7⟩ := HN7.out.six
          go_wp2_with fail
          refine (errNew _ _).mono ?_
          rintro e w8 ⟨et7, ep7, rfl, hb⟩
          clear v0_7 v1_7 v2_7 v3_7 v4_7 v5_7 c0_7 c1_7 c2_7 c3_7 c4_7 c5_7 n0_7 n1_7 n2_7 n3_7 n4_7 n5_7
          have HB8 := Aside0.mk (HB7.out.trans (hb.mono HB7.out.size)); have HS8 := Aside0.mk (HS7.out.below hb); have HV8 := Aside0.mk (HV7.out.below hb); have HC8 := Aside0.mk (HC7.out.below hb); have HN8 := Aside0.mk (HN7.out.below hb); clear hb HB7 HS7 HV7 HC7 HN7
          obtain ⟨v0_8, v1_8, v2_8, v3_8, v4_8, v5_8⟩ := HV8.out.six
          obtain ⟨c0_8, c1_8, c2_8, c3_8, c4_8, c5_8⟩ := HC8.out.six
          obtain ⟨n0_8, n1_8, n2_8, n3_8, n4_8, n5_8⟩ := HN8.out.six
          go_wp2_with fail
          go_ret2
          exact ⟨_, (by first | rfl | (rw [t0, t2, t5, t6, t7, t8]; rfl)), HB8.out⟩
        | false =>
         obtain ⟨v0_6, v1_6, v2_6, v3_6, v4_6, v5_6⟩ := HV6.out.six
         obtain ⟨c0_6, c1_6, c2_6, c3_6, c4_6, c5_6⟩ := HC6.out.six
         obtain ⟨n0_6, n1_6, n2_6, n3_6, n4_6, n5_6⟩ := HN6.out.six
         go_wp2_with fail
         refine (semver_Version_Minor.calls y0 y1 y2 yp ym yo _ _ rfl).mono ?_
         rintro e w7 ⟨rfl, hb⟩
         clear v0_6 v1_6 v2_6 v3_6 v4_6 v5_6 c0_6 c1_6 c2_6 c3_6 c4_6 c5_6 n0_6 n1_6 n2_6 n3_6 n4_6 n5_6
         have HB7 := Aside0.mk (HB6.out.trans (hb.mono HB6.out.size)); have HS7 := Aside0.mk (HS6.out.below hb); have HV7 := Aside0.mk (HV6.out.below hb); have HC7 := Aside0.mk (HC6.out.below hb); have HN7 := Aside0.mk (HN6.out.below hb); clear hb HB6 HS6 HV6 HC6 HN6
         cases t10 : (y1 == 0) with
         | true =>
          have t10' := bne_of t10
          replace t10' : (y1 != 0) = false := t10'
          obtain ⟨v0_7, v1_7, v2_7, v3_7, v4_7, v5_7⟩ := HV7.out.six
          obtain ⟨c0_7, c1_7, c2_7, c3_7, c4_7, c5_7⟩ := HC7.out.six
          obtain ⟨n0_7, n1_7, n2_7, n3_7, n4_7, n5_7⟩ := HN7.out.six
          go_wp2_with fail
          refine (semver_Version_Minor.calls x0 x1 x2 xp xm xo _ _ rfl).mono ?_
          rintro e w8 ⟨rfl, hb⟩
          clear v0_7 v1_7 v2_7 v3_7 v4_7 v5_7 c0_7 c1_7 c2_7 c3_7 c4_7 c5_7 n0_7 n1_7 n2_7 n3_7 n4_7 n5_7
          have HB8 := Aside0.mk (HB7.out.trans (hb.mono HB7.out.size)); have HS8 := Aside0.mk (HS7.out.below hb); have HV8 := Aside0.mk (HV7.out.below hb); have HC8 := Aside0.mk (HC7.out.below hb); have HN8 := Aside0.mk (HN7.out.below hb); clear hb HB7 HS7 HV7 HC7 HN7
          cases t11 : (decide (0 < x1)) with
          | true =>
           obtain ⟨v0_8, v1_8, v2_8, v3_8, v4_8, v5_8⟩ := HV8.out.six
           obtain ⟨c0_8, c1_8, c2_8, c3_8, c4_8, c5_8⟩ := HC8.out.six
           obtain ⟨n0_8, n1_8, n2_8, n3_8, n4_8, n5_8⟩ := HN8.out.six
           go_wp2_with fail
           refine (errNew _ _).mono ?_
           rintro e w9 ⟨et8, ep8, rfl, hb⟩
           clear v0_8 v1_8 v2_8 v3_8 v4_8 v5_8 c0_8 c1_8 c2_8 c3_8 c4_8 c5_8 n0_8 n1_8 n2_8 n3_8 n4_8 n5_8
           have HB9 := Aside0.mk (HB8.out.trans (hb.mono HB8.out.size)); have HS9 := Aside0.mk (HS8.out.below hb); have HV9 := Aside0.mk (HV8.out.below hb); have HC9 := Aside0.mk (HC8.out.below hb); have HN9 := Aside0.mk (HN8.out.below hb); clear hb HB8 HS8 HV8 HC8 HN8
           obtain ⟨v0_9, v1_9, v2_9, v3_9, v4_9, v5_9⟩ := HV9.out.six
           obtain ⟨c0_9, c1_9, c2_9, c3_9, c4_9, c5_9⟩ := HC9.out.six
           obtain ⟨n0_9, n1_9, n2_9, n3_9, n4_9, n5_9⟩ := HN9.out.six
           go_wp2_with fail
           go_ret2
           exact ⟨_, (by first | rfl | (rw [t0, t2, t5, t6, t7, t10, t11]; rfl)), HB9.out⟩
          | false =>
           obtain ⟨v0_8, v1_8, v2_8, v3_8, v4_8, v5_8⟩ := HV8.out.six
           obtain ⟨c0_8, c1_8, c2_8, c3_8, c4_8, c5_8⟩ := HC8.out.six
           obtain ⟨n0_8, n1_8, n2_8, n3_8, n4_8, n5_8⟩ := HN8.out.six
           go_wp2_with fail
           clear v0_8 v1_8 v2_8 v3_8 v4_8 v5_8 c0_8 c1_8 c2_8 c3_8 c4_8 c5_8 n0_8 n1_8 n2_8 n3_8 n4_8 n5_8
           obtain ⟨v0_8, v1_8, v2_8, v3_8, v4_8, v5_8⟩ := HV8.out.sixR
           obtain ⟨c0_8, c1_8, c2_8, c3_8, c4_8, c5_8⟩ := HC8.out.sixR
           obtain ⟨n0_8, n1_8, n2_8, n3_8, n4_8, n5_8⟩ := HN8.out.sixR
           have c0 := fun d os => Calls.regrown_of (semver_Version_Patch.calls y0 y1 y2 yp ym yo _ (grow (redrawn w8 d) os) rfl)
           have c1 := fun d os => Calls.regrown_of (semver_Version_Patch.calls x0 x1 x2 xp xm xo _ (grow (redrawn w8 d) os) rfl)
           refine wp_region_quiet_below (by kernel_rfl) (by kernel_rfl) ?_
           repeat (first | go_big_quiet_step (first | exact c0 _ _ | exact c1 _ _) | quiet_step (first | exact c0 _ _ | exact c1 _ _))
           refine wpQuiet_nil ?_
           intro _ hw'; obtain ⟨⟨dq, osq⟩, hw''⟩ := hw'; subst hw''; clear c0 c1 v0_8 v1_8 v2_8 v3_8 v4_8 v5_8 c0_8 c1_8 c2_8 c3_8 c4_8 c5_8 n0_8 n1_8 n2_8 n3_8 n4_8 n5_8
           have hb := below_regrown w8 dq osq
           generalize grow (redrawn w8 dq) osq = w9 at *
           have HB9 := Aside0.mk (HB8.out.trans (hb.mono HB8.out.size)); have HS9 := Aside0.mk (HS8.out.below hb); have HV9 := Aside0.mk (HV8.out.below hb); have HC9 := Aside0.mk (HC8.out.below hb); have HN9 := Aside0.mk (HN8.out.below hb); clear hb HB8 HS8 HV8 HC8 HN8
           cases t12 : (y2 == x2) with
           | true =>
            have t12' := bne_of t12
            replace t12' : (y2 != x2) = false := t12'
            obtain ⟨v0_9, v1_9, v2_9, v3_9, v4_9, v5_9⟩ := HV9.out.six
            obtain ⟨c0_9, c1_9, c2_9, c3_9, c4_9, c5_9⟩ := HC9.out.six
            obtain ⟨n0_9, n1_9, n2_9, n3_9, n4_9, n5_9⟩ := HN9.out.six
            go_wp2_with fail
            go_ret2
            exact ⟨_, (by first | rfl | (rw [t0, t2, t5, t6, t7, t10, t11, t12]; rfl)), HB9.out⟩
           | false =>
            have t12' := bne_of t12
            replace t12' : (y2 != x2) = true := t12'
            obtain ⟨v0_9, v1_9, v2_9, v3_9, v4_9, v5_9⟩ := HV9.out.six
            obtain ⟨c0_9, c1_9, c2_9, c3_9, c4_9, c5_9⟩ := HC9.out.six
            obtain ⟨n0_9, n1_9, n2_9, n3_9, n4_9, n5_9⟩ := HN9.out.six
            go_wp2_with fail
            refine (errNew _ _).mono ?_
            rintro e w10 ⟨et9, ep9, rfl, hb⟩
            clear v0_9 v1_9 v2_9 v3_9 v4_9 v5_9 c0_9 c1_9 c2_9 c3_9 c4_9 c5_9 n0_9 n1_9 n2_9 n3_9 n4_9 n5_9
            have HB10 := Aside0.mk (HB9.out.trans (hb.mono HB9.out.size)); have HS10 := Aside0.mk (HS9.out.below hb); have HV10 := Aside0.mk (HV9.out.below hb); have HC10 := Aside0.mk (HC9.out.below hb); have HN10 := Aside0.mk (HN9.out.below hb); clear hb HB9 HS9 HV9 HC9 HN9
            obtain ⟨v0_10, v1_10, v2_10, v3_10, v4_10, v5_10⟩ := HV10.out.six
            obtain ⟨c0_10, c1_10, c2_10, c3_10, c4_10, c5_10⟩ := HC10.out.six
            obtain ⟨n0_10, n1_10, n2_10, n3_10, n4_10, n5_10⟩ := HN10.out.six
            go_wp2_with fail
            go_ret2
            exact ⟨_, (by first | rfl | (rw [t0, t2, t5, t6, t7, t10, t11, t12]; rfl)), HB10.out⟩
         | false =>
          have t10' := bne_of t10
          replace t10' : (y1 != 0) = true := t10'
          obtain ⟨v0_7, v1_7, v2_7, v3_7, v4_7, v5_7⟩ := HV7.out.six
          obtain ⟨c0_7, c1_7, c2_7, c3_7, c4_7, c5_7⟩ := HC7.out.six
          obtain ⟨n0_7, n1_7, n2_7, n3_7, n4_7, n5_7⟩ := HN7.out.six
          go_wp2_with fail
          clear v0_7 v1_7 v2_7 v3_7 v4_7 v5_7 c0_7 c1_7 c2_7 c3_7 c4_7 c5_7 n0_7 n1_7 n2_7 n3_7 n4_7 n5_7
          obtain ⟨v0_7, v1_7, v2_7, v3_7, v4_7, v5_7⟩ := HV7.out.sixR
          obtain ⟨c0_7, c1_7, c2_7, c3_7, c4_7, c5_7⟩ := HC7.out.sixR
          obtain ⟨n0_7, n1_7, n2_7, n3_7, n4_7, n5_7⟩ := HN7.out.sixR
          have c0 := fun d os => Calls.regrown_of (semver_Version_Patch.calls y0 y1 y2 yp ym yo _ (grow (redrawn w7 d) os) rfl)
          have c1 := fun d os => Calls.regrown_of (semver_Version_Patch.calls x0 x1 x2 xp xm xo _ (grow (redrawn w7 d) os) rfl)
          refine wp_region_quiet_below (by kernel_rfl) (by kernel_rfl) ?_
          repeat (first | go_big_quiet_step (first | exact c0 _ _ | exact c1 _ _) | quiet_step (first | exact c0 _ _ | exact c1 _ _))
          refine wpQuiet_nil ?_
          intro _ hw'; obtain ⟨⟨dq, osq⟩, hw''⟩ := hw'; subst hw''; clear c0 c1 v0_7 v1_7 v2_7 v3_7 v4_7 v5_7 c0_7 c1_7 c2_7 c3_7 c4_7 c5_7 n0_7 n1_7 n2_7 n3_7 n4_7 n5_7
          have hb := below_regrown w7 dq osq
          generalize grow (redrawn w7 dq) osq = w8 at *
          have HB8 := Aside0.mk (HB7.out.trans (hb.mono HB7.out.size)); have HS8 := Aside0.mk (HS7.out.below hb); have HV8 := Aside0.mk (HV7.out.below hb); have HC8 := Aside0.mk (HC7.out.below hb); have HN8 := Aside0.mk (HN7.out.below hb); clear hb HB7 HS7 HV7 HC7 HN7
          cases t12 : (y2 == x2) with
          | true =>
           have t12' := bne_of t12
           replace t12' : (y2 != x2) = false := t12'
           obtain ⟨v0_8, v1_8, v2_8, v3_8, v4_8, v5_8⟩ := HV8.out.six
           obtain ⟨c0_8, c1_8, c2_8, c3_8, c4_8, c5_8⟩ := HC8.out.six
           obtain ⟨n0_8, n1_8, n2_8, n3_8, n4_8, n5_8⟩ := HN8.out.six
           go_wp2_with fail
           go_ret2
           exact ⟨_, (by first | rfl | (rw [t0, t2, t5, t6, t7, t10, t12]; rfl)), HB8.out⟩
          | false =>
           have t12' := bne_of t12
           replace t12' : (y2 != x2) = true := t12'
           obtain ⟨v0_8, v1_8, v2_8, v3_8, v4_8, v5_8⟩ := HV8.out.six
           obtain ⟨c0_8, c1_8, c2_8, c3_8, c4_8, c5_8⟩ := HC8.out.six
           obtain ⟨n0_8, n1_8, n2_8, n3_8, n4_8, n5_8⟩ := HN8.out.six
           go_wp2_with fail
           refine (errNew _ _).mono ?_
           rintro e w9 ⟨et8, ep8, rfl, hb⟩
           clear v0_8 v1_8 v2_8 v3_8 v4_8 v5_8 c0_8 c1_8 c2_8 c3_8 c4_8 c5_8 n0_8 n1_8 n2_8 n3_8 n4_8 n5_8
           have HB9 := Aside0.mk (HB8.out.trans (hb.mono HB8.out.size)); have HS9 := Aside0.mk (HS8.out.below hb); have HV9 := Aside0.mk (HV8.out.below hb); have HC9 := Aside0.mk (HC8.out.below hb); have HN9 := Aside0.mk (HN8.out.below hb); clear hb HB8 HS8 HV8 HC8 HN8
           obtain ⟨v0_9, v1_9, v2_9, v3_9, v4_9, v5_9⟩ := HV9.out.six
           obtain ⟨c0_9, c1_9, c2_9, c3_9, c4_9, c5_9⟩ := HC9.out.six
           obtain ⟨n0_9, n1_9, n2_9, n3_9, n4_9, n5_9⟩ := HN9.out.six
           go_wp2_with fail
           go_ret2
           exact ⟨_, (by first | rfl | (rw [t0, t2, t5, t6, t7, t10, t12]; rfl)), HB9.out⟩
     | false =>
      have t5' := bne_of t5
      replace t5' : (y0 != 0) = true := t5'
      obtain ⟨v0_4, v1_4, v2_4, v3_4, v4_4, v5_4⟩ := HV4.out.six
      obtain ⟨c0_4, c1_4, c2_4, c3_4, c4_4, c5_4⟩ := HC4.out.six
      obtain ⟨n0_4, n1_4, n2_4, n3_4, n4_4, n5_4⟩ := HN4.out.six
      go_wp2_with fail
      refine (semver_Version_Minor.calls y0 y1 y2 yp ym yo _ _ rfl).mono ?_
      rintro e w5 ⟨rfl, hb⟩
      clear v0_4 v1_4 v2_4 v3_4 v4_4 v5_4 c0_4 c1_4 c2_4 c3_4 c4_4 c5_4 n0_4 n1_4 n2_4 n3_4 n4_4 n5_4
      have HB5 := Aside0.mk (HB4.out.trans (hb.mono HB4.out.size)); have HS5 := Aside0.mk (HS4.out.below hb); have HV5 := Aside0.mk (HV4.out.below hb); have HC5 := Aside0.mk (HC4.out.below hb); have HN5 := Aside0.mk (HN4.out.below hb); clear hb HB4 HS4 HV4 HC4 HN4
      cases t7 : (decide (0 < y1)) with
      | true =>
       obtain ⟨v0_5, v1_5, v2_5, v3_5, v4_5, v5_5⟩ := HV5.out.six
       obtain ⟨c0_5, c1_5, c2_5, c3_5, c4_5, c5_5⟩ := HC5.out.six
       obtain ⟨n0_5, n1_5, n2_5, n3_5, n4_5, n5_5⟩ := HN5.out.six
       go_wp2_with fail
       clear v0_5 v1_5 v2_5 v3_5 v4_5 v5_5 c0_5 c1_5 c2_5 c3_5 c4_5 c5_5 n0_5 n1_5 n2_5 n3_5 n4_5 n5_5
       obtain ⟨v0_5, v1_5, v2_5, v3_5, v4_5, v5_5⟩ := HV5.out.sixR
       obtain ⟨c0_5, c1_5, c2_5, c3_5, c4_5, c5_5⟩ := HC5.out.sixR
       obtain ⟨n0_5, n1_5, n2_5, n3_5, n4_5, n5_5⟩ := HN5.out.sixR
       have c0 := fun d os => Calls.regrown_of (semver_Version_Minor.calls x0 x1 x2 xp xm xo _ (grow (redrawn w5 d) os) rfl)
       have c1 := fun d os => Calls.regrown_of (semver_Version_Minor.calls y0 y1 y2 yp ym yo _ (grow (redrawn w5 d) os) rfl)
       refine wp_region_quiet_below (by kernel_rfl) (by kernel_rfl) ?_
       repeat (first | go_big_quiet_step (first | exact c0 _ _ | exact c1 _ _) | quiet_step (first | exact c0 _ _ | exact c1 _ _))
       refine wpQuiet_nil ?_
       intro _ hw'; obtain ⟨⟨dq, osq⟩, hw''⟩ := hw'; subst hw''; clear c0 c1 v0_5 v1_5 v2_5 v3_5 v4_5 v5_5 c0_5 c1_5 c2_5 c3_5 c4_5 c5_5 n0_5 n1_5 n2_5 n3_5 n4_5 n5_5
       have hb := below_regrown w5 dq osq
       generalize grow (redrawn w5 dq) osq = w6 at *
       have HB6 := Aside0.mk (HB5.out.trans (hb.mono HB5.out.size)); have HS6 := Aside0.mk (HS5.out.below hb); have HV6 := Aside0.mk (HV5.out.below hb); have HC6 := Aside0.mk (HC5.out.below hb); have HN6 := Aside0.mk (HN5.out.below hb); clear hb HB5 HS5 HV5 HC5 HN5
       cases t8 : (x1 == y1) with
       | true =>
        have t8' := bne_of t8
        replace t8' : (x1 != y1) = false := t8'
        obtain ⟨v0_6, v1_6, v2_6, v3_6, v4_6, v5_6⟩ := HV6.out.six
        obtain ⟨c0_6, c1_6, c2_6, c3_6, c4_6, c5_6⟩ := HC6.out.six
        obtain ⟨n0_6, n1_6, n2_6, n3_6, n4_6, n5_6⟩ := HN6.out.six
        go_wp2_with fail
        go_ret2
        exact ⟨_, (by first | rfl | (rw [t0, t2, t5, t7, t8]; rfl)), HB6.out⟩
       | false =>
        have t8' := bne_of t8
        replace t8' : (x1 != y1) = true := t8'
        obtain ⟨v0_6, v1_6, v2_6, v3_6, v4_6, v5_6⟩ := HV6.out.six
        obtain ⟨c0_6, c1_6, c2_6, c3_6, c4_6, c5_6⟩ := HC6.out.six
        obtain ⟨n0_6, n1_6, n2_6, n3_6, n4_6, n5_6⟩ := HN6.out.six
        go_wp2_with fail
        refine (errNew _ _).mono ?_
        rintro e w7 ⟨et6, ep6, rfl, hb⟩
        clear v0_6 v1_6 v2_6 v3_6 v4_6 v5_6 c0_6 c1_6 c2_6 c3_6 c4_6 c5_6 n0_6 n1_6 n2_6 n3_6 n4_6 n5_6
        have HB7 := Aside0.mk (HB6.out.trans (hb.mono HB6.out.size)); have HS7 := Aside0.mk (HS6.out.below hb); have HV7 := Aside0.mk (HV6.out.below hb); have HC7 := Aside0.mk (HC6.out.below hb); have HN7 := Aside0.mk (HN6.out.below hb); clear hb HB6 HS6 HV6 HC6 HN6
        obtain ⟨v0_7, v1_7, v2_7, v3_7, v4_7, v5_7⟩ := HV7.out.six
        obtain ⟨c0_7, c1_7, c2_7, c3_7, c4_7, c5_7⟩ := HC7.out.six
        obtain ⟨n0_7, n1_7, n2_7, n3_7, n4_7, n5_7⟩ := HN7.out.six
        go_wp2_with fail
        go_ret2
        exact ⟨_, (by first | rfl | (rw [t0, t2, t5, t7, t8]; rfl)), HB7.out⟩
      | false =>
       cases pD with
       | true =>
        obtain ⟨v0_5, v1_5, v2_5, v3_5, v4_5, v5_5⟩ := HV5.out.six
        obtain ⟨c0_5, c1_5, c2_5, c3_5, c4_5, c5_5⟩ := HC5.out.six
        obtain ⟨n0_5, n1_5, n2_5, n3_5, n4_5, n5_5⟩ := HN5.out.six
        go_wp2_with fail
        clear v0_5 v1_5 v2_5 v3_5 v4_5 v5_5 c0_5 c1_5 c2_5 c3_5 c4_5 c5_5 n0_5 n1_5 n2_5 n3_5 n4_5 n5_5
        obtain ⟨v0_5, v1_5, v2_5, v3_5, v4_5, v5_5⟩ := HV5.out.sixR
        obtain ⟨c0_5, c1_5, c2_5, c3_5, c4_5, c5_5⟩ := HC5.out.sixR
        obtain ⟨n0_5, n1_5, n2_5, n3_5, n4_5, n5_5⟩ := HN5.out.sixR
        have c0 := fun d os => Calls.regrown_of (semver_Version_Minor.calls x0 x1 x2 xp xm xo _ (grow (redrawn w5 d) os) rfl)
        have c1 := fun d os => Calls.regrown_of (semver_Version_Minor.calls y0 y1 y2 yp ym yo _ (grow (redrawn w5 d) os) rfl)
        refine wp_region_quiet_below (by kernel_rfl) (by kernel_rfl) ?_
        repeat (first | go_big_quiet_step (first | exact c0 _ _ | exact c1 _ _) | quiet_step (first | exact c0 _ _ | exact c1 _ _))
        refine wpQuiet_nil ?_
        intro _ hw'; obtain ⟨⟨dq, osq⟩, hw''⟩ := hw'; subst hw''; clear c0 c1 v0_5 v1_5 v2_5 v3_5 v4_5 v5_5 c0_5 c1_5 c2_5 c3_5 c4_5 c5_5 n0_5 n1_5 n2_5 n3_5 n4_5 n5_5
        have hb := below_regrown w5 dq osq
        generalize grow (redrawn w5 dq) osq = w6 at *
        have HB6 := Aside0.mk (HB5.out.trans (hb.mono HB5.out.size)); have HS6 := Aside0.mk (HS5.out.below hb); have HV6 := Aside0.mk (HV5.out.below hb); have HC6 := Aside0.mk (HC5.out.below hb); have HN6 := Aside0.mk (HN5.out.below hb); clear hb HB5 HS5 HV5 HC5 HN5
        cases t8 : (x1 == y1) with
        | true =>
         have t8' := bne_of t8
         replace t8' : (x1 != y1) = false := t8'
         obtain ⟨v0_6, v1_6, v2_6, v3_6, v4_6, v5_6⟩ := HV6.out.six
         obtain ⟨c0_6, c1_6, c2_6, c3_6, c4_6, c5_6⟩ := HC6.out.six
         obtain ⟨n0_6, n1_6, n2_6, n3_6, n4_6, n5_6⟩ := HN6.out.six
         go_wp2_with fail
         go_ret2
         exact ⟨_, (by first | rfl | (rw [t0, t2, t5, t7, t8]; rfl)), HB6.out⟩
        | false =>
         have t8' := bne_of t8
         replace t8' : (x1 != y1) = true := t8'
         obtain ⟨v0_6, v1_6, v2_6, v3_6, v4_6, v5_6⟩ := HV6.out.six
         obtain ⟨c0_6, c1_6, c2_6, c3_6, c4_6, c5_6⟩ := HC6.out.six
         obtain ⟨n0_6, n1_6, n2_6, n3_6, n4_6, n5_6⟩ := HN6.out.six
         go_wp2_with fail
         refine (errNew _ _).mono ?_
         rintro e w7 ⟨et6, ep6, rfl, hb⟩
         clear v0_6 v1_6 v2_6 v3_6 v4_6 v5_6 c0_6 c1_6 c2_6 c3_6 c4_6 c5_6 n0_6 n1_6 n2_6 n3_6 n4_6 n5_6
         have HB7 := Aside0.mk (HB6.out.trans (hb.mono HB6.out.size)); have HS7 := Aside0.mk (HS6.out.below hb); have HV7 := Aside0.mk (HV6.out.below hb); have HC7 := Aside0.mk (HC6.out.below hb); have HN7 := Aside0.mk (HN6.out.below hb); clear hb HB6 HS6 HV6 HC6 HN6
         obtain ⟨v0_7, v1_7, v2_7, v3_7, v4_7, v5_7⟩ := HV7.out.six
         obtain ⟨c0_7, c1_7, c2_7, c3_7, c4_7, c5_7⟩ := HC7.out.six
         obtain ⟨n0_7, n1_7, n2_7, n3_7, n4_7, n5_7⟩ := HN7.out.six
         go_wp2_with fail
         go_ret2
         exact ⟨_, (by first | rfl | (rw [t0, t2, t5, t7, t8]; rfl)), HB7.out⟩
       | false =>
        obtain ⟨v0_5, v1_5, v2_5, v3_5, v4_5, v5_5⟩ := HV5.out.six
        obtain ⟨c0_5, c1_5, c2_5, c3_5, c4_5, c5_5⟩ := HC5.out.six
        obtain ⟨n0_5, n1_5, n2_5, n3_5, n4_5, n5_5⟩ := HN5.out.six
        go_wp2_with fail
        refine (semver_Version_Minor.calls y0 y1 y2 yp ym yo _ _ rfl).mono ?_
        rintro e w6 ⟨rfl, hb⟩
        clear v0_5 v1_5 v2_5 v3_5 v4_5 v5_5 c0_5 c1_5 c2_5 c3_5 c4_5 c5_5 n0_5 n1_5 n2_5 n3_5 n4_5 n5_5
        have HB6 := Aside0.mk (HB5.out.trans (hb.mono HB5.out.size)); have HS6 := Aside0.mk (HS5.out.below hb); have HV6 := Aside0.mk (HV5.out.below hb); have HC6 := Aside0.mk (HC5.out.below hb); have HN6 := Aside0.mk (HN5.out.below hb); clear hb HB5 HS5 HV5 HC5 HN5
        cases t10 : (y1 == 0) with
        | true =>
         have t10' := bne_of t10
         replace t10' : (y1 != 0) = false := t10'
         obtain ⟨v0_6, v1_6, v2_6, v3_6, v4_6, v5_6⟩ := HV6.out.six
         obtain ⟨c0_6, c1_6, c2_6, c3_6, c4_6, c5_6⟩ := HC6.out.six
         obtain ⟨n0_6, n1_6, n2_6, n3_6, n4_6, n5_6⟩ := HN6.out.six
         go_wp2_with fail
         refine (semver_Version_Minor.calls x0 x1 x2 xp xm xo _ _ rfl).mono ?_
         rintro e w7 ⟨rfl, hb⟩
         clear v0_6 v1_6 v2_6 v3_6 v4_6 v5_6 c0_6 c1_6 c2_6 c3_6 c4_6 c5_6 n0_6 n1_6 n2_6 n3_6 n4_6 n5_6
         have HB7 := Aside0.mk (HB6.out.trans (hb.mono HB6.out.size)); have HS7 := Aside0.mk (HS6.out.below hb); have HV7 := Aside0.mk (HV6.out.below hb); have HC7 := Aside0.mk (HC6.out.below hb); have HN7 := Aside0.mk (HN6.out.below hb); clear hb HB6 HS6 HV6 HC6 HN6
         cases t11 : (decide (0 < x1)) with
         | true =>
          obtain ⟨v0_7, v1_7, v2_7, v3_7, v4_7, v5_7⟩ := HV7.out.six
          obtain ⟨c0_7, c1_7, c2_7, c3_7, c4_7, c5_7⟩ := HC7.out.six
          obtain ⟨n0_7, n1_7, n2_7, n3_7, n4_7, n5_7⟩ := HN7.out.six
          go_wp2_with fail
          refine (errNew _ _).mono ?_
          rintro e w8 ⟨et7, ep7, rfl, hb⟩
          clear v0_7 v1_7 v2_7 v3_7 v4_7 v5_7 c0_7 c1_7 c2_7 c3_7 c4_7 c5_7 n0_7 n1_7 n2_7 n3_7 n4_7 n5_7
          have HB8 := Aside0.mk (HB7.out.trans (hb.mono HB7.out.size)); have HS8 := Aside0.mk (HS7.out.below hb); have HV8 := Aside0.mk (HV7.out.below hb); have HC8 := Aside0.mk (HC7.out.below hb); have HN8 := Aside0.mk (HN7.out.below hb); clear hb HB7 HS7 HV7 HC7 HN7
          obtain ⟨v0_8, v1_8, v2_8, v3_8, v4_8, v5_8⟩ := HV8.out.six
          obtain ⟨c0_8, c1_8, c2_8, c3_8, c4_8, c5_8⟩ := HC8.out.six
          obtain ⟨n0_8, n1_8, n2_8, n3_8, n4_8, n5_8⟩ := HN8.out.six
          go_wp2_with fail
          go_ret2
          exact ⟨_, (by first | rfl | (rw [t0, t2, t5, t7, t10, t11]; rfl)), HB8.out⟩
         | false =>
          obtain ⟨v0_7, v1_7, v2_7, v3_7, v4_7, v5_7⟩ := HV7.out.six
          obtain ⟨c0_7, c1_7, c2_7, c3_7, c4_7, c5_7⟩ := HC7.out.six
          obtain ⟨n0_7, n1_7, n2_7, n3_7, n4_7, n5_7⟩ := HN7.out.six
          go_wp2_with fail
          clear v0_7 v1_7 v2_7 v3_7 v4_7 v5_7 c0_7 c1_7 c2_7 c3_7 c4_7 c5_7 n0_7 n1_7 n2_7 n3_7 n4_7 n5_7
          obtain ⟨v0_7, v1_7, v2_7, v3_7, v4_7, v5_7⟩ := HV7.out.sixR
          obtain ⟨c0_7, c1_7, c2_7, c3_7, c4_7, c5_7⟩ := HC7.out.sixR
          obtain ⟨n0_7, n1_7, n2_7, n3_7, n4_7, n5_7⟩ := HN7.out.sixR
          have c0 := fun d os => Calls.regrown_of (semver_Version_Patch.calls y0 y1 y2 yp ym yo _ (grow (redrawn w7 d) os) rfl)
          have c1 := fun d os => Calls.regrown_of (semver_Version_Patch.calls x0 x1 x2 xp xm xo _ (grow (redrawn w7 d) os) rfl)
          refine wp_region_quiet_below (by kernel_rfl) (by kernel_rfl) ?_
          repeat (first | go_big_quiet_step (first | exact c0 _ _ | exact c1 _ _) | quiet_step (first | exact c0 _ _ | exact c1 _ _))
          refine wpQuiet_nil ?_
          intro _ hw'; obtain ⟨⟨dq, osq⟩, hw''⟩ := hw'; subst hw''; clear c0 c1 v0_7 v1_7 v2_7 v3_7 v4_7 v5_7 c0_7 c1_7 c2_7 c3_7 c4_7 c5_7 n0_7 n1_7 n2_7 n3_7 n4_7 n5_7
          have hb := below_regrown w7 dq osq
          generalize grow (redrawn w7 dq) osq = w8 at *
          have HB8 := Aside0.mk (HB7.out.trans (hb.mono HB7.out.size)); have HS8 := Aside0.mk (HS7.out.below hb); have HV8 := Aside0.mk (HV7.out.below hb); have HC8 := Aside0.mk (HC7.out.below hb); have HN8 := Aside0.mk (HN7.out.below hb); clear hb HB7 HS7 HV7 HC7 HN7
          cases t12 : (y2 == x2) with
          | true =>
           have t12' := bne_of t12
           replace t12' : (y2 != x2) = false := t12'
           obtain ⟨v0_8, v1_8, v2_8, v3_8, v4_8, v5_8⟩ := HV8.out.six
           obtain ⟨c0_8, c1_8, c2_8, c3_8, c4_8, c5_8⟩ := HC8.out.six
           obtain ⟨n0_8, n1_8, n2_8, n3_8, n4_8, n5_8⟩ := HN8.out.six
           go_wp2_with fail
           go_ret2
           exact ⟨_, (by first | rfl | (rw [t0, t2, t5, t7, t10, t11, t12]; rfl)), HB8.out⟩
          | false =>
           have t12' := bne_of t12
           replace t12' : (y2 != x2) = true := t12'
           obtain ⟨v0_8, v1_8, v2_8, v3_8, v4_8, v5_8⟩ := HV8.out.six
           obtain ⟨c0_8, c1_8, c2_8, c3_8, c4_8, c5_8⟩ := HC8.out.six
           obtain ⟨n0_8, n1_8, n2_8, n3_8, n4_8, n5_8⟩ := HN8.out.six
           go_wp2_with fail
           refine (errNew _ _).mono ?_
           rintro e w9 ⟨et8, ep8, rfl, hb⟩
           clear v0_8 v1_8 v2_8 v3_8 v4_8 v5_8 c0_8 c1_8 c2_8 c3_8 c4_8 c5_8 n0_8 n1_8 n2_8 n3_8 n4_8 n5_8
           have HB9 := Aside0.mk (HB8.out.trans (hb.mono HB8.out.size)); have HS9 := Aside0.mk (HS8.out.below hb); have HV9 := Aside0.mk (HV8.out.below hb); have HC9 := Aside0.mk (HC8.out.below hb); have HN9 := Aside0.mk (HN8.out.below hb); clear hb HB8 HS8 HV8 HC8 HN8
           obtain ⟨v0_9, v1_9, v2_9, v3_9, v4_9, v5_9⟩ := HV9.out.six
           obtain ⟨c0_9, c1_9, c2_9, c3_9, c4_9, c5_9⟩ := HC9.out.six
           obtain ⟨n0_9, n1_9, n2_9, n3_9, n4_9, n5_9⟩ := HN9.out.six
           go_wp2_with fail
           go_ret2
           exact ⟨_, (by first | rfl | (rw [t0, t2, t5, t7, t10, t11, t12]; rfl)), HB9.out⟩
        | false =>
         have t10' := bne_of t10
         replace t10' : (y1 != 0) = true := t10'
         obtain ⟨v0_6, v1_6, v2_6, v3_6, v4_6, v5_6⟩ := HV6.out.six
         obtain ⟨c0_6, c1_6, c2_6, c3_6, c4_6, c5_6⟩ := HC6.out.six
         obtain ⟨n0_6, n1_6, n2_6, n3_6, n4_6, n5_6⟩ := HN6.out.six
         go_wp2_with fail
         clear v0_6 v1_6 v2_6 v3_6 v4_6 v5_6 c0_6 c1_6 c2_6 c3_6 c4_6 c5_6 n0_6 n1_6 n2_6 n3_6 n4_6 n5_6
         obtain ⟨v0_6, v1_6, v2_6, v3_6, v4_6, v5_6⟩ := HV6.out.sixR
         obtain ⟨c0_6, c1_6, c2_6, c3_6, c4_6, c5_6⟩ := HC6.out.sixR
         obtain ⟨n0_6, n1_6, n2_6, n3_6, n4_6, n5_6⟩ := HN6.out.sixR
         have c0 := fun d os => Calls.regrown_of (semver_Version_Patch.calls y0 y1 y2 yp ym yo _ (grow (redrawn w6 d) os) rfl)
         have c1 := fun d os => Calls.regrown_of (semver_Version_Patch.calls x0 x1 x2 xp xm xo _ (grow (redrawn w6 d) os) rfl)
         refine wp_region_quiet_below (by kernel_rfl) (by kernel_rfl) ?_
         repeat (first | go_big_quiet_step (first | exact c0 _ _ | exact c1 _ _) | quiet_step (first | exact c0 _ _ | exact c1 _ _))
         refine wpQuiet_nil ?_
         intro _ hw'; obtain ⟨⟨dq, osq⟩, hw''⟩ := hw'; subst hw''; clear c0 c1 v0_6 v1_6 v2_6 v3_6 v4_6 v5_6 c0_6 c1_6 c2_6 c3_6 c4_6 c5_6 n0_6 n1_6 n2_6 n3_6 n4_6 n5_6
         have hb := below_regrown w6 dq osq
         generalize grow (redrawn w6 dq) osq = w7 at *
         have HB7 := Aside0.mk (HB6.out.trans (hb.mono HB6.out.size)); have HS7 := Aside0.mk (HS6.out.below hb); have HV7 := Aside0.mk (HV6.out.below hb); have HC7 := Aside0.mk (HC6.out.below hb); have HN7 := Aside0.mk (HN6.out.below hb); clear hb HB6 HS6 HV6 HC6 HN6
         cases t12 : (y2 == x2) with
         | true =>
          have t12' := bne_of t12
          replace t12' : (y2 != x2) = false := t12'
          obtain ⟨v0_7, v1_7, v2_7, v3_7, v4_7, v5_7⟩ := HV7.out.six
          obtain ⟨c0_7, c1_7, c2_7, c3_7, c4_7, c5_7⟩ := HC7.out.six
          obtain ⟨n0_7, n1_7, n2_7, n3_7, n4_7, n5_7⟩ := HN7.out.six
          go_wp2_with fail
          go_ret2
          exact ⟨_, (by first | rfl | (rw [t0, t2, t5, t7, t10, t12]; rfl)), HB7.out⟩
         | false =>
          have t12' := bne_of t12
          replace t12' : (y2 != x2) = true := t12'
          obtain ⟨v0_7, v1_7, v2_7, v3_7, v4_7, v5_7⟩ := HV7.out.six
          obtain ⟨c0_7, c1_7, c2_7, c3_7, c4_7, c5_7⟩ := HC7.out.six
          obtain ⟨n0_7, n1_7, n2_7, n3_7, n4_7, n5_7⟩ := HN7.out.six
          go_wp2_with fail
          refine (errNew _ _).mono ?_
          rintro e w8 ⟨et7, ep7, rfl, hb⟩
          clear v0_7 v1_7 v2_7 v3_7 v4_7 v5_7 c0_7 c1_7 c2_7 c3_7 c4_7 c5_7 n0_7 n1_7 n2_7 n3_7 n4_7 n5_7
          have HB8 := Aside0.mk (HB7.out.trans (hb.mono HB7.out.size)); have HS8 := Aside0.mk (HS7.out.below hb); have HV8 := Aside0.mk (HV7.out.below hb); have HC8 := Aside0.mk (HC7.out.below hb); have HN8 := Aside0.mk (HN7.out.below hb); clear hb HB7 HS7 HV7 HC7 HN7
          obtain ⟨v0_8, v1_8, v2_8, v3_8, v4_8, v5_8⟩ := HV8.out.six
          obtain ⟨c0_8, c1_8, c2_8, c3_8, c4_8, c5_8⟩ := HC8.out.six
          obtain ⟨n0_8, n1_8, n2_8, n3_8, n4_8, n5_8⟩ := HN8.out.six
          go_wp2_with fail
          go_ret2
          exact ⟨_, (by first | rfl | (rw [t0, t2, t5, t7, t10, t12]; rfl)), HB8.out⟩
 | false =>
  have t0' := bne_of t0
  replace t0' : (xp.toList != []) = true := t0'
  cases pre with
  | true =>
   obtain ⟨v0_1, v1_1, v2_1, v3_1, v4_1, v5_1⟩ := HV1.out.six
   obtain ⟨c0_1, c1_1, c2_1, c3_1, c4_1, c5_1⟩ := HC1.out.six
   obtain ⟨n0_1, n1_1, n2_1, n3_1, n4_1, n5_1⟩ := HN1.out.six
   go_wp2_with fail
   refine (KLT.out _ HV1.out HN1.out HS1.out).mono ?_
   rintro e w2 ⟨rfl, hb⟩
   clear v0_1 v1_1 v2_1 v3_1 v4_1 v5_1 c0_1 c1_1 c2_1 c3_1 c4_1 c5_1 n0_1 n1_1 n2_1 n3_1 n4_1 n5_1
   have HB2 := Aside0.mk (HB1.out.trans (hb.mono HB1.out.size)); have HS2 := Aside0.mk (HS1.out.below hb); have HV2 := Aside0.mk (HV1.out.below hb); have HC2 := Aside0.mk (HC1.out.below hb); have HN2 := Aside0.mk (HN1.out.below hb); clear hb HB1 HS1 HV1 HC1 HN1
   cases lt with
   | true =>
    obtain ⟨v0_2, v1_2, v2_2, v3_2, v4_2, v5_2⟩ := HV2.out.six
    obtain ⟨c0_2, c1_2, c2_2, c3_2, c4_2, c5_2⟩ := HC2.out.six
    obtain ⟨n0_2, n1_2, n2_2, n3_2, n4_2, n5_2⟩ := HN2.out.six
    go_wp2_with fail
    refine (errNew _ _).mono ?_
    rintro e w3 ⟨et2, ep2, rfl, hb⟩
    clear v0_2 v1_2 v2_2 v3_2 v4_2 v5_2 c0_2 c1_2 c2_2 c3_2 c4_2 c5_2 n0_2 n1_2 n2_2 n3_2 n4_2 n5_2
    have HB3 := Aside0.mk (HB2.out.trans (hb.mono HB2.out.size)); have HS3 := Aside0.mk (HS2.out.below hb); have HV3 := Aside0.mk (HV2.out.below hb); have HC3 := Aside0.mk (HC2.out.below hb); have HN3 := Aside0.mk (HN2.out.below hb); clear hb HB2 HS2 HV2 HC2 HN2
    obtain ⟨v0_3, v1_3, v2_3, v3_3, v4_3, v5_3⟩ := HV3.out.six
    obtain ⟨c0_3, c1_3, c2_3, c3_3, c4_3, c5_3⟩ := HC3.out.six
    obtain ⟨n0_3, n1_3, n2_3, n3_3, n4_3, n5_3⟩ := HN3.out.six
    go_wp2_with fail
    go_ret2
    exact ⟨_, (by first | rfl | (rw [t0]; rfl)), HB3.out⟩
   | false =>
    obtain ⟨v0_2, v1_2, v2_2, v3_2, v4_2, v5_2⟩ := HV2.out.six
    obtain ⟨c0_2, c1_2, c2_2, c3_2, c4_2, c5_2⟩ := HC2.out.six
    obtain ⟨n0_2, n1_2, n2_2, n3_2, n4_2, n5_2⟩ := HN2.out.six
    go_wp2_with fail
    refine (semver_Version_Major.calls y0 y1 y2 yp ym yo _ _ rfl).mono ?_
    rintro e w3 ⟨rfl, hb⟩
    clear v0_2 v1_2 v2_2 v3_2 v4_2 v5_2 c0_2 c1_2 c2_2 c3_2 c4_2 c5_2 n0_2 n1_2 n2_2 n3_2 n4_2 n5_2
    have HB3 := Aside0.mk (HB2.out.trans (hb.mono HB2.out.size)); have HS3 := Aside0.mk (HS2.out.below hb); have HV3 := Aside0.mk (HV2.out.below hb); have HC3 := Aside0.mk (HC2.out.below hb); have HN3 := Aside0.mk (HN2.out.below hb); clear hb HB2 HS2 HV2 HC2 HN2
    cases t2 : (decide (0 < y0)) with
    | true =>
     obtain ⟨v0_3, v1_3, v2_3, v3_3, v4_3, v5_3⟩ := HV3.out.six
     obtain ⟨c0_3, c1_3, c2_3, c3_3, c4_3, c5_3⟩ := HC3.out.six
     obtain ⟨n0_3, n1_3, n2_3, n3_3, n4_3, n5_3⟩ := HN3.out.six
     go_wp2_with fail
     clear v0_3 v1_3 v2_3 v3_3 v4_3 v5_3 c0_3 c1_3 c2_3 c3_3 c4_3 c5_3 n0_3 n1_3 n2_3 n3_3 n4_3 n5_3
     obtain ⟨v0_3, v1_3, v2_3, v3_3, v4_3, v5_3⟩ := HV3.out.sixR
     obtain ⟨c0_3, c1_3, c2_3, c3_3, c4_3, c5_3⟩ := HC3.out.sixR
     obtain ⟨n0_3, n1_3, n2_3, n3_3, n4_3, n5_3⟩ := HN3.out.sixR
     have c0 := fun d os => Calls.regrown_of (semver_Version_Major.calls x0 x1 x2 xp xm xo _ (grow (redrawn w3 d) os) rfl)
     have c1 := fun d os => Calls.regrown_of (semver_Version_Major.calls y0 y1 y2 yp ym yo _ (grow (redrawn w3 d) os) rfl)
     refine wp_region_quiet_below (by kernel_rfl) (by kernel_rfl) ?_
     repeat (first | go_big_quiet_step (first | exact c0 _ _ | exact c1 _ _) | quiet_step (first | exact c0 _ _ | exact c1 _ _))
     refine wpQuiet_nil ?_
     intro _ hw'; obtain ⟨⟨dq, osq⟩, hw''⟩ := hw'; subst hw''; clear c0 c1 v0_3 v1_3 v2_3 v3_3 v4_3 v5_3 c0_3 c1_3 c2_3 c3_3 c4_3 c5_3 n0_3 n1_3 n2_3 n3_3 n4_3 n5_3
     have hb := below_regrown w3 dq osq
     generalize grow (redrawn w3 dq) osq = w4 at *
     have HB4 := Aside0.mk (HB3.out.trans (hb.mono HB3.out.size)); have HS4 := Aside0.mk (HS3.out.below hb); have HV4 := Aside0.mk (HV3.out.below hb); have HC4 := Aside0.mk (HC3.out.below hb); have HN4 := Aside0.mk (HN3.out.below hb); clear hb HB3 HS3 HV3 HC3 HN3
     cases t3 : (x0 == y0) with
     | true =>
      have t3' := bne_of t3
      replace t3' : (x0 != y0) = false := t3'
      obtain ⟨v0_4, v1_4, v2_4, v3_4, v4_4, v5_4⟩ := HV4.out.six
      obtain ⟨c0_4, c1_4, c2_4, c3_4, c4_4, c5_4⟩ := HC4.out.six
      obtain ⟨n0_4, n1_4, n2_4, n3_4, n4_4, n5_4⟩ := HN4.out.six
      go_wp2_with fail
      go_ret2
      exact ⟨_, (by first | rfl | (rw [t0, t2, t3]; rfl)), HB4.out⟩
     | false =>
      have t3' := bne_of t3
      replace t3' : (x0 != y0) = true := t3'
      obtain ⟨v0_4, v1_4, v2_4, v3_4, v4_4, v5_4⟩ := HV4.out.six
      obtain ⟨c0_4, c1_4, c2_4, c3_4, c4_4, c5_4⟩ := HC4.out.six
      obtain ⟨n0_4, n1_4, n2_4, n3_4, n4_4, n5_4⟩ := HN4.out.six
      go_wp2_with fail
      refine (errNew _ _).mono ?_
      rintro e w5 ⟨et4, ep4, rfl, hb⟩
      clear v0_4 v1_4 v2_4 v3_4 v4_4 v5_4 c0_4 c1_4 c2_4 c3_4 c4_4 c5_4 n0_4 n1_4 n2_4 n3_4 n4_4 n5_4
      have HB5 := Aside0.mk (HB4.out.trans (hb.mono HB4.out.size)); have HS5 := Aside0.mk (HS4.out.below hb); have HV5 := Aside0.mk (HV4.out.below hb); have HC5 := Aside0.mk (HC4.out.below hb); have HN5 := Aside0.mk (HN4.out.below hb); clear hb HB4 HS4 HV4 HC4 HN4
      obtain ⟨v0_5, v1_5, v2_5, v3_5, v4_5, v5_5⟩ := HV5.out.six
      obtain ⟨c0_5, c1_5, c2_5, c3_5, c4_5, c5_5⟩ := HC5.out.six
      obtain ⟨n0_5, n1_5, n2_5, n3_5, n4_5, n5_5⟩ := HN5.out.six
      go_wp2_with fail
      go_ret2
      exact ⟨_, (by first | rfl | (rw [t0, t2, t3]; rfl)), HB5.out⟩
    | false =>
     cases mD with
     | true =>
      obtain ⟨v0_3, v1_3, v2_3, v3_3, v4_3, v5_3⟩ := HV3.out.six
      obtain ⟨c0_3, c1_3, c2_3, c3_3, c4_3, c5_3⟩ := HC3.out.six
      obtain ⟨n0_3, n1_3, n2_3, n3_3, n4_3, n5_3⟩ := HN3.out.six
      go_wp2_with fail
      clear v0_3 v1_3 v2_3 v3_3 v4_3 v5_3 c0_3 c1_3 c2_3 c3_3 c4_3 c5_3 n0_3 n1_3 n2_3 n3_3 n4_3 n5_3
      obtain ⟨v0_3, v1_3, v2_3, v3_3, v4_3, v5_3⟩ := HV3.out.sixR
      obtain ⟨c0_3, c1_3, c2_3, c3_3, c4_3, c5_3⟩ := HC3.out.sixR
      obtain ⟨n0_3, n1_3, n2_3, n3_3, n4_3, n5_3⟩ := HN3.out.sixR
      have c0 := fun d os => Calls.regrown_of (semver_Version_Major.calls x0 x1 x2 xp xm xo _ (grow (redrawn w3 d) os) rfl)
      have c1 := fun d os => Calls.regrown_of (semver_Version_Major.calls y0 y1 y2 yp ym yo _ (grow (redrawn w3 d) os) rfl)
      refine wp_region_quiet_below (by kernel_rfl) (by kernel_rfl) ?_
      repeat (first | go_big_quiet_step (first | exact c0 _ _ | exact c1 _ _) | quiet_step (first | exact c0 _ _ | exact c1 _ _))
      refine wpQuiet_nil ?_
      intro _ hw'; obtain ⟨⟨dq, osq⟩, hw''⟩ := hw'; subst hw''; clear c0 c1 v0_3 v1_3 v2_3 v3_3 v4_3 v5_3 c0_3 c1_3 c2_3 c3_3 c4_3 c5_3 n0_3 n1_3 n2_3 n3_3 n4_3 n5_3
      have hb := below_regrown w3 dq osq
      generalize grow (redrawn w3 dq) osq = w4 at *
      have HB4 := Aside0.mk (HB3.out.trans (hb.mono HB3.out.size)); have HS4 := Aside0.mk (HS3.out.below hb); have HV4 := Aside0.mk (HV3.out.below hb); have HC4 := Aside0.mk (HC3.out.below hb); have HN4 := Aside0.mk (HN3.out.below hb); clear hb HB3 HS3 HV3 HC3 HN3
      cases t3 : (x0 == y0) with
      | true =>
       have t3' := bne_of t3
       replace t3' : (x0 != y0) = false := t3'
       obtain ⟨v0_4, v1_4, v2_4, v3_4, v4_4, v5_4⟩ := HV4.out.six
       obtain ⟨c0_4, c1_4, c2_4, c3_4, c4_4, c5_4⟩ := HC4.out.six
       obtain ⟨n0_4, n1_4, n2_4, n3_4, n4_4, n5_4⟩ := HN4.out.six
       go_wp2_with fail
       go_ret2
       exact ⟨_, (by first | rfl | (rw [t0, t2, t3]; rfl)), HB4.out⟩
      | false =>
       have t3' := bne_of t3
       replace t3' : (x0 != y0) = true := t3'
       obtain ⟨v0_4, v1_4, v2_4, v3_4, v4_4, v5_4⟩ := HV4.out.six
       obtain ⟨c0_4, c1_4, c2_4, c3_4, c4_4, c5_4⟩ := HC4.out.six
       obtain ⟨n0_4, n1_4, n2_4, n3_4, n4_4, n5_4⟩ := HN4.out.six
       go_wp2_with fail
       refine (errNew _ _).mono ?_
       rintro e w5 ⟨et4, ep4, rfl, hb⟩
       clear v0_4 v1_4 v2_4 v3_4 v4_4 v5_4 c0_4 c1_4 c2_4 c3_4 c4_4 c5_4 n0_4 n1_4 n2_4 n3_4 n4_4 n5_4
       have HB5 := Aside0.mk (HB4.out.trans (hb.mono HB4.out.size)); have HS5 := Aside0.mk (HS4.out.below hb); have HV5 := Aside0.mk (HV4.out.below hb); have HC5 := Aside0.mk (HC4.out.below hb); have HN5 := Aside0.mk (HN4.out.below hb); clear hb HB4 HS4 HV4 HC4 HN4
       obtain ⟨v0_5, v1_5, v2_5, v3_5, v4_5, v5_5⟩ := HV5.out.six
       obtain ⟨c0_5, c1_5, c2_5, c3_5, c4_5, c5_5⟩ := HC5.out.six
       obtain ⟨n0_5, n1_5, n2_5, n3_5, n4_5, n5_5⟩ := HN5.out.six
       go_wp2_with fail
       go_ret2
       exact ⟨_, (by first | rfl | (rw [t0, t2, t3]; rfl)), HB5.out⟩
     | false =>
      obtain ⟨v0_3, v1_3, v2_3, v3_3, v4_3, v5_3⟩ := HV3.out.six
      obtain ⟨c0_3, c1_3, c2_3, c3_3, c4_3, c5_3⟩ := HC3.out.six
      obtain ⟨n0_3, n1_3, n2_3, n3_3, n4_3, n5_3⟩ := HN3.out.six
      go_wp2_with fail
      refine (semver_Version_Major.calls y0 y1 y2 yp ym yo _ _ rfl).mono ?_
      rintro e w4 ⟨rfl, hb⟩
      clear v0_3 v1_3 v2_3 v3_3 v4_3 v5_3 c0_3 c1_3 c2_3 c3_3 c4_3 c5_3 n0_3 n1_3 n2_3 n3_3 n4_3 n5_3
      have HB4 := Aside0.mk (HB3.out.trans (hb.mono HB3.out.size)); have HS4 := Aside0.mk (HS3.out.below hb); have HV4 := Aside0.mk (HV3.out.below hb); have HC4 := Aside0.mk (HC3.out.below hb); have HN4 := Aside0.mk (HN3.out.below hb); clear hb HB3 HS3 HV3 HC3 HN3
      cases t5 : (y0 == 0) with
      | true =>
       have t5' := bne_of t5
       replace t5' : (y0 != 0) = false := t5'
       obtain ⟨v0_4, v1_4, v2_4, v3_4, v4_4, v5_4⟩ := HV4.out.six
       obtain ⟨c0_4, c1_4, c2_4, c3_4, c4_4, c5_4⟩ := HC4.out.six
       obtain ⟨n0_4, n1_4, n2_4, n3_4, n4_4, n5_4⟩ := HN4.out.six
       go_wp2_with fail
       refine (semver_Version_Major.calls x0 x1 x2 xp xm xo _ _ rfl).mono ?_
       rintro e w5 ⟨rfl, hb⟩
       clear v0_4 v1_4 v2_4 v3_4 v4_4 v5_4 c0_4 c1_4 c2_4 c3_4 c4_4 c5_4 n0_4 n1_4 n2_4 n3_4 n4_4 n5_4
       have HB5 := Aside0.mk (HB4.out.trans (hb.mono HB4.out.size)); have HS5 := Aside0.mk (HS4.out.below hb); have HV5 := Aside0.mk (HV4.out.below hb); have HC5 := Aside0.mk (HC4.out.below hb); have HN5 := Aside0.mk (HN4.out.below hb); clear hb HB4 HS4 HV4 HC4 HN4
       cases t6 : (decide (0 < x0)) with
       | true =>
        obtain ⟨v0_5, v1_5, v2_5, v3_5, v4_5, v5_5⟩ := HV5.out.six
        obtain ⟨c0_5, c1_5, c2_5, c3_5, c4_5, c5_5⟩ := HC5.out.six
        obtain ⟨n0_5, n1_5, n2_5, n3_5, n4_5, n5_5⟩ := HN5.out.six
        go_wp2_with fail
        refine (errNew _ _).mono ?_
        rintro e w6 ⟨et5, ep5, rfl, hb⟩
        clear v0_5 v1_5 v2_5 v3_5 v4_5 v5_5 c0_5 c1_5 c2_5 c3_5 c4_5 c5_5 n0_5 n1_5 n2_5 n3_5 n4_5 n5_5
        have HB6 := Aside0.mk (HB5.out.trans (hb.mono HB5.out.size)); have HS6 := Aside0.mk (HS5.out.below hb); have HV6 := Aside0.mk (HV5.out.below hb); have HC6 := Aside0.mk (HC5.out.below hb); have HN6 := Aside0.mk (HN5.out.below hb); clear hb HB5 HS5 HV5 HC5 HN5
        obtain ⟨v0_6, v1_6, v2_6, v3_6, v4_6, v5_6⟩ := HV6.out.six
        obtain ⟨c0_6, c1_6, c2_6, c3_6, c4_6, c5_6⟩ := HC6.out.six
        obtain ⟨n0_6, n1_6, n2_6, n3_6, n4_6, n5_6⟩ := HN6.out.six
        go_wp2_with fail
        go_ret2
        exact ⟨_, (by first | rfl | (rw [t0, t2, t5, t6]; rfl)), HB6.out⟩
       | false =>
        obtain ⟨v0_5, v1_5, v2_5, v3_5, v4_5, v5_5⟩ := HV5.out.six
        obtain ⟨c0_5, c1_5, c2_5, c3_5, c4_5, c5_5⟩ := HC5.out.six
        obtain ⟨n0_5, n1_5, n2_5, n3_5, n4_5, n5_5⟩ := HN5.out.six
        go_wp2_with fail
        refine (semver_Version_Minor.calls y0 y1 y2 yp ym yo _ _ rfl).mono ?_
        rintro e w6 ⟨rfl, hb⟩
        clear v0_5 v1_5 v2_5 v3_5 v4_5 v5_5 c0_5 c1_5 c2_5 c3_5 c4_5 c5_5 n0_5 n1_5 n2_5 n3_5 n4_5 n5_5
        have HB6 := Aside0.mk (HB5.out.trans (hb.mono HB5.out.size)); have HS6 := Aside0.mk (HS5.out.below hb); have HV6 := Aside0.mk (HV5.out.below hb); have HC6 := Aside0.mk (HC5.out.below hb); have HN6 := Aside0.mk (HN5.out.below hb); clear hb HB5 HS5 HV5 HC5 HN5
        cases t7 : (decide (0 < y1)) with
        | true =>
         obtain ⟨v0_6, v1_6, v2_6, v3_6, v4_6, v5_6⟩ := HV6.out.six
         obtain ⟨c0_6, c1_6, c2_6, c3_6, c4_6, c5_6⟩ := HC6.out.six
         obtain ⟨n0_6, n1_6, n2_6, n3_6, n4_6, n5_6⟩ := HN6.out.six
         go_wp2_with fail
         clear v0_6 v1_6 v2_6 v3_6 v4_6 v5_6 c0_6 c1_6 c2_6 c3_6 c4_6 c5_6 n0_6 n1_6 n2_6 n3_6 n4_6 n5_6
         obtain ⟨v0_6, v1_6, v2_6, v3_6, v4_6, v5_6⟩ := HV6.out.sixR
         obtain ⟨c0_6, c1_6, c2_6, c3_6, c4_6, c5_6⟩ := HC6.out.sixR
         obtain ⟨n0_6, n1_6, n2_6, n3_6, n4_6, n5_6⟩ := HN6.out.sixR
         have c0 := fun d os => Calls.regrown_of (semver_Version_Minor.calls x0 x1 x2 xp xm xo _ (grow (redrawn w6 d) os) rfl)
         have c1 := fun d os => Calls.regrown_of (semver_Version_Minor.calls y0 y1 y2 yp ym yo _ (grow (redrawn w6 d) os) rfl)
         refine wp_region_quiet_below (by kernel_rfl) (by kernel_rfl) ?_
         repeat (first | go_big_quiet_step (first | exact c0 _ _ | exact c1 _ _) | quiet_step (first | exact c0 _ _ | exact c1 _ _))
         refine wpQuiet_nil ?_
         intro _ hw'; obtain ⟨⟨dq, osq⟩, hw''⟩ := hw'; subst hw''; clear c0 c1 v0_6 v1_6 v2_6 v3_6 v4_6 v5_6 c0_6 c1_6 c2_6 c3_6 c4_6 c5_6 n0_6 n1_6 n2_6 n3_6 n4_6 n5_6
         have hb := below_regrown w6 dq osq
         generalize grow (redrawn w6 dq) osq = w7 at *
         have HB7 := Aside0.mk (HB6.out.trans (hb.mono HB6.out.size)); have HS7 := Aside0.mk (HS6.out.below hb); have HV7 := Aside0.mk (HV6.out.below hb); have HC7 := Aside0.mk (HC6.out.below hb); have HN7 := Aside0.mk (HN6.out.below hb); clear hb HB6 HS6 HV6 HC6 HN6
         cases t8 : (x1 == y1) with
         | true =>
          have t8' := bne_of t8
          replace t8' : (x1 != y1) = false := t8'
          obtain ⟨v0_7, v1_7, v2_7, v3_7, v4_7, v5_7⟩ := HV7.out.six
          obtain ⟨c0_7, c1_7, c2_7, c3_7, c4_7, c5_7⟩ := HC7.out.six
          obtain ⟨n0_7, n1_7, n2_7, n3_7, n4_7, n5_7⟩ := HN7.out.six
          go_wp2_with fail
          go_ret2
          exact ⟨_, (by first | rfl | (rw [t0, t2, t5, t6, t7, t8]; rfl)), HB7.out⟩
         | false =>
          have t8' := bne_of t8
          replace t8' : (x1 != y1) = true := t8'
          obtain ⟨v0_7, v1_7, v2_7, v3_7, v4_7, v5_7⟩ := HV7.out.six
          obtain ⟨c0_7, c1_7, c2_7, c3_7, c4_7, c5_7⟩ := HC7.out.six
          obtain ⟨n0_7, n1_7, n2_7, n3_7, n4_7, n5_7⟩ := HN7.out.six
          go_wp2_with fail
          refine (errNew _ _).mono ?_
          rintro e w8 ⟨et7, ep7, rfl, hb⟩
          clear v0_7 v1_7 v2_7 v3_7 v4_7 v5_7 c0_7 c1_7 c2_7 c3_7 c4_7 c5_7 n0_7 n1_7 n2_7 n3_7 n4_7 n5_7
          have HB8 := Aside0.mk (HB7.out.trans (hb.mono HB7.out.size)); have HS8 := Aside0.mk (HS7.out.below hb); have HV8 := Aside0.mk (HV7.out.below hb); have HC8 := Aside0.mk (HC7.out.below hb); have HN8 := Aside0.mk (HN7.out.below hb); clear hb HB7 HS7 HV7 HC7 HN7
          obtain ⟨v0_8, v1_8, v2_8, v3_8, v4_8, v5_8⟩ := HV8.out.six
          obtain ⟨c0_8, c1_8, c2_8, c3_8, c4_8, c5_8⟩ := HC8.out.six
          obtain ⟨n0_8, n1_8, n2_8, n3_8, n4_8, n5_8⟩ := HN8.out.six
          go_wp2_with fail
          go_ret2
          exact ⟨_, (by first | rfl | (rw [t0, t2, t5, t6, t7, t8]; rfl)), HB8.out⟩
        | false =>
         cases pD with
         | true =>
          obtain ⟨v0_6, v1_6, v2_6, v3_6, v4_6, v5_6⟩ := HV6.out.six
          obtain ⟨c0_6, c1_6, c2_6, c3_6, c4_6, c5_6⟩ := HC6.out.six
          obtain ⟨n0_6, n1_6, n2_6, n3_6, n4_6, n5_6⟩ := HN6.out.six
          go_wp2_with fail
          clear v0_6 v1_6 v2_6 v3_6 v4_6 v5_6 c0_6 c1_6 c2_6 c3_6 c4_6 c5_6 n0_6 n1_6 n2_6 n3_6 n4_6 n5_6
          obtain ⟨v0_6, v1_6, v2_6, v3_6, v4_6, v5_6⟩ := HV6.out.sixR
          obtain ⟨c0_6, c1_6, c2_6, c3_6, c4_6, c5_6⟩ := HC6.out.sixR
          obtain ⟨n0_6, n1_6, n2_6, n3_6, n4_6, n5_6⟩ := HN6.out.sixR
          have c0 := fun d os => Calls.regrown_of (semver_Version_Minor.calls x0 x1 x2 xp xm xo _ (grow (redrawn w6 d) os) rfl)
          have c1 := fun d os => Calls.regrown_of (semver_Version_Minor.calls y0 y1 y2 yp ym yo _ (grow (redrawn w6 d) os) rfl)
          refine wp_region_quiet_below (by kernel_rfl) (by kernel_rfl) ?_
          repeat (first | go_big_quiet_step (first | exact c0 _ _ | exact c1 _ _) | quiet_step (first | exact c0 _ _ | exact c1 _ _))
          refine wpQuiet_nil ?_
          intro _ hw'; obtain ⟨⟨dq, osq⟩, hw''⟩ := hw'; subst hw''; clear c0 c1 v0_6 v1_6 v2_6 v3_6 v4_6 v5_6 c0_6 c1_6 c2_6 c3_6 c4_6 c5_6 n0_6 n1_6 n2_6 n3_6 n4_6 n5_6
          have hb := below_regrown w6 dq osq
          generalize grow (redrawn w6 dq) osq = w7 at *
          have HB7 := Aside0.mk (HB6.out.trans (hb.mono HB6.out.size)); have HS7 := Aside0.mk (HS6.out.below hb); have HV7 := Aside0.mk (HV6.out.below hb); have HC7 := Aside0.mk (HC6.out.below hb); have HN7 := Aside0.mk (HN6.out.below hb); clear hb HB6 HS6 HV6 HC6 HN6
          cases t8 : (x1 == y1) with
          | true =>
           have t8' := bne_of t8
           replace t8' : (x1 != y1) = false := t8'
           obtain ⟨v0_7, v1_7, v2_7, v3_7, v4_7, v5_7⟩ := HV7.out.six
           obtain ⟨c0_7, c1_7, c2_7, c3_7, c4_7, c5_7⟩ := HC7.out.six
           obtain ⟨n0_7, n1_7, n2_7, n3_7, n4_7, n5_7⟩ := HN7.out.six
           go_wp2_with fail
           go_ret2
           exact ⟨_, (by first | rfl | (rw [t0, t2, t5, t6, t7, t8]; rfl)), HB7.out⟩
          | false =>
           have t8' := bne_of t8
           replace t8' : (x1 != y1) = true := t8'
           obtain ⟨v0_7, v1_7, v2_7, v3_7, v4_7, v5_7⟩ := HV7.out.six
           obtain ⟨c0_7, c1_7, c2_7, c3_7, c4_7, c5_7⟩ := HC7.out.six
           obtain ⟨n0_7, n1_7, n2_7, n3_7, n4_7, n5_7⟩ := HN7.out.six
           go_wp2_with fail
           refine (errNew _ _).mono ?_
           rintro e w8 ⟨et7, ep7, rfl, hb⟩
           clear v0_7 v1_7 v2_7 v3_7 v4_7 v5_7 c0_7 c1_7 c2_7 c3_7 c4_7 c5_7 n0_7 n1_7 n2_7 n3_7 n4_7 n5_7
           have HB8 := Aside0.mk (HB7.out.trans (hb.mono HB7.out.size)); have HS8 := Aside0.mk (HS7.out.below hb); have HV8 := Aside0.mk (HV7.out.below hb); have HC8 := Aside0.mk (HC7.out.below hb); have HN8 := Aside0.mk (HN7.out.below hb); clear hb HB7 HS7 HV7 HC7 HN7
           obtain ⟨v0_8, v1_8, v2_8, v3_8, v4_8, v5_8⟩ := HV8.out.six
           obtain ⟨c0_8, c1_8, c2_8, c3_8, c4_8, c5_8⟩ := HC8.out.six
           obtain ⟨n0_8, n1_8, n2_8, n3_8, n4_8, n5_8⟩ := HN8.out.six
           go_wp2_with fail
           go_ret2
           exact ⟨_, (by first | rfl | (rw [t0, t2, t5, t6, t7, t8]; rfl)), HB8.out⟩
         | false =>
          obtain ⟨v0_6, v1_6, v2_6, v3_6, v4_6, v5_6⟩ := HV6.out.six
          obtain ⟨c0_6, c1_6, c2_6, c3_6, c4_6, c5_6⟩ := HC6.out.six
          obtain ⟨n0_6, n1_6, n2_6, n3_6, n4_6, n5_6⟩ := HN6.out.six
          go_wp2_with fail
          refine (semver_Version_Minor.calls y0 y1 y2 yp ym yo _ _ rfl).mono ?_
          rintro e w7 ⟨rfl, hb⟩
          clear v0_6 v1_6 v2_6 v3_6 v4_6 v5_6 c0_6 c1_6 c2_6 c3_6 c4_6 c5_6 n0_6 n1_6 n2_6 n3_6 n4_6 n5_6
          have HB7 := Aside0.mk (HB6.out.trans (hb.mono HB6.out.size)); have HS7 := Aside0.mk (HS6.out.below hb); have HV7 := Aside0.mk (HV6.out.below hb); have HC7 := Aside0.mk (HC6.out.below hb); have HN7 := Aside0.mk (HN6.out.below hb); clear hb HB6 HS6 HV6 HC6 HN6
          cases t10 : (y1 == 0) with
          | true =>
           have t10' := bne_of t10
           replace t10' : (y1 != 0) = false := t10'
           obtain ⟨v0_7, v1_7, v2_7, v3_7, v4_7, v5_7⟩ := HV7.out.six
           obtain ⟨c0_7, c1_7, c2_7, c3_7, c4_7, c5_7⟩ := HC7.out.six
           obtain ⟨n0_7, n1_7, n2_7, n3_7, n4_7, n5_7⟩ := HN7.out.six
           go_wp2_with fail
           refine (semver_Version_Minor.calls x0 x1 x2 xp xm xo _ _ rfl).mono ?_
           rintro e w8 ⟨rfl, hb⟩
           clear v0_7 v1_7 v2_7 v3_7 v4_7 v5_7 c0_7 c1_7 c2_7 c3_7 c4_7 c5_7 n0_7 n1_7 n2_7 n3_7 n4_7 n5_7
           have HB8 := Aside0.mk (HB7.out.trans (hb.mono HB7.out.size)); have HS8 := Aside0.mk (HS7.out.below hb); have HV8 := Aside0.mk (HV7.out.below hb); have HC8 := Aside0.mk (HC7.out.below hb); have HN8 := Aside0.mk (HN7.out.below hb); clear hb HB7 HS7 HV7 HC7 HN7
           cases t11 : (decide (0 < x1)) with
           | true =>
            obtain ⟨v0_8, v1_8, v2_8, v3_8, v4_8, v5_8⟩ := HV8.out.six
            obtain ⟨c0_8, c1_8, c2_8, c3_8, c4_8, c5_8⟩ := HC8.out.six
            obtain ⟨n0_8, n1_8, n2_8, n3_8, n4_8, n5_8⟩ := HN8.out.six
            go_wp2_with fail
            refine (errNew _ _).mono ?_
            rintro e w9 ⟨et8, ep8, rfl, hb⟩
            clear v0_8 v1_8 v2_8 v3_8 v4_8 v5_8 c0_8 c1_8 c2_8 c3_8 c4_8 c5_8 n0_8 n1_8 n2_8 n3_8 n4_8 n5_8
            have HB9 := Aside0.mk (HB8.out.trans (hb.mono HB8.out.size)); have HS9 := Aside0.mk (HS8.out.below hb); have HV9 := Aside0.mk (HV8.out.below hb); have HC9 := Aside0.mk (HC8.out.below hb); have HN9 := Aside0.mk (HN8.out.below hb); clear hb HB8 HS8 HV8 HC8 HN8
            obtain ⟨v0_9, v1_9, v2_9, v3_9, v4_9, v5_9⟩ := HV9.out.six
            obtain ⟨c0_9, c1_9, c2_9, c3_9, c4_9, c5_9⟩ := HC9.out.six
            obtain ⟨n0_9, n1_9, n2_9, n3_9, n4_9, n5_9⟩ := HN9.out.six
            go_wp2_with fail
            go_ret2
            exact ⟨_, (by first | rfl | (rw [t0, t2, t5, t6, t7, t10, t11]; rfl)), HB9.out⟩
           | false =>
            obtain ⟨v0_8, v1_8, v2_8, v3_8, v4_8, v5_8⟩ := HV8.out.six
            obtain ⟨c0_8, c1_8, c2_8, c3_8, c4_8, c5_8⟩ := HC8.out.six
            obtain ⟨n0_8, n1_8, n2_8, n3_8, n4_8, n5_8⟩ := HN8.out.six
            go_wp2_with fail
            clear v0_8 v1_8 v2_8 v3_8 v4_8 v5_8 c0_8 c1_8 c2_8 c3_8 c4_8 c5_8 n0_8 n1_8 n2_8 n3_8 n4_8 n5_8
            obtain ⟨v0_8, v1_8, v2_8, v3_8, v4_8, v5_8⟩ := HV8.out.sixR
            obtain ⟨c0_8, c1_8, c2_8, c3_8, c4_8, c5_8⟩ := HC8.out.sixR
            obtain ⟨n0_8, n1_8, n2_8, n3_8, n4_8, n5_8⟩ := HN8.out.sixR
            have c0 := fun d os => Calls.regrown_of (semver_Version_Patch.calls y0 y1 y2 yp ym yo _ (grow (redrawn w8 d) os) rfl)
            have c1 := fun d os => Calls.regrown_of (semver_Version_Patch.calls x0 x1 x2 xp xm xo _ (grow (redrawn w8 d) os) rfl)
            refine wp_region_quiet_below (by kernel_rfl) (by kernel_rfl) ?_
            repeat (first | go_big_quiet_step (first | exact c0 _ _ | exact c1 _ _) | quiet_step (first | exact c0 _ _ | exact c1 _ _))
            refine wpQuiet_nil ?_
            intro _ hw'; obtain ⟨⟨dq, osq⟩, hw''⟩ := hw'; subst hw''; clear c0 c1 v0_8 v1_8 v2_8 v3_8 v4_8 v5_8 c0_8 c1_8 c2_8 c3_8 c4_8 c5_8 n0_8 n1_8 n2_8 n3_8 n4_8 n5_8
            have hb := below_regrown w8 dq osq
            generalize grow (redrawn w8 dq) osq = w9 at *
            have HB9 := Aside0.mk (HB8.out.trans (hb.mono HB8.out.size)); have HS9 := Aside0.mk (HS8.out.below hb); have HV9 := Aside0.mk (HV8.out.below hb); have HC9 := Aside0.mk (HC8.out.below hb); have HN9 := Aside0.mk (HN8.out.below hb); clear hb HB8 HS8 HV8 HC8 HN8
            cases t12 : (y2 == x2) with
            | true =>
             have t12' := bne_of t12
             replace t12' : (y2 != x2) = false := t12'
             obtain ⟨v0_9, v1_9, v2_9, v3_9, v4_9, v5_9⟩ := HV9.out.six
             obtain ⟨c0_9, c1_9, c2_9, c3_9, c4_9, c5_9⟩ := HC9.out.six
             obtain ⟨n0_9, n1_9, n2_9, n3_9, n4_9, n5_9⟩ := HN9.out.six
             go_wp2_with fail
             go_ret2
             exact ⟨_, (by first | rfl | (rw [t0, t2, t5, t6, t7, t10, t11, t12]; rfl)), HB9.out⟩
            | false =>
             have t12' := bne_of t12
             replace t12' : (y2 != x2) = true := t12'
             obtain ⟨v0_9, v1_9, v2_9, v3_9, v4_9, v5_9⟩ := HV9.out.six
             obtain ⟨c0_9, c1_9, c2_9, c3_9, c4_9, c5_9⟩ := HC9.out.six
             obtain ⟨n0_9, n1_9, n2_9, n3_9, n4_9, n5_9⟩ := HN9.out.six
             go_wp2_with fail
             refine (errNew _ _).mono ?_
             rintro e w10 ⟨et9, ep9, rfl, hb⟩
             clear v0_9 v1_9 v2_9 v3_9 v4_9 v5_9 c0_9 c1_9 c2_9 c3_9 c4_9 c5_9 n0_9 n1_9 n2_9 n3_9 n4_9 n5_9
             have HB10 := Aside0.mk (HB9.out.trans (hb.mono HB9.out.size)); have HS10 := Aside0.mk (HS9.out.below hb); have HV10 := Aside0.mk (HV9.out.below hb); have HC10 := Aside0.mk (HC9.out.below hb); have HN10 := Aside0.mk (HN9.out.below hb); clear hb HB9 HS9 HV9 HC9 HN9
             obtain ⟨v0_10, v1_10, v2_10, v3_10, v4_10, v5_10⟩ := HV10.out.six
             obtain ⟨c0_10, c1_10, c2_10, c3_10, c4_10, c5_10⟩ := HC10.out.six
             obtain ⟨n0_10, n1_10, n2_10, n3_10, n4_10, n5_10⟩ := HN10.out.six
             go_wp2_with fail
             go_ret2
             exact ⟨_, (by first | rfl | (rw [t0, t2, t5, t6, t7, t10, t11, t12]; rfl)), HB10.out⟩
          | false =>
           have t10' := bne_of t10
           replace t10' : (y1 != 0) = true := t10'
           obtain ⟨v0_7, v1_7, v2_7, v3_7, v4_7, v5_7⟩ := HV7.out.six
           obtain ⟨c0_7, c1_7, c2_7, c3_7, c4_7, c5_7⟩ := HC7.out.six
           obtain ⟨n0_7, n1_7, n2_7, n3_7, n4_7, n5_7⟩ := HN7.out.six
           go_wp2_with fail
           clear v0_7 v1_7 v2_7 v3_7 v4_7 v5_7 c0_7 c1_7 c2_7 c3_7 c4_7 c5_7 n0_7 n1_7 n2_7 n3_7 n4_7 n5_7
           obtain ⟨v0_7, v1_7, v2_7, v3_7, v4_7, v5_7⟩ := HV7.out.sixR
           obtain ⟨c0_7, c1_7, c2_7, c3_7, c4_7, c5_7⟩ := HC7.out.sixR
           obtain ⟨n0_7, n1_7, n2_7, n3_7, n4_7, n5_7⟩ := HN7.out.sixR
           have c0 := fun d os => Calls.regrown_of (semver_Version_Patch.calls y0 y1 y2 yp ym yo _ (grow (redrawn w7 d) os) rfl)
           have c1 := fun d os => Calls.regrown_of (semver_Version_Patch.calls x0 x1 x2 xp xm xo _ (grow (redrawn w7 d) os) rfl)
           refine wp_region_quiet_below (by kernel_rfl) (by kernel_rfl) ?_
           repeat (first | go_big_quiet_step (first | exact c0 _ _ | exact c1 _ _) | quiet_step (first | exact c0 _ _ | exact c1 _ _))
           refine wpQuiet_nil ?_
           intro _ hw'; obtain ⟨⟨dq, osq⟩, hw''⟩ := hw'; subst hw''; clear c0 c1 v0_7 v1_7 v2_7 v3_7 v4_7 v5_7 c0_7 c1_7 c2_7 c3_7 c4_7 c5_7 n0_7 n1_7 n2_7 n3_7 n4_7 n5_7
           have hb := below_regrown w7 dq osq
           generalize grow (redrawn w7 dq) osq = w8 at *
           have HB8 := Aside0.mk (HB7.out.trans (hb.mono HB7.out.size)); have HS8 := Aside0.mk (HS7.out.below hb); have HV8 := Aside0.mk (HV7.out.below hb); have HC8 := Aside0.mk (HC7.out.below hb); have HN8 := Aside0.mk (HN7.out.below hb); clear hb HB7 HS7 HV7 HC7 HN7
           cases t12 : (y2 == x2) with
           | true =>
            have t12' := bne_of t12
            replace t12' : (y2 != x2) = false := t12'
            obtain ⟨v0_8, v1_8, v2_8, v3_8, v4_8, v5_8⟩ := HV8.out.six
            obtain ⟨c0_8, c1_8, c2_8, c3_8, c4_8, c5_8⟩ := HC8.out.six
            obtain ⟨n0_8, n1_8, n2_8, n3_8, n4_8, n5_8⟩ := HN8.out.six
            go_wp2_with fail
            go_ret2
            exact ⟨_, (by first | rfl | (rw [t0, t2, t5, t6, t7, t10, t12]; rfl)), HB8.out⟩
           | false =>
            have t12' := bne_of t12
            replace t12' : (y2 != x2) = true := t12'
            obtain ⟨v0_8, v1_8, v2_8, v3_8, v4_8, v5_8⟩ := HV8.out.six
            obtain ⟨c0_8, c1_8, c2_8, c3_8, c4_8, c5_8⟩ := HC8.out.six
            obtain ⟨n0_8, n1_8, n2_8, n3_8, n4_8, n5_8⟩ := HN8.out.six
            go_wp2_with fail
            refine (errNew _ _).mono ?_
            rintro e w9 ⟨et8, ep8, rfl, hb⟩
            clear v0_8 v1_8 v2_8 v3_8 v4_8 v5_8 c0_8 c1_8 c2_8 c3_8 c4_8 c5_8 n0_8 n1_8 n2_8 n3_8 n4_8 n5_8
            have HB9 := Aside0.mk (HB8.out.trans (hb.mono HB8.out.size)); have HS9 := Aside0.mk (HS8.out.below hb); have HV9 := Aside0.mk (HV8.out.below hb); have HC9 := Aside0.mk (HC8.out.below hb); have HN9 := Aside0.mk (HN8.out.below hb); clear hb HB8 HS8 HV8 HC8 HN8
            obtain ⟨v0_9, v1_9, v2_9, v3_9, v4_9, v5_9⟩ := HV9.out.six
            obtain ⟨c0_9, c1_9, c2_9, c3_9, c4_9, c5_9⟩ := HC9.out.six
            obtain ⟨n0_9, n1_9, n2_9, n3_9, n4_9, n5_9⟩ := HN9.out.six
            go_wp2_with fail
            go_ret2
            exact ⟨_, (by first | rfl | (rw [t0, t2, t5, t6, t7, t10, t12]; rfl)), HB9.out⟩
      | false =>
       have t5' := bne_of t5
       replace t5' : (y0 != 0) = true := t5'
       obtain ⟨v0_4, v1_4, v2_4, v3_4, v4_4, v5_4⟩ := HV4.out.six
       obtain ⟨c0_4, c1_4, c2_4, c3_4, c4_4, c5_4⟩ := HC4.out.six
       obtain ⟨n0_4, n1_4, n2_4, n3_4, n4_4, n5_4⟩ := HN4.out.six
       go_wp2_with fail
       refine (semver_Version_Minor.calls y0 y1 y2 yp ym yo _ _ rfl).mono ?_
       rintro e w5 ⟨rfl, hb⟩
       clear v0_4 v1_4 v2_4 v3_4 v4_4 v5_4 c0_4 c1_4 c2_4 c3_4 c4_4 c5_4 n0_4 n1_4 n2_4 n3_4 n4_4 n5_4
       have HB5 := Aside0.mk (HB4.out.trans (hb.mono HB4.out.size)); have HS5 := Aside0.mk (HS4.out.below hb); have HV5 := Aside0.mk (HV4.out.below hb); have HC5 := Aside0.mk (HC4.out.below hb); have HN5 := Aside0.mk (HN4.out.below hb); clear hb HB4 HS4 HV4 HC4 HN4
       cases t7 : (decide (0 < y1)) with
       | true =>
        obtain ⟨v0_5, v1_5, v2_5, v3_5, v4_5, v5_5⟩ := HV5.out.six
        obtain ⟨c0_5, c1_5, c2_5, c3_5, c4_5, c5_5⟩ := HC5.out.six
        obtain ⟨n0_5, n1_5, n2_5, n3_5, n4_5, n5_5⟩ := HN5.out.six
        go_wp2_with fail
        clear v0_5 v1_5 v2_5 v3_5 v4_5 v5_5 c0_5 c1_5 c2_5 c3_5 c4_5 c5_5 n0_5 n1_5 n2_5 n3_5 n4_5 n5_5
        obtain ⟨v0_5, v1_5, v2_5, v3_5, v4_5, v5_5⟩ := HV5.out.sixR
        obtain ⟨c0_5, c1_5, c2_5, c3_5, c4_5, c5_5⟩ := HC5.out.sixR
        obtain ⟨n0_5, n1_5, n2_5, n3_5, n4_5, n5_5⟩ := HN5.out.sixR
        have c0 := fun d os => Calls.regrown_of (semver_Version_Minor.calls x0 x1 x2 xp xm xo _ (grow (redrawn w5 d) os) rfl)
        have c1 := fun d os => Calls.regrown_of (semver_Version_Minor.calls y0 y1 y2 yp ym yo _ (grow (redrawn w5 d) os) rfl)
        refine wp_region_quiet_below (by kernel_rfl) (by kernel_rfl) ?_
        repeat (first | go_big_quiet_step (first | exact c0 _ _ | exact c1 _ _) | quiet_step (first | exact c0 _ _ | exact c1 _ _))
        refine wpQuiet_nil ?_
        intro _ hw'; obtain ⟨⟨dq, osq⟩, hw''⟩ := hw'; subst hw''; clear c0 c1 v0_5 v1_5 v2_5 v3_5 v4_5 v5_5 c0_5 c1_5 c2_5 c3_5 c4_5 c5_5 n0_5 n1_5 n2_5 n3_5 n4_5 n5_5
        have hb := below_regrown w5 dq osq
        generalize grow (redrawn w5 dq) osq = w6 at *
        have HB6 := Aside0.mk (HB5.out.trans (hb.mono HB5.out.size)); have HS6 := Aside0.mk (HS5.out.below hb); have HV6 := Aside0.mk (HV5.out.below hb); have HC6 := Aside0.mk (HC5.out.below hb); have HN6 := Aside0.mk (HN5.out.below hb); clear hb HB5 HS5 HV5 HC5 HN5
        cases t8 : (x1 == y1) with
        | true =>
         have t8' := bne_of t8
         replace t8' : (x1 != y1) = false := t8'
         obtain ⟨v0_6, v1_6, v2_6, v3_6, v4_6, v5_6⟩ := HV6.out.six
         obtain ⟨c0_6, c1_6, c2_6, c3_6, c4_6, c5_6⟩ := HC6.out.six
         obtain ⟨n0_6, n1_6, n2_6, n3_6, n4_6, n5_6⟩ := HN6.out.six
         go_wp2_with fail
         go_ret2
         exact ⟨_, (by first | rfl | (rw [t0, t2, t5, t7, t8]; rfl)), HB6.out⟩
        | false =>
         have t8' := bne_of t8
         replace t8' : (x1 != y1) = true := t8'
         obtain ⟨v0_6, v1_6, v2_6, v3_6, v4_6, v5_6⟩ := HV6.out.six
         obtain ⟨c0_6, c1_6, c2_6, c3_6, c4_6, c5_6⟩ := HC6.out.six
         obtain ⟨n0_6, n1_6, n2_6, n3_6, n4_6, n5_6⟩ := HN6.out.six
         go_wp2_with fail
         refine (errNew _ _).mono ?_
         rintro e w7 ⟨et6, ep6, rfl, hb⟩
         clear v0_6 v1_6 v2_6 v3_6 v4_6 v5_6 c0_6 c1_6 c2_6 c3_6 c4_6 c5_6 n0_6 n1_6 n2_6 n3_6 n4_6 n5_6
         have HB7 := Aside0.mk (HB6.out.trans (hb.mono HB6.out.size)); have HS7 := Aside0.mk (HS6.out.below hb); have HV7 := Aside0.mk (HV6.out.below hb); have HC7 := Aside0.mk (HC6.out.below hb); have HN7 := Aside0.mk (HN6.out.below hb); clear hb HB6 HS6 HV6 HC6 HN6
         obtain ⟨v0_7, v1_7, v2_7, v3_7, v4_7, v5_7⟩ := HV7.out.six
         obtain ⟨c0_7, c1_7, c2_7, c3_7, c4_7, c5_7⟩ := HC7.out.six
         obtain ⟨n0_7, n1_7, n2_7, n3_7, n4_7, n5_7⟩ := HN7.out.six
         go_wp2_with fail
         go_ret2
         exact ⟨_, (by first | rfl | (rw [t0, t2, t5, t7, t8]; rfl)), HB7.out⟩
       | false =>
        cases pD with
        | true =>
         obtain ⟨v0_5, v1_5, v2_5, v3_5, v4_5, v5_5⟩ := HV5.out.six
         obtain ⟨c0_5, c1_5, c2_5, c3_5, c4_5, c5_5⟩ := HC5.out.six
         obtain ⟨n0_5, n1_5, n2_5, n3_5, n4_5, n5_5⟩ := HN5.out.six
         go_wp2_with fail
         clear v0_5 v1_5 v2_5 v3_5 v4_5 v5_5 c0_5 c1_5 c2_5 c3_5 c4_5 c5_5 n0_5 n1_5 n2_5 n3_5 n4_5 n5_5
         obtain ⟨v0_5, v1_5, v2_5, v3_5, v4_5, v5_5⟩ := HV5.out.sixR
         obtain ⟨c0_5, c1_5, c2_5, c3_5, c4_5, c5_5⟩ := HC5.out.sixR
         obtain ⟨n0_5, n1_5, n2_5, n3_5, n4_5, n5_5⟩ := HN5.out.sixR
         have c0 := fun d os => Calls.regrown_of (semver_Version_Minor.calls x0 x1 x2 xp xm xo _ (grow (redrawn w5 d) os) rfl)
         have c1 := fun d os => Calls.regrown_of (semver_Version_Minor.calls y0 y1 y2 yp ym yo _ (grow (redrawn w5 d) os) rfl)
         refine wp_region_quiet_below (by kernel_rfl) (by kernel_rfl) ?_
         repeat (first | go_big_quiet_step (first | exact c0 _ _ | exact c1 _ _) | quiet_step (first | exact c0 _ _ | exact c1 _ _))
         refine wpQuiet_nil ?_
         intro _ hw'; obtain ⟨⟨dq, osq⟩, hw''⟩ := hw'; subst hw''; clear c0 c1 v0_5 v1_5 v2_5 v3_5 v4_5 v5_5 c0_5 c1_5 c2_5 c3_5 c4_5 c5_5 n0_5 n1_5 n2_5 n3_5 n4_5 n5_5
         have hb := below_regrown w5 dq osq
         generalize grow (redrawn w5 dq) osq = w6 at *
         have HB6 := Aside0.mk (HB5.out.trans (hb.mono HB5.out.size)); have HS6 := Aside0.mk (HS5.out.below hb); have HV6 := Aside0.mk (HV5.out.below hb); have HC6 := Aside0.mk (HC5.out.below hb); have HN6 := Aside0.mk (HN5.out.below hb); clear hb HB5 HS5 HV5 HC5 HN5
         cases t8 : (x1 == y1) with
         | true =>
          have t8' := bne_of t8
          replace t8' : (x1 != y1) = false := t8'
          obtain ⟨v0_6, v1_6, v2_6, v3_6, v4_6, v5_6⟩ := HV6.out.six
          obtain ⟨c0_6, c1_6, c2_6, c3_6, c4_6, c5_6⟩ := HC6.out.six
          obtain ⟨n0_6, n1_6, n2_6, n3_6, n4_6, n5_6⟩ := HN6.out.six
          go_wp2_with fail
          go_ret2
          exact ⟨_, (by first | rfl | (rw [t0, t2, t5, t7, t8]; rfl)), HB6.out⟩
         | false =>
          have t8' := bne_of t8
          replace t8' : (x1 != y1) = true := t8'
          obtain ⟨v0_6, v1_6, v2_6, v3_6, v4_6, v5_6⟩ := HV6.out.six
          obtain ⟨c0_6, c1_6, c2_6, c3_6, c4_6, c5_6⟩ := HC6.out.six
          obtain ⟨n0_6, n1_6, n2_6, n3_6, n4_6, n5_6⟩ := HN6.out.six
          go_wp2_with fail
          refine (errNew _ _).mono ?_
          rintro e w7 ⟨et6, ep6, rfl, hb⟩
          clear v0_6 v1_6 v2_6 v3_6 v4_6 v5_6 c0_6 c1_6 c2_6 c3_6 c4_6 c5_6 n0_6 n1_6 n2_6 n3_6 n4_6 n5_6
          have HB7 := Aside0.mk (HB6.out.trans (hb.mono HB6.out.size)); have HS7 := Aside0.mk (HS6.out.below hb); have HV7 := Aside0.mk (HV6.out.below hb); have HC7 := Aside0.mk (HC6.out.below hb); have HN7 := Aside0.mk (HN6.out.below hb); clear hb HB6 HS6 HV6 HC6 HN6
          obtain ⟨v0_7, v1_7, v2_7, v3_7, v4_7, v5_7⟩ := HV7.out.six
          obtain ⟨c0_7, c1_7, c2_7, c3_7, c4_7, c5_7⟩ := HC7.out.six
          obtain ⟨n0_7, n1_7, n2_7, n3_7, n4_7, n5_7⟩ := HN7.out.six
          go_wp2_with fail
          go_ret2
          exact ⟨_, (by first | rfl | (rw [t0, t2, t5, t7, t8]; rfl)), HB7.out⟩
        | false =>
         obtain ⟨v0_5, v1_5, v2_5, v3_5, v4_5, v5_5⟩ := HV5.out.six
         obtain ⟨c0_5, c1_5, c2_5, c3_5, c4_5, c5_5⟩ := HC5.out.six
         obtain ⟨n0_5, n1_5, n2_5, n3_5, n4_5, n5_5⟩ := HN5.out.six
         go_wp2_with fail
         refine (semver_Version_Minor.calls y0 y1 y2 yp ym yo _ _ rfl).mono ?_
         rintro e w6 ⟨rfl, hb⟩
         clear v0_5 v1_5 v2_5 v3_5 v4_5 v5_5 c0_5 c1_5 c2_5 c3_5 c4_5 c5_5 n0_5 n1_5 n2_5 n3_5 n4_5 n5_5
         have HB6 := Aside0.mk (HB5.out.trans (hb.mono HB5.out.size)); have HS6 := Aside0.mk (HS5.out.below hb); have HV6 := Aside0.mk (HV5.out.below hb); have HC6 := Aside0.mk (HC5.out.below hb); have HN6 := Aside0.mk (HN5.out.below hb); clear hb HB5 HS5 HV5 HC5 HN5
         cases t10 : (y1 == 0) with
         | true =>
          have t10' := bne_of t10
          replace t10' : (y1 != 0) = false := t10'
          obtain ⟨v0_6, v1_6, v2_6, v3_6, v4_6, v5_6⟩ := HV6.out.six
          obtain ⟨c0_6, c1_6, c2_6, c3_6, c4_6, c5_6⟩ := HC6.out.six
          obtain ⟨n0_6, n1_6, n2_6, n3_6, n4_6, n5_6⟩ := HN6.out.six
          go_wp2_with fail
          refine (semver_Version_Minor.calls x0 x1 x2 xp xm xo _ _ rfl).mono ?_
          rintro e w7 ⟨rfl, hb⟩
          clear v0_6 v1_6 v2_6 v3_6 v4_6 v5_6 c0_6 c1_6 c2_6 c3_6 c4_6 c5_6 n0_6 n1_6 n2_6 n3_6 n4_6 n5_6
          have HB7 := Aside0.mk (HB6.out.trans (hb.mono HB6.out.size)); have HS7 := Aside0.mk (HS6.out.below hb); have HV7 := Aside0.mk (HV6.out.below hb); have HC7 := Aside0.mk (HC6.out.below hb); have HN7 := Aside0.mk (HN6.out.below hb); clear hb HB6 HS6 HV6 HC6 HN6
          cases t11 : (decide (0 < x1)) with
          | true =>
           obtain ⟨v0_7, v1_7, v2_7, v3_7, v4_7, v5_7⟩ := HV7.out.six
           obtain ⟨c0_7, c1_7, c2_7, c3_7, c4_7, c5_7⟩ := HC7.out.six
           obtain ⟨n0_7, n1_7, n2_7, n3_7, n4_7, n5_7⟩ := HN7.out.six
           go_wp2_with fail
           refine (errNew _ _).mono ?_
           rintro e w8 ⟨et7, ep7, rfl, hb⟩
           clear v0_7 v1_7 v2_7 v3_7 v4_7 v5_7 c0_7 c1_7 c2_7 c3_7 c4_7 c5_7 n0_7 n1_7 n2_7 n3_7 n4_7 n5_7
           have HB8 := Aside0.mk (HB7.out.trans (hb.mono HB7.out.size)); have HS8 := Aside0.mk (HS7.out.below hb); have HV8 := Aside0.mk (HV7.out.below hb); have HC8 := Aside0.mk (HC7.out.below hb); have HN8 := Aside0.mk (HN7.out.below hb); clear hb HB7 HS7 HV7 HC7 HN7
           obtain ⟨v0_8, v1_8, v2_8, v3_8, v4_8, v5_8⟩ := HV8.out.six
           obtain ⟨c0_8, c1_8, c2_8, c3_8, c4_8, c5_8⟩ := HC8.out.six
           obtain ⟨n0_8, n1_8, n2_8, n3_8, n4_8, n5_8⟩ := HN8.out.six
           go_wp2_with fail
           go_ret2
           exact ⟨_, (by first | rfl | (rw [t0, t2, t5, t7, t10, t11]; rfl)), HB8.out⟩
          | false =>
           obtain ⟨v0_7, v1_7, v2_7, v3_7, v4_7, v5_7⟩ := HV7.out.six
           obtain ⟨c0_7, c1_7, c2_7, c3_7, c4_7, c5_7⟩ := HC7.out.six
           obtain ⟨n0_7, n1_7, n2_7, n3_7, n4_7, n5_7⟩ := HN7.out.six
           go_wp2_with fail
           clear v0_7 v1_7 v2_7 v3_7 v4_7 v5_7 c0_7 c1_7 c2_7 c3_7 c4_7 c5_7 n0_7 n1_7 n2_7 n3_7 n4_7 n5_7
           obtain ⟨v0_7, v1_7, v2_7, v3_7, v4_7, v5_7⟩ := HV7.out.sixR
           obtain ⟨c0_7, c1_7, c2_7, c3_7, c4_7, c5_7⟩ := HC7.out.sixR
           obtain ⟨n0_7, n1_7, n2_7, n3_7, n4_7, n5_7⟩ := HN7.out.sixR
           have c0 := fun d os => Calls.regrown_of (semver_Version_Patch.calls y0 y1 y2 yp ym yo _ (grow (redrawn w7 d) os) rfl)
           have c1 := fun d os => Calls.regrown_of (semver_Version_Patch.calls x0 x1 x2 xp xm xo _ (grow (redrawn w7 d) os) rfl)
           refine wp_region_quiet_below (by kernel_rfl) (by kernel_rfl) ?_
           repeat (first | go_big_quiet_step (first | exact c0 _ _ | exact c1 _ _) | quiet_step (first | exact c0 _ _ | exact c1 _ _))
           refine wpQuiet_nil ?_
           intro _ hw'; obtain ⟨⟨dq, osq⟩, hw''⟩ := hw'; subst hw''; clear c0 c1 v0_7 v1_7 v2_7 v3_7 v4_7 v5_7 c0_7 c1_7 c2_7 c3_7 c4_7 c5_7 n0_7 n1_7 n2_7 n3_7 n4_7 n5_7
           have hb := below_regrown w7 dq osq
           generalize grow (redrawn w7 dq) osq = w8 at *
           have HB8 := Aside0.mk (HB7.out.trans (hb.mono HB7.out.size)); have HS8 := Aside0.mk (HS7.out.below hb); have HV8 := Aside0.mk (HV7.out.below hb); have HC8 := Aside0.mk (HC7.out.below hb); have HN8 := Aside0.mk (HN7.out.below hb); clear hb HB7 HS7 HV7 HC7 HN7
           cases t12 : (y2 == x2) with
           | true =>
            have t12' := bne_of t12
            replace t12' : (y2 != x2) = false := t12'
            obtain ⟨v0_8, v1_8, v2_8, v3_8, v4_8, v5_8⟩ := HV8.out.six
            obtain ⟨c0_8, c1_8, c2_8, c3_8, c4_8, c5_8⟩ := HC8.out.six
            obtain ⟨n0_8, n1_8, n2_8, n3_8, n4_8, n5_8⟩ := HN8.out.six
            go_wp2_with fail
            go_ret2
            exact ⟨_, (by first | rfl | (rw [t0, t2, t5, t7, t10, t11, t12]; rfl)), HB8.out⟩
           | false =>
            have t12' := bne_of t12
            replace t12' : (y2 != x2) = true := t12'
            obtain ⟨v0_8, v1_8, v2_8, v3_8, v4_8, v5_8⟩ := HV8.out.six
            obtain ⟨c0_8, c1_8, c2_8, c3_8, c4_8, c5_8⟩ := HC8.out.six
            obtain ⟨n0_8, n1_8, n2_8, n3_8, n4_8, n5_8⟩ := HN8.out.six
            go_wp2_with fail
            refine (errNew _ _).mono ?_
            rintro e w9 ⟨et8, ep8, rfl, hb⟩
            clear v0_8 v1_8 v2_8 v3_8 v4_8 v5_8 c0_8 c1_8 c2_8 c3_8 c4_8 c5_8 n0_8 n1_8 n2_8 n3_8 n4_8 n5_8
            have HB9 := Aside0.mk (HB8.out.trans (hb.mono HB8.out.size)); have HS9 := Aside0.mk (HS8.out.below hb); have HV9 := Aside0.mk (HV8.out.below hb); have HC9 := Aside0.mk (HC8.out.below hb); have HN9 := Aside0.mk (HN8.out.below hb); clear hb HB8 HS8 HV8 HC8 HN8
            obtain ⟨v0_9, v1_9, v2_9, v3_9, v4_9, v5_9⟩ := HV9.out.six
            obtain ⟨c0_9, c1_9, c2_9, c3_9, c4_9, c5_9⟩ := HC9.out.six
            obtain ⟨n0_9, n1_9, n2_9, n3_9, n4_9, n5_9⟩ := HN9.out.six
            go_wp2_with fail
            go_ret2
            exact ⟨_, (by first | rfl | (rw [t0, t2, t5, t7, t10, t11, t12]; rfl)), HB9.out⟩
         | false =>
          have t10' := bne_of t10
          replace t10' : (y1 != 0) = true := t10'
          obtain ⟨v0_6, v1_6, v2_6, v3_6, v4_6, v5_6⟩ := HV6.out.six
          obtain ⟨c0_6, c1_6, c2_6, c3_6, c4_6, c5_6⟩ := HC6.out.six
          obtain ⟨n0_6, n1_6, n2_6, n3_6, n4_6, n5_6⟩ := HN6.out.six
          go_wp2_with fail
          clear v0_6 v1_6 v2_6 v3_6 v4_6 v5_6 c0_6 c1_6 c2_6 c3_6 c4_6 c5_6 n0_6 n1_6 n2_6 n3_6 n4_6 n5_6
          obtain ⟨v0_6, v1_6, v2_6, v3_6, v4_6, v5_6⟩ := HV6.out.sixR
          obtain ⟨c0_6, c1_6, c2_6, c3_6, c4_6, c5_6⟩ := HC6.out.sixR
          obtain ⟨n0_6, n1_6, n2_6, n3_6, n4_6, n5_6⟩ := HN6.out.sixR
          have c0 := fun d os => Calls.regrown_of (semver_Version_Patch.calls y0 y1 y2 yp ym yo _ (grow (redrawn w6 d) os) rfl)
          have c1 := fun d os => Calls.regrown_of (semver_Version_Patch.calls x0 x1 x2 xp xm xo _ (grow (redrawn w6 d) os) rfl)
          refine wp_region_quiet_below (by kernel_rfl) (by kernel_rfl) ?_
          repeat (first | go_big_quiet_step (first | exact c0 _ _ | exact c1 _ _) | quiet_step (first | exact c0 _ _ | exact c1 _ _))
          refine wpQuiet_nil ?_
          intro _ hw'; obtain ⟨⟨dq, osq⟩, hw''⟩ := hw'; subst hw''; clear c0 c1 v0_6 v1_6 v2_6 v3_6 v4_6 v5_6 c0_6 c1_6 c2_6 c3_6 c4_6 c5_6 n0_6 n1_6 n2_6 n3_6 n4_6 n5_6
          have hb := below_regrown w6 dq osq
          generalize grow (redrawn w6 dq) osq = w7 at *
          have HB7 := Aside0.mk (HB6.out.trans (hb.mono HB6.out.size)); have HS7 := Aside0.mk (HS6.out.below hb); have HV7 := Aside0.mk (HV6.out.below hb); have HC7 := Aside0.mk (HC6.out.below hb); have HN7 := Aside0.mk (HN6.out.below hb); clear hb HB6 HS6 HV6 HC6 HN6
          cases t12 : (y2 == x2) with
          | true =>
           have t12' := bne_of t12
           replace t12' : (y2 != x2) = false := t12'
           obtain ⟨v0_7, v1_7, v2_7, v3_7, v4_7, v5_7⟩ := HV7.out.six
           obtain ⟨c0_7, c1_7, c2_7, c3_7, c4_7, c5_7⟩ := HC7.out.six
           obtain ⟨n0_7, n1_7, n2_7, n3_7, n4_7, n5_7⟩ := HN7.out.six
           go_wp2_with fail
           go_ret2
           exact ⟨_, (by first | rfl | (rw [t0, t2, t5, t7, t10, t12]; rfl)), HB7.out⟩
          | false =>
           have t12' := bne_of t12
           replace t12' : (y2 != x2) = true := t12'
           obtain ⟨v0_7, v1_7, v2_7, v3_7, v4_7, v5_7⟩ := HV7.out.six
           obtain ⟨c0_7, c1_7, c2_7, c3_7, c4_7, c5_7⟩ := HC7.out.six
           obtain ⟨n0_7, n1_7, n2_7, n3_7, n4_7, n5_7⟩ := HN7.out.six
           go_wp2_with fail
           refine (errNew _ _).mono ?_
           rintro e w8 ⟨et7, ep7, rfl, hb⟩
           clear v0_7 v1_7 v2_7 v3_7 v4_7 v5_7 c0_7 c1_7 c2_7 c3_7 c4_7 c5_7 n0_7 n1_7 n2_7 n3_7 n4_7 n5_7
           have HB8 := Aside0.mk (HB7.out.trans (hb.mono HB7.out.size)); have HS8 := Aside0.mk (HS7.out.below hb); have HV8 := Aside0.mk (HV7.out.below hb); have HC8 := Aside0.mk (HC7.out.below hb); have HN8 := Aside0.mk (HN7.out.below hb); clear hb HB7 HS7 HV7 HC7 HN7
           obtain ⟨v0_8, v1_8, v2_8, v3_8, v4_8, v5_8⟩ := HV8.out.six
           obtain ⟨c0_8, c1_8, c2_8, c3_8, c4_8, c5_8⟩ := HC8.out.six
           obtain ⟨n0_8, n1_8, n2_8, n3_8, n4_8, n5_8⟩ := HN8.out.six
           go_wp2_with fail
           go_ret2
           exact ⟨_, (by first | rfl | (rw [t0, t2, t5, t7, t10, t12]; rfl)), HB8.out⟩
  | false =>
   obtain ⟨v0_1, v1_1, v2_1, v3_1, v4_1, v5_1⟩ := HV1.out.six
   obtain ⟨c0_1, c1_1, c2_1, c3_1, c4_1, c5_1⟩ := HC1.out.six
   obtain ⟨n0_1, n1_1, n2_1, n3_1, n4_1, n5_1⟩ := HN1.out.six
   go_wp2_with fail
   refine (errNew _ _).mono ?_
   rintro e w2 ⟨et1, ep1, rfl, hb⟩
   clear v0_1 v1_1 v2_1 v3_1 v4_1 v5_1 c0_1 c1_1 c2_1 c3_1 c4_1 c5_1 n0_1 n1_1 n2_1 n3_1 n4_1 n5_1
   have HB2 := Aside0.mk (HB1.out.trans (hb.mono HB1.out.size)); have HS2 := Aside0.mk (HS1.out.below hb); have HV2 := Aside0.mk (HV1.out.below hb); have HC2 := Aside0.mk (HC1.out.below hb); have HN2 := Aside0.mk (HN1.out.below hb); clear hb HB1 HS1 HV1 HC1 HN1
   obtain ⟨v0_2, v1_2, v2_2, v3_2, v4_2, v5_2⟩ := HV2.out.six
   obtain ⟨c0_2, c1_2, c2_2, c3_2, c4_2, c5_2⟩ := HC2.out.six
   obtain ⟨n0_2, n1_2, n2_2, n3_2, n4_2, n5_2⟩ := HN2.out.six
   go_wp2_with fail
   go_ret2
   exact ⟨_, (by first | rfl | (rw [t0]; rfl)), HB2.out⟩

end Go.Proofs.YtllkoadcpobdaaaDoor.KX
namespace Go.Proofs.YtllkoadcpobdaaaDoor.KX

open Go.RowKit Go.Lib Go.Proofs Go.Sort Go.Proofs.YtllkoadcpobdaaaDoor Go.Proofs.YtllkoadcpobdaaaDoor.Base Go.Proofs.YtllkoadcpobdaaaDoor.L Go.Proofs.YtllkoadcpobdaaaDoor.Bt Go.Proofs.YtllkoadcpobdaaaDoor.PX

open Go.Proofs.YtllkoadcpobdaaaDoorW.PrintWords Go.Proofs.YtllkoadcpobdaaaDoorW.PrintLast Go.Proofs.YtllkoadcpobdaaaDoorW.PrintMore

/-- What semver.constraintTildeOrEqual answers, out of its tests: b0: (xp.toList == []); b1: d; b2: tb; b3: eqv; b4: pre. -/
def cEqual_r (b0 b1 b2 b3 b4 : Bool) : Bool := bif b0 then (bif b1 then b2 else (bif b3 then true else false)) else (bif b4 then (bif b1 then b2 else (bif b3 then true else false)) else false)

set_option maxHeartbeats 100000000 in
set_option maxRecDepth 100000 in
theorem cEqual_calls (x0 x1 x2 : Int) (xp xm xo : ByteArray) (y0 y1 y2 : Int) (yp ym yo : ByteArray) (og op : ByteArray) (bv bc bn : Nat) (mD d pD pre : Bool) (eqv : Bool) (tb : Bool) (w : World) (hV : At w bv [.int .u64 x0, .int .u64 x1, .int .u64 x2, .string xp, .string xm, .string xo]) (hC : At w bc [.pointer (some ⟨bn, 0, none⟩), .string og, .string op, .bool mD, .bool d, .bool pD]) (hN : At w bn [.int .u64 y0, .int .u64 y1, .int .u64 y2, .string yp, .string ym, .string yo]) (hStd : Std w) (KEQ : Hid (∀ (W : World), At W bv [.int .u64 x0, .int .u64 x1, .int .u64 x2, .string xp, .string xm, .string xo] → At W bn [.int .u64 y0, .int .u64 y1, .int .u64 y2, .string yp, .string ym, .string yo] → Std W → Calls Tryd.prog 66 #[.pointer (some ⟨bv, 0, none⟩), .pointer (some ⟨bn, 0, none⟩)] W fun e w' => e = .returned (.bool eqv) ∧ Below W.heap.size W w')) (KTI : Hid (∀ (W : World), At W bv [.int .u64 x0, .int .u64 x1, .int .u64 x2, .string xp, .string xm, .string xo] → At W bc [.pointer (some ⟨bn, 0, none⟩), .string og, .string op, .bool mD, .bool d, .bool pD] → At W bn [.int .u64 y0, .int .u64 y1, .int .u64 y2, .string yp, .string ym, .string yo] → Std W → Calls Tryd.prog 87 #[.pointer (some ⟨bv, 0, none⟩), .pointer (some ⟨bc, 0, none⟩), .bool pre] W (RetB W tb)))  :
  Calls Tryd.prog 89 #[.pointer (some ⟨bv, 0, none⟩), .pointer (some ⟨bc, 0, none⟩), .bool pre] w (RetB w (cEqual_r (xp.toList == []) d tb eqv pre)) := by
 have HB0 := Aside0.mk (Below.refl w.heap.size w); have HS0 := Aside0.mk hStd; have HV0 := Aside0.mk hV; have HC0 := Aside0.mk hC; have HN0 := Aside0.mk hN; clear hStd hV hC hN
 obtain ⟨v0_0, v1_0, v2_0, v3_0, v4_0, v5_0⟩ := HV0.out.six
 obtain ⟨c0_0, c1_0, c2_0, c3_0, c4_0, c5_0⟩ := HC0.out.six
 obtain ⟨n0_0, n1_0, n2_0, n3_0, n4_0, n5_0⟩ := HN0.out.six
 go_enter Tryd.func89, Tryd.ntmps89
 go_wp2_with fail
 refine (semver_Version_Prerelease.calls x0 x1 x2 xp xm xo _ _ rfl).mono ?_
 rintro e w1 ⟨rfl, hb⟩
 clear v0_0 v1_0 v2_0 v3_0 v4_0 v5_0 c0_0 c1_0 c2_0 c3_0 c4_0 c5_0 n0_0 n1_0 n2_0 n3_0 n4_0 n5_0
 have HB1 := Aside0.mk (HB0.out.trans (hb.mono HB0.out.size)); have HS1 := Aside0.mk (HS0.out.below hb); have HV1 := Aside0.mk (HV0.out.below hb); have HC1 := Aside0.mk (HC0.out.below hb); have HN1 := Aside0.mk (HN0.out.below hb); clear hb HB0 HS0 HV0 HC0 HN0
 cases t0 : (xp.toList == []) with
 | true =>
  have t0' := bne_of t0
  replace t0' : (xp.toList != []) = false := t0'
  cases d with
  | true =>
   obtain ⟨v0_1, v1_1, v2_1, v3_1, v4_1, v5_1⟩ := HV1.out.six
   obtain ⟨c0_1, c1_1, c2_1, c3_1, c4_1, c5_1⟩ := HC1.out.six
   obtain ⟨n0_1, n1_1, n2_1, n3_1, n4_1, n5_1⟩ := HN1.out.six
   go_wp2_with fail
   refine (KTI.out _ HV1.out HC1.out HN1.out HS1.out).mono ?_
   rintro e w2 ⟨er1, rfl, hb⟩
   clear v0_1 v1_1 v2_1 v3_1 v4_1 v5_1 c0_1 c1_1 c2_1 c3_1 c4_1 c5_1 n0_1 n1_1 n2_1 n3_1 n4_1 n5_1
   have HB2 := Aside0.mk (HB1.out.trans (hb.mono HB1.out.size)); have HS2 := Aside0.mk (HS1.out.below hb); have HV2 := Aside0.mk (HV1.out.below hb); have HC2 := Aside0.mk (HC1.out.below hb); have HN2 := Aside0.mk (HN1.out.below hb); clear hb HB1 HS1 HV1 HC1 HN1
   obtain ⟨v0_2, v1_2, v2_2, v3_2, v4_2, v5_2⟩ := HV2.out.six
   obtain ⟨c0_2, c1_2, c2_2, c3_2, c4_2, c5_2⟩ := HC2.out.six
   obtain ⟨n0_2, n1_2, n2_2, n3_2, n4_2, n5_2⟩ := HN2.out.six
   go_wp2_with fail
   go_ret2
   exact ⟨_, (by first | rfl | (rw [t0]; rfl)), HB2.out⟩
  | false =>
   obtain ⟨v0_1, v1_1, v2_1, v3_1, v4_1, v5_1⟩ := HV1.out.six
   obtain ⟨c0_1, c1_1, c2_1, c3_1, c4_1, c5_1⟩ := HC1.out.six
   obtain ⟨n0_1, n1_1, n2_1, n3_1, n4_1, n5_1⟩ := HN1.out.six
   go_wp2_with fail
   refine (KEQ.out _ HV1.out HN1.out HS1.out).mono ?_
   rintro e w2 ⟨rfl, hb⟩
   clear v0_1 v1_1 v2_1 v3_1 v4_1 v5_1 c0_1 c1_1 c2_1 c3_1 c4_1 c5_1 n0_1 n1_1 n2_1 n3_1 n4_1 n5_1
   have HB2 := Aside0.mk (HB1.out.trans (hb.mono HB1.out.size)); have HS2 := Aside0.mk (HS1.out.below hb); have HV2 := Aside0.mk (HV1.out.below hb); have HC2 := Aside0.mk (HC1.out.below hb); have HN2 := Aside0.mk (HN1.out.below hb); clear hb HB1 HS1 HV1 HC1 HN1
   cases eqv with
   | true =>
    obtain ⟨v0_2, v1_2, v2_2, v3_2, v4_2, v5_2⟩ := HV2.out.six
    obtain ⟨c0_2, c1_2, c2_2, c3_2, c4_2, c5_2⟩ := HC2.out.six
    obtain ⟨n0_2, n1_2, n2_2, n3_2, n4_2, n5_2⟩ := HN2.out.six
    go_wp2_with fail
    go_ret2
    exact ⟨_, (by first | rfl | (rw [t0]; rfl)), HB2.out⟩
   | false =>
    obtain ⟨v0_2, v1_2, v2_2, v3_2, v4_2, v5_2⟩ := HV2.out.six
    obtain ⟨c0_2, c1_2, c2_2, c3_2, c4_2, c5_2⟩ := HC2.out.six
    obtain ⟨n0_2, n1_2, n2_2, n3_2, n4_2, n5_2⟩ := HN2.out.six
    go_wp2_with fail
    refine (errNew _ _).mono ?_
    rintro e w3 ⟨et2, ep2, rfl, hb⟩
    clear v0_2 v1_2 v2_2 v3_2 v4_2 v5_2 c0_2 c1_2 c2_2 c3_2 c4_2 c5_2 n0_2 n1_2 n2_2 n3_2 n4_2 n5_2
    have HB3 := Aside0.mk (HB2.out.trans (hb.mono HB2.out.size)); have HS3 := Aside0.mk (HS2.out.below hb); have HV3 := Aside0.mk (HV2.out.below hb); have HC3 := Aside0.mk (HC2.out.below hb); have HN3 := Aside0.mk (HN2.out.below hb); clear hb HB2 HS2 HV2 HC2 HN2
    obtain ⟨v0_3, v1_3, v2_3, v3_3, v4_3, v5_3⟩ := HV3.out.six
    obtain ⟨c0_3, c1_3, c2_3, c3_3, c4_3, c5_3⟩ := HC3.out.six
    obtain ⟨n0_3, n1_3, n2_3, n3_3, n4_3, n5_3⟩ := HN3.out.six
    go_wp2_with fail
    go_ret2
    exact ⟨_, (by first | rfl | (rw [t0]; rfl)), HB3.out⟩
 | false =>
  have t0' := bne_of t0
  replace t0' : (xp.toList != []) = true := t0'
  cases pre with
  | true =>
   cases d with
   | true =>
    obtain ⟨v0_1, v1_1, v2_1, v3_1, v4_1, v5_1⟩ := HV1.out.six
    obtain ⟨c0_1, c1_1, c2_1, c3_1, c4_1, c5_1⟩ := HC1.out.six
    obtain ⟨n0_1, n1_1, n2_1, n3_1, n4_1, n5_1⟩ := HN1.out.six
    go_wp2_with fail
    refine (KTI.out _ HV1.out HC1.out HN1.out HS1.out).mono ?_
    rintro e w2 ⟨er1, rfl, hb⟩
    clear v0_1 v1_1 v2_1 v3_1 v4_1 v5_1 c0_1 c1_1 c2_1 c3_1 c4_1 c5_1 n0_1 n1_1 n2_1 n3_1 n4_1 n5_1
    have HB2 := Aside0.mk (HB1.out.trans (hb.mono HB1.out.size)); have HS2 := Aside0.mk (HS1.out.below hb); have HV2 := Aside0.mk (HV1.out.below hb); have HC2 := Aside0.mk (HC1.out.below hb); have HN2 := Aside0.mk (HN1.out.below hb); clear hb HB1 HS1 HV1 HC1 HN1
    obtain ⟨v0_2, v1_2, v2_2, v3_2, v4_2, v5_2⟩ := HV2.out.six
    obtain ⟨c0_2, c1_2, c2_2, c3_2, c4_2, c5_2⟩ := HC2.out.six
    obtain ⟨n0_2, n1_2, n2_2, n3_2, n4_2, n5_2⟩ := HN2.out.six
    go_wp2_with fail
    go_ret2
    exact ⟨_, (by first | rfl | (rw [t0]; rfl)), HB2.out⟩
   | false =>
    obtain ⟨v0_1, v1_1, v2_1, v3_1, v4_1, v5_1⟩ := HV1.out.six
    obtain ⟨c0_1, c1_1, c2_1, c3_1, c4_1, c5_1⟩ := HC1.out.six
    obtain ⟨n0_1, n1_1, n2_1, n3_1, n4_1, n5_1⟩ := HN1.out.six
    go_wp2_with fail
    refine (KEQ.out _ HV1.out HN1.out HS1.out).mono ?_
    rintro e w2 ⟨rfl, hb⟩
    clear v0_1 v1_1 v2_1 v3_1 v4_1 v5_1 c0_1 c1_1 c2_1 c3_1 c4_1 c5_1 n0_1 n1_1 n2_1 n3_1 n4_1 n5_1
    have HB2 := Aside0.mk (HB1.out.trans (hb.mono HB1.out.size)); have HS2 := Aside0.mk (HS1.out.below hb); have HV2 := Aside0.mk (HV1.out.below hb); have HC2 := Aside0.mk (HC1.out.below hb); have HN2 := Aside0.mk (HN1.out.below hb); clear hb HB1 HS1 HV1 HC1 HN1
    cases eqv with
    | true =>
     obtain ⟨v0_2, v1_2, v2_2, v3_2, v4_2, v5_2⟩ := HV2.out.six
     obtain ⟨c0_2, c1_2, c2_2, c3_2, c4_2, c5_2⟩ := HC2.out.six
     obtain ⟨n0_2, n1_2, n2_2, n3_2, n4_2, n5_2⟩ := HN2.out.six
     go_wp2_with fail
     go_ret2
     exact ⟨_, (by first | rfl | (rw [t0]; rfl)), HB2.out⟩
    | false =>
     obtain ⟨v0_2, v1_2, v2_2, v3_2, v4_2, v5_2⟩ := HV2.out.six
     obtain ⟨c0_2, c1_2, c2_2, c3_2, c4_2, c5_2⟩ := HC2.out.six
     obtain ⟨n0_2, n1_2, n2_2, n3_2, n4_2, n5_2⟩ := HN2.out.six
     go_wp2_with fail
     refine (errNew _ _).mono ?_
     rintro e w3 ⟨et2, ep2, rfl, hb⟩
     clear v0_2 v1_2 v2_2 v3_2 v4_2 v5_2 c0_2 c1_2 c2_2 c3_2 c4_2 c5_2 n0_2 n1_2 n2_2 n3_2 n4_2 n5_2
     have HB3 := Aside0.mk (HB2.out.trans (hb.mono HB2.out.size)); have HS3 := Aside0.mk (HS2.out.below hb); have HV3 := Aside0.mk (HV2.out.below hb); have HC3 := Aside0.mk (HC2.out.below hb); have HN3 := Aside0.mk (HN2.out.below hb); clear hb HB2 HS2 HV2 HC2 HN2
     obtain ⟨v0_3, v1_3, v2_3, v3_3, v4_3, v5_3⟩ := HV3.out.six
     obtain ⟨c0_3, c1_3, c2_3, c3_3, c4_3, c5_3⟩ := HC3.out.six
     obtain ⟨n0_3, n1_3, n2_3, n3_3, n4_3, n5_3⟩ := HN3.out.six
     go_wp2_with fail
     go_ret2
     exact ⟨_, (by first | rfl | (rw [t0]; rfl)), HB3.out⟩
  | false =>
   obtain ⟨v0_1, v1_1, v2_1, v3_1, v4_1, v5_1⟩ := HV1.out.six
   obtain ⟨c0_1, c1_1, c2_1, c3_1, c4_1, c5_1⟩ := HC1.out.six
   obtain ⟨n0_1, n1_1, n2_1, n3_1, n4_1, n5_1⟩ := HN1.out.six
   go_wp2_with fail
   refine (errNew _ _).mono ?_
   rintro e w2 ⟨et1, ep1, rfl, hb⟩
   clear v0_1 v1_1 v2_1 v3_1 v4_1 v5_1 c0_1 c1_1 c2_1 c3_1 c4_1 c5_1 n0_1 n1_1 n2_1 n3_1 n4_1 n5_1
   have HB2 := Aside0.mk (HB1.out.trans (hb.mono HB1.out.size)); have HS2 := Aside0.mk (HS1.out.below hb); have HV2 := Aside0.mk (HV1.out.below hb); have HC2 := Aside0.mk (HC1.out.below hb); have HN2 := Aside0.mk (HN1.out.below hb); clear hb HB1 HS1 HV1 HC1 HN1
   obtain ⟨v0_2, v1_2, v2_2, v3_2, v4_2, v5_2⟩ := HV2.out.six
   obtain ⟨c0_2, c1_2, c2_2, c3_2, c4_2, c5_2⟩ := HC2.out.six
   obtain ⟨n0_2, n1_2, n2_2, n3_2, n4_2, n5_2⟩ := HN2.out.six
   go_wp2_with fail
   go_ret2
   exact ⟨_, (by first | rfl | (rw [t0]; rfl)), HB2.out⟩

end Go.Proofs.YtllkoadcpobdaaaDoor.KX
namespace Go.Proofs.YtllkoadcpobdaaaDoor.KX

open Go.RowKit Go.Lib Go.Proofs Go.Sort Go.Proofs.YtllkoadcpobdaaaDoor Go.Proofs.YtllkoadcpobdaaaDoor.Base Go.Proofs.YtllkoadcpobdaaaDoor.L Go.Proofs.YtllkoadcpobdaaaDoor.Bt Go.Proofs.YtllkoadcpobdaaaDoor.PX

open Go.Proofs.YtllkoadcpobdaaaDoorW.PrintWords Go.Proofs.YtllkoadcpobdaaaDoorW.PrintLast Go.Proofs.YtllkoadcpobdaaaDoorW.PrintMore

/-- What semver.constraint).check answers, out of its tests: b0: tb. -/
def check0_r (b0 : Bool) : Bool := b0

set_option maxHeartbeats 100000000 in
set_option maxRecDepth 100000 in
theorem check0_calls (x0 x1 x2 : Int) (xp xm xo : ByteArray) (y0 y1 y2 : Int) (yp ym yo : ByteArray) (og : ByteArray) (bv bc bn : Nat) (mD d pD pre : Bool) (tb : Bool) (w : World) (hV : At w bv [.int .u64 x0, .int .u64 x1, .int .u64 x2, .string xp, .string xm, .string xo]) (hC : At w bc [.pointer (some ⟨bn, 0, none⟩), .string og, .string ⟨#[61]⟩, .bool mD, .bool d, .bool pD]) (hN : At w bn [.int .u64 y0, .int .u64 y1, .int .u64 y2, .string yp, .string ym, .string yo]) (hStd : Std w) (KK : Hid (∀ (W : World), At W bv [.int .u64 x0, .int .u64 x1, .int .u64 x2, .string xp, .string xm, .string xo] → At W bc [.pointer (some ⟨bn, 0, none⟩), .string og, .string ⟨#[61]⟩, .bool mD, .bool d, .bool pD] → At W bn [.int .u64 y0, .int .u64 y1, .int .u64 y2, .string yp, .string ym, .string yo] → Std W → Calls Tryd.prog 89 #[.pointer (some ⟨bv, 0, none⟩), .pointer (some ⟨bc, 0, none⟩), .bool pre] W (RetB W tb)))  :
    Calls Tryd.prog 82 #[.pointer (some ⟨bc, 0, none⟩), .pointer (some ⟨bv, 0, none⟩), .bool pre] w (RetB w (check0_r tb)) := by
  have HB0 := Aside0.mk (Below.refl w.heap.size w); have HS0 := Aside0.mk hStd; have HV0 := Aside0.mk hV; have HC0 := Aside0.mk hC; have HN0 := Aside0.mk hN; clear hStd hV hC hN
  obtain ⟨v0_0, v1_0, v2_0, v3_0, v4_0, v5_0⟩ := HV0.out.six
  obtain ⟨c0_0, c1_0, c2_0, c3_0, c4_0, c5_0⟩ := HC0.out.six
  obtain ⟨n0_0, n1_0, n2_0, n3_0, n4_0, n5_0⟩ := HN0.out.six
  go_enter Tryd.func82, Tryd.ntmps82
  go_wp2_with fail
  refine (KK.out _ HV0.out HC0.out HN0.out HS0.out).mono ?_
  rintro e w1 ⟨er0, rfl, hb⟩
  clear v0_0 v1_0 v2_0 v3_0 v4_0 v5_0 c0_0 c1_0 c2_0 c3_0 c4_0 c5_0 n0_0 n1_0 n2_0 n3_0 n4_0 n5_0
  have HB1 := Aside0.mk (HB0.out.trans (hb.mono HB0.out.size)); have HS1 := Aside0.mk (HS0.out.below hb); have HV1 := Aside0.mk (HV0.out.below hb); have HC1 := Aside0.mk (HC0.out.below hb); have HN1 := Aside0.mk (HN0.out.below hb); clear hb HB0 HS0 HV0 HC0 HN0
  obtain ⟨v0_1, v1_1, v2_1, v3_1, v4_1, v5_1⟩ := HV1.out.six
  obtain ⟨c0_1, c1_1, c2_1, c3_1, c4_1, c5_1⟩ := HC1.out.six
  obtain ⟨n0_1, n1_1, n2_1, n3_1, n4_1, n5_1⟩ := HN1.out.six
  go_wp2_with fail
  go_ret2
  exact ⟨_, rfl, HB1.out⟩

/-- What semver.constraint).check answers, out of its tests: b0: tb. -/
def check1_r (b0 : Bool) : Bool := b0

set_option maxHeartbeats 100000000 in
set_option maxRecDepth 100000 in
theorem check1_calls (x0 x1 x2 : Int) (xp xm xo : ByteArray) (y0 y1 y2 : Int) (yp ym yo : ByteArray) (og : ByteArray) (bv bc bn : Nat) (mD d pD pre : Bool) (tb : Bool) (w : World) (hV : At w bv [.int .u64 x0, .int .u64 x1, .int .u64 x2, .string xp, .string xm, .string xo]) (hC : At w bc [.pointer (some ⟨bn, 0, none⟩), .string og, .string ⟨#[33, 61]⟩, .bool mD, .bool d, .bool pD]) (hN : At w bn [.int .u64 y0, .int .u64 y1, .int .u64 y2, .string yp, .string ym, .string yo]) (hStd : Std w) (KK : Hid (∀ (W : World), At W bv [.int .u64 x0, .int .u64 x1, .int .u64 x2, .string xp, .string xm, .string xo] → At W bc [.pointer (some ⟨bn, 0, none⟩), .string og, .string ⟨#[33, 61]⟩, .bool mD, .bool d, .bool pD] → At W bn [.int .u64 y0, .int .u64 y1, .int .u64 y2, .string yp, .string ym, .string yo] → Std W → Calls Tryd.prog 88 #[.pointer (some ⟨bv, 0, none⟩), .pointer (some ⟨bc, 0, none⟩), .bool pre] W (RetB W tb)))  :
    Calls Tryd.prog 82 #[.pointer (some ⟨bc, 0, none⟩), .pointer (some ⟨bv, 0, none⟩), .bool pre] w (RetB w (check1_r tb)) := by
  have HB0 := Aside0.mk (Below.refl w.heap.size w); have HS0 := Aside0.mk hStd; have HV0 := Aside0.mk hV; have HC0 := Aside0.mk hC; have HN0 := Aside0.mk hN; clear hStd hV hC hN
  obtain ⟨v0_0, v1_0, v2_0, v3_0, v4_0, v5_0⟩ := HV0.out.six
  obtain ⟨c0_0, c1_0, c2_0, c3_0, c4_0, c5_0⟩ := HC0.out.six
  obtain ⟨n0_0, n1_0, n2_0, n3_0, n4_0, n5_0⟩ := HN0.out.six
  go_enter Tryd.func82, Tryd.ntmps82
  go_wp2_with fail
  refine (KK.out _ HV0.out HC0.out HN0.out HS0.out).mono ?_
  rintro e w1 ⟨er0, rfl, hb⟩
  clear v0_0 v1_0 v2_0 v3_0 v4_0 v5_0 c0_0 c1_0 c2_0 c3_0 c4_0 c5_0 n0_0 n1_0 n2_0 n3_0 n4_0 n5_0
  have HB1 := Aside0.mk (HB0.out.trans (hb.mono HB0.out.size)); have HS1 := Aside0.mk (HS0.out.below hb); have HV1 := Aside0.mk (HV0.out.below hb); have HC1 := Aside0.mk (HC0.out.below hb); have HN1 := Aside0.mk (HN0.out.below hb); clear hb HB0 HS0 HV0 HC0 HN0
  obtain ⟨v0_1, v1_1, v2_1, v3_1, v4_1, v5_1⟩ := HV1.out.six
  obtain ⟨c0_1, c1_1, c2_1, c3_1, c4_1, c5_1⟩ := HC1.out.six
  obtain ⟨n0_1, n1_1, n2_1, n3_1, n4_1, n5_1⟩ := HN1.out.six
  go_wp2_with fail
  go_ret2
  exact ⟨_, rfl, HB1.out⟩

/-- What semver.constraint).check answers, out of its tests: b0: tb. -/
def check2_r (b0 : Bool) : Bool := b0

set_option maxHeartbeats 100000000 in
set_option maxRecDepth 100000 in
theorem check2_calls (x0 x1 x2 : Int) (xp xm xo : ByteArray) (y0 y1 y2 : Int) (yp ym yo : ByteArray) (og : ByteArray) (bv bc bn : Nat) (mD d pD pre : Bool) (tb : Bool) (w : World) (hV : At w bv [.int .u64 x0, .int .u64 x1, .int .u64 x2, .string xp, .string xm, .string xo]) (hC : At w bc [.pointer (some ⟨bn, 0, none⟩), .string og, .string ⟨#[62]⟩, .bool mD, .bool d, .bool pD]) (hN : At w bn [.int .u64 y0, .int .u64 y1, .int .u64 y2, .string yp, .string ym, .string yo]) (hStd : Std w) (KK : Hid (∀ (W : World), At W bv [.int .u64 x0, .int .u64 x1, .int .u64 x2, .string xp, .string xm, .string xo] → At W bc [.pointer (some ⟨bn, 0, none⟩), .string og, .string ⟨#[62]⟩, .bool mD, .bool d, .bool pD] → At W bn [.int .u64 y0, .int .u64 y1, .int .u64 y2, .string yp, .string ym, .string yo] → Std W → Calls Tryd.prog 101 #[.pointer (some ⟨bv, 0, none⟩), .pointer (some ⟨bc, 0, none⟩), .bool pre] W (RetB W tb)))  :
    Calls Tryd.prog 82 #[.pointer (some ⟨bc, 0, none⟩), .pointer (some ⟨bv, 0, none⟩), .bool pre] w (RetB w (check2_r tb)) := by
  have HB0 := Aside0.mk (Below.refl w.heap.size w); have HS0 := Aside0.mk hStd; have HV0 := Aside0.mk hV; have HC0 := Aside0.mk hC; have HN0 := Aside0.mk hN; clear hStd hV hC hN
  obtain ⟨v0_0, v1_0, v2_0, v3_0, v4_0, v5_0⟩ := HV0.out.six
  obtain ⟨c0_0, c1_0, c2_0, c3_0, c4_0, c5_0⟩ := HC0.out.six
  obtain ⟨n0_0, n1_0, n2_0, n3_0, n4_0, n5_0⟩ := HN0.out.six
  go_enter Tryd.func82, Tryd.ntmps82
  go_wp2_with fail
  refine (KK.out _ HV0.out HC0.out HN0.out HS0.out).mono ?_
  rintro e w1 ⟨er0, rfl, hb⟩
  clear v0_0 v1_0 v2_0 v3_0 v4_0 v5_0 c0_0 c1_0 c2_0 c3_0 c4_0 c5_0 n0_0 n1_0 n2_0 n3_0 n4_0 n5_0
  have HB1 := Aside0.mk (HB0.out.trans (hb.mono HB0.out.size)); have HS1 := Aside0.mk (HS0.out.below hb); have HV1 := Aside0.mk (HV0.out.below hb); have HC1 := Aside0.mk (HC0.out.below hb); have HN1 := Aside0.mk (HN0.out.below hb); clear hb HB0 HS0 HV0 HC0 HN0
  obtain ⟨v0_1, v1_1, v2_1, v3_1, v4_1, v5_1⟩ := HV1.out.six
  obtain ⟨c0_1, c1_1, c2_1, c3_1, c4_1, c5_1⟩ := HC1.out.six
  obtain ⟨n0_1, n1_1, n2_1, n3_1, n4_1, n5_1⟩ := HN1.out.six
  go_wp2_with fail
  go_ret2
  exact ⟨_, rfl, HB1.out⟩

/-- What semver.constraint).check answers, out of its tests: b0: tb. -/
def check3_r (b0 : Bool) : Bool := b0

set_option maxHeartbeats 100000000 in
set_option maxRecDepth 100000 in
theorem check3_calls (x0 x1 x2 : Int) (xp xm xo : ByteArray) (y0 y1 y2 : Int) (yp ym yo : ByteArray) (og : ByteArray) (bv bc bn : Nat) (mD d pD pre : Bool) (tb : Bool) (w : World) (hV : At w bv [.int .u64 x0, .int .u64 x1, .int .u64 x2, .string xp, .string xm, .string xo]) (hC : At w bc [.pointer (some ⟨bn, 0, none⟩), .string og, .string ⟨#[60]⟩, .bool mD, .bool d, .bool pD]) (hN : At w bn [.int .u64 y0, .int .u64 y1, .int .u64 y2, .string yp, .string ym, .string yo]) (hStd : Std w) (KK : Hid (∀ (W : World), At W bv [.int .u64 x0, .int .u64 x1, .int .u64 x2, .string xp, .string xm, .string xo] → At W bc [.pointer (some ⟨bn, 0, none⟩), .string og, .string ⟨#[60]⟩, .bool mD, .bool d, .bool pD] → At W bn [.int .u64 y0, .int .u64 y1, .int .u64 y2, .string yp, .string ym, .string yo] → Std W → Calls Tryd.prog 102 #[.pointer (some ⟨bv, 0, none⟩), .pointer (some ⟨bc, 0, none⟩), .bool pre] W (RetB W tb)))  :
    Calls Tryd.prog 82 #[.pointer (some ⟨bc, 0, none⟩), .pointer (some ⟨bv, 0, none⟩), .bool pre] w (RetB w (check3_r tb)) := by
  have HB0 := Aside0.mk (Below.refl w.heap.size w); have HS0 := Aside0.mk hStd; have HV0 := Aside0.mk hV; have HC0 := Aside0.mk hC; have HN0 := Aside0.mk hN; clear hStd hV hC hN
  obtain ⟨v0_0, v1_0, v2_0, v3_0, v4_0, v5_0⟩ := HV0.out.six
  obtain ⟨c0_0, c1_0, c2_0, c3_0, c4_0, c5_0⟩ := HC0.out.six
  obtain ⟨n0_0, n1_0, n2_0, n3_0, n4_0, n5_0⟩ := HN0.out.six
  go_enter Tryd.func82, Tryd.ntmps82
  go_wp2_with fail
  refine (KK.out _ HV0.out HC0.out HN0.out HS0.out).mono ?_
  rintro e w1 ⟨er0, rfl, hb⟩
  clear v0_0 v1_0 v2_0 v3_0 v4_0 v5_0 c0_0 c1_0 c2_0 c3_0 c4_0 c5_0 n0_0 n1_0 n2_0 n3_0 n4_0 n5_0
  have HB1 := Aside0.mk (HB0.out.trans (hb.mono HB0.out.size)); have HS1 := Aside0.mk (HS0.out.below hb); have HV1 := Aside0.mk (HV0.out.below hb); have HC1 := Aside0.mk (HC0.out.below hb); have HN1 := Aside0.mk (HN0.out.below hb); clear hb HB0 HS0 HV0 HC0 HN0
  obtain ⟨v0_1, v1_1, v2_1, v3_1, v4_1, v5_1⟩ := HV1.out.six
  obtain ⟨c0_1, c1_1, c2_1, c3_1, c4_1, c5_1⟩ := HC1.out.six
  obtain ⟨n0_1, n1_1, n2_1, n3_1, n4_1, n5_1⟩ := HN1.out.six
  go_wp2_with fail
  go_ret2
  exact ⟨_, rfl, HB1.out⟩

/-- What semver.constraint).check answers, out of its tests: b0: tb. -/
def check4_r (b0 : Bool) : Bool := b0

set_option maxHeartbeats 100000000 in
set_option maxRecDepth 100000 in
theorem check4_calls (x0 x1 x2 : Int) (xp xm xo : ByteArray) (y0 y1 y2 : Int) (yp ym yo : ByteArray) (og : ByteArray) (bv bc bn : Nat) (mD d pD pre : Bool) (tb : Bool) (w : World) (hV : At w bv [.int .u64 x0, .int .u64 x1, .int .u64 x2, .string xp, .string xm, .string xo]) (hC : At w bc [.pointer (some ⟨bn, 0, none⟩), .string og, .string ⟨#[62, 61]⟩, .bool mD, .bool d, .bool pD]) (hN : At w bn [.int .u64 y0, .int .u64 y1, .int .u64 y2, .string yp, .string ym, .string yo]) (hStd : Std w) (KK : Hid (∀ (W : World), At W bv [.int .u64 x0, .int .u64 x1, .int .u64 x2, .string xp, .string xm, .string xo] → At W bc [.pointer (some ⟨bn, 0, none⟩), .string og, .string ⟨#[62, 61]⟩, .bool mD, .bool d, .bool pD] → At W bn [.int .u64 y0, .int .u64 y1, .int .u64 y2, .string yp, .string ym, .string yo] → Std W → Calls Tryd.prog 103 #[.pointer (some ⟨bv, 0, none⟩), .pointer (some ⟨bc, 0, none⟩), .bool pre] W (RetB W tb)))  :
    Calls Tryd.prog 82 #[.pointer (some ⟨bc, 0, none⟩), .pointer (some ⟨bv, 0, none⟩), .bool pre] w (RetB w (check4_r tb)) := by
  have HB0 := Aside0.mk (Below.refl w.heap.size w); have HS0 := Aside0.mk hStd; have HV0 := Aside0.mk hV; have HC0 := Aside0.mk hC; have HN0 := Aside0.mk hN; clear hStd hV hC hN
  obtain ⟨v0_0, v1_0, v2_0, v3_0, v4_0, v5_0⟩ := HV0.out.six
  obtain ⟨c0_0, c1_0, c2_0, c3_0, c4_0, c5_0⟩ := HC0.out.six
  obtain ⟨n0_0, n1_0, n2_0, n3_0, n4_0, n5_0⟩ := HN0.out.six
  go_enter Tryd.func82, Tryd.ntmps82
  go_wp2_with fail
  refine (KK.out _ HV0.out HC0.out HN0.out HS0.out).mono ?_
  rintro e w1 ⟨er0, rfl, hb⟩
  clear v0_0 v1_0 v2_0 v3_0 v4_0 v5_0 c0_0 c1_0 c2_0 c3_0 c4_0 c5_0 n0_0 n1_0 n2_0 n3_0 n4_0 n5_0
  have HB1 := Aside0.mk (HB0.out.trans (hb.mono HB0.out.size)); have HS1 := Aside0.mk (HS0.out.below hb); have HV1 := Aside0.mk (HV0.out.below hb); have HC1 := Aside0.mk (HC0.out.below hb); have HN1 := Aside0.mk (HN0.out.below hb); clear hb HB0 HS0 HV0 HC0 HN0
  obtain ⟨v0_1, v1_1, v2_1, v3_1, v4_1, v5_1⟩ := HV1.out.six
  obtain ⟨c0_1, c1_1, c2_1, c3_1, c4_1, c5_1⟩ := HC1.out.six
  obtain ⟨n0_1, n1_1, n2_1, n3_1, n4_1, n5_1⟩ := HN1.out.six
  go_wp2_with fail
  go_ret2
  exact ⟨_, rfl, HB1.out⟩

/-- What semver.constraint).check answers, out of its tests: b0: tb. -/
def check5_r (b0 : Bool) : Bool := b0

set_option maxHeartbeats 100000000 in
set_option maxRecDepth 100000 in
theorem check5_calls (x0 x1 x2 : Int) (xp xm xo : ByteArray) (y0 y1 y2 : Int) (yp ym yo : ByteArray) (og : ByteArray) (bv bc bn : Nat) (mD d pD pre : Bool) (tb : Bool) (w : World) (hV : At w bv [.int .u64 x0, .int .u64 x1, .int .u64 x2, .string xp, .string xm, .string xo]) (hC : At w bc [.pointer (some ⟨bn, 0, none⟩), .string og, .string ⟨#[60, 61]⟩, .bool mD, .bool d, .bool pD]) (hN : At w bn [.int .u64 y0, .int .u64 y1, .int .u64 y2, .string yp, .string ym, .string yo]) (hStd : Std w) (KK : Hid (∀ (W : World), At W bv [.int .u64 x0, .int .u64 x1, .int .u64 x2, .string xp, .string xm, .string xo] → At W bc [.pointer (some ⟨bn, 0, none⟩), .string og, .string ⟨#[60, 61]⟩, .bool mD, .bool d, .bool pD] → At W bn [.int .u64 y0, .int .u64 y1, .int .u64 y2, .string yp, .string ym, .string yo] → Std W → Calls Tryd.prog 104 #[.pointer (some ⟨bv, 0, none⟩), .pointer (some ⟨bc, 0, none⟩), .bool pre] W (RetB W tb)))  :
    Calls Tryd.prog 82 #[.pointer (some ⟨bc, 0, none⟩), .pointer (some ⟨bv, 0, none⟩), .bool pre] w (RetB w (check5_r tb)) := by
  have HB0 := Aside0.mk (Below.refl w.heap.size w); have HS0 := Aside0.mk hStd; have HV0 := Aside0.mk hV; have HC0 := Aside0.mk hC; have HN0 := Aside0.mk hN; clear hStd hV hC hN
  obtain ⟨v0_0, v1_0, v2_0, v3_0, v4_0, v5_0⟩ := HV0.out.six
  obtain ⟨c0_0, c1_0, c2_0, c3_0, c4_0, c5_0⟩ := HC0.out.six
  obtain ⟨n0_0, n1_0, n2_0, n3_0, n4_0, n5_0⟩ := HN0.out.six
  go_enter Tryd.func82, Tryd.ntmps82
  go_wp2_with fail
  refine (KK.out _ HV0.out HC0.out HN0.out HS0.out).mono ?_
  rintro e w1 ⟨er0, rfl, hb⟩
  clear v0_0 v1_0 v2_0 v3_0 v4_0 v5_0 c0_0 c1_0 c2_0 c3_0 c4_0 c5_0 n0_0 n1_0 n2_0 n3_0 n4_0 n5_0
  have HB1 := Aside0.mk (HB0.out.trans (hb.mono HB0.out.size)); have HS1 := Aside0.mk (HS0.out.below hb); have HV1 := Aside0.mk (HV0.out.below hb); have HC1 := Aside0.mk (HC0.out.below hb); have HN1 := Aside0.mk (HN0.out.below hb); clear hb HB0 HS0 HV0 HC0 HN0
  obtain ⟨v0_1, v1_1, v2_1, v3_1, v4_1, v5_1⟩ := HV1.out.six
  obtain ⟨c0_1, c1_1, c2_1, c3_1, c4_1, c5_1⟩ := HC1.out.six
  obtain ⟨n0_1, n1_1, n2_1, n3_1, n4_1, n5_1⟩ := HN1.out.six
  go_wp2_with fail
  go_ret2
  exact ⟨_, rfl, HB1.out⟩

/-- What semver.constraint).check answers, out of its tests: b0: tb. -/
def check6_r (b0 : Bool) : Bool := b0

set_option maxHeartbeats 100000000 in
set_option maxRecDepth 100000 in
theorem check6_calls (x0 x1 x2 : Int) (xp xm xo : ByteArray) (y0 y1 y2 : Int) (yp ym yo : ByteArray) (og : ByteArray) (bv bc bn : Nat) (mD d pD pre : Bool) (tb : Bool) (w : World) (hV : At w bv [.int .u64 x0, .int .u64 x1, .int .u64 x2, .string xp, .string xm, .string xo]) (hC : At w bc [.pointer (some ⟨bn, 0, none⟩), .string og, .string ⟨#[126]⟩, .bool mD, .bool d, .bool pD]) (hN : At w bn [.int .u64 y0, .int .u64 y1, .int .u64 y2, .string yp, .string ym, .string yo]) (hStd : Std w) (KK : Hid (∀ (W : World), At W bv [.int .u64 x0, .int .u64 x1, .int .u64 x2, .string xp, .string xm, .string xo] → At W bc [.pointer (some ⟨bn, 0, none⟩), .string og, .string ⟨#[126]⟩, .bool mD, .bool d, .bool pD] → At W bn [.int .u64 y0, .int .u64 y1, .int .u64 y2, .string yp, .string ym, .string yo] → Std W → Calls Tryd.prog 87 #[.pointer (some ⟨bv, 0, none⟩), .pointer (some ⟨bc, 0, none⟩), .bool pre] W (RetB W tb)))  :
    Calls Tryd.prog 82 #[.pointer (some ⟨bc, 0, none⟩), .pointer (some ⟨bv, 0, none⟩), .bool pre] w (RetB w (check6_r tb)) := by
  have HB0 := Aside0.mk (Below.refl w.heap.size w); have HS0 := Aside0.mk hStd; have HV0 := Aside0.mk hV; have HC0 := Aside0.mk hC; have HN0 := Aside0.mk hN; clear hStd hV hC hN
  obtain ⟨v0_0, v1_0, v2_0, v3_0, v4_0, v5_0⟩ := HV0.out.six
  obtain ⟨c0_0, c1_0, c2_0, c3_0, c4_0, c5_0⟩ := HC0.out.six
  obtain ⟨n0_0, n1_0, n2_0, n3_0, n4_0, n5_0⟩ := HN0.out.six
  go_enter Tryd.func82, Tryd.ntmps82
  go_wp2_with fail
  refine (KK.out _ HV0.out HC0.out HN0.out HS0.out).mono ?_
  rintro e w1 ⟨er0, rfl, hb⟩
  clear v0_0 v1_0 v2_0 v3_0 v4_0 v5_0 c0_0 c1_0 c2_0 c3_0 c4_0 c5_0 n0_0 n1_0 n2_0 n3_0 n4_0 n5_0
  have HB1 := Aside0.mk (HB0.out.trans (hb.mono HB0.out.size)); have HS1 := Aside0.mk (HS0.out.below hb); have HV1 := Aside0.mk (HV0.out.below hb); have HC1 := Aside0.mk (HC0.out.below hb); have HN1 := Aside0.mk (HN0.out.below hb); clear hb HB0 HS0 HV0 HC0 HN0
  obtain ⟨v0_1, v1_1, v2_1, v3_1, v4_1, v5_1⟩ := HV1.out.six
  obtain ⟨c0_1, c1_1, c2_1, c3_1, c4_1, c5_1⟩ := HC1.out.six
  obtain ⟨n0_1, n1_1, n2_1, n3_1, n4_1, n5_1⟩ := HN1.out.six
  go_wp2_with fail
  go_ret2
  exact ⟨_, rfl, HB1.out⟩

/-- What semver.constraint).check answers, out of its tests: b0: tb. -/
def check7_r (b0 : Bool) : Bool := b0

set_option maxHeartbeats 100000000 in
set_option maxRecDepth 100000 in
theorem check7_calls (x0 x1 x2 : Int) (xp xm xo : ByteArray) (y0 y1 y2 : Int) (yp ym yo : ByteArray) (og : ByteArray) (bv bc bn : Nat) (mD d pD pre : Bool) (tb : Bool) (w : World) (hV : At w bv [.int .u64 x0, .int .u64 x1, .int .u64 x2, .string xp, .string xm, .string xo]) (hC : At w bc [.pointer (some ⟨bn, 0, none⟩), .string og, .string ⟨#[94]⟩, .bool mD, .bool d, .bool pD]) (hN : At w bn [.int .u64 y0, .int .u64 y1, .int .u64 y2, .string yp, .string ym, .string yo]) (hStd : Std w) (KK : Hid (∀ (W : World), At W bv [.int .u64 x0, .int .u64 x1, .int .u64 x2, .string xp, .string xm, .string xo] → At W bc [.pointer (some ⟨bn, 0, none⟩), .string og, .string ⟨#[94]⟩, .bool mD, .bool d, .bool pD] → At W bn [.int .u64 y0, .int .u64 y1, .int .u64 y2, .string yp, .string ym, .string yo] → Std W → Calls Tryd.prog 105 #[.pointer (some ⟨bv, 0, none⟩), .pointer (some ⟨bc, 0, none⟩), .bool pre] W (RetB W tb)))  :
    Calls Tryd.prog 82 #[.pointer (some ⟨bc, 0, none⟩), .pointer (some ⟨bv, 0, none⟩), .bool pre] w (RetB w (check7_r tb)) := by
  have HB0 := Aside0.mk (Below.refl w.heap.size w); have HS0 := Aside0.mk hStd; have HV0 := Aside0.mk hV; have HC0 := Aside0.mk hC; have HN0 := Aside0.mk hN; clear hStd hV hC hN
  obtain ⟨v0_0, v1_0, v2_0, v3_0, v4_0, v5_0⟩ := HV0.out.six
  obtain ⟨c0_0, c1_0, c2_0, c3_0, c4_0, c5_0⟩ := HC0.out.six
  obtain ⟨n0_0, n1_0, n2_0, n3_0, n4_0, n5_0⟩ := HN0.out.six
  go_enter Tryd.func82, Tryd.ntmps82
  go_wp2_with fail
  refine (KK.out _ HV0.out HC0.out HN0.out HS0.out).mono ?_
  rintro e w1 ⟨er0, rfl, hb⟩
  clear v0_0 v1_0 v2_0 v3_0 v4_0 v5_0 c0_0 c1_0 c2_0 c3_0 c4_0 c5_0 n0_0 n1_0 n2_0 n3_0 n4_0 n5_0
  have HB1 := Aside0.mk (HB0.out.trans (hb.mono HB0.out.size)); have HS1 := Aside0.mk (HS0.out.below hb); have HV1 := Aside0.mk (HV0.out.below hb); have HC1 := Aside0.mk (HC0.out.below hb); have HN1 := Aside0.mk (HN0.out.below hb); clear hb HB0 HS0 HV0 HC0 HN0
  obtain ⟨v0_1, v1_1, v2_1, v3_1, v4_1, v5_1⟩ := HV1.out.six
  obtain ⟨c0_1, c1_1, c2_1, c3_1, c4_1, c5_1⟩ := HC1.out.six
  obtain ⟨n0_1, n1_1, n2_1, n3_1, n4_1, n5_1⟩ := HN1.out.six
  go_wp2_with fail
  go_ret2
  exact ⟨_, rfl, HB1.out⟩

end Go.Proofs.YtllkoadcpobdaaaDoor.KX
