/- The row and the tied card of FnSemverApart, out of its printed walk and its plain law. For every input that the statement lets in. -/
import Derived.Test.YtllkoadcpobdaaaDoorZCardSemverApart19
import Derived.Lib.QuietBelow
namespace Go.Proofs.YtllkoadcpobdaaaDoor.Base
end Go.Proofs.YtllkoadcpobdaaaDoor.Base
namespace Go.Proofs.YtllkoadcpobdaaaDoor.Bt
end Go.Proofs.YtllkoadcpobdaaaDoor.Bt
namespace Go.Proofs.YtllkoadcpobdaaaDoor.KX
end Go.Proofs.YtllkoadcpobdaaaDoor.KX
namespace Go.Proofs.YtllkoadcpobdaaaDoor.L
end Go.Proofs.YtllkoadcpobdaaaDoor.L
namespace Go.Proofs.YtllkoadcpobdaaaDoor.PX
end Go.Proofs.YtllkoadcpobdaaaDoor.PX
namespace Go.Proofs.YtllkoadcpobdaaaDoor.Parse
end Go.Proofs.YtllkoadcpobdaaaDoor.Parse
namespace Go.Proofs.YtllkoadcpobdaaaDoor.KX

open Go.RowKit Go.Lib Go.Proofs Go.Sort Go.Proofs.YtllkoadcpobdaaaDoor.Base Go.Proofs.YtllkoadcpobdaaaDoor.L Go.Proofs.YtllkoadcpobdaaaDoor.Bt Go.Proofs.YtllkoadcpobdaaaDoor.Parse Go.Proofs.YtllkoadcpobdaaaDoor.PX

open Go.Proofs.YtllkoadcpobdaaaDoorW.PrintWords Go.Proofs.YtllkoadcpobdaaaDoorW.PrintLast Go.Proofs.YtllkoadcpobdaaaDoorW.PrintMore

/-- A version: its numbers, its prerelease, its metadata, its original text. -/
structure Ver where
  ma : Nat
  mi : Nat
  pa : Nat
  pre : ByteArray
  mt : ByteArray
  og : ByteArray

/-- A version as it lies in block b. -/
structure VerAt (w : World) (b : Nat) (v : Ver) : Prop where
  c0 : w.cell? ⟨b, 0, none⟩ = some (.int .u64 (v.ma : Int))
  c1 : w.cell? ⟨b, 1, none⟩ = some (.int .u64 (v.mi : Int))
  c2 : w.cell? ⟨b, 2, none⟩ = some (.int .u64 (v.pa : Int))
  c3 : w.cell? ⟨b, 3, none⟩ = some (.string v.pre)
  c4 : w.cell? ⟨b, 4, none⟩ = some (.string v.mt)
  c5 : w.cell? ⟨b, 5, none⟩ = some (.string v.og)

theorem VerAt.lt {w : World} {b : Nat} {v : Ver} (h : VerAt w b v) : b < w.heap.size := by
  have := block_lt_of_cell h.c0
  exact this

theorem VerAt.below {w w' : World} {b : Nat} {v : Ver} (h : VerAt w b v) (hb : Below w.heap.size w w') : VerAt w' b v := by
  have hl := h.lt
  obtain ⟨h0, h1, h2, h3, h4, h5⟩ := h
  exact ⟨(hb.cell (p := ⟨b, 0, none⟩) hl).trans h0, (hb.cell (p := ⟨b, 1, none⟩) hl).trans h1, (hb.cell (p := ⟨b, 2, none⟩) hl).trans h2, (hb.cell (p := ⟨b, 3, none⟩) hl).trans h3, (hb.cell (p := ⟨b, 4, none⟩) hl).trans h4, (hb.cell (p := ⟨b, 5, none⟩) hl).trans h5⟩

def segC (a b : Nat) : Int := if a < b then -1 else if b < a then 1 else 0

/-- Two prereleases, each of which may be empty. -/
def preAny (a b : List UInt8) : Int := if a = [] then (if b = [] then 0 else 1) else if b = [] then -1 else preC a b

/-- Two versions compared. -/
def verC (v o : Ver) : Int :=
  if segC v.ma o.ma ≠ 0 then segC v.ma o.ma else if segC v.mi o.mi ≠ 0 then segC v.mi o.mi else if segC v.pa o.pa ≠ 0 then segC v.pa o.pa else preAny (bl v.pre) (bl o.pre)

theorem seg_f (a b : Nat) : semver_compareSegment.f (a : Int) (b : Int) = some (segC a b) := by
  unfold semver_compareSegment.f segC
  by_cases h1 : a < b
  · rw [if_pos (by omega), if_pos h1]
  · rw [if_neg (by omega), if_neg h1]
    by_cases h2 : b < a
    · rw [if_pos (by omega), if_pos h2]
    · rw [if_neg (by omega), if_neg h2]

def agg (v : Ver) : Value := .agg #[.int .u64 (v.ma : Int), .int .u64 (v.mi : Int), .int .u64 (v.pa : Int), .string v.pre, .string v.mt, .string v.og]

theorem cMajor (v : Ver) (W : World) : Calls Tryd.prog 94 #[.agg #[.int .u64 (v.ma : Int), .int .u64 (v.mi : Int), .int .u64 (v.pa : Int), .string v.pre, .string v.mt, .string v.og]] W fun e w' => e = .returned (.int .u64 (v.ma : Int)) ∧ Below W.heap.size W w' :=
  semver_Version_Major.calls _ _ _ _ _ _ _ W (by rfl)

theorem cMinor (v : Ver) (W : World) : Calls Tryd.prog 95 #[.agg #[.int .u64 (v.ma : Int), .int .u64 (v.mi : Int), .int .u64 (v.pa : Int), .string v.pre, .string v.mt, .string v.og]] W fun e w' => e = .returned (.int .u64 (v.mi : Int)) ∧ Below W.heap.size W w' :=
  semver_Version_Minor.calls _ _ _ _ _ _ _ W (by rfl)

theorem cPatch (v : Ver) (W : World) : Calls Tryd.prog 96 #[.agg #[.int .u64 (v.ma : Int), .int .u64 (v.mi : Int), .int .u64 (v.pa : Int), .string v.pre, .string v.mt, .string v.og]] W fun e w' => e = .returned (.int .u64 (v.pa : Int)) ∧ Below W.heap.size W w' :=
  semver_Version_Patch.calls _ _ _ _ _ _ _ W (by rfl)

theorem cPre (v : Ver) (W : World) : Calls Tryd.prog 97 #[.agg #[.int .u64 (v.ma : Int), .int .u64 (v.mi : Int), .int .u64 (v.pa : Int), .string v.pre, .string v.mt, .string v.og]] W fun e w' => e = .returned (.string v.pre) ∧ Below W.heap.size W w' :=
  semver_Version_Prerelease.calls _ _ _ _ _ _ _ W (by rfl)

theorem cSeg (a b : Nat) (W : World) : Calls Tryd.prog 107 #[.int .u64 (a : Int), .int .u64 (b : Int)] W fun e w' => e = .returned (.int .i64 (segC a b)) ∧ Below W.heap.size W w' :=
  (semver_compareSegment.calls _ _ _ W (seg_f a b)).mono fun _ _ ⟨he, hd⟩ => ⟨he, hd.below⟩

set_option maxHeartbeats 8000000 in
set_option maxRecDepth 100000 in
theorem cmp_ma (v o : Ver) (bv bo : Nat) (h0 : segC v.ma o.ma ≠ 0) (w : World) (hv0 : VerAt w bv v) (ho0 : VerAt w bo o) :
    Calls Tryd.prog 86 #[.pointer (some ⟨bv, 0, none⟩), .pointer (some ⟨bo, 0, none⟩)] w fun e w' => e = .returned (.int .i64 (segC v.ma o.ma)) ∧ Below w.heap.size w w' := by
  obtain ⟨x0, x1, x2, x3, x4, x5⟩ := v
  obtain ⟨y0, y1, y2, y3, y4, y5⟩ := o
  simp only at *
  have b0 : (segC x0 y0 != 0) = true := bne_iff_ne.2 h0
  clear h0
  have d0 := cell_regrown hv0.c0; have d1 := cell_regrown hv0.c1; have d2 := cell_regrown hv0.c2; have d3 := cell_regrown hv0.c3; have d4 := cell_regrown hv0.c4; have d5 := cell_regrown hv0.c5
  have f0 := cell_regrown ho0.c0; have f1 := cell_regrown ho0.c1; have f2 := cell_regrown ho0.c2; have f3 := cell_regrown ho0.c3; have f4 := cell_regrown ho0.c4; have f5 := cell_regrown ho0.c5
  have cA := fun d os => Calls.regrown_of (cMajor ⟨x0, x1, x2, x3, x4, x5⟩ (grow (redrawn w d) os))
  have cB := fun d os => Calls.regrown_of (cMajor ⟨y0, y1, y2, y3, y4, y5⟩ (grow (redrawn w d) os))
  have cC := fun d os => Calls.regrown_of (cSeg x0 y0 (grow (redrawn w d) os))
  skip
  have HV0 := Aside0.mk hv0
  have HO0 := Aside0.mk ho0
  clear hv0 ho0
  simp only at d0 d1 d2 d3 d4 d5 f0 f1 f2 f3 f4 f5 cA cB cC
  go_enter Tryd.func86, Tryd.ntmps86
  go_wp2_with fail
  refine wp_region_quiet_below (by kernel_rfl) (by kernel_rfl) ?_
  repeat (quiet_step (first | exact cA _ _ | exact cB _ _ | exact cC _ _))
  refine wpQuiet_nil ?_
  intro _ hw'
  obtain ⟨⟨dq, osq⟩, hw''⟩ := hw'
  subst hw''
  clear d0 d1 d2 d3 d4 d5 f0 f1 f2 f3 f4 f5 cA cB cC
  have hq := below_regrown w dq osq
  generalize grow (redrawn w dq) osq = w1 at *
  go_wp2_with fail
  go_ret
  exact ⟨rfl, hq⟩

set_option maxHeartbeats 8000000 in
set_option maxRecDepth 100000 in
theorem cmp_mi (v o : Ver) (bv bo : Nat) (h0 : segC v.ma o.ma = 0) (h1 : segC v.mi o.mi ≠ 0) (w : World) (hv0 : VerAt w bv v) (ho0 : VerAt w bo o) :
    Calls Tryd.prog 86 #[.pointer (some ⟨bv, 0, none⟩), .pointer (some ⟨bo, 0, none⟩)] w fun e w' => e = .returned (.int .i64 (segC v.mi o.mi)) ∧ Below w.heap.size w w' := by
  obtain ⟨x0, x1, x2, x3, x4, x5⟩ := v
  obtain ⟨y0, y1, y2, y3, y4, y5⟩ := o
  simp only at *
  have E0 := Lib.hid h0
  clear h0
  have b1 : (segC x1 y1 != 0) = true := bne_iff_ne.2 h1
  clear h1
  have d0 := cell_regrown hv0.c0; have d1 := cell_regrown hv0.c1; have d2 := cell_regrown hv0.c2; have d3 := cell_regrown hv0.c3; have d4 := cell_regrown hv0.c4; have d5 := cell_regrown hv0.c5
  have f0 := cell_regrown ho0.c0; have f1 := cell_regrown ho0.c1; have f2 := cell_regrown ho0.c2; have f3 := cell_regrown ho0.c3; have f4 := cell_regrown ho0.c4; have f5 := cell_regrown ho0.c5
  have cA := fun d os => Calls.regrown_of (cMajor ⟨x0, x1, x2, x3, x4, x5⟩ (grow (redrawn w d) os))
  have cB := fun d os => Calls.regrown_of (cMajor ⟨y0, y1, y2, y3, y4, y5⟩ (grow (redrawn w d) os))
  have cC := fun d os => Calls.regrown_of (cSeg x0 y0 (grow (redrawn w d) os))
  rw [E0.out] at cC
  have HV0 := Aside0.mk hv0
  have HO0 := Aside0.mk ho0
  clear hv0 ho0
  simp only at d0 d1 d2 d3 d4 d5 f0 f1 f2 f3 f4 f5 cA cB cC
  go_enter Tryd.func86, Tryd.ntmps86
  go_wp2_with fail
  refine wp_region_quiet_below (by kernel_rfl) (by kernel_rfl) ?_
  repeat (quiet_step (first | exact cA _ _ | exact cB _ _ | exact cC _ _))
  refine wpQuiet_nil ?_
  intro _ hw'
  obtain ⟨⟨dq, osq⟩, hw''⟩ := hw'
  subst hw''
  clear d0 d1 d2 d3 d4 d5 f0 f1 f2 f3 f4 f5 cA cB cC
  have hq := below_regrown w dq osq
  generalize grow (redrawn w dq) osq = w1 at *
  have HB1 := Aside0.mk hq
  have hv1 := HV0.out.below hq
  have ho1 := HO0.out.below hq
  clear hq HV0 HO0
  have d0 := cell_regrown hv1.c0; have d1 := cell_regrown hv1.c1; have d2 := cell_regrown hv1.c2; have d3 := cell_regrown hv1.c3; have d4 := cell_regrown hv1.c4; have d5 := cell_regrown hv1.c5
  have f0 := cell_regrown ho1.c0; have f1 := cell_regrown ho1.c1; have f2 := cell_regrown ho1.c2; have f3 := cell_regrown ho1.c3; have f4 := cell_regrown ho1.c4; have f5 := cell_regrown ho1.c5
  have cA := fun d os => Calls.regrown_of (cMinor ⟨x0, x1, x2, x3, x4, x5⟩ (grow (redrawn w1 d) os))
  have cB := fun d os => Calls.regrown_of (cMinor ⟨y0, y1, y2, y3, y4, y5⟩ (grow (redrawn w1 d) os))
  have cC := fun d os => Calls.regrown_of (cSeg x1 y1 (grow (redrawn w1 d) os))
  skip
  have HV1 := Aside0.mk hv1
  have HO1 := Aside0.mk ho1
  clear hv1 ho1
  simp only at d0 d1 d2 d3 d4 d5 f0 f1 f2 f3 f4 f5 cA cB cC
  skip
  go_wp2_with fail
  refine wp_region_quiet_below (by kernel_rfl) (by kernel_rfl) ?_
  repeat (quiet_step (first | exact cA _ _ | exact cB _ _ | exact cC _ _))
  refine wpQuiet_nil ?_
  intro _ hw'
  obtain ⟨⟨dq, osq⟩, hw''⟩ := hw'
  subst hw''
  clear d0 d1 d2 d3 d4 d5 f0 f1 f2 f3 f4 f5 cA cB cC
  have hq := below_regrown w1 dq osq
  generalize grow (redrawn w1 dq) osq = w2 at *
  go_wp2_with fail
  go_ret
  exact ⟨rfl, HB1.out.trans (hq.mono HB1.out.size)⟩

set_option maxHeartbeats 8000000 in
set_option maxRecDepth 100000 in
theorem cmp_pa (v o : Ver) (bv bo : Nat) (h0 : segC v.ma o.ma = 0) (h1 : segC v.mi o.mi = 0) (h2 : segC v.pa o.pa ≠ 0) (w : World) (hv0 : VerAt w bv v) (ho0 : VerAt w bo o) :
    Calls Tryd.prog 86 #[.pointer (some ⟨bv, 0, none⟩), .pointer (some ⟨bo, 0, none⟩)] w fun e w' => e = .returned (.int .i64 (segC v.pa o.pa)) ∧ Below w.heap.size w w' := by
  obtain ⟨x0, x1, x2, x3, x4, x5⟩ := v
  obtain ⟨y0, y1, y2, y3, y4, y5⟩ := o
  simp only at *
  have E0 := Lib.hid h0
  clear h0
  have E1 := Lib.hid h1
  clear h1
  have b2 : (segC x2 y2 != 0) = true := bne_iff_ne.2 h2
  clear h2
  have d0 := cell_regrown hv0.c0; have d1 := cell_regrown hv0.c1; have d2 := cell_regrown hv0.c2; have d3 := cell_regrown hv0.c3; have d4 := cell_regrown hv0.c4; have d5 := cell_regrown hv0.c5
  have f0 := cell_regrown ho0.c0; have f1 := cell_regrown ho0.c1; have f2 := cell_regrown ho0.c2; have f3 := cell_regrown ho0.c3; have f4 := cell_regrown ho0.c4; have f5 := cell_regrown ho0.c5
  have cA := fun d os => Calls.regrown_of (cMajor ⟨x0, x1, x2, x3, x4, x5⟩ (grow (redrawn w d) os))
  have cB := fun d os => Calls.regrown_of (cMajor ⟨y0, y1, y2, y3, y4, y5⟩ (grow (redrawn w d) os))
  have cC := fun d os => Calls.regrown_of (cSeg x0 y0 (grow (redrawn w d) os))
  rw [E0.out] at cC
  have HV0 := Aside0.mk hv0
  have HO0 := Aside0.mk ho0
  clear hv0 ho0
  simp only at d0 d1 d2 d3 d4 d5 f0 f1 f2 f3 f4 f5 cA cB cC
  go_enter Tryd.func86, Tryd.ntmps86
  go_wp2_with fail
  refine wp_region_quiet_below (by kernel_rfl) (by kernel_rfl) ?_
  repeat (quiet_step (first | exact cA _ _ | exact cB _ _ | exact cC _ _))
  refine wpQuiet_nil ?_
  intro _ hw'
  obtain ⟨⟨dq, osq⟩, hw''⟩ := hw'
  subst hw''
  clear d0 d1 d2 d3 d4 d5 f0 f1 f2 f3 f4 f5 cA cB cC
  have hq := below_regrown w dq osq
  generalize grow (redrawn w dq) osq = w1 at *
  have HB1 := Aside0.mk hq
  have hv1 := HV0.out.below hq
  have ho1 := HO0.out.below hq
  clear hq HV0 HO0
  have d0 := cell_regrown hv1.c0; have d1 := cell_regrown hv1.c1; have d2 := cell_regrown hv1.c2; have d3 := cell_regrown hv1.c3; have d4 := cell_regrown hv1.c4; have d5 := cell_regrown hv1.c5
  have f0 := cell_regrown ho1.c0; have f1 := cell_regrown ho1.c1; have f2 := cell_regrown ho1.c2; have f3 := cell_regrown ho1.c3; have f4 := cell_regrown ho1.c4; have f5 := cell_regrown ho1.c5
  have cA := fun d os => Calls.regrown_of (cMinor ⟨x0, x1, x2, x3, x4, x5⟩ (grow (redrawn w1 d) os))
  have cB := fun d os => Calls.regrown_of (cMinor ⟨y0, y1, y2, y3, y4, y5⟩ (grow (redrawn w1 d) os))
  have cC := fun d os => Calls.regrown_of (cSeg x1 y1 (grow (redrawn w1 d) os))
  rw [E1.out] at cC
  have HV1 := Aside0.mk hv1
  have HO1 := Aside0.mk ho1
  clear hv1 ho1
  simp only at d0 d1 d2 d3 d4 d5 f0 f1 f2 f3 f4 f5 cA cB cC
  skip
  go_wp2_with fail
  refine wp_region_quiet_below (by kernel_rfl) (by kernel_rfl) ?_
  repeat (quiet_step (first | exact cA _ _ | exact cB _ _ | exact cC _ _))
  refine wpQuiet_nil ?_
  intro _ hw'
  obtain ⟨⟨dq, osq⟩, hw''⟩ := hw'
  subst hw''
  clear d0 d1 d2 d3 d4 d5 f0 f1 f2 f3 f4 f5 cA cB cC
  have hq := below_regrown w1 dq osq
  generalize grow (redrawn w1 dq) osq = w2 at *
  have HB2 := Aside0.mk (HB1.out.trans (hq.mono HB1.out.size))
  have hv2 := HV1.out.below hq
  have ho2 := HO1.out.below hq
  clear hq HV1 HO1 HB1
  have d0 := cell_regrown hv2.c0; have d1 := cell_regrown hv2.c1; have d2 := cell_regrown hv2.c2; have d3 := cell_regrown hv2.c3; have d4 := cell_regrown hv2.c4; have d5 := cell_regrown hv2.c5
  have f0 := cell_regrown ho2.c0; have f1 := cell_regrown ho2.c1; have f2 := cell_regrown ho2.c2; have f3 := cell_regrown ho2.c3; have f4 := cell_regrown ho2.c4; have f5 := cell_regrown ho2.c5
  have cA := fun d os => Calls.regrown_of (cPatch ⟨x0, x1, x2, x3, x4, x5⟩ (grow (redrawn w2 d) os))
  have cB := fun d os => Calls.regrown_of (cPatch ⟨y0, y1, y2, y3, y4, y5⟩ (grow (redrawn w2 d) os))
  have cC := fun d os => Calls.regrown_of (cSeg x2 y2 (grow (redrawn w2 d) os))
  skip
  have HV2 := Aside0.mk hv2
  have HO2 := Aside0.mk ho2
  clear hv2 ho2
  simp only at d0 d1 d2 d3 d4 d5 f0 f1 f2 f3 f4 f5 cA cB cC
  skip
  go_wp2_with fail
  refine wp_region_quiet_below (by kernel_rfl) (by kernel_rfl) ?_
  repeat (quiet_step (first | exact cA _ _ | exact cB _ _ | exact cC _ _))
  refine wpQuiet_nil ?_
  intro _ hw'
  obtain ⟨⟨dq, osq⟩, hw''⟩ := hw'
  subst hw''
  clear d0 d1 d2 d3 d4 d5 f0 f1 f2 f3 f4 f5 cA cB cC
  have hq := below_regrown w2 dq osq
  generalize grow (redrawn w2 dq) osq = w3 at *
  go_wp2_with fail
  go_ret
  exact ⟨rfl, HB2.out.trans (hq.mono HB2.out.size)⟩

set_option maxHeartbeats 8000000 in
set_option maxRecDepth 100000 in
theorem cmp_00 (v o : Ver) (bv bo : Nat) (h0 : segC v.ma o.ma = 0) (h1 : segC v.mi o.mi = 0) (h2 : segC v.pa o.pa = 0) (p : bl v.pre = []) (q : bl o.pre = []) (w : World) (hv0 : VerAt w bv v) (ho0 : VerAt w bo o) :
    Calls Tryd.prog 86 #[.pointer (some ⟨bv, 0, none⟩), .pointer (some ⟨bo, 0, none⟩)] w fun e w' => e = .returned (.int .i64 (0)) ∧ Below w.heap.size w w' := by
  obtain ⟨x0, x1, x2, x3, x4, x5⟩ := v
  obtain ⟨y0, y1, y2, y3, y4, y5⟩ := o
  simp only at *
  have E0 := Lib.hid h0
  clear h0
  have E1 := Lib.hid h1
  clear h1
  have E2 := Lib.hid h2
  clear h2
  have e1 : (x3.toList == []) = true := beq_iff_eq.2 (by rw [toList_bl]; exact p)
  have e2 : (y3.toList == []) = true := beq_iff_eq.2 (by rw [toList_bl]; exact q)
  clear p q
  have d0 := cell_regrown hv0.c0; have d1 := cell_regrown hv0.c1; have d2 := cell_regrown hv0.c2; have d3 := cell_regrown hv0.c3; have d4 := cell_regrown hv0.c4; have d5 := cell_regrown hv0.c5
  have f0 := cell_regrown ho0.c0; have f1 := cell_regrown ho0.c1; have f2 := cell_regrown ho0.c2; have f3 := cell_regrown ho0.c3; have f4 := cell_regrown ho0.c4; have f5 := cell_regrown ho0.c5
  have cA := fun d os => Calls.regrown_of (cMajor ⟨x0, x1, x2, x3, x4, x5⟩ (grow (redrawn w d) os))
  have cB := fun d os => Calls.regrown_of (cMajor ⟨y0, y1, y2, y3, y4, y5⟩ (grow (redrawn w d) os))
  have cC := fun d os => Calls.regrown_of (cSeg x0 y0 (grow (redrawn w d) os))
  rw [E0.out] at cC
  have HV0 := Aside0.mk hv0
  have HO0 := Aside0.mk ho0
  clear hv0 ho0
  simp only at d0 d1 d2 d3 d4 d5 f0 f1 f2 f3 f4 f5 cA cB cC
  go_enter Tryd.func86, Tryd.ntmps86
  go_wp2_with fail
  refine wp_region_quiet_below (by kernel_rfl) (by kernel_rfl) ?_
  repeat (quiet_step (first | exact cA _ _ | exact cB _ _ | exact cC _ _))
  refine wpQuiet_nil ?_
  intro _ hw'
  obtain ⟨⟨dq, osq⟩, hw''⟩ := hw'
  subst hw''
  clear d0 d1 d2 d3 d4 d5 f0 f1 f2 f3 f4 f5 cA cB cC
  have hq := below_regrown w dq osq
  generalize grow (redrawn w dq) osq = w1 at *
  have HB1 := Aside0.mk hq
  have hv1 := HV0.out.below hq
  have ho1 := HO0.out.below hq
  clear hq HV0 HO0
  have d0 := cell_regrown hv1.c0; have d1 := cell_regrown hv1.c1; have d2 := cell_regrown hv1.c2; have d3 := cell_regrown hv1.c3; have d4 := cell_regrown hv1.c4; have d5 := cell_regrown hv1.c5
  have f0 := cell_regrown ho1.c0; have f1 := cell_regrown ho1.c1; have f2 := cell_regrown ho1.c2; have f3 := cell_regrown ho1.c3; have f4 := cell_regrown ho1.c4; have f5 := cell_regrown ho1.c5
  have cA := fun d os => Calls.regrown_of (cMinor ⟨x0, x1, x2, x3, x4, x5⟩ (grow (redrawn w1 d) os))
  have cB := fun d os => Calls.regrown_of (cMinor ⟨y0, y1, y2, y3, y4, y5⟩ (grow (redrawn w1 d) os))
  have cC := fun d os => Calls.regrown_of (cSeg x1 y1 (grow (redrawn w1 d) os))
  rw [E1.out] at cC
  have HV1 := Aside0.mk hv1
  have HO1 := Aside0.mk ho1
  clear hv1 ho1
  simp only at d0 d1 d2 d3 d4 d5 f0 f1 f2 f3 f4 f5 cA cB cC
  skip
  go_wp2_with fail
  refine wp_region_quiet_below (by kernel_rfl) (by kernel_rfl) ?_
  repeat (quiet_step (first | exact cA _ _ | exact cB _ _ | exact cC _ _))
  refine wpQuiet_nil ?_
  intro _ hw'
  obtain ⟨⟨dq, osq⟩, hw''⟩ := hw'
  subst hw''
  clear d0 d1 d2 d3 d4 d5 f0 f1 f2 f3 f4 f5 cA cB cC
  have hq := below_regrown w1 dq osq
  generalize grow (redrawn w1 dq) osq = w2 at *
  have HB2 := Aside0.mk (HB1.out.trans (hq.mono HB1.out.size))
  have hv2 := HV1.out.below hq
  have ho2 := HO1.out.below hq
  clear hq HV1 HO1 HB1
  have d0 := cell_regrown hv2.c0; have d1 := cell_regrown hv2.c1; have d2 := cell_regrown hv2.c2; have d3 := cell_regrown hv2.c3; have d4 := cell_regrown hv2.c4; have d5 := cell_regrown hv2.c5
  have f0 := cell_regrown ho2.c0; have f1 := cell_regrown ho2.c1; have f2 := cell_regrown ho2.c2; have f3 := cell_regrown ho2.c3; have f4 := cell_regrown ho2.c4; have f5 := cell_regrown ho2.c5
  have cA := fun d os => Calls.regrown_of (cPatch ⟨x0, x1, x2, x3, x4, x5⟩ (grow (redrawn w2 d) os))
  have cB := fun d os => Calls.regrown_of (cPatch ⟨y0, y1, y2, y3, y4, y5⟩ (grow (redrawn w2 d) os))
  have cC := fun d os => Calls.regrown_of (cSeg x2 y2 (grow (redrawn w2 d) os))
  rw [E2.out] at cC
  have HV2 := Aside0.mk hv2
  have HO2 := Aside0.mk ho2
  clear hv2 ho2
  simp only at d0 d1 d2 d3 d4 d5 f0 f1 f2 f3 f4 f5 cA cB cC
  skip
  go_wp2_with fail
  refine wp_region_quiet_below (by kernel_rfl) (by kernel_rfl) ?_
  repeat (quiet_step (first | exact cA _ _ | exact cB _ _ | exact cC _ _))
  refine wpQuiet_nil ?_
  intro _ hw'
  obtain ⟨⟨dq, osq⟩, hw''⟩ := hw'
  subst hw''
  clear d0 d1 d2 d3 d4 d5 f0 f1 f2 f3 f4 f5 cA cB cC
  have hq := below_regrown w2 dq osq
  generalize grow (redrawn w2 dq) osq = w3 at *
  have HB3 := Aside0.mk (HB2.out.trans (hq.mono HB2.out.size))
  have hv3 := HV2.out.below hq
  have ho3 := HO2.out.below hq
  clear hq HV2 HO2 HB2
  have C := Lib.hid (fun W => cPre ⟨y0, y1, y2, y3, y4, y5⟩ W)
  have d0 := hv3.c0; have d1 := hv3.c1; have d2 := hv3.c2; have d3 := hv3.c3; have d4 := hv3.c4; have d5 := hv3.c5
  have f0 := ho3.c0; have f1 := ho3.c1; have f2 := ho3.c2; have f3 := ho3.c3; have f4 := ho3.c4; have f5 := ho3.c5
  clear hv3 ho3
  simp only at d0 d1 d2 d3 d4 d5 f0 f1 f2 f3 f4 f5 C
  go_wp2_with fail
  refine (C.out _).mono ?_
  rintro e w4 ⟨rfl, hb4⟩
  clear d0 d1 d2 d3 d4 d5 f0 f1 f2 f3 f4 f5
  have HB4 := Aside0.mk (HB3.out.trans (hb4.mono HB3.out.size))
  clear hb4 HB3
  go_wp2_with fail
  go_ret
  exact ⟨rfl, HB4.out⟩

set_option maxHeartbeats 8000000 in
set_option maxRecDepth 100000 in
theorem cmp_01 (v o : Ver) (bv bo : Nat) (h0 : segC v.ma o.ma = 0) (h1 : segC v.mi o.mi = 0) (h2 : segC v.pa o.pa = 0) (p : bl v.pre = []) (q : bl o.pre ≠ []) (w : World) (hv0 : VerAt w bv v) (ho0 : VerAt w bo o) :
    Calls Tryd.prog 86 #[.pointer (some ⟨bv, 0, none⟩), .pointer (some ⟨bo, 0, none⟩)] w fun e w' => e = .returned (.int .i64 (1)) ∧ Below w.heap.size w w' := by
  obtain ⟨x0, x1, x2, x3, x4, x5⟩ := v
  obtain ⟨y0, y1, y2, y3, y4, y5⟩ := o
  simp only at *
  have E0 := Lib.hid h0
  clear h0
  have E1 := Lib.hid h1
  clear h1
  have E2 := Lib.hid h2
  clear h2
  have e1 : (x3.toList == []) = true := beq_iff_eq.2 (by rw [toList_bl]; exact p)
  have e2 : (y3.toList == []) = false := beq_eq_false_iff_ne.2 (by rw [toList_bl]; exact q)
  clear p q
  have d0 := cell_regrown hv0.c0; have d1 := cell_regrown hv0.c1; have d2 := cell_regrown hv0.c2; have d3 := cell_regrown hv0.c3; have d4 := cell_regrown hv0.c4; have d5 := cell_regrown hv0.c5
  have f0 := cell_regrown ho0.c0; have f1 := cell_regrown ho0.c1; have f2 := cell_regrown ho0.c2; have f3 := cell_regrown ho0.c3; have f4 := cell_regrown ho0.c4; have f5 := cell_regrown ho0.c5
  have cA := fun d os => Calls.regrown_of (cMajor ⟨x0, x1, x2, x3, x4, x5⟩ (grow (redrawn w d) os))
  have cB := fun d os => Calls.regrown_of (cMajor ⟨y0, y1, y2, y3, y4, y5⟩ (grow (redrawn w d) os))
  have cC := fun d os => Calls.regrown_of (cSeg x0 y0 (grow (redrawn w d) os))
  rw [E0.out] at cC
  have HV0 := Aside0.mk hv0
  have HO0 := Aside0.mk ho0
  clear hv0 ho0
  simp only at d0 d1 d2 d3 d4 d5 f0 f1 f2 f3 f4 f5 cA cB cC
  go_enter Tryd.func86, Tryd.ntmps86
  go_wp2_with fail
  refine wp_region_quiet_below (by kernel_rfl) (by kernel_rfl) ?_
  repeat (quiet_step (first | exact cA _ _ | exact cB _ _ | exact cC _ _))
  refine wpQuiet_nil ?_
  intro _ hw'
  obtain ⟨⟨dq, osq⟩, hw''⟩ := hw'
  subst hw''
  clear d0 d1 d2 d3 d4 d5 f0 f1 f2 f3 f4 f5 cA cB cC
  have hq := below_regrown w dq osq
  generalize grow (redrawn w dq) osq = w1 at *
  have HB1 := Aside0.mk hq
  have hv1 := HV0.out.below hq
  have ho1 := HO0.out.below hq
  clear hq HV0 HO0
  have d0 := cell_regrown hv1.c0; have d1 := cell_regrown hv1.c1; have d2 := cell_regrown hv1.c2; have d3 := cell_regrown hv1.c3; have d4 := cell_regrown hv1.c4; have d5 := cell_regrown hv1.c5
  have f0 := cell_regrown ho1.c0; have f1 := cell_regrown ho1.c1; have f2 := cell_regrown ho1.c2; have f3 := cell_regrown ho1.c3; have f4 := cell_regrown ho1.c4; have f5 := cell_regrown ho1.c5
  have cA := fun d os => Calls.regrown_of (cMinor ⟨x0, x1, x2, x3, x4, x5⟩ (grow (redrawn w1 d) os))
  have cB := fun d os => Calls.regrown_of (cMinor ⟨y0, y1, y2, y3, y4, y5⟩ (grow (redrawn w1 d) os))
  have cC := fun d os => Calls.regrown_of (cSeg x1 y1 (grow (redrawn w1 d) os))
  rw [E1.out] at cC
  have HV1 := Aside0.mk hv1
  have HO1 := Aside0.mk ho1
  clear hv1 ho1
  simp only at d0 d1 d2 d3 d4 d5 f0 f1 f2 f3 f4 f5 cA cB cC
  skip
  go_wp2_with fail
  refine wp_region_quiet_below (by kernel_rfl) (by kernel_rfl) ?_
  repeat (quiet_step (first | exact cA _ _ | exact cB _ _ | exact cC _ _))
  refine wpQuiet_nil ?_
  intro _ hw'
  obtain ⟨⟨dq, osq⟩, hw''⟩ := hw'
  subst hw''
  clear d0 d1 d2 d3 d4 d5 f0 f1 f2 f3 f4 f5 cA cB cC
  have hq := below_regrown w1 dq osq
  generalize grow (redrawn w1 dq) osq = w2 at *
  have HB2 := Aside0.mk (HB1.out.trans (hq.mono HB1.out.size))
  have hv2 := HV1.out.below hq
  have ho2 := HO1.out.below hq
  clear hq HV1 HO1 HB1
  have d0 := cell_regrown hv2.c0; have d1 := cell_regrown hv2.c1; have d2 := cell_regrown hv2.c2; have d3 := cell_regrown hv2.c3; have d4 := cell_regrown hv2.c4; have d5 := cell_regrown hv2.c5
  have f0 := cell_regrown ho2.c0; have f1 := cell_regrown ho2.c1; have f2 := cell_regrown ho2.c2; have f3 := cell_regrown ho2.c3; have f4 := cell_regrown ho2.c4; have f5 := cell_regrown ho2.c5
  have cA := fun d os => Calls.regrown_of (cPatch ⟨x0, x1, x2, x3, x4, x5⟩ (grow (redrawn w2 d) os))
  have cB := fun d os => Calls.regrown_of (cPatch ⟨y0, y1, y2, y3, y4, y5⟩ (grow (redrawn w2 d) os))
  have cC := fun d os => Calls.regrown_of (cSeg x2 y2 (grow (redrawn w2 d) os))
  rw [E2.out] at cC
  have HV2 := Aside0.mk hv2
  have HO2 := Aside0.mk ho2
  clear hv2 ho2
  simp only at d0 d1 d2 d3 d4 d5 f0 f1 f2 f3 f4 f5 cA cB cC
  skip
  go_wp2_with fail
  refine wp_region_quiet_below (by kernel_rfl) (by kernel_rfl) ?_
  repeat (quiet_step (first | exact cA _ _ | exact cB _ _ | exact cC _ _))
  refine wpQuiet_nil ?_
  intro _ hw'
  obtain ⟨⟨dq, osq⟩, hw''⟩ := hw'
  subst hw''
  clear d0 d1 d2 d3 d4 d5 f0 f1 f2 f3 f4 f5 cA cB cC
  have hq := below_regrown w2 dq osq
  generalize grow (redrawn w2 dq) osq = w3 at *
  have HB3 := Aside0.mk (HB2.out.trans (hq.mono HB2.out.size))
  have hv3 := HV2.out.below hq
  have ho3 := HO2.out.below hq
  clear hq HV2 HO2 HB2
  have C := Lib.hid (fun W => cPre ⟨y0, y1, y2, y3, y4, y5⟩ W)
  have d0 := hv3.c0; have d1 := hv3.c1; have d2 := hv3.c2; have d3 := hv3.c3; have d4 := hv3.c4; have d5 := hv3.c5
  have f0 := ho3.c0; have f1 := ho3.c1; have f2 := ho3.c2; have f3 := ho3.c3; have f4 := ho3.c4; have f5 := ho3.c5
  clear hv3 ho3
  simp only at d0 d1 d2 d3 d4 d5 f0 f1 f2 f3 f4 f5 C
  go_wp2_with fail
  refine (C.out _).mono ?_
  rintro e w4 ⟨rfl, hb4⟩
  clear d0 d1 d2 d3 d4 d5 f0 f1 f2 f3 f4 f5
  have HB4 := Aside0.mk (HB3.out.trans (hb4.mono HB3.out.size))
  clear hb4 HB3
  go_wp2_with fail
  go_ret
  exact ⟨rfl, HB4.out⟩

set_option maxHeartbeats 8000000 in
set_option maxRecDepth 100000 in
theorem cmp_10 (v o : Ver) (bv bo : Nat) (h0 : segC v.ma o.ma = 0) (h1 : segC v.mi o.mi = 0) (h2 : segC v.pa o.pa = 0) (p : bl v.pre ≠ []) (q : bl o.pre = []) (w : World) (hv0 : VerAt w bv v) (ho0 : VerAt w bo o) :
    Calls Tryd.prog 86 #[.pointer (some ⟨bv, 0, none⟩), .pointer (some ⟨bo, 0, none⟩)] w fun e w' => e = .returned (.int .i64 (-1)) ∧ Below w.heap.size w w' := by
  obtain ⟨x0, x1, x2, x3, x4, x5⟩ := v
  obtain ⟨y0, y1, y2, y3, y4, y5⟩ := o
  simp only at *
  have E0 := Lib.hid h0
  clear h0
  have E1 := Lib.hid h1
  clear h1
  have E2 := Lib.hid h2
  clear h2
  have e1 : (x3.toList == []) = false := beq_eq_false_iff_ne.2 (by rw [toList_bl]; exact p)
  have e2 : (y3.toList == []) = true := beq_iff_eq.2 (by rw [toList_bl]; exact q)
  clear p q
  have d0 := cell_regrown hv0.c0; have d1 := cell_regrown hv0.c1; have d2 := cell_regrown hv0.c2; have d3 := cell_regrown hv0.c3; have d4 := cell_regrown hv0.c4; have d5 := cell_regrown hv0.c5
  have f0 := cell_regrown ho0.c0; have f1 := cell_regrown ho0.c1; have f2 := cell_regrown ho0.c2; have f3 := cell_regrown ho0.c3; have f4 := cell_regrown ho0.c4; have f5 := cell_regrown ho0.c5
  have cA := fun d os => Calls.regrown_of (cMajor ⟨x0, x1, x2, x3, x4, x5⟩ (grow (redrawn w d) os))
  have cB := fun d os => Calls.regrown_of (cMajor ⟨y0, y1, y2, y3, y4, y5⟩ (grow (redrawn w d) os))
  have cC := fun d os => Calls.regrown_of (cSeg x0 y0 (grow (redrawn w d) os))
  rw [E0.out] at cC
  have HV0 := Aside0.mk hv0
  have HO0 := Aside0.mk ho0
  clear hv0 ho0
  simp only at d0 d1 d2 d3 d4 d5 f0 f1 f2 f3 f4 f5 cA cB cC
  go_enter Tryd.func86, Tryd.ntmps86
  go_wp2_with fail
  refine wp_region_quiet_below (by kernel_rfl) (by kernel_rfl) ?_
  repeat (quiet_step (first | exact cA _ _ | exact cB _ _ | exact cC _ _))
  refine wpQuiet_nil ?_
  intro _ hw'
  obtain ⟨⟨dq, osq⟩, hw''⟩ := hw'
  subst hw''
  clear d0 d1 d2 d3 d4 d5 f0 f1 f2 f3 f4 f5 cA cB cC
  have hq := below_regrown w dq osq
  generalize grow (redrawn w dq) osq = w1 at *
  have HB1 := Aside0.mk hq
  have hv1 := HV0.out.below hq
  have ho1 := HO0.out.below hq
  clear hq HV0 HO0
  have d0 := cell_regrown hv1.c0; have d1 := cell_regrown hv1.c1; have d2 := cell_regrown hv1.c2; have d3 := cell_regrown hv1.c3; have d4 := cell_regrown hv1.c4; have d5 := cell_regrown hv1.c5
  have f0 := cell_regrown ho1.c0; have f1 := cell_regrown ho1.c1; have f2 := cell_regrown ho1.c2; have f3 := cell_regrown ho1.c3; have f4 := cell_regrown ho1.c4; have f5 := cell_regrown ho1.c5
  have cA := fun d os => Calls.regrown_of (cMinor ⟨x0, x1, x2, x3, x4, x5⟩ (grow (redrawn w1 d) os))
  have cB := fun d os => Calls.regrown_of (cMinor ⟨y0, y1, y2, y3, y4, y5⟩ (grow (redrawn w1 d) os))
  have cC := fun d os => Calls.regrown_of (cSeg x1 y1 (grow (redrawn w1 d) os))
  rw [E1.out] at cC
  have HV1 := Aside0.mk hv1
  have HO1 := Aside0.mk ho1
  clear hv1 ho1
  simp only at d0 d1 d2 d3 d4 d5 f0 f1 f2 f3 f4 f5 cA cB cC
  skip
  go_wp2_with fail
  refine wp_region_quiet_below (by kernel_rfl) (by kernel_rfl) ?_
  repeat (quiet_step (first | exact cA _ _ | exact cB _ _ | exact cC _ _))
  refine wpQuiet_nil ?_
  intro _ hw'
  obtain ⟨⟨dq, osq⟩, hw''⟩ := hw'
  subst hw''
  clear d0 d1 d2 d3 d4 d5 f0 f1 f2 f3 f4 f5 cA cB cC
  have hq := below_regrown w1 dq osq
  generalize grow (redrawn w1 dq) osq = w2 at *
  have HB2 := Aside0.mk (HB1.out.trans (hq.mono HB1.out.size))
  have hv2 := HV1.out.below hq
  have ho2 := HO1.out.below hq
  clear hq HV1 HO1 HB1
  have d0 := cell_regrown hv2.c0; have d1 := cell_regrown hv2.c1; have d2 := cell_regrown hv2.c2; have d3 := cell_regrown hv2.c3; have d4 := cell_regrown hv2.c4; have d5 := cell_regrown hv2.c5
  have f0 := cell_regrown ho2.c0; have f1 := cell_regrown ho2.c1; have f2 := cell_regrown ho2.c2; have f3 := cell_regrown ho2.c3; have f4 := cell_regrown ho2.c4; have f5 := cell_regrown ho2.c5
  have cA := fun d os => Calls.regrown_of (cPatch ⟨x0, x1, x2, x3, x4, x5⟩ (grow (redrawn w2 d) os))
  have cB := fun d os => Calls.regrown_of (cPatch ⟨y0, y1, y2, y3, y4, y5⟩ (grow (redrawn w2 d) os))
  have cC := fun d os => Calls.regrown_of (cSeg x2 y2 (grow (redrawn w2 d) os))
  rw [E2.out] at cC
  have HV2 := Aside0.mk hv2
  have HO2 := Aside0.mk ho2
  clear hv2 ho2
  simp only at d0 d1 d2 d3 d4 d5 f0 f1 f2 f3 f4 f5 cA cB cC
  skip
  go_wp2_with fail
  refine wp_region_quiet_below (by kernel_rfl) (by kernel_rfl) ?_
  repeat (quiet_step (first | exact cA _ _ | exact cB _ _ | exact cC _ _))
  refine wpQuiet_nil ?_
  intro _ hw'
  obtain ⟨⟨dq, osq⟩, hw''⟩ := hw'
  subst hw''
  clear d0 d1 d2 d3 d4 d5 f0 f1 f2 f3 f4 f5 cA cB cC
  have hq := below_regrown w2 dq osq
  generalize grow (redrawn w2 dq) osq = w3 at *
  have HB3 := Aside0.mk (HB2.out.trans (hq.mono HB2.out.size))
  have hv3 := HV2.out.below hq
  have ho3 := HO2.out.below hq
  clear hq HV2 HO2 HB2
  have C := Lib.hid (fun W => cPre ⟨y0, y1, y2, y3, y4, y5⟩ W)
  have d0 := hv3.c0; have d1 := hv3.c1; have d2 := hv3.c2; have d3 := hv3.c3; have d4 := hv3.c4; have d5 := hv3.c5
  have f0 := ho3.c0; have f1 := ho3.c1; have f2 := ho3.c2; have f3 := ho3.c3; have f4 := ho3.c4; have f5 := ho3.c5
  clear hv3 ho3
  simp only at d0 d1 d2 d3 d4 d5 f0 f1 f2 f3 f4 f5 C
  go_wp2_with fail
  refine (C.out _).mono ?_
  rintro e w4 ⟨rfl, hb4⟩
  clear d0 d1 d2 d3 d4 d5 f0 f1 f2 f3 f4 f5
  have HB4 := Aside0.mk (HB3.out.trans (hb4.mono HB3.out.size))
  clear hb4 HB3
  go_wp2_with fail
  go_ret
  exact ⟨rfl, HB4.out⟩

set_option maxHeartbeats 8000000 in
set_option maxRecDepth 100000 in
theorem cmp_11 (v o : Ver) (bv bo : Nat) (h0 : segC v.ma o.ma = 0) (h1 : segC v.mi o.mi = 0) (h2 : segC v.pa o.pa = 0) (p : bl v.pre ≠ []) (q : bl o.pre ≠ []) (sp : v.pre.size ≤ 2147483647) (sq : o.pre.size ≤ 2147483647) (w : World) (hv0 : VerAt w bv v) (ho0 : VerAt w bo o) (hw : Std w) :
    Calls Tryd.prog 86 #[.pointer (some ⟨bv, 0, none⟩), .pointer (some ⟨bo, 0, none⟩)] w fun e w' => e = .returned (.int .i64 (preC (bl v.pre) (bl o.pre))) ∧ Below w.heap.size w w' := by
  obtain ⟨x0, x1, x2, x3, x4, x5⟩ := v
  obtain ⟨y0, y1, y2, y3, y4, y5⟩ := o
  simp only at *
  have E0 := Lib.hid h0
  clear h0
  have E1 := Lib.hid h1
  clear h1
  have E2 := Lib.hid h2
  clear h2
  have e1 : (x3.toList == []) = false := beq_eq_false_iff_ne.2 (by rw [toList_bl]; exact p)
  have e2 : (y3.toList == []) = false := beq_eq_false_iff_ne.2 (by rw [toList_bl]; exact q)
  clear p q
  have CP := Lib.hid (fun W => comparePre x3 y3 sp sq W)
  have HW := Aside0.mk hw
  clear sp sq hw
  generalize preC (bl x3) (bl y3) = r at *
  have d0 := cell_regrown hv0.c0; have d1 := cell_regrown hv0.c1; have d2 := cell_regrown hv0.c2; have d3 := cell_regrown hv0.c3; have d4 := cell_regrown hv0.c4; have d5 := cell_regrown hv0.c5
  have f0 := cell_regrown ho0.c0; have f1 := cell_regrown ho0.c1; have f2 := cell_regrown ho0.c2; have f3 := cell_regrown ho0.c3; have f4 := cell_regrown ho0.c4; have f5 := cell_regrown ho0.c5
  have cA := fun d os => Calls.regrown_of (cMajor ⟨x0, x1, x2, x3, x4, x5⟩ (grow (redrawn w d) os))
  have cB := fun d os => Calls.regrown_of (cMajor ⟨y0, y1, y2, y3, y4, y5⟩ (grow (redrawn w d) os))
  have cC := fun d os => Calls.regrown_of (cSeg x0 y0 (grow (redrawn w d) os))
  rw [E0.out] at cC
  have HV0 := Aside0.mk hv0
  have HO0 := Aside0.mk ho0
  clear hv0 ho0
  simp only at d0 d1 d2 d3 d4 d5 f0 f1 f2 f3 f4 f5 cA cB cC
  go_enter Tryd.func86, Tryd.ntmps86
  go_wp2_with fail
  refine wp_region_quiet_below (by kernel_rfl) (by kernel_rfl) ?_
  repeat (quiet_step (first | exact cA _ _ | exact cB _ _ | exact cC _ _))
  refine wpQuiet_nil ?_
  intro _ hw'
  obtain ⟨⟨dq, osq⟩, hw''⟩ := hw'
  subst hw''
  clear d0 d1 d2 d3 d4 d5 f0 f1 f2 f3 f4 f5 cA cB cC
  have hq := below_regrown w dq osq
  generalize grow (redrawn w dq) osq = w1 at *
  have HB1 := Aside0.mk hq
  have hv1 := HV0.out.below hq
  have ho1 := HO0.out.below hq
  clear hq HV0 HO0
  have d0 := cell_regrown hv1.c0; have d1 := cell_regrown hv1.c1; have d2 := cell_regrown hv1.c2; have d3 := cell_regrown hv1.c3; have d4 := cell_regrown hv1.c4; have d5 := cell_regrown hv1.c5
  have f0 := cell_regrown ho1.c0; have f1 := cell_regrown ho1.c1; have f2 := cell_regrown ho1.c2; have f3 := cell_regrown ho1.c3; have f4 := cell_regrown ho1.c4; have f5 := cell_regrown ho1.c5
  have cA := fun d os => Calls.regrown_of (cMinor ⟨x0, x1, x2, x3, x4, x5⟩ (grow (redrawn w1 d) os))
  have cB := fun d os => Calls.regrown_of (cMinor ⟨y0, y1, y2, y3, y4, y5⟩ (grow (redrawn w1 d) os))
  have cC := fun d os => Calls.regrown_of (cSeg x1 y1 (grow (redrawn w1 d) os))
  rw [E1.out] at cC
  have HV1 := Aside0.mk hv1
  have HO1 := Aside0.mk ho1
  clear hv1 ho1
  simp only at d0 d1 d2 d3 d4 d5 f0 f1 f2 f3 f4 f5 cA cB cC
  skip
  go_wp2_with fail
  refine wp_region_quiet_below (by kernel_rfl) (by kernel_rfl) ?_
  repeat (quiet_step (first | exact cA _ _ | exact cB _ _ | exact cC _ _))
  refine wpQuiet_nil ?_
  intro _ hw'
  obtain ⟨⟨dq, osq⟩, hw''⟩ := hw'
  subst hw''
  clear d0 d1 d2 d3 d4 d5 f0 f1 f2 f3 f4 f5 cA cB cC
  have hq := below_regrown w1 dq osq
  generalize grow (redrawn w1 dq) osq = w2 at *
  have HB2 := Aside0.mk (HB1.out.trans (hq.mono HB1.out.size))
  have hv2 := HV1.out.below hq
  have ho2 := HO1.out.below hq
  clear hq HV1 HO1 HB1
  have d0 := cell_regrown hv2.c0; have d1 := cell_regrown hv2.c1; have d2 := cell_regrown hv2.c2; have d3 := cell_regrown hv2.c3; have d4 := cell_regrown hv2.c4; have d5 := cell_regrown hv2.c5
  have f0 := cell_regrown ho2.c0; have f1 := cell_regrown ho2.c1; have f2 := cell_regrown ho2.c2; have f3 := cell_regrown ho2.c3; have f4 := cell_regrown ho2.c4; have f5 := cell_regrown ho2.c5
  have cA := fun d os => Calls.regrown_of (cPatch ⟨x0, x1, x2, x3, x4, x5⟩ (grow (redrawn w2 d) os))
  have cB := fun d os => Calls.regrown_of (cPatch ⟨y0, y1, y2, y3, y4, y5⟩ (grow (redrawn w2 d) os))
  have cC := fun d os => Calls.regrown_of (cSeg x2 y2 (grow (redrawn w2 d) os))
  rw [E2.out] at cC
  have HV2 := Aside0.mk hv2
  have HO2 := Aside0.mk ho2
  clear hv2 ho2
  simp only at d0 d1 d2 d3 d4 d5 f0 f1 f2 f3 f4 f5 cA cB cC
  skip
  go_wp2_with fail
  refine wp_region_quiet_below (by kernel_rfl) (by kernel_rfl) ?_
  repeat (quiet_step (first | exact cA _ _ | exact cB _ _ | exact cC _ _))
  refine wpQuiet_nil ?_
  intro _ hw'
  obtain ⟨⟨dq, osq⟩, hw''⟩ := hw'
  subst hw''
  clear d0 d1 d2 d3 d4 d5 f0 f1 f2 f3 f4 f5 cA cB cC
  have hq := below_regrown w2 dq osq
  generalize grow (redrawn w2 dq) osq = w3 at *
  have HB3 := Aside0.mk (HB2.out.trans (hq.mono HB2.out.size))
  have hv3 := HV2.out.below hq
  have ho3 := HO2.out.below hq
  clear hq HV2 HO2 HB2
  have C := Lib.hid (fun W => cPre ⟨y0, y1, y2, y3, y4, y5⟩ W)
  have d0 := hv3.c0; have d1 := hv3.c1; have d2 := hv3.c2; have d3 := hv3.c3; have d4 := hv3.c4; have d5 := hv3.c5
  have f0 := ho3.c0; have f1 := ho3.c1; have f2 := ho3.c2; have f3 := ho3.c3; have f4 := ho3.c4; have f5 := ho3.c5
  clear hv3 ho3
  simp only at d0 d1 d2 d3 d4 d5 f0 f1 f2 f3 f4 f5 C
  go_wp2_with fail
  refine (C.out _).mono ?_
  rintro e w4 ⟨rfl, hb4⟩
  clear d0 d1 d2 d3 d4 d5 f0 f1 f2 f3 f4 f5
  have HB4 := Aside0.mk (HB3.out.trans (hb4.mono HB3.out.size))
  clear hb4 HB3
  have HW4 := Aside0.mk (HW.out.below HB4.out)
  go_wp2_with fail
  refine (CP.out _ HW4.out).mono ?_
  rintro e w5 ⟨rfl, hb5⟩
  go_wp2_with fail
  go_ret
  exact ⟨rfl, HB4.out.trans (hb5.mono HB4.out.size)⟩

theorem compare (v o : Ver) (bv bo : Nat) (sp : v.pre.size ≤ 2147483647) (sq : o.pre.size ≤ 2147483647) (w : World) (hv : VerAt w bv v) (ho : VerAt w bo o) (hw : Std w) :
    Calls Tryd.prog 86 #[.pointer (some ⟨bv, 0, none⟩), .pointer (some ⟨bo, 0, none⟩)] w fun e w' => e = .returned (.int .i64 (verC v o)) ∧ Below w.heap.size w w' := by
  unfold verC preAny
  by_cases h0 : segC v.ma o.ma = 0
  · rw [if_neg (not_not_intro h0)]
    by_cases h1 : segC v.mi o.mi = 0
    · rw [if_neg (not_not_intro h1)]
      by_cases h2 : segC v.pa o.pa = 0
      · rw [if_neg (not_not_intro h2)]
        by_cases p : bl v.pre = []
        · rw [if_pos p]
          by_cases q : bl o.pre = []
          · rw [if_pos q]; exact cmp_00 v o bv bo h0 h1 h2 p q w hv ho
          · rw [if_neg q]; exact cmp_01 v o bv bo h0 h1 h2 p q w hv ho
        · rw [if_neg p]
          by_cases q : bl o.pre = []
          · rw [if_pos q]; exact cmp_10 v o bv bo h0 h1 h2 p q w hv ho
          · rw [if_neg q]; exact cmp_11 v o bv bo h0 h1 h2 p q sp sq w hv ho hw
      · rw [if_pos h2]; exact cmp_pa v o bv bo h0 h1 h2 w hv ho
    · rw [if_pos h1]; exact cmp_mi v o bv bo h0 h1 w hv ho
  · rw [if_pos h0]; exact cmp_ma v o bv bo h0 w hv ho

end Go.Proofs.YtllkoadcpobdaaaDoor.KX
namespace Go.Proofs.YtllkoadcpobdaaaDoor.KX

open Go.RowKit Go.Lib Go.Proofs Go.Sort Go.Proofs.YtllkoadcpobdaaaDoor.Base Go.Proofs.YtllkoadcpobdaaaDoor.L Go.Proofs.YtllkoadcpobdaaaDoor.Bt Go.Proofs.YtllkoadcpobdaaaDoor.Parse Go.Proofs.YtllkoadcpobdaaaDoor.PX

open Go.Proofs.YtllkoadcpobdaaaDoorW.PrintWords Go.Proofs.YtllkoadcpobdaaaDoorW.PrintLast Go.Proofs.YtllkoadcpobdaaaDoorW.PrintMore

attribute [local go_sem] setCell_drewN alloc_drewN

/-- The argument as impl's Version. -/
def SomeVer (w : World) (v : Ver) (e : Ending) (w' : World) : Prop := ∃ g : Nat, e = .returned (.pointer (some ⟨g, 0, none⟩)) ∧ VerAt w' g v ∧ w.heap.size ≤ g ∧ Below w.heap.size w w'

set_option maxHeartbeats 2000000 in
set_option maxRecDepth 100000 in
theorem version (ma mi pa : Nat) (pre mt : ByteArray) (w : World) :
    Calls Tryd.prog 55 #[.agg #[.int .u64 (ma : Int), .int .u64 (mi : Int), .int .u64 (pa : Int), .string pre, .string mt]] w (SomeVer w ⟨ma, mi, pa, pre, mt, ⟨#[]⟩⟩) := by
  go_enter Tryd.func55, Tryd.ntmps55
  go_wp2
  go_ret
  exact ⟨w.heap.size + 1, rfl, ⟨by simp [go_sem], by simp [go_sem], by simp [go_sem], by simp [go_sem], by simp [go_sem], by simp [go_sem]⟩, by omega, by go_grown⟩

end Go.Proofs.YtllkoadcpobdaaaDoor.KX
namespace Go.Proofs.YtllkoadcpobdaaaDoor.PX

open Go Go.Proofs Go.RowKit Go.Lib Go.Proofs.YtllkoadcpobdaaaDoor.L Go.Proofs.YtllkoadcpobdaaaDoor.Bt Go.Proofs.YtllkoadcpobdaaaDoor.KX

/-- Numbers that are none below 0, and a prerelease of at most 2^31 - 1 bytes. -/
def okV (a b c : Int) (p : ByteArray) : Prop := 0 ≤ a ∧ 0 ≤ b ∧ 0 ≤ c ∧ p.size ≤ 2147483647

instance (a b c : Int) (p : ByteArray) : Decidable (okV a b c p) := by unfold okV; infer_instance

/-- The version of these parts. -/
def vOf (a b c : Int) (p m : ByteArray) : Ver := ⟨a.toNat, b.toNat, c.toNat, p, m, ⟨#[]⟩⟩

end Go.Proofs.YtllkoadcpobdaaaDoor.PX
namespace Go.Proofs.YtllkoadcpobdaaaDoor.KX

open Go.RowKit Go.Lib Go.Proofs Go.Proofs.YtllkoadcpobdaaaDoor.Base Go.Proofs.YtllkoadcpobdaaaDoor.L Go.Proofs.YtllkoadcpobdaaaDoor.Bt Go.Proofs.YtllkoadcpobdaaaDoor.PX

theorem seg_cases (a b : Nat) : (a < b ∧ segC a b = -1) ∨ (a = b ∧ segC a b = 0) ∨ (b < a ∧ segC a b = 1) := by
  unfold segC
  rcases Nat.lt_trichotomy a b with h | h | h
  · exact .inl ⟨h, if_pos h⟩
  · exact .inr (.inl ⟨h, by rw [if_neg (by omega), if_neg (by omega)]⟩)
  · exact .inr (.inr ⟨h, by rw [if_neg (by omega), if_pos h]⟩)

/-- The numbers of the one are below those of the other. -/
def Low (a b c a' b' c' : Nat) : Prop := a < a' ∨ a = a' ∧ (b < b' ∨ b = b' ∧ c < c')

instance (a b c a' b' c' : Nat) : Decidable (Low a b c a' b' c') := by unfold Low; infer_instance

end Go.Proofs.YtllkoadcpobdaaaDoor.KX
