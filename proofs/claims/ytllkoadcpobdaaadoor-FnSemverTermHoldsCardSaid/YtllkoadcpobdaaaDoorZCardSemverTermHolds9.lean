/- The row and the tied card of FnSemverTermHolds, out of its printed walk and its plain law. For every input that the statement lets in. -/
import Derived.Test.YtllkoadcpobdaaaDoorZCardSemverTermHolds1
import Derived.Test.YtllkoadcpobdaaaDoorZCardSemverTermHolds6
import Derived.Test.YtllkoadcpobdaaaDoorZCardSemverTermHolds7
import Derived.Test.YtllkoadcpobdaaaDoorZCardSemverTermHolds8
import Derived.Deep.RegionHeld3
import Derived.Deep.LoopGhost
import Derived.Deep.QuietTactic
import Derived.BigQuiet
import Derived.Lib.QuietBelow
namespace Go.Proofs.YtllkoadcpobdaaaDoor.Base
end Go.Proofs.YtllkoadcpobdaaaDoor.Base
namespace Go.Proofs.YtllkoadcpobdaaaDoor.KX
end Go.Proofs.YtllkoadcpobdaaaDoor.KX
namespace Go.Proofs.YtllkoadcpobdaaaDoor.PX
end Go.Proofs.YtllkoadcpobdaaaDoor.PX
namespace Go.Proofs.YtllkoadcpobdaaaDoor.KX

open Go.RowKit Go.Lib Go.Sort Go.Proofs Go.Proofs.YtllkoadcpobdaaaDoor Go.Proofs.YtllkoadcpobdaaaDoor.Base Go.Proofs.YtllkoadcpobdaaaDoor.PX

open Go.Proofs.YtllkoadcpobdaaaDoorW.PrintWords Go.Proofs.YtllkoadcpobdaaaDoorW.PrintLast Go.Proofs.YtllkoadcpobdaaaDoorW.PrintMore

attribute [local go_sem] setCell_drewN alloc_drewN

def ordI (a b : Int) : Int := if a < b then -1 else if b < a then 1 else 0

/-- From the i-th number on. -/
def cmpFrom (k i : Int) (x0 x1 x2 y0 y1 y2 : Int) : Int :=
  if i ≤ 0 ∧ 0 < k ∧ ordI x0 y0 ≠ 0 then ordI x0 y0 else if i ≤ 1 ∧ 1 < k ∧ ordI x1 y1 ≠ 0 then ordI x1 y1 else if i ≤ 2 ∧ 2 < k ∧ ordI x2 y2 ≠ 0 then ordI x2 y2 else 0

theorem order_f (a b : Int) : spec_order.f a b = some (ordI a b) := by
  unfold spec_order.f ordI
  by_cases h1 : a < b
  · rw [if_pos h1, if_pos h1]
  · rw [if_neg h1, if_neg h1]
    by_cases h2 : b < a
    · rw [if_pos h2, if_pos h2]
    · rw [if_neg h2, if_neg h2]

set_option maxHeartbeats 4000000 in
set_option maxRecDepth 100000 in
theorem compareNumbers (x0 x1 x2 : Int) (xp xm : ByteArray) (y0 y1 y2 : Int) (yp ym : ByteArray) (k : Int) (w : World) :
  Calls Tryd.prog 39 #[.agg #[.int .u64 x0, .int .u64 x1, .int .u64 x2, .string xp, .string xm], .agg #[.int .u64 y0, .int .u64 y1, .int .u64 y2, .string yp, .string ym], .int .i64 k] w
   fun e w' => e = .returned (.int .i64 (cmpFrom k 0 x0 x1 x2 y0 y1 y2)) ∧ Below w.heap.size w w' := by
 have cOrd : ∀ (a b : Int) (W : World), Calls Tryd.prog 71 #[.int .u64 a, .int .u64 b] W fun e w' => e = .returned (.int .i64 (ordI a b)) ∧ Below W.heap.size W w' :=
  fun a b W => (spec_order.calls a b _ W (order_f a b)).mono fun _ _ ⟨he, hd⟩ => ⟨he, hd.below⟩
 obtain ⟨V, hV⟩ : ∃ V, cmpFrom k 0 x0 x1 x2 y0 y1 y2 = V := ⟨_, rfl⟩
 have HV0 := Lib.hid hV
 rw [hV]
 clear hV
 go_enter Tryd.func39, Tryd.ntmps39
 go_wp2_with fail
 generalize hW0 : World.alloc (World.alloc w _) _ = w0
 have a0 : At w0 w.heap.size [.int .u64 x0, .int .u64 x1, .int .u64 x2, .string xp, .string xm] := by
  rw [← hW0]
  exact (At.new _ _ _ _ rfl).below ((Below.refl _ _).alloc (Nat.le_refl _) _)
 have b0 : At w0 (w.heap.size + 1) [.int .u64 y0, .int .u64 y1, .int .u64 y2, .string yp, .string ym] := by
  rw [← hW0]
  exact At.new _ _ _ _ (by simp)
 have hb0 : Below w.heap.size w w0 := by
  rw [← hW0]
  go_grown
 have hz0 : w0.heap.size = w.heap.size + 2 := by rw [← hW0]; simp
 clear hW0
 obtain ⟨c0, c1, c2, c3, c4⟩ := a0.five
 obtain ⟨d0, d1, d2, d3, d4⟩ := b0.five
 have HA := Aside0.mk a0; have HD := Aside0.mk b0; have HB := Aside0.mk hb0
 clear a0 b0 hb0
 clear c0 c1 c2 c3 c4 d0 d1 d2 d3 d4
 go_region_held3 (fun W' => (W'.cell? ⟨w.heap.size, 0, none⟩ = some (.int .u64 x0) ∧ W'.cell? ⟨w.heap.size, 1, none⟩ = some (.int .u64 x1) ∧ W'.cell? ⟨w.heap.size, 2, none⟩ = some (.int .u64 x2) ∧ W'.cell? ⟨w.heap.size, 3, none⟩ = some (.string xp) ∧ W'.cell? ⟨w.heap.size, 4, none⟩ = some (.string xm)) ∧ W'.cell? ⟨w.heap.size + 1, 0, none⟩ = some (.int .u64 y0) ∧ W'.cell? ⟨w.heap.size + 1, 1, none⟩ = some (.int .u64 y1) ∧ W'.cell? ⟨w.heap.size + 1, 2, none⟩ = some (.int .u64 y2) ∧ W'.cell? ⟨w.heap.size + 1, 3, none⟩ = some (.string yp) ∧ W'.cell? ⟨w.heap.size + 1, 4, none⟩ = some (.string ym))
  ((with_reducible refine ⟨At.five ?_, At.five ?_⟩) <;> (repeat (first | (with_reducible exact HA.out) | (with_reducible exact HD.out) | (with_reducible apply At.drew) | (with_reducible apply At.alloc) | (with_reducible refine At.far ?_ _ (by simp; omega) _)))) (first | fail)
 ·
  generalize hW1 : World.drew _ = w1
  have hx : At w1 (w.heap.size + 2) [.int .u64 x0, .int .u64 x1, .int .u64 x2] := by
   rw [← hW1]
   exact ((At.new w0 _ _ _ hz0.symm).alloc _).drew
  have hy : At w1 (w.heap.size + 2 + 1) [.int .u64 y0, .int .u64 y1, .int .u64 y2] := by
   rw [← hW1]
   exact (At.new _ _ _ _ (by simp; omega)).drew
  have hb1 : Below w.heap.size w w1 := by
   rw [← hW1]
   exact below_drew ((HB.out.alloc (by omega) _).alloc (by simp; omega) _)
  clear hW1 HA HD HB hz0
  have HX1 := Aside0.mk hx; have HY1 := Aside0.mk hy; have HB1 := Aside0.mk hb1
  clear hx hy hb1
  go_wp2_with fail
  go_loopw [9] (fun v w' => ∃ i : Int, v = .int .i64 i ∧ (i = 0 ∨ i = 1 ∨ i = 2 ∨ i = 3) ∧ Aside0 (cmpFrom k i x0 x1 x2 y0 y1 y2 = V) ∧ Aside0 (At w' (w.heap.size + 2) [.int .u64 x0, .int .u64 x1, .int .u64 x2]) ∧ Aside0 (At w' (w.heap.size + 2 + 1) [.int .u64 y0, .int .u64 y1, .int .u64 y2]) ∧ Aside0 (Below w.heap.size w w')) (fun v _ => (3 - Go.RowKit.intOf v).toNat)
  case atStart => exact ⟨0, rfl, .inl rfl, ⟨HV0.out⟩, HX1, HY1, HB1⟩
  case round =>
   obtain ⟨i, rfl, hi, HA, HX, HY, HB3⟩ := hrel
   clear HX1 HY1 HB1 HV0
   rcases hi with rfl | rfl | rfl | rfl
   ·
    by_cases hk : 0 < k
    ·
     have k0 : decide ((0 : Int) < k) = true := decide_eq_true hk
     have cO := fun d os => Calls.regrown_of (cOrd x0 y0 (grow (redrawn wr d) os))
     obtain ⟨u0, u1, u2⟩ := HX.out.threeR
     obtain ⟨t0, t1, t2⟩ := HY.out.threeR
     have HS : Hid (cmpFrom k 0 x0 x1 x2 y0 y1 y2 = if ordI x0 y0 ≠ 0 then ordI x0 y0 else cmpFrom k 1 x0 x1 x2 y0 y1 y2) := Lib.hid (by unfold cmpFrom; by_cases h : ordI x0 y0 = 0 <;> simp [h, hk])
     clear hk
     cases hc : (ordI x0 y0 == 0) with
     | true =>
      have hc' : (ordI x0 y0 != 0) = false := by rw [bne, hc]; rfl
      have HZ := Lib.hid (beq_iff_eq.1 hc)
      generalize ordI x0 y0 = r at *
      go_wp2_with fail
      refine wp_region_quiet_below (by kernel_rfl) (by kernel_rfl) ?_
      repeat (first | go_big_quiet_step (exact cO _ _) | quiet_step (exact cO _ _))
      refine wpQuiet_nil ?_
      intro _ hw'; obtain ⟨⟨dq, osq⟩, hw''⟩ := hw'; subst hw''; clear cO u0 u1 u2 t0 t1 t2
      have hb := below_regrown wr dq osq
      generalize grow (redrawn wr dq) osq = w2 at *
      go_wp2_with fail
      go_roundw
      case rel => exact ⟨1, rfl, by omega, ⟨by rw [← HA.out, HS.out, HZ.out]; rfl⟩, ⟨HX.out.below hb⟩, ⟨HY.out.below hb⟩, ⟨HB3.out.trans (hb.mono HB3.out.size)⟩⟩
      case measure => simp [Go.RowKit.intOf]
     | false =>
      have hc' : (ordI x0 y0 != 0) = true := by rw [bne, hc]; rfl
      have HZ := Lib.hid (beq_eq_false_iff_ne.1 hc)
      have HV : Hid (ordI x0 y0 = V) := Lib.hid (by rw [← HA.out, HS.out, if_pos HZ.out])
      clear HS HA HZ
      generalize ordI x0 y0 = r at *
      go_wp2_with fail
      refine wp_region_quiet_below (by kernel_rfl) (by kernel_rfl) ?_
      repeat (first | go_big_quiet_step (exact cO _ _) | quiet_step (exact cO _ _))
      refine wpQuiet_nil ?_
      intro _ hw'; obtain ⟨⟨dq, osq⟩, hw''⟩ := hw'; subst hw''; clear cO u0 u1 u2 t0 t1 t2
      have hb := below_regrown wr dq osq
      generalize grow (redrawn wr dq) osq = w2 at *
      go_wp2_with fail
      go_ret
      exact ⟨by rw [← HV.out]; rfl, HB3.out.trans (hb.mono HB3.out.size)⟩
    ·
     have k0 : decide ((0 : Int) < k) = false := decide_eq_false hk
     have HV : Hid (V = 0) := Lib.hid (by rw [← HA.out]; unfold cmpFrom; rw [if_neg (by omega), if_neg (by omega), if_neg (by omega)])
     clear hk HA
     go_wp2_with fail
     go_ret
     exact ⟨by rw [HV.out] <;> rfl, HB3.out⟩
   ·
    by_cases hk : 1 < k
    ·
     have k0 : decide ((1 : Int) < k) = true := decide_eq_true hk
     have cO := fun d os => Calls.regrown_of (cOrd x1 y1 (grow (redrawn wr d) os))
     obtain ⟨u0, u1, u2⟩ := HX.out.threeR
     obtain ⟨t0, t1, t2⟩ := HY.out.threeR
     have HS : Hid (cmpFrom k 1 x0 x1 x2 y0 y1 y2 = if ordI x1 y1 ≠ 0 then ordI x1 y1 else cmpFrom k 2 x0 x1 x2 y0 y1 y2) := Lib.hid (by unfold cmpFrom; by_cases h : ordI x1 y1 = 0 <;> simp [h, hk])
     clear hk
     cases hc : (ordI x1 y1 == 0) with
     | true =>
      have hc' : (ordI x1 y1 != 0) = false := by rw [bne, hc]; rfl
      have HZ := Lib.hid (beq_iff_eq.1 hc)
      generalize ordI x1 y1 = r at *
      go_wp2_with fail
      refine wp_region_quiet_below (by kernel_rfl) (by kernel_rfl) ?_
      repeat (first | go_big_quiet_step (exact cO _ _) | quiet_step (exact cO _ _))
      refine wpQuiet_nil ?_
      intro _ hw'; obtain ⟨⟨dq, osq⟩, hw''⟩ := hw'; subst hw''; clear cO u0 u1 u2 t0 t1 t2
      have hb := below_regrown wr dq osq
      generalize grow (redrawn wr dq) osq = w2 at *
      go_wp2_with fail
      go_roundw
      case rel => exact ⟨2, rfl, by omega, ⟨by rw [← HA.out, HS.out, HZ.out]; rfl⟩, ⟨HX.out.below hb⟩, ⟨HY.out.below hb⟩, ⟨HB3.out.trans (hb.mono HB3.out.size)⟩⟩
      case measure => simp [Go.RowKit.intOf]
     | false =>
      have hc' : (ordI x1 y1 != 0) = true := by rw [bne, hc]; rfl
      have HZ := Lib.hid (beq_eq_false_iff_ne.1 hc)
      have HV : Hid (ordI x1 y1 = V) := Lib.hid (by rw [← HA.out, HS.out, if_pos HZ.out])
      clear HS HA HZ
      generalize ordI x1 y1 = r at *
      go_wp2_with fail
      refine wp_region_quiet_below (by kernel_rfl) (by kernel_rfl) ?_
      repeat (first | go_big_quiet_step (exact cO _ _) | quiet_step (exact cO _ _))
      refine wpQuiet_nil ?_
      intro _ hw'; obtain ⟨⟨dq, osq⟩, hw''⟩ := hw'; subst hw''; clear cO u0 u1 u2 t0 t1 t2
      have hb := below_regrown wr dq osq
      generalize grow (redrawn wr dq) osq = w2 at *
      go_wp2_with fail
      go_ret
      exact ⟨by rw [← HV.out]; rfl, HB3.out.trans (hb.mono HB3.out.size)⟩
    ·
     have k0 : decide ((1 : Int) < k) = false := decide_eq_false hk
     have HV : Hid (V = 0) := Lib.hid (by rw [← HA.out]; unfold cmpFrom; rw [if_neg (by omega), if_neg (by omega), if_neg (by omega)])
     clear hk HA
     go_wp2_with fail
     go_ret
     exact ⟨by rw [HV.out] <;> rfl, HB3.out⟩
   ·
    by_cases hk : 2 < k
    ·
     have k0 : decide ((2 : Int) < k) = true := decide_eq_true hk
     have cO := fun d os => Calls.regrown_of (cOrd x2 y2 (grow (redrawn wr d) os))
     obtain ⟨u0, u1, u2⟩ := HX.out.threeR
     obtain ⟨t0, t1, t2⟩ := HY.out.threeR
     have HS : Hid (cmpFrom k 2 x0 x1 x2 y0 y1 y2 = if ordI x2 y2 ≠ 0 then ordI x2 y2 else cmpFrom k 3 x0 x1 x2 y0 y1 y2) := Lib.hid (by unfold cmpFrom; by_cases h : ordI x2 y2 = 0 <;> simp [h, hk])
     clear hk
     cases hc : (ordI x2 y2 == 0) with
     | true =>
      have hc' : (ordI x2 y2 != 0) = false := by rw [bne, hc]; rfl
      have HZ := Lib.hid (beq_iff_eq.1 hc)
      generalize ordI x2 y2 = r at *
      go_wp2_with fail
      refine wp_region_quiet_below (by kernel_rfl) (by kernel_rfl) ?_
      repeat (first | go_big_quiet_step (exact cO _ _) | quiet_step (exact cO _ _))
      refine wpQuiet_nil ?_
      intro _ hw'; obtain ⟨⟨dq, osq⟩, hw''⟩ := hw'; subst hw''; clear cO u0 u1 u2 t0 t1 t2
      have hb := below_regrown wr dq osq
      generalize grow (redrawn wr dq) osq = w2 at *
      go_wp2_with fail
      go_roundw
      case rel => exact ⟨3, rfl, by omega, ⟨by rw [← HA.out, HS.out, HZ.out]; rfl⟩, ⟨HX.out.below hb⟩, ⟨HY.out.below hb⟩, ⟨HB3.out.trans (hb.mono HB3.out.size)⟩⟩
      case measure => simp [Go.RowKit.intOf]
     | false =>
      have hc' : (ordI x2 y2 != 0) = true := by rw [bne, hc]; rfl
      have HZ := Lib.hid (beq_eq_false_iff_ne.1 hc)
      have HV : Hid (ordI x2 y2 = V) := Lib.hid (by rw [← HA.out, HS.out, if_pos HZ.out])
      clear HS HA HZ
      generalize ordI x2 y2 = r at *
      go_wp2_with fail
      refine wp_region_quiet_below (by kernel_rfl) (by kernel_rfl) ?_
      repeat (first | go_big_quiet_step (exact cO _ _) | quiet_step (exact cO _ _))
      refine wpQuiet_nil ?_
      intro _ hw'; obtain ⟨⟨dq, osq⟩, hw''⟩ := hw'; subst hw''; clear cO u0 u1 u2 t0 t1 t2
      have hb := below_regrown wr dq osq
      generalize grow (redrawn wr dq) osq = w2 at *
      go_wp2_with fail
      go_ret
      exact ⟨by rw [← HV.out]; rfl, HB3.out.trans (hb.mono HB3.out.size)⟩
    ·
     have k0 : decide ((2 : Int) < k) = false := decide_eq_false hk
     have HV : Hid (V = 0) := Lib.hid (by rw [← HA.out]; unfold cmpFrom; rw [if_neg (by omega), if_neg (by omega), if_neg (by omega)])
     clear hk HA
     go_wp2_with fail
     go_ret
     exact ⟨by rw [HV.out] <;> rfl, HB3.out⟩
   ·
    have HV : Hid (V = 0) := Lib.hid (by rw [← HA.out]; unfold cmpFrom; rw [if_neg (by omega), if_neg (by omega), if_neg (by omega)])
    clear HA
    cases hk : decide ((3 : Int) < k) with
    | true =>
     go_wp2_with fail
     go_ret
     exact ⟨by rw [HV.out] <;> rfl, HB3.out⟩
    | false =>
     go_wp2_with fail
     go_ret
     exact ⟨by rw [HV.out] <;> rfl, HB3.out⟩
 ·
  generalize hW1 : World.drew _ = w1
  have hx : At w1 (w.heap.size + 2 + 1) [.int .u64 x0, .int .u64 x1, .int .u64 x2] := by
   rw [← hW1]
   exact (At.new _ _ _ _ (by simp; omega)).drew
  have hy : At w1 (w.heap.size + 2) [.int .u64 y0, .int .u64 y1, .int .u64 y2] := by
   rw [← hW1]
   exact ((At.new w0 _ _ _ hz0.symm).alloc _).drew
  have hb1 : Below w.heap.size w w1 := by
   rw [← hW1]
   exact below_drew ((HB.out.alloc (by omega) _).alloc (by simp; omega) _)
  clear hW1 HA HD HB hz0
  have HX1 := Aside0.mk hx; have HY1 := Aside0.mk hy; have HB1 := Aside0.mk hb1
  clear hx hy hb1
  go_wp2_with fail
  go_loopw [9] (fun v w' => ∃ i : Int, v = .int .i64 i ∧ (i = 0 ∨ i = 1 ∨ i = 2 ∨ i = 3) ∧ Aside0 (cmpFrom k i x0 x1 x2 y0 y1 y2 = V) ∧ Aside0 (At w' (w.heap.size + 2 + 1) [.int .u64 x0, .int .u64 x1, .int .u64 x2]) ∧ Aside0 (At w' (w.heap.size + 2) [.int .u64 y0, .int .u64 y1, .int .u64 y2]) ∧ Aside0 (Below w.heap.size w w')) (fun v _ => (3 - Go.RowKit.intOf v).toNat)
  case atStart => exact ⟨0, rfl, .inl rfl, ⟨HV0.out⟩, HX1, HY1, HB1⟩
  case round =>
   obtain ⟨i, rfl, hi, HA, HX, HY, HB3⟩ := hrel
   clear HX1 HY1 HB1 HV0
   rcases hi with rfl | rfl | rfl | rfl
   ·
    by_cases hk : 0 < k
    ·
     have k0 : decide ((0 : Int) < k) = true := decide_eq_true hk
     have cO := fun d os => Calls.regrown_of (cOrd x0 y0 (grow (redrawn wr d) os))
     obtain ⟨u0, u1, u2⟩ := HX.out.threeR
     obtain ⟨t0, t1, t2⟩ := HY.out.threeR
     have HS : Hid (cmpFrom k 0 x0 x1 x2 y0 y1 y2 = if ordI x0 y0 ≠ 0 then ordI x0 y0 else cmpFrom k 1 x0 x1 x2 y0 y1 y2) := Lib.hid (by unfold cmpFrom; by_cases h : ordI x0 y0 = 0 <;> simp [h, hk])
     clear hk
     cases hc : (ordI x0 y0 == 0) with
     | true =>
      have hc' : (ordI x0 y0 != 0) = false := by rw [bne, hc]; rfl
      have HZ := Lib.hid (beq_iff_eq.1 hc)
      generalize ordI x0 y0 = r at *
      go_wp2_with fail
      refine wp_region_quiet_below (by kernel_rfl) (by kernel_rfl) ?_
      repeat (first | go_big_quiet_step (exact cO _ _) | quiet_step (exact cO _ _))
      refine wpQuiet_nil ?_
      intro _ hw'; obtain ⟨⟨dq, osq⟩, hw''⟩ := hw'; subst hw''; clear cO u0 u1 u2 t0 t1 t2
      have hb := below_regrown wr dq osq
      generalize grow (redrawn wr dq) osq = w2 at *
      go_wp2_with fail
      go_roundw
      case rel => exact ⟨1, rfl, by omega, ⟨by rw [← HA.out, HS.out, HZ.out]; rfl⟩, ⟨HX.out.below hb⟩, ⟨HY.out.below hb⟩, ⟨HB3.out.trans (hb.mono HB3.out.size)⟩⟩
      case measure => simp [Go.RowKit.intOf]
     | false =>
      have hc' : (ordI x0 y0 != 0) = true := by rw [bne, hc]; rfl
      have HZ := Lib.hid (beq_eq_false_iff_ne.1 hc)
      have HV : Hid (ordI x0 y0 = V) := Lib.hid (by rw [← HA.out, HS.out, if_pos HZ.out])
      clear HS HA HZ
      generalize ordI x0 y0 = r at *
      go_wp2_with fail
      refine wp_region_quiet_below (by kernel_rfl) (by kernel_rfl) ?_
      repeat (first | go_big_quiet_step (exact cO _ _) | quiet_step (exact cO _ _))
      refine wpQuiet_nil ?_
      intro _ hw'; obtain ⟨⟨dq, osq⟩, hw''⟩ := hw'; subst hw''; clear cO u0 u1 u2 t0 t1 t2
      have hb := below_regrown wr dq osq
      generalize grow (redrawn wr dq) osq = w2 at *
      go_wp2_with fail
      go_ret
      exact ⟨by rw [← HV.out]; rfl, HB3.out.trans (hb.mono HB3.out.size)⟩
    ·
     have k0 : decide ((0 : Int) < k) = false := decide_eq_false hk
     have HV : Hid (V = 0) := Lib.hid (by rw [← HA.out]; unfold cmpFrom; rw [if_neg (by omega), if_neg (by omega), if_neg (by omega)])
     clear hk HA
     go_wp2_with fail
     go_ret
     exact ⟨by rw [HV.out] <;> rfl, HB3.out⟩
   ·
    by_cases hk : 1 < k
    ·
     have k0 : decide ((1 : Int) < k) = true := decide_eq_true hk
     have cO := fun d os => Calls.regrown_of (cOrd x1 y1 (grow (redrawn wr d) os))
     obtain ⟨u0, u1, u2⟩ := HX.out.threeR
     obtain ⟨t0, t1, t2⟩ := HY.out.threeR
     have HS : Hid (cmpFrom k 1 x0 x1 x2 y0 y1 y2 = if ordI x1 y1 ≠ 0 then ordI x1 y1 else cmpFrom k 2 x0 x1 x2 y0 y1 y2) := Lib.hid (by unfold cmpFrom; by_cases h : ordI x1 y1 = 0 <;> simp [h, hk])
     clear hk
     cases hc : (ordI x1 y1 == 0) with
     | true =>
      have hc' : (ordI x1 y1 != 0) = false := by rw [bne, hc]; rfl
      have HZ := Lib.hid (beq_iff_eq.1 hc)
      generalize ordI x1 y1 = r at *
      go_wp2_with fail
      refine wp_region_quiet_below (by kernel_rfl) (by kernel_rfl) ?_
      repeat (first | go_big_quiet_step (exact cO _ _) | quiet_step (exact cO _ _))
      refine wpQuiet_nil ?_
      intro _ hw'; obtain ⟨⟨dq, osq⟩, hw''⟩ := hw'; subst hw''; clear cO u0 u1 u2 t0 t1 t2
      have hb := below_regrown wr dq osq
      generalize grow (redrawn wr dq) osq = w2 at *
      go_wp2_with fail
      go_roundw
      case rel => exact ⟨2, rfl, by omega, ⟨by rw [← HA.out, HS.out, HZ.out]; rfl⟩, ⟨HX.out.below hb⟩, ⟨HY.out.below hb⟩, ⟨HB3.out.trans (hb.mono HB3.out.size)⟩⟩
      case measure => simp [Go.RowKit.intOf]
     | false =>
      have hc' : (ordI x1 y1 != 0) = true := by rw [bne, hc]; rfl
      have HZ := Lib.hid (beq_eq_false_iff_ne.1 hc)
      have HV : Hid (ordI x1 y1 = V) := Lib.hid (by rw [← HA.out, HS.out, if_pos HZ.out])
      clear HS HA HZ
      generalize ordI x1 y1 = r at *
      go_wp2_with fail
      refine wp_region_quiet_below (by kernel_rfl) (by kernel_rfl) ?_
      repeat (first | go_big_quiet_step (exact cO _ _) | quiet_step (exact cO _ _))
      refine wpQuiet_nil ?_
      intro _ hw'; obtain ⟨⟨dq, osq⟩, hw''⟩ := hw'; subst hw''; clear cO u0 u1 u2 t0 t1 t2
      have hb := below_regrown wr dq osq
      generalize grow (redrawn wr dq) osq = w2 at *
      go_wp2_with fail
      go_ret
      exact ⟨by rw [← HV.out]; rfl, HB3.out.trans (hb.mono HB3.out.size)⟩
    ·
     have k0 : decide ((1 : Int) < k) = false := decide_eq_false hk
     have HV : Hid (V = 0) := Lib.hid (by rw [← HA.out]; unfold cmpFrom; rw [if_neg (by omega), if_neg (by omega), if_neg (by omega)])
     clear hk HA
     go_wp2_with fail
     go_ret
     exact ⟨by rw [HV.out] <;> rfl, HB3.out⟩
   ·
    by_cases hk : 2 < k
    ·
     have k0 : decide ((2 : Int) < k) = true := decide_eq_true hk
     have cO := fun d os => Calls.regrown_of (cOrd x2 y2 (grow (redrawn wr d) os))
     obtain ⟨u0, u1, u2⟩ := HX.out.threeR
     obtain ⟨t0, t1, t2⟩ := HY.out.threeR
     have HS : Hid (cmpFrom k 2 x0 x1 x2 y0 y1 y2 = if ordI x2 y2 ≠ 0 then ordI x2 y2 else cmpFrom k 3 x0 x1 x2 y0 y1 y2) := Lib.hid (by unfold cmpFrom; by_cases h : ordI x2 y2 = 0 <;> simp [h, hk])
     clear hk
     cases hc : (ordI x2 y2 == 0) with
     | true =>
      have hc' : (ordI x2 y2 != 0) = false := by rw [bne, hc]; rfl
      have HZ := Lib.hid (beq_iff_eq.1 hc)
      generalize ordI x2 y2 = r at *
      go_wp2_with fail
      refine wp_region_quiet_below (by kernel_rfl) (by kernel_rfl) ?_
      repeat (first | go_big_quiet_step (exact cO _ _) | quiet_step (exact cO _ _))
      refine wpQuiet_nil ?_
      intro _ hw'; obtain ⟨⟨dq, osq⟩, hw''⟩ := hw'; subst hw''; clear cO u0 u1 u2 t0 t1 t2
      have hb := below_regrown wr dq osq
      generalize grow (redrawn wr dq) osq = w2 at *
      go_wp2_with fail
      go_roundw
      case rel => exact ⟨3, rfl, by omega, ⟨by rw [← HA.out, HS.out, HZ.out]; rfl⟩, ⟨HX.out.below hb⟩, ⟨HY.out.below hb⟩, ⟨HB3.out.trans (hb.mono HB3.out.size)⟩⟩
      case measure => simp [Go.RowKit.intOf]
     | false =>
      have hc' : (ordI x2 y2 != 0) = true := by rw [bne, hc]; rfl
      have HZ := Lib.hid (beq_eq_false_iff_ne.1 hc)
      have HV : Hid (ordI x2 y2 = V) := Lib.hid (by rw [← HA.out, HS.out, if_pos HZ.out])
      clear HS HA HZ
      generalize ordI x2 y2 = r at *
      go_wp2_with fail
      refine wp_region_quiet_below (by kernel_rfl) (by kernel_rfl) ?_
      repeat (first | go_big_quiet_step (exact cO _ _) | quiet_step (exact cO _ _))
      refine wpQuiet_nil ?_
      intro _ hw'; obtain ⟨⟨dq, osq⟩, hw''⟩ := hw'; subst hw''; clear cO u0 u1 u2 t0 t1 t2
      have hb := below_regrown wr dq osq
      generalize grow (redrawn wr dq) osq = w2 at *
      go_wp2_with fail
      go_ret
      exact ⟨by rw [← HV.out]; rfl, HB3.out.trans (hb.mono HB3.out.size)⟩
    ·
     have k0 : decide ((2 : Int) < k) = false := decide_eq_false hk
     have HV : Hid (V = 0) := Lib.hid (by rw [← HA.out]; unfold cmpFrom; rw [if_neg (by omega), if_neg (by omega), if_neg (by omega)])
     clear hk HA
     go_wp2_with fail
     go_ret
     exact ⟨by rw [HV.out] <;> rfl, HB3.out⟩
   ·
    have HV : Hid (V = 0) := Lib.hid (by rw [← HA.out]; unfold cmpFrom; rw [if_neg (by omega), if_neg (by omega), if_neg (by omega)])
    clear HA
    cases hk : decide ((3 : Int) < k) with
    | true =>
     go_wp2_with fail
     go_ret
     exact ⟨by rw [HV.out] <;> rfl, HB3.out⟩
    | false =>
     go_wp2_with fail
     go_ret
     exact ⟨by rw [HV.out] <;> rfl, HB3.out⟩

end Go.Proofs.YtllkoadcpobdaaaDoor.KX
namespace Go.Proofs.YtllkoadcpobdaaaDoor.PX

open Go Go.Proofs Go.RowKit Go.Lib Go.Proofs.YtllkoadcpobdaaaDoor.KX

def spec_CompareNumbers.f (a0 a1 a2 : Int) (_ _ : ByteArray) (b0 b1 b2 : Int) (_ _ : ByteArray) (k : Int) : Option Int := some (cmpFrom k 0 a0 a1 a2 b0 b1 b2)

theorem spec_CompareNumbers.calls (a0 a1 a2 : Int) (a3 a4 : ByteArray) (b0 b1 b2 : Int) (b3 b4 : ByteArray) (k : Int) (r : Int) (w : World) (h : spec_CompareNumbers.f a0 a1 a2 a3 a4 b0 b1 b2 b3 b4 k = some r) :
    Calls Tryd.prog 39 #[.agg #[.int .u64 a0, .int .u64 a1, .int .u64 a2, .string a3, .string a4], .agg #[.int .u64 b0, .int .u64 b1, .int .u64 b2, .string b3, .string b4], .int .i64 k] w fun e w' => e = .returned (.int .i64 r) ∧ Below w.heap.size w w' := by
  cases h
  exact compareNumbers a0 a1 a2 a3 a4 b0 b1 b2 b3 b4 k w

end Go.Proofs.YtllkoadcpobdaaaDoor.PX
namespace Go.Proofs.YtllkoadcpobdaaaDoor.PX

open Go.RowKit Go.Proofs.YtllkoadcpobdaaaDoorW.PrintWords Go.Proofs.YtllkoadcpobdaaaDoorW.PrintLast Go.Proofs.YtllkoadcpobdaaaDoorW.PrintMore

attribute [local go_sem] max2_int min2_int max_two min_two max_three min_three max_four min_four   -- for this text's walks alone

set_option linter.unusedVariables false

set_option linter.unusedSimpArgs false

def spec_Spoken.j0 : Nat → Int → Int → Int → Int → Int → ByteArray → Int → Int → Int → ByteArray → ByteArray → Int → Int → Int → ByteArray → ByteArray → Option (Bool)
  | 0, _, _, _, _, _, _, _, _, _, _, _, _, _, _, _, _ => none
  | k + 1, x145000, x145001, x145002, x145003, x145004, x145005, x146000, x146001, x146002, x146003, x146004, x147000, x147001, x147002, x147003, x147004 => if x145001 = 3 then (some true) else (if x145000 = 5 then ((spec_CompareNumbers.f x146000 x146001 x146002 x146003 x146004 x147000 x147001 x147002 x147003 x147004 3).bind fun t147 => (some (t147 != 0))) else (if x145000 = 1 then (some (x146003.toList == ([] : List UInt8))) else (some true)))

def spec_Spoken.f (k : Nat) (a0_0 : Int) (a0_1 : Int) (a0_2 : Int) (a0_3 : Int) (a0_4 : Int) (a0_5 : ByteArray) (a1_0 : Int) (a1_1 : Int) (a1_2 : Int) (a1_3 : ByteArray) (a1_4 : ByteArray) : Option (Bool) := if a0_1 = 2 then (spec_Spoken.j0 k a0_0 a0_1 a0_2 a0_3 a0_4 a0_5 a1_0 a1_1 a1_2 a1_3 a1_4 a0_2 (IntKind.u64.wrap (a0_3 + 1)) 0 (⟨#[]⟩ : ByteArray) (⟨#[]⟩ : ByteArray)) else (spec_Spoken.j0 k a0_0 a0_1 a0_2 a0_3 a0_4 a0_5 a1_0 a1_1 a1_2 a1_3 a1_4 (IntKind.u64.wrap (a0_2 + 1)) 0 0 (⟨#[]⟩ : ByteArray) (⟨#[]⟩ : ByteArray))

set_option maxHeartbeats 80000000 in
set_option maxRecDepth 100000 in
theorem spec_Spoken.calls (k : Nat) (a0_0 : Int) (a0_1 : Int) (a0_2 : Int) (a0_3 : Int) (a0_4 : Int) (a0_5 : ByteArray) (a1_0 : Int) (a1_1 : Int) (a1_2 : Int) (a1_3 : ByteArray) (a1_4 : ByteArray) (r : Bool) (w : World) (h : spec_Spoken.f k a0_0 a0_1 a0_2 a0_3 a0_4 a0_5 a1_0 a1_1 a1_2 a1_3 a1_4 = some r) :
  Calls Tryd.prog 17 #[.agg #[.int .i64 a0_0, .int .i64 a0_1, .int .u64 a0_2, .int .u64 a0_3, .int .u64 a0_4, .string a0_5], .agg #[.int .u64 a1_0, .int .u64 a1_1, .int .u64 a1_2, .string a1_3, .string a1_4]] w fun e w' => e = .returned (.bool r) ∧ Below w.heap.size w w' := by
 have hu24 := Tryd.underlying24
 have hu26 := Tryd.underlying26
 have HB := Aside0.mk (Below.refl w.heap.size w)
 have H : (if a0_1 = 2 then (spec_Spoken.j0 k a0_0 a0_1 a0_2 a0_3 a0_4 a0_5 a1_0 a1_1 a1_2 a1_3 a1_4 a0_2 (IntKind.u64.wrap (a0_3 + 1)) 0 (⟨#[]⟩ : ByteArray) (⟨#[]⟩ : ByteArray)) else (spec_Spoken.j0 k a0_0 a0_1 a0_2 a0_3 a0_4 a0_5 a1_0 a1_1 a1_2 a1_3 a1_4 (IntKind.u64.wrap (a0_2 + 1)) 0 0 (⟨#[]⟩ : ByteArray) (⟨#[]⟩ : ByteArray))) = some r := h
 clear h
 have HC3 := Aside0.mk H
 clear H
 go_enter Tryd.func17, Tryd.ntmps17
 go_upto_if 12 with (first | ((with_reducible refine gate_dst (N := 2) rfl ?_); refine box_event ?hg (N := 2) ?hd (cs := #[.int .i64 a0_0, .int .i64 a0_1, .int .u64 a0_2, .int .u64 a0_3, .int .u64 a0_4, .string a0_5]) (t := 24) ?hr ?_; (case hd => rfl); (case hg => rfl); (case hr => first | (go_simp; done) | (go_simp; rfl) | (go_simp; simp [u8w]; done)); intro gb144 hg w4 hbox hb; have n0_ := Aside0.mk (below_step (by repeat (first | (with_reducible first | exact HB.out | apply below_alloc | apply pw_below_drewN | apply below_drew1) | exact HB.out)) hb); have n1_ := Aside0.mk (hbox); have n2_ := Aside0.mk ((by rw [hg]; exact (below_size (by repeat (first | (with_reducible first | exact HB.out | apply below_alloc | apply pw_below_drewN | apply below_drew1) | exact HB.out))) : w.heap.size ≤ gb144)); have n3_ := Aside0.mk ((by rw [hg]; exact (below_size (by repeat (first | (with_reducible first | exact HB.out | apply below_alloc | apply pw_below_drewN | apply below_drew1) | exact HB.out))) : w.heap.size ≤ gb144)); clear HB; have HB := n0_; have BK144 := n1_; have GW144 := n2_; have GE144 := n3_; clear n0_ n1_ n2_ n3_; clear hb hbox hg) | ((with_reducible refine gate_dst (N := 3) rfl ?_); refine box_event ?hg (N := 3) ?hd (cs := #[.int .u64 a1_0, .int .u64 a1_1, .int .u64 a1_2, .string a1_3, .string a1_4]) (t := 26) ?hr ?_; (case hd => rfl); (case hg => rfl); (case hr => first | (go_simp; done) | (go_simp; rfl) | (go_simp; simp [u8w]; done)); intro gb145 hg w5 hbox hb; have n0_ := Aside0.mk (blk_below (g := gb144) (o := .cells #[.int .i64 a0_0, .int .i64 a0_1, .int .u64 a0_2, .int .u64 a0_3, .int .u64 a0_4, .string a0_5] 24 (0, 0)) (by (with_reducible repeat (first | refine blk_drewN ?_ _ | refine blk_drew ?_ | refine blk_alloc ?_ _)); exact BK144.out) hb); have n1_ := Aside0.mk (below_step (by repeat (first | (with_reducible first | exact HB.out | apply below_alloc | apply pw_below_drewN | apply below_drew1 | refine below_set ?_ GE144.out) | exact HB.out)) hb); have n2_ := Aside0.mk (hbox); have n3_ := Aside0.mk ((by rw [hg]; exact (below_size (by repeat (first | (with_reducible first | exact HB.out | apply below_alloc | apply pw_below_drewN | apply below_drew1 | refine below_set ?_ GE144.out) | exact HB.out))) : w.heap.size ≤ gb145)); have n4_ := Aside0.mk ((by rw [hg]; exact (below_size (by repeat (first | (with_reducible first | exact HB.out | apply below_alloc | apply pw_below_drewN | apply below_drew1 | refine below_set ?_ GE144.out) | exact HB.out))) : w.heap.size ≤ gb145)); have n5_ := Aside0.mk ((by rw [hg]; exact Nat.ne_of_lt (blk_lt (g := gb144) (o := .cells #[.int .i64 a0_0, .int .i64 a0_1, .int .u64 a0_2, .int .u64 a0_3, .int .u64 a0_4, .string a0_5] 24 (0, 0)) (by (with_reducible repeat (first | refine blk_drewN ?_ _ | refine blk_drew ?_ | refine blk_alloc ?_ _)); exact BK144.out)) : gb144 ≠ gb145)); have n6_ := Aside0.mk ((by rw [hg]; exact Nat.ne_of_gt (blk_lt (g := gb144) (o := .cells #[.int .i64 a0_0, .int .i64 a0_1, .int .u64 a0_2, .int .u64 a0_3, .int .u64 a0_4, .string a0_5] 24 (0, 0)) (by (with_reducible repeat (first | refine blk_drewN ?_ _ | refine blk_drew ?_ | refine blk_alloc ?_ _)); exact BK144.out)) : gb145 ≠ gb144)); clear BK144; clear HB; have BK144 := n0_; have HB := n1_; have BK145 := n2_; have GW145 := n3_; have GE145 := n4_; have NB144_145 := n5_; have NB145_144 := n6_; clear n0_ n1_ n2_ n3_ n4_ n5_ n6_; clear hb hbox hg; have hnb6 := NB144_145.out; have hnc6 := NB145_144.out; have hcz7_0 : w5.cell? ⟨gb144, 0, none⟩ = some (.int .i64 a0_0) := (blk_cell BK144.out 0).trans rfl; have hcz7_1 : w5.cell? ⟨gb144, 1, none⟩ = some (.int .i64 a0_1) := (blk_cell BK144.out 1).trans rfl; have hcz7_2 : w5.cell? ⟨gb144, 2, none⟩ = some (.int .u64 a0_2) := (blk_cell BK144.out 2).trans rfl; have hcz7_3 : w5.cell? ⟨gb144, 3, none⟩ = some (.int .u64 a0_3) := (blk_cell BK144.out 3).trans rfl; have hcz7_4 : w5.cell? ⟨gb144, 4, none⟩ = some (.int .u64 a0_4) := (blk_cell BK144.out 4).trans rfl; have hcz7_5 : w5.cell? ⟨gb144, 5, none⟩ = some (.string a0_5) := (blk_cell BK144.out 5).trans rfl; have hfz7_0 := blk_frozen BK144.out 0; have hfz7_1 := blk_frozen BK144.out 1; have hfz7_2 := blk_frozen BK144.out 2; have hfz7_3 := blk_frozen BK144.out 3; have hfz7_4 := blk_frozen BK144.out 4; have hfz7_5 := blk_frozen BK144.out 5) | ((with_reducible refine gate_dst (N := 5) rfl ?_); refine box_event ?hg (N := 5) ?hd (cs := #[.int .u64 0, .int .u64 0, .int .u64 0, .string (⟨#[]⟩ : ByteArray), .string (⟨#[]⟩ : ByteArray)]) (t := 26) ?hr ?_; (case hd => rfl); (case hg => rfl); (case hr => first | (go_simp; done) | (go_simp; rfl) | (go_simp; simp [u8w]; done)); intro gb146 hg w8 hbox hb; have n0_ := Aside0.mk (blk_below (g := gb144) (o := .cells #[.int .i64 a0_0, .int .i64 a0_1, .int .u64 a0_2, .int .u64 a0_3, .int .u64 a0_4, .string a0_5] 24 (0, 0)) (by (with_reducible repeat (first | refine blk_drewN ?_ _ | refine blk_drew ?_ | refine blk_alloc ?_ _)); exact BK144.out) hb); have n1_ := Aside0.mk (blk_below (g := gb145) (o := .cells #[.int .u64 a1_0, .int .u64 a1_1, .int .u64 a1_2, .string a1_3, .string a1_4] 26 (0, 0)) (by (with_reducible repeat (first | refine blk_drewN ?_ _ | refine blk_drew ?_ | refine blk_alloc ?_ _)); exact BK145.out) hb); have n2_ := Aside0.mk (below_step (by repeat (first | (with_reducible first | exact HB.out | apply below_alloc | apply pw_below_drewN | apply below_drew1 | refine below_set ?_ GE144.out | refine below_set ?_ GE145.out) | exact HB.out)) hb); have n3_ := Aside0.mk (hbox); have n4_ := Aside0.mk ((by rw [hg]; exact (below_size (by repeat (first | (with_reducible first | exact HB.out | apply below_alloc | apply pw_below_drewN | apply below_drew1 | refine below_set ?_ GE144.out | refine below_set ?_ GE145.out) | exact HB.out))) : w.heap.size ≤ gb146)); have n5_ := Aside0.mk ((by rw [hg]; exact (below_size (by repeat (first | (with_reducible first | exact HB.out | apply below_alloc | apply pw_below_drewN | apply below_drew1 | refine below_set ?_ GE144.out | refine below_set ?_ GE145.out) | exact HB.out))) : w.heap.size ≤ gb146)); have n6_ := Aside0.mk ((by rw [hg]; exact Nat.ne_of_lt (blk_lt (g := gb144) (o := .cells #[.int .i64 a0_0, .int .i64 a0_1, .int .u64 a0_2, .int .u64 a0_3, .int .u64 a0_4, .string a0_5] 24 (0, 0)) (by (with_reducible repeat (first | refine blk_drewN ?_ _ | refine blk_drew ?_ | refine blk_alloc ?_ _)); exact BK144.out)) : gb144 ≠ gb146)); have n7_ := Aside0.mk ((by rw [hg]; exact Nat.ne_of_gt (blk_lt (g := gb144) (o := .cells #[.int .i64 a0_0, .int .i64 a0_1, .int .u64 a0_2, .int .u64 a0_3, .int .u64 a0_4, .string a0_5] 24 (0, 0)) (by (with_reducible repeat (first | refine blk_drewN ?_ _ | refine blk_drew ?_ | refine blk_alloc ?_ _)); exact BK144.out)) : gb146 ≠ gb144)); have n8_ := Aside0.mk ((by rw [hg]; exact Nat.ne_of_lt (blk_lt (g := gb145) (o := .cells #[.int .u64 a1_0, .int .u64 a1_1, .int .u64 a1_2, .string a1_3, .string a1_4] 26 (0, 0)) (by (with_reducible repeat (first | refine blk_drewN ?_ _ | refine blk_drew ?_ | refine blk_alloc ?_ _)); exact BK145.out)) : gb145 ≠ gb146)); have n9_ := Aside0.mk ((by rw [hg]; exact Nat.ne_of_gt (blk_lt (g := gb145) (o := .cells #[.int .u64 a1_0, .int .u64 a1_1, .int .u64 a1_2, .string a1_3, .string a1_4] 26 (0, 0)) (by (with_reducible repeat (first | refine blk_drewN ?_ _ | refine blk_drew ?_ | refine blk_alloc ?_ _)); exact BK145.out)) : gb146 ≠ gb145)); clear BK144; clear BK145; clear HB; have BK144 := n0_; have BK145 := n1_; have HB := n2_; have BK146 := n3_; have GW146 := n4_; have GE146 := n5_; have NB144_146 := n6_; have NB146_144 := n7_; have NB145_146 := n8_; have NB146_145 := n9_; clear n0_ n1_ n2_ n3_ n4_ n5_ n6_ n7_ n8_ n9_; clear hb hbox hg; have hnb9 := NB146_144.out; have hnc9 := NB144_146.out; have hnb10 := NB146_145.out; have hnc10 := NB145_146.out; have hcz11_0 : w8.cell? ⟨gb146, 0, none⟩ = some (.int .u64 0) := (blk_cell BK146.out 0).trans rfl; have hcz11_1 : w8.cell? ⟨gb146, 1, none⟩ = some (.int .u64 0) := (blk_cell BK146.out 1).trans rfl; have hcz11_2 : w8.cell? ⟨gb146, 2, none⟩ = some (.int .u64 0) := (blk_cell BK146.out 2).trans rfl; have hcz11_3 : w8.cell? ⟨gb146, 3, none⟩ = some (.string (⟨#[]⟩ : ByteArray)) := (blk_cell BK146.out 3).trans rfl; have hcz11_4 : w8.cell? ⟨gb146, 4, none⟩ = some (.string (⟨#[]⟩ : ByteArray)) := (blk_cell BK146.out 4).trans rfl; have hfz11_0 := blk_frozen BK146.out 0; have hfz11_1 := blk_frozen BK146.out 1; have hfz11_2 := blk_frozen BK146.out 2; have hfz11_3 := blk_frozen BK146.out 3; have hfz11_4 := blk_frozen BK146.out 4; have hcz12_0 : w8.cell? ⟨gb144, 0, none⟩ = some (.int .i64 a0_0) := (blk_cell BK144.out 0).trans rfl; have hcz12_1 : w8.cell? ⟨gb144, 1, none⟩ = some (.int .i64 a0_1) := (blk_cell BK144.out 1).trans rfl; have hcz12_2 : w8.cell? ⟨gb144, 2, none⟩ = some (.int .u64 a0_2) := (blk_cell BK144.out 2).trans rfl; have hcz12_3 : w8.cell? ⟨gb144, 3, none⟩ = some (.int .u64 a0_3) := (blk_cell BK144.out 3).trans rfl; have hcz12_4 : w8.cell? ⟨gb144, 4, none⟩ = some (.int .u64 a0_4) := (blk_cell BK144.out 4).trans rfl; have hcz12_5 : w8.cell? ⟨gb144, 5, none⟩ = some (.string a0_5) := (blk_cell BK144.out 5).trans rfl; have hfz12_0 := blk_frozen BK144.out 0; have hfz12_1 := blk_frozen BK144.out 1; have hfz12_2 := blk_frozen BK144.out 2; have hfz12_3 := blk_frozen BK144.out 3; have hfz12_4 := blk_frozen BK144.out 4; have hfz12_5 := blk_frozen BK144.out 5))
 (try simp only [Act.put, List.setIfInBounds_toArray, List.set_cons_zero, List.set_cons_succ])
 go_cut [] (fun wc => ∃ (kq : Nat) (x147000_2 : Int) (x147001_2 : Int) (x147002_2 : Int) (x147003_2 : ByteArray) (x147004_2 : ByteArray), Aside0 (spec_Spoken.j0 kq a0_0 a0_1 a0_2 a0_3 a0_4 a0_5 a1_0 a1_1 a1_2 a1_3 a1_4 x147000_2 x147001_2 x147002_2 x147003_2 x147004_2 = some r) ∧ Aside0 (kq ≤ k) ∧ Aside0 (wc.heap[gb144]? = some (.cells #[.int .i64 a0_0, .int .i64 a0_1, .int .u64 a0_2, .int .u64 a0_3, .int .u64 a0_4, .string a0_5] 24 (0, 0))) ∧ Aside0 (wc.heap[gb145]? = some (.cells #[.int .u64 a1_0, .int .u64 a1_1, .int .u64 a1_2, .string a1_3, .string a1_4] 26 (0, 0))) ∧ Aside0 (wc.heap[gb146]? = some (.cells #[.int .u64 x147000_2, .int .u64 x147001_2, .int .u64 x147002_2, .string x147003_2, .string x147004_2] 26 (0, 0))) ∧ Aside0 (Below w.heap.size w wc))
 case first =>
  have H := HC3.out
  clear HC3
  by_cases c13 : a0_1 = 2
  ·
   rw [if_pos c13] at H
   have c13b0 : (a0_1 == 2) = true := beq_iff_eq.mpr c13
   have c13b1 : (a0_1 != 2) = false := bne_eq_false_iff_eq.mpr c13
   clear c13
   (first | rw [c13b0] | (simp only [i64_w, i32_w]; rw [c13b0]) | skip)
   have H' := Aside0.mk H
   clear H
   have hnb14 := NB144_145.out
   have hnc14 := NB145_144.out
   have hnb15 := NB144_146.out
   have hnc15 := NB146_144.out
   have hcz16_0 : w8.cell? ⟨gb144, 0, none⟩ = some (.int .i64 a0_0) := (blk_cell BK144.out 0).trans rfl
   have hcz16_1 : w8.cell? ⟨gb144, 1, none⟩ = some (.int .i64 a0_1) := (blk_cell BK144.out 1).trans rfl
   have hcz16_2 : w8.cell? ⟨gb144, 2, none⟩ = some (.int .u64 a0_2) := (blk_cell BK144.out 2).trans rfl
   have hcz16_3 : w8.cell? ⟨gb144, 3, none⟩ = some (.int .u64 a0_3) := (blk_cell BK144.out 3).trans rfl
   have hcz16_4 : w8.cell? ⟨gb144, 4, none⟩ = some (.int .u64 a0_4) := (blk_cell BK144.out 4).trans rfl
   have hcz16_5 : w8.cell? ⟨gb144, 5, none⟩ = some (.string a0_5) := (blk_cell BK144.out 5).trans rfl
   have hfz16_0 := blk_frozen BK144.out 0
   have hfz16_1 := blk_frozen BK144.out 1
   have hfz16_2 := blk_frozen BK144.out 2
   have hfz16_3 := blk_frozen BK144.out 3
   have hfz16_4 := blk_frozen BK144.out 4
   have hfz16_5 := blk_frozen BK144.out 5
   have hnb17 := NB146_145.out
   have hnc17 := NB145_146.out
   have hcz18_0 : w8.cell? ⟨gb146, 0, none⟩ = some (.int .u64 0) := (blk_cell BK146.out 0).trans rfl
   have hcz18_1 : w8.cell? ⟨gb146, 1, none⟩ = some (.int .u64 0) := (blk_cell BK146.out 1).trans rfl
   have hcz18_2 : w8.cell? ⟨gb146, 2, none⟩ = some (.int .u64 0) := (blk_cell BK146.out 2).trans rfl
   have hcz18_3 : w8.cell? ⟨gb146, 3, none⟩ = some (.string (⟨#[]⟩ : ByteArray)) := (blk_cell BK146.out 3).trans rfl
   have hcz18_4 : w8.cell? ⟨gb146, 4, none⟩ = some (.string (⟨#[]⟩ : ByteArray)) := (blk_cell BK146.out 4).trans rfl
   have hfz18_0 := blk_frozen BK146.out 0
   have hfz18_1 := blk_frozen BK146.out 1
   have hfz18_2 := blk_frozen BK146.out 2
   have hfz18_3 := blk_frozen BK146.out 3
   have hfz18_4 := blk_frozen BK146.out 4
   go_wp2
   go_meet
   case rel => exact ⟨_, (a0_2), (IntKind.u64.wrap (a0_3 + 1)), (0), ((⟨#[]⟩ : ByteArray)), ((⟨#[]⟩ : ByteArray)), H', ⟨by first | omega | exact Nat.le_refl _⟩, ⟨by (with_reducible repeat (first | refine blk_drewN ?_ _ | refine blk_drew ?_ | refine blk_alloc ?_ _)); refine blk_far ?_ NB144_146.out _; (with_reducible repeat (first | refine blk_drewN ?_ _ | refine blk_drew ?_ | refine blk_alloc ?_ _)); refine blk_far ?_ NB144_146.out _; (with_reducible repeat (first | refine blk_drewN ?_ _ | refine blk_drew ?_ | refine blk_alloc ?_ _)); refine blk_far ?_ NB144_146.out _; (with_reducible repeat (first | refine blk_drewN ?_ _ | refine blk_drew ?_ | refine blk_alloc ?_ _)); refine blk_far ?_ NB144_146.out _; (with_reducible repeat (first | refine blk_drewN ?_ _ | refine blk_drew ?_ | refine blk_alloc ?_ _)); refine blk_far ?_ NB144_146.out _; (with_reducible repeat (first | refine blk_drewN ?_ _ | refine blk_drew ?_ | refine blk_alloc ?_ _)); refine blk_far ?_ NB144_146.out _; (with_reducible repeat (first | refine blk_drewN ?_ _ | refine blk_drew ?_ | refine blk_alloc ?_ _)); refine blk_far ?_ NB144_146.out _; (with_reducible repeat (first | refine blk_drewN ?_ _ | refine blk_drew ?_ | refine blk_alloc ?_ _)); refine blk_far ?_ NB144_146.out _; (with_reducible repeat (first | refine blk_drewN ?_ _ | refine blk_drew ?_ | refine blk_alloc ?_ _)); refine blk_far ?_ NB144_146.out _; (with_reducible repeat (first | refine blk_drewN ?_ _ | refine blk_drew ?_ | refine blk_alloc ?_ _)); refine blk_far ?_ NB144_146.out _; (with_reducible repeat (first | refine blk_drewN ?_ _ | refine blk_drew ?_ | refine blk_alloc ?_ _)); exact BK144.out⟩, ⟨by (with_reducible repeat (first | refine blk_drewN ?_ _ | refine blk_drew ?_ | refine blk_alloc ?_ _)); refine blk_far ?_ NB145_146.out _; (with_reducible repeat (first | refine blk_drewN ?_ _ | refine blk_drew ?_ | refine blk_alloc ?_ _)); refine blk_far ?_ NB145_146.out _; (with_reducible repeat (first | refine blk_drewN ?_ _ | refine blk_drew ?_ | refine blk_alloc ?_ _)); refine blk_far ?_ NB145_146.out _; (with_reducible repeat (first | refine blk_drewN ?_ _ | refine blk_drew ?_ | refine blk_alloc ?_ _)); refine blk_far ?_ NB145_146.out _; (with_reducible repeat (first | refine blk_drewN ?_ _ | refine blk_drew ?_ | refine blk_alloc ?_ _)); refine blk_far ?_ NB145_146.out _; (with_reducible repeat (first | refine blk_drewN ?_ _ | refine blk_drew ?_ | refine blk_alloc ?_ _)); refine blk_far ?_ NB145_146.out _; (with_reducible repeat (first | refine blk_drewN ?_ _ | refine blk_drew ?_ | refine blk_alloc ?_ _)); refine blk_far ?_ NB145_146.out _; (with_reducible repeat (first | refine blk_drewN ?_ _ | refine blk_drew ?_ | refine blk_alloc ?_ _)); refine blk_far ?_ NB145_146.out _; (with_reducible repeat (first | refine blk_drewN ?_ _ | refine blk_drew ?_ | refine blk_alloc ?_ _)); refine blk_far ?_ NB145_146.out _; (with_reducible repeat (first | refine blk_drewN ?_ _ | refine blk_drew ?_ | refine blk_alloc ?_ _)); refine blk_far ?_ NB145_146.out _; (with_reducible repeat (first | refine blk_drewN ?_ _ | refine blk_drew ?_ | refine blk_alloc ?_ _)); exact BK145.out⟩, ⟨by (with_reducible repeat (first | refine blk_drewN ?_ _ | refine blk_drew ?_ | refine blk_alloc ?_ _)); refine blk_put (cs := #[.int .u64 a0_2, .int .u64 (IntKind.u64.wrap (a0_3 + 1)), .int .u64 0, .string (⟨#[]⟩ : ByteArray), .string (⟨#[]⟩ : ByteArray)]) ?_ 4 _ rfl; (with_reducible repeat (first | refine blk_drewN ?_ _ | refine blk_drew ?_ | refine blk_alloc ?_ _)); refine blk_put (cs := #[.int .u64 a0_2, .int .u64 (IntKind.u64.wrap (a0_3 + 1)), .int .u64 0, .string (⟨#[]⟩ : ByteArray), .string (⟨#[]⟩ : ByteArray)]) ?_ 3 _ rfl; (with_reducible repeat (first | refine blk_drewN ?_ _ | refine blk_drew ?_ | refine blk_alloc ?_ _)); refine blk_put (cs := #[.int .u64 a0_2, .int .u64 (IntKind.u64.wrap (a0_3 + 1)), .int .u64 0, .string (⟨#[]⟩ : ByteArray), .string (⟨#[]⟩ : ByteArray)]) ?_ 2 _ rfl; (with_reducible repeat (first | refine blk_drewN ?_ _ | refine blk_drew ?_ | refine blk_alloc ?_ _)); refine blk_put (cs := #[.int .u64 a0_2, .int .u64 0, .int .u64 0, .string (⟨#[]⟩ : ByteArray), .string (⟨#[]⟩ : ByteArray)]) ?_ 1 _ rfl; (with_reducible repeat (first | refine blk_drewN ?_ _ | refine blk_drew ?_ | refine blk_alloc ?_ _)); refine blk_put (cs := #[.int .u64 (IntKind.u64.wrap (a0_2 + 1)), .int .u64 0, .int .u64 0, .string (⟨#[]⟩ : ByteArray), .string (⟨#[]⟩ : ByteArray)]) ?_ 0 _ rfl; (with_reducible repeat (first | refine blk_drewN ?_ _ | refine blk_drew ?_ | refine blk_alloc ?_ _)); refine blk_put (cs := #[.int .u64 (IntKind.u64.wrap (a0_2 + 1)), .int .u64 0, .int .u64 0, .string (⟨#[]⟩ : ByteArray), .string (⟨#[]⟩ : ByteArray)]) ?_ 4 _ rfl; (with_reducible repeat (first | refine blk_drewN ?_ _ | refine blk_drew ?_ | refine blk_alloc ?_ _)); refine blk_put (cs := #[.int .u64 (IntKind.u64.wrap (a0_2 + 1)), .int .u64 0, .int .u64 0, .string (⟨#[]⟩ : ByteArray), .string (⟨#[]⟩ : ByteArray)]) ?_ 3 _ rfl; (with_reducible repeat (first | refine blk_drewN ?_ _ | refine blk_drew ?_ | refine blk_alloc ?_ _)); refine blk_put (cs := #[.int .u64 (IntKind.u64.wrap (a0_2 + 1)), .int .u64 0, .int .u64 0, .string (⟨#[]⟩ : ByteArray), .string (⟨#[]⟩ : ByteArray)]) ?_ 2 _ rfl; (with_reducible repeat (first | refine blk_drewN ?_ _ | refine blk_drew ?_ | refine blk_alloc ?_ _)); refine blk_put (cs := #[.int .u64 (IntKind.u64.wrap (a0_2 + 1)), .int .u64 0, .int .u64 0, .string (⟨#[]⟩ : ByteArray), .string (⟨#[]⟩ : ByteArray)]) ?_ 1 _ rfl; (with_reducible repeat (first | refine blk_drewN ?_ _ | refine blk_drew ?_ | refine blk_alloc ?_ _)); refine blk_put (cs := #[.int .u64 0, .int .u64 0, .int .u64 0, .string (⟨#[]⟩ : ByteArray), .string (⟨#[]⟩ : ByteArray)]) ?_ 0 _ rfl; (with_reducible repeat (first | refine blk_drewN ?_ _ | refine blk_drew ?_ | refine blk_alloc ?_ _)); exact BK146.out⟩, ⟨by repeat (first | (with_reducible first | exact HB.out | apply below_alloc | apply pw_below_drewN | apply below_drew1 | refine below_set ?_ GE144.out | refine below_set ?_ GE145.out | refine below_set ?_ GE146.out) | exact HB.out)⟩⟩
  ·
   rw [if_neg c13] at H
   have c13b0 : (a0_1 == 2) = false := beq_eq_false_iff_ne.mpr c13
   have c13b1 : (a0_1 != 2) = true := bne_iff_ne.mpr c13
   (first | rw [c13b0] | (simp only [i64_w, i32_w]; rw [c13b0]) | skip)
   have H' := Aside0.mk H
   clear H
   go_wp2
   go_meet
   case rel => exact ⟨_, (IntKind.u64.wrap (a0_2 + 1)), (0), (0), ((⟨#[]⟩ : ByteArray)), ((⟨#[]⟩ : ByteArray)), H', ⟨by first | omega | exact Nat.le_refl _⟩, ⟨by (with_reducible repeat (first | refine blk_drewN ?_ _ | refine blk_drew ?_ | refine blk_alloc ?_ _)); refine blk_far ?_ NB144_146.out _; (with_reducible repeat (first | refine blk_drewN ?_ _ | refine blk_drew ?_ | refine blk_alloc ?_ _)); refine blk_far ?_ NB144_146.out _; (with_reducible repeat (first | refine blk_drewN ?_ _ | refine blk_drew ?_ | refine blk_alloc ?_ _)); refine blk_far ?_ NB144_146.out _; (with_reducible repeat (first | refine blk_drewN ?_ _ | refine blk_drew ?_ | refine blk_alloc ?_ _)); refine blk_far ?_ NB144_146.out _; (with_reducible repeat (first | refine blk_drewN ?_ _ | refine blk_drew ?_ | refine blk_alloc ?_ _)); refine blk_far ?_ NB144_146.out _; (with_reducible repeat (first | refine blk_drewN ?_ _ | refine blk_drew ?_ | refine blk_alloc ?_ _)); exact BK144.out⟩, ⟨by (with_reducible repeat (first | refine blk_drewN ?_ _ | refine blk_drew ?_ | refine blk_alloc ?_ _)); refine blk_far ?_ NB145_146.out _; (with_reducible repeat (first | refine blk_drewN ?_ _ | refine blk_drew ?_ | refine blk_alloc ?_ _)); refine blk_far ?_ NB145_146.out _; (with_reducible repeat (first | refine blk_drewN ?_ _ | refine blk_drew ?_ | refine blk_alloc ?_ _)); refine blk_far ?_ NB145_146.out _; (with_reducible repeat (first | refine blk_drewN ?_ _ | refine blk_drew ?_ | refine blk_alloc ?_ _)); refine blk_far ?_ NB145_146.out _; (with_reducible repeat (first | refine blk_drewN ?_ _ | refine blk_drew ?_ | refine blk_alloc ?_ _)); refine blk_far ?_ NB145_146.out _; (with_reducible repeat (first | refine blk_drewN ?_ _ | refine blk_drew ?_ | refine blk_alloc ?_ _)); exact BK145.out⟩, ⟨by (with_reducible repeat (first | refine blk_drewN ?_ _ | refine blk_drew ?_ | refine blk_alloc ?_ _)); refine blk_put (cs := #[.int .u64 (IntKind.u64.wrap (a0_2 + 1)), .int .u64 0, .int .u64 0, .string (⟨#[]⟩ : ByteArray), .string (⟨#[]⟩ : ByteArray)]) ?_ 4 _ rfl; (with_reducible repeat (first | refine blk_drewN ?_ _ | refine blk_drew ?_ | refine blk_alloc ?_ _)); refine blk_put (cs := #[.int .u64 (IntKind.u64.wrap (a0_2 + 1)), .int .u64 0, .int .u64 0, .string (⟨#[]⟩ : ByteArray), .string (⟨#[]⟩ : ByteArray)]) ?_ 3 _ rfl; (with_reducible repeat (first | refine blk_drewN ?_ _ | refine blk_drew ?_ | refine blk_alloc ?_ _)); refine blk_put (cs := #[.int .u64 (IntKind.u64.wrap (a0_2 + 1)), .int .u64 0, .int .u64 0, .string (⟨#[]⟩ : ByteArray), .string (⟨#[]⟩ : ByteArray)]) ?_ 2 _ rfl; (with_reducible repeat (first | refine blk_drewN ?_ _ | refine blk_drew ?_ | refine blk_alloc ?_ _)); refine blk_put (cs := #[.int .u64 (IntKind.u64.wrap (a0_2 + 1)), .int .u64 0, .int .u64 0, .string (⟨#[]⟩ : ByteArray), .string (⟨#[]⟩ : ByteArray)]) ?_ 1 _ rfl; (with_reducible repeat (first | refine blk_drewN ?_ _ | refine blk_drew ?_ | refine blk_alloc ?_ _)); refine blk_put (cs := #[.int .u64 0, .int .u64 0, .int .u64 0, .string (⟨#[]⟩ : ByteArray), .string (⟨#[]⟩ : ByteArray)]) ?_ 0 _ rfl; (with_reducible repeat (first | refine blk_drewN ?_ _ | refine blk_drew ?_ | refine blk_alloc ?_ _)); exact BK146.out⟩, ⟨by repeat (first | (with_reducible first | exact HB.out | apply below_alloc | apply pw_below_drewN | apply below_drew1 | refine below_set ?_ GE144.out | refine below_set ?_ GE145.out | refine below_set ?_ GE146.out) | exact HB.out)⟩⟩
 case rest =>
  clear HC3
  try clear c1
  try clear p2
  try clear c6
  try clear c9
  try clear c10
  try clear c13
  try clear c13b0
  try clear c13b1
  try clear c14
  try clear c15
  try clear c17
  try clear hcz11_0
  try clear hcz11_1
  try clear hcz11_2
  try clear hcz11_3
  try clear hcz11_4
  try clear hcz12_0
  try clear hcz12_1
  try clear hcz12_2
  try clear hcz12_3
  try clear hcz12_4
  try clear hcz12_5
  try clear hcz16_0
  try clear hcz16_1
  try clear hcz16_2
  try clear hcz16_3
  try clear hcz16_4
  try clear hcz16_5
  try clear hcz18_0
  try clear hcz18_1
  try clear hcz18_2
  try clear hcz18_3
  try clear hcz18_4
  try clear hcz7_0
  try clear hcz7_1
  try clear hcz7_2
  try clear hcz7_3
  try clear hcz7_4
  try clear hcz7_5
  try clear hfz11_0
  try clear hfz11_1
  try clear hfz11_2
  try clear hfz11_3
  try clear hfz11_4
  try clear hfz12_0
  try clear hfz12_1
  try clear hfz12_2
  try clear hfz12_3
  try clear hfz12_4
  try clear hfz12_5
  try clear hfz16_0
  try clear hfz16_1
  try clear hfz16_2
  try clear hfz16_3
  try clear hfz16_4
  try clear hfz16_5
  try clear hfz18_0
  try clear hfz18_1
  try clear hfz18_2
  try clear hfz18_3
  try clear hfz18_4
  try clear hfz7_0
  try clear hfz7_1
  try clear hfz7_2
  try clear hfz7_3
  try clear hfz7_4
  try clear hfz7_5
  obtain ⟨kq, x147000_2, x147001_2, x147002_2, x147003_2, x147004_2, HA, HJ2, BK144, BK145, BK146, HB⟩ := hcut
  cases kq with
  | zero => exact absurd HA.out (by simp [spec_Spoken.j0])
  | succ kj2 =>
   have H := HA.out
   clear HA
   simp only [spec_Spoken.j0] at H
   by_cases c19 : a0_1 = 3
   ·
    rw [if_pos c19] at H
    have c19b0 : (a0_1 == 3) = true := beq_iff_eq.mpr c19
    have c19b1 : (a0_1 != 3) = false := bne_eq_false_iff_eq.mpr c19
    clear c19
    obtain rfl := Option.some.inj H
    have hnb20 := NB144_145.out
    have hnc20 := NB145_144.out
    have hnb21 := NB144_146.out
    have hnc21 := NB146_144.out
    have hcz22_0 : wc.cell? ⟨gb144, 0, none⟩ = some (.int .i64 a0_0) := (blk_cell BK144.out 0).trans rfl
    have hcz22_1 : wc.cell? ⟨gb144, 1, none⟩ = some (.int .i64 a0_1) := (blk_cell BK144.out 1).trans rfl
    have hcz22_2 : wc.cell? ⟨gb144, 2, none⟩ = some (.int .u64 a0_2) := (blk_cell BK144.out 2).trans rfl
    have hcz22_3 : wc.cell? ⟨gb144, 3, none⟩ = some (.int .u64 a0_3) := (blk_cell BK144.out 3).trans rfl
    have hcz22_4 : wc.cell? ⟨gb144, 4, none⟩ = some (.int .u64 a0_4) := (blk_cell BK144.out 4).trans rfl
    have hcz22_5 : wc.cell? ⟨gb144, 5, none⟩ = some (.string a0_5) := (blk_cell BK144.out 5).trans rfl
    have hfz22_0 := blk_frozen BK144.out 0
    have hfz22_1 := blk_frozen BK144.out 1
    have hfz22_2 := blk_frozen BK144.out 2
    have hfz22_3 := blk_frozen BK144.out 3
    have hfz22_4 := blk_frozen BK144.out 4
    have hfz22_5 := blk_frozen BK144.out 5
    go_wp2
    go_ret
    exact ⟨by first | rfl | (simp [errW_none, errW_some] <;> rfl) | (simp [*, errW_none, errW_some] <;> rfl) | (simp [bneNil]; done), by repeat (first | (with_reducible first | exact HB.out | apply below_alloc | apply pw_below_drewN | apply below_drew1 | refine below_set ?_ GE144.out | refine below_set ?_ GE145.out | refine below_set ?_ GE146.out) | exact HB.out)⟩
   ·
    rw [if_neg c19] at H
    have c19b0 : (a0_1 == 3) = false := beq_eq_false_iff_ne.mpr c19
    have c19b1 : (a0_1 != 3) = true := bne_iff_ne.mpr c19
    by_cases c23 : a0_0 = 5
    ·
     rw [if_pos c23] at H
     have c23b0 : (a0_0 == 5) = true := beq_iff_eq.mpr c23
     have c23b1 : (a0_0 != 5) = false := bne_eq_false_iff_eq.mpr c23
     clear c23
     replace H := Option.bind_eq_some_iff.mp H
     obtain ⟨t147, A240, H⟩ := H
     replace H : (some (t147 != 0)) = some r := H
     have A24 := Aside0.mk A240
     clear A240
     obtain rfl := Option.some.inj H
     have hnb25 := NB144_145.out
     have hnc25 := NB145_144.out
     have hnb26 := NB144_146.out
     have hnc26 := NB146_144.out
     have hcz27_0 : wc.cell? ⟨gb144, 0, none⟩ = some (.int .i64 a0_0) := (blk_cell BK144.out 0).trans rfl
     have hcz27_1 : wc.cell? ⟨gb144, 1, none⟩ = some (.int .i64 a0_1) := (blk_cell BK144.out 1).trans rfl
     have hcz27_2 : wc.cell? ⟨gb144, 2, none⟩ = some (.int .u64 a0_2) := (blk_cell BK144.out 2).trans rfl
     have hcz27_3 : wc.cell? ⟨gb144, 3, none⟩ = some (.int .u64 a0_3) := (blk_cell BK144.out 3).trans rfl
     have hcz27_4 : wc.cell? ⟨gb144, 4, none⟩ = some (.int .u64 a0_4) := (blk_cell BK144.out 4).trans rfl
     have hcz27_5 : wc.cell? ⟨gb144, 5, none⟩ = some (.string a0_5) := (blk_cell BK144.out 5).trans rfl
     have hfz27_0 := blk_frozen BK144.out 0
     have hfz27_1 := blk_frozen BK144.out 1
     have hfz27_2 := blk_frozen BK144.out 2
     have hfz27_3 := blk_frozen BK144.out 3
     have hfz27_4 := blk_frozen BK144.out 4
     have hfz27_5 := blk_frozen BK144.out 5
     have hnb28 := NB145_146.out
     have hnc28 := NB146_145.out
     have hcz29_0 : wc.cell? ⟨gb145, 0, none⟩ = some (.int .u64 a1_0) := (blk_cell BK145.out 0).trans rfl
     have hcz29_1 : wc.cell? ⟨gb145, 1, none⟩ = some (.int .u64 a1_1) := (blk_cell BK145.out 1).trans rfl
     have hcz29_2 : wc.cell? ⟨gb145, 2, none⟩ = some (.int .u64 a1_2) := (blk_cell BK145.out 2).trans rfl
     have hcz29_3 : wc.cell? ⟨gb145, 3, none⟩ = some (.string a1_3) := (blk_cell BK145.out 3).trans rfl
     have hcz29_4 : wc.cell? ⟨gb145, 4, none⟩ = some (.string a1_4) := (blk_cell BK145.out 4).trans rfl
     have hfz29_0 := blk_frozen BK145.out 0
     have hfz29_1 := blk_frozen BK145.out 1
     have hfz29_2 := blk_frozen BK145.out 2
     have hfz29_3 := blk_frozen BK145.out 3
     have hfz29_4 := blk_frozen BK145.out 4
     have hcz30_0 : wc.cell? ⟨gb146, 0, none⟩ = some (.int .u64 x147000_2) := (blk_cell BK146.out 0).trans rfl
     have hcz30_1 : wc.cell? ⟨gb146, 1, none⟩ = some (.int .u64 x147001_2) := (blk_cell BK146.out 1).trans rfl
     have hcz30_2 : wc.cell? ⟨gb146, 2, none⟩ = some (.int .u64 x147002_2) := (blk_cell BK146.out 2).trans rfl
     have hcz30_3 : wc.cell? ⟨gb146, 3, none⟩ = some (.string x147003_2) := (blk_cell BK146.out 3).trans rfl
     have hcz30_4 : wc.cell? ⟨gb146, 4, none⟩ = some (.string x147004_2) := (blk_cell BK146.out 4).trans rfl
     have hfz30_0 := blk_frozen BK146.out 0
     have hfz30_1 := blk_frozen BK146.out 1
     have hfz30_2 := blk_frozen BK146.out 2
     have hfz30_3 := blk_frozen BK146.out 3
     have hfz30_4 := blk_frozen BK146.out 4
     go_wp2_with (first | ((with_reducible refine gate_callee (f := 39) rfl ?_); refine goesL_ (some 29) rfl rfl Tryd.func39 (by kernel_rfl) rfl #[.agg #[.int .u64 a1_0, .int .u64 a1_1, .int .u64 a1_2, .string a1_3, .string a1_4], .agg #[.int .u64 x147000_2, .int .u64 x147001_2, .int .u64 x147002_2, .string x147003_2, .string x147004_2], .int .i64 3] rfl (by (try simp only [List.map_toArray, List.map_cons, List.map_nil]); first | done | rfl | (simp only [List.length_drop, List.length_take]; rfl)) ?_; (with_reducible refine (spec_CompareNumbers.calls a1_0 a1_1 a1_2 a1_3 a1_4 x147000_2 x147001_2 x147002_2 x147003_2 x147004_2 3 t147 _ A24.out).mono ?_); rintro e w31 ⟨rfl, hb⟩; refine ⟨_, rfl, ?_⟩; have n0_ := Aside0.mk (blk_below (g := gb144) (o := .cells #[.int .i64 a0_0, .int .i64 a0_1, .int .u64 a0_2, .int .u64 a0_3, .int .u64 a0_4, .string a0_5] 24 (0, 0)) (by (with_reducible repeat (first | refine blk_drewN ?_ _ | refine blk_drew ?_ | refine blk_alloc ?_ _)); exact BK144.out) hb); have n1_ := Aside0.mk (blk_below (g := gb145) (o := .cells #[.int .u64 a1_0, .int .u64 a1_1, .int .u64 a1_2, .string a1_3, .string a1_4] 26 (0, 0)) (by (with_reducible repeat (first | refine blk_drewN ?_ _ | refine blk_drew ?_ | refine blk_alloc ?_ _)); exact BK145.out) hb); have n2_ := Aside0.mk (blk_below (g := gb146) (o := .cells #[.int .u64 x147000_2, .int .u64 x147001_2, .int .u64 x147002_2, .string x147003_2, .string x147004_2] 26 (0, 0)) (by (with_reducible repeat (first | refine blk_drewN ?_ _ | refine blk_drew ?_ | refine blk_alloc ?_ _)); exact BK146.out) hb); have n3_ := Aside0.mk (below_step (by repeat (first | (with_reducible first | exact HB.out | apply below_alloc | apply pw_below_drewN | apply below_drew1 | refine below_set ?_ GE144.out | refine below_set ?_ GE145.out | refine below_set ?_ GE146.out) | exact HB.out)) hb); clear BK144; clear BK145; clear BK146; clear HB; have BK144 := n0_; have BK145 := n1_; have BK146 := n2_; have HB := n3_; clear n0_ n1_ n2_ n3_; (try clear hb); (try clear hb2); (try clear hk); (try clear hi)))
     go_ret
     exact ⟨by first | rfl | (simp [errW_none, errW_some] <;> rfl) | (simp [*, errW_none, errW_some] <;> rfl) | (simp [bneNil]; done), by repeat (first | (with_reducible first | exact HB.out | apply below_alloc | apply pw_below_drewN | apply below_drew1 | refine below_set ?_ GE144.out | refine below_set ?_ GE145.out | refine below_set ?_ GE146.out) | exact HB.out)⟩
    ·
     rw [if_neg c23] at H
     have c23b0 : (a0_0 == 5) = false := beq_eq_false_iff_ne.mpr c23
     have c23b1 : (a0_0 != 5) = true := bne_iff_ne.mpr c23
     by_cases c32 : a0_0 = 1
     ·
      rw [if_pos c32] at H
      have c32b0 : (a0_0 == 1) = true := beq_iff_eq.mpr c32
      have c32b1 : (a0_0 != 1) = false := bne_eq_false_iff_eq.mpr c32
      clear c32
      obtain rfl := Option.some.inj H
      have hnb33 := NB144_145.out
      have hnc33 := NB145_144.out
      have hnb34 := NB144_146.out
      have hnc34 := NB146_144.out
      have hcz35_0 : wc.cell? ⟨gb144, 0, none⟩ = some (.int .i64 a0_0) := (blk_cell BK144.out 0).trans rfl
      have hcz35_1 : wc.cell? ⟨gb144, 1, none⟩ = some (.int .i64 a0_1) := (blk_cell BK144.out 1).trans rfl
      have hcz35_2 : wc.cell? ⟨gb144, 2, none⟩ = some (.int .u64 a0_2) := (blk_cell BK144.out 2).trans rfl
      have hcz35_3 : wc.cell? ⟨gb144, 3, none⟩ = some (.int .u64 a0_3) := (blk_cell BK144.out 3).trans rfl
      have hcz35_4 : wc.cell? ⟨gb144, 4, none⟩ = some (.int .u64 a0_4) := (blk_cell BK144.out 4).trans rfl
      have hcz35_5 : wc.cell? ⟨gb144, 5, none⟩ = some (.string a0_5) := (blk_cell BK144.out 5).trans rfl
      have hfz35_0 := blk_frozen BK144.out 0
      have hfz35_1 := blk_frozen BK144.out 1
      have hfz35_2 := blk_frozen BK144.out 2
      have hfz35_3 := blk_frozen BK144.out 3
      have hfz35_4 := blk_frozen BK144.out 4
      have hfz35_5 := blk_frozen BK144.out 5
      have hnb36 := NB145_146.out
      have hnc36 := NB146_145.out
      have hcz37_0 : wc.cell? ⟨gb145, 0, none⟩ = some (.int .u64 a1_0) := (blk_cell BK145.out 0).trans rfl
      have hcz37_1 : wc.cell? ⟨gb145, 1, none⟩ = some (.int .u64 a1_1) := (blk_cell BK145.out 1).trans rfl
      have hcz37_2 : wc.cell? ⟨gb145, 2, none⟩ = some (.int .u64 a1_2) := (blk_cell BK145.out 2).trans rfl
      have hcz37_3 : wc.cell? ⟨gb145, 3, none⟩ = some (.string a1_3) := (blk_cell BK145.out 3).trans rfl
      have hcz37_4 : wc.cell? ⟨gb145, 4, none⟩ = some (.string a1_4) := (blk_cell BK145.out 4).trans rfl
      have hfz37_0 := blk_frozen BK145.out 0
      have hfz37_1 := blk_frozen BK145.out 1
      have hfz37_2 := blk_frozen BK145.out 2
      have hfz37_3 := blk_frozen BK145.out 3
      have hfz37_4 := blk_frozen BK145.out 4
      go_wp2
      go_ret
      exact ⟨by first | rfl | (simp [errW_none, errW_some] <;> rfl) | (simp [*, errW_none, errW_some] <;> rfl) | (simp [bneNil]; done), by repeat (first | (with_reducible first | exact HB.out | apply below_alloc | apply pw_below_drewN | apply below_drew1 | refine below_set ?_ GE144.out | refine below_set ?_ GE145.out | refine below_set ?_ GE146.out) | exact HB.out)⟩
     ·
      rw [if_neg c32] at H
      have c32b0 : (a0_0 == 1) = false := beq_eq_false_iff_ne.mpr c32
      have c32b1 : (a0_0 != 1) = true := bne_iff_ne.mpr c32
      obtain rfl := Option.some.inj H
      have hnb38 := NB144_145.out
      have hnc38 := NB145_144.out
      have hnb39 := NB144_146.out
      have hnc39 := NB146_144.out
      have hcz40_0 : wc.cell? ⟨gb144, 0, none⟩ = some (.int .i64 a0_0) := (blk_cell BK144.out 0).trans rfl
      have hcz40_1 : wc.cell? ⟨gb144, 1, none⟩ = some (.int .i64 a0_1) := (blk_cell BK144.out 1).trans rfl
      have hcz40_2 : wc.cell? ⟨gb144, 2, none⟩ = some (.int .u64 a0_2) := (blk_cell BK144.out 2).trans rfl
      have hcz40_3 : wc.cell? ⟨gb144, 3, none⟩ = some (.int .u64 a0_3) := (blk_cell BK144.out 3).trans rfl
      have hcz40_4 : wc.cell? ⟨gb144, 4, none⟩ = some (.int .u64 a0_4) := (blk_cell BK144.out 4).trans rfl
      have hcz40_5 : wc.cell? ⟨gb144, 5, none⟩ = some (.string a0_5) := (blk_cell BK144.out 5).trans rfl
      have hfz40_0 := blk_frozen BK144.out 0
      have hfz40_1 := blk_frozen BK144.out 1
      have hfz40_2 := blk_frozen BK144.out 2
      have hfz40_3 := blk_frozen BK144.out 3
      have hfz40_4 := blk_frozen BK144.out 4
      have hfz40_5 := blk_frozen BK144.out 5
      go_wp2
      go_ret
      exact ⟨by first | rfl | (simp [errW_none, errW_some] <;> rfl) | (simp [*, errW_none, errW_some] <;> rfl) | (simp [bneNil]; done), by repeat (first | (with_reducible first | exact HB.out | apply below_alloc | apply pw_below_drewN | apply below_drew1 | refine below_set ?_ GE144.out | refine below_set ?_ GE145.out | refine below_set ?_ GE146.out) | exact HB.out)⟩

end Go.Proofs.YtllkoadcpobdaaaDoor.PX
namespace Go.Proofs.YtllkoadcpobdaaaDoor.PX

open Go.RowKit Go.Proofs.YtllkoadcpobdaaaDoorW.PrintWords Go.Proofs.YtllkoadcpobdaaaDoorW.PrintLast Go.Proofs.YtllkoadcpobdaaaDoorW.PrintMore

attribute [local go_sem] max2_int min2_int max_two min_two max_three min_three max_four min_four   -- for this text's walks alone

set_option linter.unusedVariables false

set_option linter.unusedSimpArgs false

def spec_Compare.f (k : Nat) (a0_0 : Int) (a0_1 : Int) (a0_2 : Int) (a0_3 : ByteArray) (a0_4 : ByteArray) (a1_0 : Int) (a1_1 : Int) (a1_2 : Int) (a1_3 : ByteArray) (a1_4 : ByteArray) : Option (Int) := (spec_CompareNumbers.f a0_0 a0_1 a0_2 a0_3 a0_4 a1_0 a1_1 a1_2 a1_3 a1_4 3).bind fun t168 => (if t168 = 0 then ((spec_ComparePre.f k a0_3 a1_3).bind fun t169 => (some t169)) else (some t168))

set_option maxHeartbeats 80000000 in
set_option maxRecDepth 100000 in
theorem spec_Compare.calls (k : Nat) (a0_0 : Int) (a0_1 : Int) (a0_2 : Int) (a0_3 : ByteArray) (a0_4 : ByteArray) (a1_0 : Int) (a1_1 : Int) (a1_2 : Int) (a1_3 : ByteArray) (a1_4 : ByteArray) (r : Int) (w : World) (h : spec_Compare.f k a0_0 a0_1 a0_2 a0_3 a0_4 a1_0 a1_1 a1_2 a1_3 a1_4 = some r) :
  Calls Tryd.prog 57 #[.agg #[.int .u64 a0_0, .int .u64 a0_1, .int .u64 a0_2, .string a0_3, .string a0_4], .agg #[.int .u64 a1_0, .int .u64 a1_1, .int .u64 a1_2, .string a1_3, .string a1_4]] w fun e w' => e = .returned (.int .i64 r) ∧ Below w.heap.size w w' := by
 have hu26 := Tryd.underlying26
 have HB := Aside0.mk (Below.refl w.heap.size w)
 have H : ((spec_CompareNumbers.f a0_0 a0_1 a0_2 a0_3 a0_4 a1_0 a1_1 a1_2 a1_3 a1_4 3).bind fun t168 => (if t168 = 0 then ((spec_ComparePre.f k a0_3 a1_3).bind fun t169 => (some t169)) else (some t168))) = some r := h
 clear h
 replace H := Option.bind_eq_some_iff.mp H
 obtain ⟨t168, A30, H⟩ := H
 replace H : (if t168 = 0 then ((spec_ComparePre.f k a0_3 a1_3).bind fun t169 => (some t169)) else (some t168)) = some r := H
 have A3 := Aside0.mk A30
 clear A30
 by_cases c4 : t168 = 0
 ·
  rw [if_pos c4] at H
  have c4b0 : (t168 == 0) = true := beq_iff_eq.mpr c4
  have c4b1 : (t168 != 0) = false := bne_eq_false_iff_eq.mpr c4
  clear c4
  replace H := Option.bind_eq_some_iff.mp H
  obtain ⟨t169, A50, H⟩ := H
  replace H : (some t169) = some r := H
  have A5 := Aside0.mk A50
  clear A50
  obtain rfl := Option.some.inj H
  go_enter Tryd.func57, Tryd.ntmps57
  go_wp2_with (first | ((with_reducible refine gate_dst (N := 2) rfl ?_); refine box_event ?hg (N := 2) ?hd (cs := #[.int .u64 a0_0, .int .u64 a0_1, .int .u64 a0_2, .string a0_3, .string a0_4]) (t := 26) ?hr ?_; (case hd => rfl); (case hg => rfl); (case hr => first | (go_simp; done) | (go_simp; rfl) | (go_simp; simp [u8w]; done)); intro gb166 hg w6 hbox hb; have n0_ := Aside0.mk (below_step (by repeat (first | (with_reducible first | exact HB.out | apply below_alloc | apply pw_below_drewN | apply below_drew1) | exact HB.out)) hb); have n1_ := Aside0.mk (hbox); have n2_ := Aside0.mk ((by rw [hg]; exact (below_size (by repeat (first | (with_reducible first | exact HB.out | apply below_alloc | apply pw_below_drewN | apply below_drew1) | exact HB.out))) : w.heap.size ≤ gb166)); have n3_ := Aside0.mk ((by rw [hg]; exact (below_size (by repeat (first | (with_reducible first | exact HB.out | apply below_alloc | apply pw_below_drewN | apply below_drew1) | exact HB.out))) : w.heap.size ≤ gb166)); clear HB; have HB := n0_; have BK166 := n1_; have GW166 := n2_; have GE166 := n3_; clear n0_ n1_ n2_ n3_; clear hb hbox hg) | ((with_reducible refine gate_dst (N := 3) rfl ?_); refine box_event ?hg (N := 3) ?hd (cs := #[.int .u64 a1_0, .int .u64 a1_1, .int .u64 a1_2, .string a1_3, .string a1_4]) (t := 26) ?hr ?_; (case hd => rfl); (case hg => rfl); (case hr => first | (go_simp; done) | (go_simp; rfl) | (go_simp; simp [u8w]; done)); intro gb167 hg w7 hbox hb; have n0_ := Aside0.mk (blk_below (g := gb166) (o := .cells #[.int .u64 a0_0, .int .u64 a0_1, .int .u64 a0_2, .string a0_3, .string a0_4] 26 (0, 0)) (by (with_reducible repeat (first | refine blk_drewN ?_ _ | refine blk_drew ?_ | refine blk_alloc ?_ _)); exact BK166.out) hb); have n1_ := Aside0.mk (below_step (by repeat (first | (with_reducible first | exact HB.out | apply below_alloc | apply pw_below_drewN | apply below_drew1 | refine below_set ?_ GE166.out) | exact HB.out)) hb); have n2_ := Aside0.mk (hbox); have n3_ := Aside0.mk ((by rw [hg]; exact (below_size (by repeat (first | (with_reducible first | exact HB.out | apply below_alloc | apply pw_below_drewN | apply below_drew1 | refine below_set ?_ GE166.out) | exact HB.out))) : w.heap.size ≤ gb167)); have n4_ := Aside0.mk ((by rw [hg]; exact (below_size (by repeat (first | (with_reducible first | exact HB.out | apply below_alloc | apply pw_below_drewN | apply below_drew1 | refine below_set ?_ GE166.out) | exact HB.out))) : w.heap.size ≤ gb167)); have n5_ := Aside0.mk ((by rw [hg]; exact Nat.ne_of_lt (blk_lt (g := gb166) (o := .cells #[.int .u64 a0_0, .int .u64 a0_1, .int .u64 a0_2, .string a0_3, .string a0_4] 26 (0, 0)) (by (with_reducible repeat (first | refine blk_drewN ?_ _ | refine blk_drew ?_ | refine blk_alloc ?_ _)); exact BK166.out)) : gb166 ≠ gb167)); have n6_ := Aside0.mk ((by rw [hg]; exact Nat.ne_of_gt (blk_lt (g := gb166) (o := .cells #[.int .u64 a0_0, .int .u64 a0_1, .int .u64 a0_2, .string a0_3, .string a0_4] 26 (0, 0)) (by (with_reducible repeat (first | refine blk_drewN ?_ _ | refine blk_drew ?_ | refine blk_alloc ?_ _)); exact BK166.out)) : gb167 ≠ gb166)); clear BK166; clear HB; have BK166 := n0_; have HB := n1_; have BK167 := n2_; have GW167 := n3_; have GE167 := n4_; have NB166_167 := n5_; have NB167_166 := n6_; clear n0_ n1_ n2_ n3_ n4_ n5_ n6_; clear hb hbox hg; have hnb8 := NB166_167.out; have hnc8 := NB167_166.out; have hcz9_0 : w7.cell? ⟨gb166, 0, none⟩ = some (.int .u64 a0_0) := (blk_cell BK166.out 0).trans rfl; have hcz9_1 : w7.cell? ⟨gb166, 1, none⟩ = some (.int .u64 a0_1) := (blk_cell BK166.out 1).trans rfl; have hcz9_2 : w7.cell? ⟨gb166, 2, none⟩ = some (.int .u64 a0_2) := (blk_cell BK166.out 2).trans rfl; have hcz9_3 : w7.cell? ⟨gb166, 3, none⟩ = some (.string a0_3) := (blk_cell BK166.out 3).trans rfl; have hcz9_4 : w7.cell? ⟨gb166, 4, none⟩ = some (.string a0_4) := (blk_cell BK166.out 4).trans rfl; have hfz9_0 := blk_frozen BK166.out 0; have hfz9_1 := blk_frozen BK166.out 1; have hfz9_2 := blk_frozen BK166.out 2; have hfz9_3 := blk_frozen BK166.out 3; have hfz9_4 := blk_frozen BK166.out 4; have hcz10_0 : w7.cell? ⟨gb167, 0, none⟩ = some (.int .u64 a1_0) := (blk_cell BK167.out 0).trans rfl; have hcz10_1 : w7.cell? ⟨gb167, 1, none⟩ = some (.int .u64 a1_1) := (blk_cell BK167.out 1).trans rfl; have hcz10_2 : w7.cell? ⟨gb167, 2, none⟩ = some (.int .u64 a1_2) := (blk_cell BK167.out 2).trans rfl; have hcz10_3 : w7.cell? ⟨gb167, 3, none⟩ = some (.string a1_3) := (blk_cell BK167.out 3).trans rfl; have hcz10_4 : w7.cell? ⟨gb167, 4, none⟩ = some (.string a1_4) := (blk_cell BK167.out 4).trans rfl; have hfz10_0 := blk_frozen BK167.out 0; have hfz10_1 := blk_frozen BK167.out 1; have hfz10_2 := blk_frozen BK167.out 2; have hfz10_3 := blk_frozen BK167.out 3; have hfz10_4 := blk_frozen BK167.out 4) | ((with_reducible refine gate_callee (f := 39) rfl ?_); refine goesL_ (some 8) rfl rfl Tryd.func39 (by kernel_rfl) rfl #[.agg #[.int .u64 a0_0, .int .u64 a0_1, .int .u64 a0_2, .string a0_3, .string a0_4], .agg #[.int .u64 a1_0, .int .u64 a1_1, .int .u64 a1_2, .string a1_3, .string a1_4], .int .i64 3] rfl (by (try simp only [List.map_toArray, List.map_cons, List.map_nil]); first | done | rfl | (simp only [List.length_drop, List.length_take]; rfl)) ?_; (with_reducible refine (spec_CompareNumbers.calls a0_0 a0_1 a0_2 a0_3 a0_4 a1_0 a1_1 a1_2 a1_3 a1_4 3 t168 _ A3.out).mono ?_); rintro e w11 ⟨rfl, hb⟩; refine ⟨_, rfl, ?_⟩; have n0_ := Aside0.mk (blk_below (g := gb166) (o := .cells #[.int .u64 a0_0, .int .u64 a0_1, .int .u64 a0_2, .string a0_3, .string a0_4] 26 (0, 0)) (by (with_reducible repeat (first | refine blk_drewN ?_ _ | refine blk_drew ?_ | refine blk_alloc ?_ _)); exact BK166.out) hb); have n1_ := Aside0.mk (blk_below (g := gb167) (o := .cells #[.int .u64 a1_0, .int .u64 a1_1, .int .u64 a1_2, .string a1_3, .string a1_4] 26 (0, 0)) (by (with_reducible repeat (first | refine blk_drewN ?_ _ | refine blk_drew ?_ | refine blk_alloc ?_ _)); exact BK167.out) hb); have n2_ := Aside0.mk (below_step (by repeat (first | (with_reducible first | exact HB.out | apply below_alloc | apply pw_below_drewN | apply below_drew1 | refine below_set ?_ GE166.out | refine below_set ?_ GE167.out) | exact HB.out)) hb); clear BK166; clear BK167; clear HB; have BK166 := n0_; have BK167 := n1_; have HB := n2_; clear n0_ n1_ n2_; (try clear hb); (try clear hb2); (try clear hk); (try clear hi); have hcz12_0 : w11.cell? ⟨gb166, 0, none⟩ = some (.int .u64 a0_0) := (blk_cell BK166.out 0).trans rfl; have hcz12_1 : w11.cell? ⟨gb166, 1, none⟩ = some (.int .u64 a0_1) := (blk_cell BK166.out 1).trans rfl; have hcz12_2 : w11.cell? ⟨gb166, 2, none⟩ = some (.int .u64 a0_2) := (blk_cell BK166.out 2).trans rfl; have hcz12_3 : w11.cell? ⟨gb166, 3, none⟩ = some (.string a0_3) := (blk_cell BK166.out 3).trans rfl; have hcz12_4 : w11.cell? ⟨gb166, 4, none⟩ = some (.string a0_4) := (blk_cell BK166.out 4).trans rfl; have hfz12_0 := blk_frozen BK166.out 0; have hfz12_1 := blk_frozen BK166.out 1; have hfz12_2 := blk_frozen BK166.out 2; have hfz12_3 := blk_frozen BK166.out 3; have hfz12_4 := blk_frozen BK166.out 4; have hcz13_0 : w11.cell? ⟨gb167, 0, none⟩ = some (.int .u64 a1_0) := (blk_cell BK167.out 0).trans rfl; have hcz13_1 : w11.cell? ⟨gb167, 1, none⟩ = some (.int .u64 a1_1) := (blk_cell BK167.out 1).trans rfl; have hcz13_2 : w11.cell? ⟨gb167, 2, none⟩ = some (.int .u64 a1_2) := (blk_cell BK167.out 2).trans rfl; have hcz13_3 : w11.cell? ⟨gb167, 3, none⟩ = some (.string a1_3) := (blk_cell BK167.out 3).trans rfl; have hcz13_4 : w11.cell? ⟨gb167, 4, none⟩ = some (.string a1_4) := (blk_cell BK167.out 4).trans rfl; have hfz13_0 := blk_frozen BK167.out 0; have hfz13_1 := blk_frozen BK167.out 1; have hfz13_2 := blk_frozen BK167.out 2; have hfz13_3 := blk_frozen BK167.out 3; have hfz13_4 := blk_frozen BK167.out 4) | ((with_reducible refine gate_callee (f := 85) rfl ?_); refine goesL_ (some 16) rfl rfl Tryd.func85 (by kernel_rfl) rfl #[.string a0_3, .string a1_3] rfl (by (try simp only [List.map_toArray, List.map_cons, List.map_nil]); first | done | rfl | (simp only [List.length_drop, List.length_take]; rfl)) ?_; (with_reducible refine (spec_ComparePre.calls k a0_3 a1_3 t169 _ A5.out).mono ?_); rintro e w14 ⟨rfl, hb⟩; refine ⟨_, rfl, ?_⟩; have n0_ := Aside0.mk (blk_below (g := gb166) (o := .cells #[.int .u64 a0_0, .int .u64 a0_1, .int .u64 a0_2, .string a0_3, .string a0_4] 26 (0, 0)) (by (with_reducible repeat (first | refine blk_drewN ?_ _ | refine blk_drew ?_ | refine blk_alloc ?_ _)); exact BK166.out) hb); have n1_ := Aside0.mk (blk_below (g := gb167) (o := .cells #[.int .u64 a1_0, .int .u64 a1_1, .int .u64 a1_2, .string a1_3, .string a1_4] 26 (0, 0)) (by (with_reducible repeat (first | refine blk_drewN ?_ _ | refine blk_drew ?_ | refine blk_alloc ?_ _)); exact BK167.out) hb); have n2_ := Aside0.mk (below_step (by repeat (first | (with_reducible first | exact HB.out | apply below_alloc | apply pw_below_drewN | apply below_drew1 | refine below_set ?_ GE166.out | refine below_set ?_ GE167.out) | exact HB.out)) hb); clear BK166; clear BK167; clear HB; have BK166 := n0_; have BK167 := n1_; have HB := n2_; clear n0_ n1_ n2_; (try clear hb); (try clear hb2); (try clear hk); (try clear hi)))
  go_ret
  exact ⟨by first | rfl | (simp [errW_none, errW_some] <;> rfl) | (simp [*, errW_none, errW_some] <;> rfl) | (simp [bneNil]; done), by repeat (first | (with_reducible first | exact HB.out | apply below_alloc | apply pw_below_drewN | apply below_drew1 | refine below_set ?_ GE166.out | refine below_set ?_ GE167.out) | exact HB.out)⟩
 ·
  rw [if_neg c4] at H
  have c4b0 : (t168 == 0) = false := beq_eq_false_iff_ne.mpr c4
  have c4b1 : (t168 != 0) = true := bne_iff_ne.mpr c4
  obtain rfl := Option.some.inj H
  go_enter Tryd.func57, Tryd.ntmps57
  go_wp2_with (first | ((with_reducible refine gate_dst (N := 2) rfl ?_); refine box_event ?hg (N := 2) ?hd (cs := #[.int .u64 a0_0, .int .u64 a0_1, .int .u64 a0_2, .string a0_3, .string a0_4]) (t := 26) ?hr ?_; (case hd => rfl); (case hg => rfl); (case hr => first | (go_simp; done) | (go_simp; rfl) | (go_simp; simp [u8w]; done)); intro gb166 hg w15 hbox hb; have n0_ := Aside0.mk (below_step (by repeat (first | (with_reducible first | exact HB.out | apply below_alloc | apply pw_below_drewN | apply below_drew1) | exact HB.out)) hb); have n1_ := Aside0.mk (hbox); have n2_ := Aside0.mk ((by rw [hg]; exact (below_size (by repeat (first | (with_reducible first | exact HB.out | apply below_alloc | apply pw_below_drewN | apply below_drew1) | exact HB.out))) : w.heap.size ≤ gb166)); have n3_ := Aside0.mk ((by rw [hg]; exact (below_size (by repeat (first | (with_reducible first | exact HB.out | apply below_alloc | apply pw_below_drewN | apply below_drew1) | exact HB.out))) : w.heap.size ≤ gb166)); clear HB; have HB := n0_; have BK166 := n1_; have GW166 := n2_; have GE166 := n3_; clear n0_ n1_ n2_ n3_; clear hb hbox hg) | ((with_reducible refine gate_dst (N := 3) rfl ?_); refine box_event ?hg (N := 3) ?hd (cs := #[.int .u64 a1_0, .int .u64 a1_1, .int .u64 a1_2, .string a1_3, .string a1_4]) (t := 26) ?hr ?_; (case hd => rfl); (case hg => rfl); (case hr => first | (go_simp; done) | (go_simp; rfl) | (go_simp; simp [u8w]; done)); intro gb167 hg w16 hbox hb; have n0_ := Aside0.mk (blk_below (g := gb166) (o := .cells #[.int .u64 a0_0, .int .u64 a0_1, .int .u64 a0_2, .string a0_3, .string a0_4] 26 (0, 0)) (by (with_reducible repeat (first | refine blk_drewN ?_ _ | refine blk_drew ?_ | refine blk_alloc ?_ _)); exact BK166.out) hb); have n1_ := Aside0.mk (below_step (by repeat (first | (with_reducible first | exact HB.out | apply below_alloc | apply pw_below_drewN | apply below_drew1 | refine below_set ?_ GE166.out) | exact HB.out)) hb); have n2_ := Aside0.mk (hbox); have n3_ := Aside0.mk ((by rw [hg]; exact (below_size (by repeat (first | (with_reducible first | exact HB.out | apply below_alloc | apply pw_below_drewN | apply below_drew1 | refine below_set ?_ GE166.out) | exact HB.out))) : w.heap.size ≤ gb167)); have n4_ := Aside0.mk ((by rw [hg]; exact (below_size (by repeat (first | (with_reducible first | exact HB.out | apply below_alloc | apply pw_below_drewN | apply below_drew1 | refine below_set ?_ GE166.out) | exact HB.out))) : w.heap.size ≤ gb167)); have n5_ := Aside0.mk ((by rw [hg]; exact Nat.ne_of_lt (blk_lt (g := gb166) (o := .cells #[.int .u64 a0_0, .int .u64 a0_1, .int .u64 a0_2, .string a0_3, .string a0_4] 26 (0, 0)) (by (with_reducible repeat (first | refine blk_drewN ?_ _ | refine blk_drew ?_ | refine blk_alloc ?_ _)); exact BK166.out)) : gb166 ≠ gb167)); have n6_ := Aside0.mk ((by rw [hg]; exact Nat.ne_of_gt (blk_lt (g := gb166) (o := .cells #[.int .u64 a0_0, .int .u64 a0_1, .int .u64 a0_2, .string a0_3, .string a0_4] 26 (0, 0)) (by (with_reducible repeat (first | refine blk_drewN ?_ _ | refine blk_drew ?_ | refine blk_alloc ?_ _)); exact BK166.out)) : gb167 ≠ gb166)); clear BK166; clear HB; have BK166 := n0_; have HB := n1_; have BK167 := n2_; have GW167 := n3_; have GE167 := n4_; have NB166_167 := n5_; have NB167_166 := n6_; clear n0_ n1_ n2_ n3_ n4_ n5_ n6_; clear hb hbox hg; have hnb17 := NB166_167.out; have hnc17 := NB167_166.out; have hcz18_0 : w16.cell? ⟨gb166, 0, none⟩ = some (.int .u64 a0_0) := (blk_cell BK166.out 0).trans rfl; have hcz18_1 : w16.cell? ⟨gb166, 1, none⟩ = some (.int .u64 a0_1) := (blk_cell BK166.out 1).trans rfl; have hcz18_2 : w16.cell? ⟨gb166, 2, none⟩ = some (.int .u64 a0_2) := (blk_cell BK166.out 2).trans rfl; have hcz18_3 : w16.cell? ⟨gb166, 3, none⟩ = some (.string a0_3) := (blk_cell BK166.out 3).trans rfl; have hcz18_4 : w16.cell? ⟨gb166, 4, none⟩ = some (.string a0_4) := (blk_cell BK166.out 4).trans rfl; have hfz18_0 := blk_frozen BK166.out 0; have hfz18_1 := blk_frozen BK166.out 1; have hfz18_2 := blk_frozen BK166.out 2; have hfz18_3 := blk_frozen BK166.out 3; have hfz18_4 := blk_frozen BK166.out 4; have hcz19_0 : w16.cell? ⟨gb167, 0, none⟩ = some (.int .u64 a1_0) := (blk_cell BK167.out 0).trans rfl; have hcz19_1 : w16.cell? ⟨gb167, 1, none⟩ = some (.int .u64 a1_1) := (blk_cell BK167.out 1).trans rfl; have hcz19_2 : w16.cell? ⟨gb167, 2, none⟩ = some (.int .u64 a1_2) := (blk_cell BK167.out 2).trans rfl; have hcz19_3 : w16.cell? ⟨gb167, 3, none⟩ = some (.string a1_3) := (blk_cell BK167.out 3).trans rfl; have hcz19_4 : w16.cell? ⟨gb167, 4, none⟩ = some (.string a1_4) := (blk_cell BK167.out 4).trans rfl; have hfz19_0 := blk_frozen BK167.out 0; have hfz19_1 := blk_frozen BK167.out 1; have hfz19_2 := blk_frozen BK167.out 2; have hfz19_3 := blk_frozen BK167.out 3; have hfz19_4 := blk_frozen BK167.out 4) | ((with_reducible refine gate_callee (f := 39) rfl ?_); refine goesL_ (some 8) rfl rfl Tryd.func39 (by kernel_rfl) rfl #[.agg #[.int .u64 a0_0, .int .u64 a0_1, .int .u64 a0_2, .string a0_3, .string a0_4], .agg #[.int .u64 a1_0, .int .u64 a1_1, .int .u64 a1_2, .string a1_3, .string a1_4], .int .i64 3] rfl (by (try simp only [List.map_toArray, List.map_cons, List.map_nil]); first | done | rfl | (simp only [List.length_drop, List.length_take]; rfl)) ?_; (with_reducible refine (spec_CompareNumbers.calls a0_0 a0_1 a0_2 a0_3 a0_4 a1_0 a1_1 a1_2 a1_3 a1_4 3 t168 _ A3.out).mono ?_); rintro e w20 ⟨rfl, hb⟩; refine ⟨_, rfl, ?_⟩; have n0_ := Aside0.mk (blk_below (g := gb166) (o := .cells #[.int .u64 a0_0, .int .u64 a0_1, .int .u64 a0_2, .string a0_3, .string a0_4] 26 (0, 0)) (by (with_reducible repeat (first | refine blk_drewN ?_ _ | refine blk_drew ?_ | refine blk_alloc ?_ _)); exact BK166.out) hb); have n1_ := Aside0.mk (blk_below (g := gb167) (o := .cells #[.int .u64 a1_0, .int .u64 a1_1, .int .u64 a1_2, .string a1_3, .string a1_4] 26 (0, 0)) (by (with_reducible repeat (first | refine blk_drewN ?_ _ | refine blk_drew ?_ | refine blk_alloc ?_ _)); exact BK167.out) hb); have n2_ := Aside0.mk (below_step (by repeat (first | (with_reducible first | exact HB.out | apply below_alloc | apply pw_below_drewN | apply below_drew1 | refine below_set ?_ GE166.out | refine below_set ?_ GE167.out) | exact HB.out)) hb); clear BK166; clear BK167; clear HB; have BK166 := n0_; have BK167 := n1_; have HB := n2_; clear n0_ n1_ n2_; (try clear hb); (try clear hb2); (try clear hk); (try clear hi)))
  go_ret
  exact ⟨by first | rfl | (simp [errW_none, errW_some] <;> rfl) | (simp [*, errW_none, errW_some] <;> rfl) | (simp [bneNil]; done), by repeat (first | (with_reducible first | exact HB.out | apply below_alloc | apply pw_below_drewN | apply below_drew1 | refine below_set ?_ GE166.out | refine below_set ?_ GE167.out) | exact HB.out)⟩

end Go.Proofs.YtllkoadcpobdaaaDoor.PX
namespace Go.Proofs.YtllkoadcpobdaaaDoor.PX

open Go.RowKit Go.Proofs.YtllkoadcpobdaaaDoorW.PrintWords Go.Proofs.YtllkoadcpobdaaaDoorW.PrintLast Go.Proofs.YtllkoadcpobdaaaDoorW.PrintMore

attribute [local go_sem] max2_int min2_int max_two min_two max_three min_three max_four min_four   -- for this text's walks alone

set_option linter.unusedVariables false

set_option linter.unusedSimpArgs false

def spec_Compares.j0 : Nat → Int → Int → Int → Int → Int → Int → ByteArray → Int → Int → Int → ByteArray → ByteArray → Int → Int → Int → ByteArray → ByteArray → Option (Bool)
  | 0, _, _, _, _, _, _, _, _, _, _, _, _, _, _, _, _, _ => none
  | k + 1, x6, x177000, x177001, x177002, x177003, x177004, x177005, x178000, x178001, x178002, x178003, x178004, x184000, x184001, x184002, x184003, x184004 => if x177000 = 0 then (if x6 = 0 then (if x177001 = 3 then (some true) else ((spec_Compare.f k x178000 x178001 x178002 x178003 x178004 x184000 x184001 x184002 x184003 x184004).bind fun t186 => (some (decide (t186 ≥ 0))))) else (some false)) else (if x177000 = 1 then (some (x6 != 0)) else (if x177000 = 2 then (some (decide (x6 > 0))) else (if x177000 = 3 then ((spec_Compare.f k x178000 x178001 x178002 x178003 x178004 x184000 x184001 x184002 x184003 x184004).bind fun t187 => (some (decide (t187 < 0)))) else (if x177000 = 4 then ((spec_Compare.f k x178000 x178001 x178002 x178003 x178004 x184000 x184001 x184002 x184003 x184004).bind fun t188 => (some (decide (t188 ≥ 0)))) else (if x177000 = 5 then (some (decide (x6 ≤ 0))) else (if x177000 = 6 then ((spec_Compare.f k x178000 x178001 x178002 x178003 x178004 x184000 x184001 x184002 x184003 x184004).bind fun t189 => (if t189 ≥ 0 then ((spec_tildeNumbers.f x177000 x177001 x177002 x177003 x177004 x177005).bind fun t190 => ((spec_CompareNumbers.f x178000 x178001 x178002 x178003 x178004 x184000 x184001 x184002 x184003 x184004 t190).bind fun t191 => (some (t191 == 0)))) else (some false))) else ((spec_Compare.f k x178000 x178001 x178002 x178003 x178004 x184000 x184001 x184002 x184003 x184004).bind fun t192 => (if t192 ≥ 0 then ((spec_caretNumbers.f k x177000 x177001 x177002 x177003 x177004 x177005).bind fun t193 => ((spec_CompareNumbers.f x178000 x178001 x178002 x178003 x178004 x184000 x184001 x184002 x184003 x184004 t193).bind fun t194 => (some (t194 == 0)))) else (some false)))))))))

def spec_Compares.f (k : Nat) (a0_0 : Int) (a0_1 : Int) (a0_2 : Int) (a0_3 : Int) (a0_4 : Int) (a0_5 : ByteArray) (a1_0 : Int) (a1_1 : Int) (a1_2 : Int) (a1_3 : ByteArray) (a1_4 : ByteArray) : Option (Bool) := (spec_Least.f a0_0 a0_1 a0_2 a0_3 a0_4 a0_5).bind fun bt178 => ((spec_CompareNumbers.f a1_0 a1_1 a1_2 a1_3 a1_4 bt178.1 bt178.2.1 bt178.2.2.1 bt178.2.2.2.1 bt178.2.2.2.2 a0_1).bind fun t184 => (if a0_1 = 3 then ((spec_Compare.f k a1_0 a1_1 a1_2 a1_3 a1_4 bt178.1 bt178.2.1 bt178.2.2.1 bt178.2.2.2.1 bt178.2.2.2.2).bind fun t185 => (spec_Compares.j0 k t185 a0_0 a0_1 a0_2 a0_3 a0_4 a0_5 a1_0 a1_1 a1_2 a1_3 a1_4 bt178.1 bt178.2.1 bt178.2.2.1 bt178.2.2.2.1 bt178.2.2.2.2)) else (spec_Compares.j0 k t184 a0_0 a0_1 a0_2 a0_3 a0_4 a0_5 a1_0 a1_1 a1_2 a1_3 a1_4 bt178.1 bt178.2.1 bt178.2.2.1 bt178.2.2.2.1 bt178.2.2.2.2)))

def spec_Compares.T19 : Bool × List (List Nat × List Nat) := (true, [([], []), ([], []), ([0, 1], [0, 1]), ([2], [2]), ([3, 2], [3]), ([4], [4]), ([4], [4]), ([4], [4]), ([7, 4, 4], [4, 7]), ([5, 6, 8, 8, 4], [4, 5, 6, 8]), ([9, 4], [4, 9]), ([4, 10], [4, 10]), ([11, 9, 0, 1, 2, 3, 4, 5, 6, 7, 8, 9, 10, 11], [11])])

def spec_Compares.B19 : List Nat := [0, 0, 3, 7, 15, 31, 31, 31, 159, 511, 1023, 2047, 4095]

theorem spec_Compares.tab19 : rtab .any (opsOf Tryd.f19 19) = spec_Compares.T19 := by kernel_rfl

theorem spec_Compares.bits19 : waitsOk spec_Compares.T19.2 spec_Compares.B19 = true := by kernel_rfl

def spec_Compares.T20 : Bool × List (List Nat × List Nat) := (true, [([], []), ([], []), ([0, 1], [0, 1]), ([2], [2]), ([3, 2], [3]), ([4], [4]), ([4], [4]), ([4], [4]), ([7, 4, 4], [4, 7]), ([5, 6, 8, 8, 4], [4, 5, 6, 8]), ([9, 4], [4, 9]), ([4, 10], [4, 10]), ([11, 9, 0, 1, 2, 3, 4, 5, 6, 7, 8, 9, 10, 11], [11])])

def spec_Compares.B20 : List Nat := [0, 0, 3, 7, 15, 31, 31, 31, 159, 511, 1023, 2047, 4095]

theorem spec_Compares.tab20 : rtab .any (opsOf Tryd.f19 20) = spec_Compares.T20 := by kernel_rfl

theorem spec_Compares.bits20 : waitsOk spec_Compares.T20.2 spec_Compares.B20 = true := by kernel_rfl

set_option maxHeartbeats 80000000 in
set_option maxRecDepth 100000 in
theorem spec_Compares.calls (k : Nat) (a0_0 : Int) (a0_1 : Int) (a0_2 : Int) (a0_3 : Int) (a0_4 : Int) (a0_5 : ByteArray) (a1_0 : Int) (a1_1 : Int) (a1_2 : Int) (a1_3 : ByteArray) (a1_4 : ByteArray) (r : Bool) (w : World) (h : spec_Compares.f k a0_0 a0_1 a0_2 a0_3 a0_4 a0_5 a1_0 a1_1 a1_2 a1_3 a1_4 = some r) :
  Calls Tryd.prog 19 #[.agg #[.int .i64 a0_0, .int .i64 a0_1, .int .u64 a0_2, .int .u64 a0_3, .int .u64 a0_4, .string a0_5], .agg #[.int .u64 a1_0, .int .u64 a1_1, .int .u64 a1_2, .string a1_3, .string a1_4]] w fun e w' => e = .returned (.bool r) ∧ Below w.heap.size w w' := by
 have hu24 := Tryd.underlying24
 have hu26 := Tryd.underlying26
 have HB := Aside0.mk (Below.refl w.heap.size w)
 have H : ((spec_Least.f a0_0 a0_1 a0_2 a0_3 a0_4 a0_5).bind fun bt178 => ((spec_CompareNumbers.f a1_0 a1_1 a1_2 a1_3 a1_4 bt178.1 bt178.2.1 bt178.2.2.1 bt178.2.2.2.1 bt178.2.2.2.2 a0_1).bind fun t184 => (if a0_1 = 3 then ((spec_Compare.f k a1_0 a1_1 a1_2 a1_3 a1_4 bt178.1 bt178.2.1 bt178.2.2.1 bt178.2.2.2.1 bt178.2.2.2.2).bind fun t185 => (spec_Compares.j0 k t185 a0_0 a0_1 a0_2 a0_3 a0_4 a0_5 a1_0 a1_1 a1_2 a1_3 a1_4 bt178.1 bt178.2.1 bt178.2.2.1 bt178.2.2.2.1 bt178.2.2.2.2)) else (spec_Compares.j0 k t184 a0_0 a0_1 a0_2 a0_3 a0_4 a0_5 a1_0 a1_1 a1_2 a1_3 a1_4 bt178.1 bt178.2.1 bt178.2.2.1 bt178.2.2.2.1 bt178.2.2.2.2)))) = some r := h
 clear h
 replace H := Option.bind_eq_some_iff.mp H
 obtain ⟨⟨t178, t179, t180, t181, t182⟩, A30, H⟩ := H
 replace H : ((spec_CompareNumbers.f a1_0 a1_1 a1_2 a1_3 a1_4 t178 t179 t180 t181 t182 a0_1).bind fun t184 => (if a0_1 = 3 then ((spec_Compare.f k a1_0 a1_1 a1_2 a1_3 a1_4 t178 t179 t180 t181 t182).bind fun t185 => (spec_Compares.j0 k t185 a0_0 a0_1 a0_2 a0_3 a0_4 a0_5 a1_0 a1_1 a1_2 a1_3 a1_4 t178 t179 t180 t181 t182)) else (spec_Compares.j0 k t184 a0_0 a0_1 a0_2 a0_3 a0_4 a0_5 a1_0 a1_1 a1_2 a1_3 a1_4 t178 t179 t180 t181 t182))) = some r := H
 have A3 := Aside0.mk A30
 clear A30
 replace H := Option.bind_eq_some_iff.mp H
 obtain ⟨t184, A40, H⟩ := H
 replace H : (if a0_1 = 3 then ((spec_Compare.f k a1_0 a1_1 a1_2 a1_3 a1_4 t178 t179 t180 t181 t182).bind fun t185 => (spec_Compares.j0 k t185 a0_0 a0_1 a0_2 a0_3 a0_4 a0_5 a1_0 a1_1 a1_2 a1_3 a1_4 t178 t179 t180 t181 t182)) else (spec_Compares.j0 k t184 a0_0 a0_1 a0_2 a0_3 a0_4 a0_5 a1_0 a1_1 a1_2 a1_3 a1_4 t178 t179 t180 t181 t182)) = some r := H
 have A4 := Aside0.mk A40
 clear A40
 have HC5 := Aside0.mk H
 clear H
 go_enter Tryd.func19, Tryd.ntmps19
 go_upto_if 16 with (first | ((with_reducible refine gate_dst (N := 2) rfl ?_); refine box_event ?hg (N := 2) ?hd (cs := #[.int .i64 a0_0, .int .i64 a0_1, .int .u64 a0_2, .int .u64 a0_3, .int .u64 a0_4, .string a0_5]) (t := 24) ?hr ?_; (case hd => rfl); (case hg => rfl); (case hr => first | (go_simp; done) | (go_simp; rfl) | (go_simp; simp [u8w]; done)); intro gb176 hg w6 hbox hb; have n0_ := Aside0.mk (below_step (by repeat (first | (with_reducible first | exact HB.out | apply below_alloc | apply pw_below_drewN | apply below_drew1) | exact HB.out)) hb); have n1_ := Aside0.mk (hbox); have n2_ := Aside0.mk ((by rw [hg]; exact (below_size (by repeat (first | (with_reducible first | exact HB.out | apply below_alloc | apply pw_below_drewN | apply below_drew1) | exact HB.out))) : w.heap.size ≤ gb176)); have n3_ := Aside0.mk ((by rw [hg]; exact (below_size (by repeat (first | (with_reducible first | exact HB.out | apply below_alloc | apply pw_below_drewN | apply below_drew1) | exact HB.out))) : w.heap.size ≤ gb176)); clear HB; have HB := n0_; have BK176 := n1_; have GW176 := n2_; have GE176 := n3_; clear n0_ n1_ n2_ n3_; clear hb hbox hg) | ((with_reducible refine gate_dst (N := 3) rfl ?_); refine box_event ?hg (N := 3) ?hd (cs := #[.int .u64 a1_0, .int .u64 a1_1, .int .u64 a1_2, .string a1_3, .string a1_4]) (t := 26) ?hr ?_; (case hd => rfl); (case hg => rfl); (case hr => first | (go_simp; done) | (go_simp; rfl) | (go_simp; simp [u8w]; done)); intro gb177 hg w7 hbox hb; have n0_ := Aside0.mk (blk_below (g := gb176) (o := .cells #[.int .i64 a0_0, .int .i64 a0_1, .int .u64 a0_2, .int .u64 a0_3, .int .u64 a0_4, .string a0_5] 24 (0, 0)) (by (with_reducible repeat (first | refine blk_drewN ?_ _ | refine blk_drew ?_ | refine blk_alloc ?_ _)); exact BK176.out) hb); have n1_ := Aside0.mk (below_step (by repeat (first | (with_reducible first | exact HB.out | apply below_alloc | apply pw_below_drewN | apply below_drew1 | refine below_set ?_ GE176.out) | exact HB.out)) hb); have n2_ := Aside0.mk (hbox); have n3_ := Aside0.mk ((by rw [hg]; exact (below_size (by repeat (first | (with_reducible first | exact HB.out | apply below_alloc | apply pw_below_drewN | apply below_drew1 | refine below_set ?_ GE176.out) | exact HB.out))) : w.heap.size ≤ gb177)); have n4_ := Aside0.mk ((by rw [hg]; exact (below_size (by repeat (first | (with_reducible first | exact HB.out | apply below_alloc | apply pw_below_drewN | apply below_drew1 | refine below_set ?_ GE176.out) | exact HB.out))) : w.heap.size ≤ gb177)); have n5_ := Aside0.mk ((by rw [hg]; exact Nat.ne_of_lt (blk_lt (g := gb176) (o := .cells #[.int .i64 a0_0, .int .i64 a0_1, .int .u64 a0_2, .int .u64 a0_3, .int .u64 a0_4, .string a0_5] 24 (0, 0)) (by (with_reducible repeat (first | refine blk_drewN ?_ _ | refine blk_drew ?_ | refine blk_alloc ?_ _)); exact BK176.out)) : gb176 ≠ gb177)); have n6_ := Aside0.mk ((by rw [hg]; exact Nat.ne_of_gt (blk_lt (g := gb176) (o := .cells #[.int .i64 a0_0, .int .i64 a0_1, .int .u64 a0_2, .int .u64 a0_3, .int .u64 a0_4, .string a0_5] 24 (0, 0)) (by (with_reducible repeat (first | refine blk_drewN ?_ _ | refine blk_drew ?_ | refine blk_alloc ?_ _)); exact BK176.out)) : gb177 ≠ gb176)); clear BK176; clear HB; have BK176 := n0_; have HB := n1_; have BK177 := n2_; have GW177 := n3_; have GE177 := n4_; have NB176_177 := n5_; have NB177_176 := n6_; clear n0_ n1_ n2_ n3_ n4_ n5_ n6_; clear hb hbox hg; have hnb8 := NB176_177.out; have hnc8 := NB177_176.out; have hcz9_0 : w7.cell? ⟨gb176, 0, none⟩ = some (.int .i64 a0_0) := (blk_cell BK176.out 0).trans rfl; have hcz9_1 : w7.cell? ⟨gb176, 1, none⟩ = some (.int .i64 a0_1) := (blk_cell BK176.out 1).trans rfl; have hcz9_2 : w7.cell? ⟨gb176, 2, none⟩ = some (.int .u64 a0_2) := (blk_cell BK176.out 2).trans rfl; have hcz9_3 : w7.cell? ⟨gb176, 3, none⟩ = some (.int .u64 a0_3) := (blk_cell BK176.out 3).trans rfl; have hcz9_4 : w7.cell? ⟨gb176, 4, none⟩ = some (.int .u64 a0_4) := (blk_cell BK176.out 4).trans rfl; have hcz9_5 : w7.cell? ⟨gb176, 5, none⟩ = some (.string a0_5) := (blk_cell BK176.out 5).trans rfl; have hfz9_0 := blk_frozen BK176.out 0; have hfz9_1 := blk_frozen BK176.out 1; have hfz9_2 := blk_frozen BK176.out 2; have hfz9_3 := blk_frozen BK176.out 3; have hfz9_4 := blk_frozen BK176.out 4; have hfz9_5 := blk_frozen BK176.out 5) | ((with_reducible refine gate_callee (f := 56) rfl ?_); refine goesL_ (some 8) rfl rfl Tryd.func56 (by kernel_rfl) rfl #[.agg #[.int .i64 a0_0, .int .i64 a0_1, .int .u64 a0_2, .int .u64 a0_3, .int .u64 a0_4, .string a0_5]] rfl (by (try simp only [List.map_toArray, List.map_cons, List.map_nil]); first | done | rfl | (simp only [List.length_drop, List.length_take]; rfl)) ?_; (with_reducible refine (spec_Least.calls a0_0 a0_1 a0_2 a0_3 a0_4 a0_5 t178 t179 t180 t181 t182 _ A3.out).mono ?_); rintro e w10 ⟨rfl, hb⟩; refine ⟨_, rfl, ?_⟩; have n0_ := Aside0.mk (blk_below (g := gb176) (o := .cells #[.int .i64 a0_0, .int .i64 a0_1, .int .u64 a0_2, .int .u64 a0_3, .int .u64 a0_4, .string a0_5] 24 (0, 0)) (by (with_reducible repeat (first | refine blk_drewN ?_ _ | refine blk_drew ?_ | refine blk_alloc ?_ _)); exact BK176.out) hb); have n1_ := Aside0.mk (blk_below (g := gb177) (o := .cells #[.int .u64 a1_0, .int .u64 a1_1, .int .u64 a1_2, .string a1_3, .string a1_4] 26 (0, 0)) (by (with_reducible repeat (first | refine blk_drewN ?_ _ | refine blk_drew ?_ | refine blk_alloc ?_ _)); exact BK177.out) hb); have n2_ := Aside0.mk (below_step (by repeat (first | (with_reducible first | exact HB.out | apply below_alloc | apply pw_below_drewN | apply below_drew1 | refine below_set ?_ GE176.out | refine below_set ?_ GE177.out) | exact HB.out)) hb); clear BK176; clear BK177; clear HB; have BK176 := n0_; have BK177 := n1_; have HB := n2_; clear n0_ n1_ n2_; (try clear hb); (try clear hb2); (try clear hk); (try clear hi)) | ((with_reducible refine gate_dst (N := 5) rfl ?_); refine box_event ?hg (N := 5) ?hd (cs := #[.int .u64 0, .int .u64 0, .int .u64 0, .string (⟨#[]⟩ : ByteArray), .string (⟨#[]⟩ : ByteArray)]) (t := 26) ?hr ?_; (case hd => rfl); (case hg => rfl); (case hr => first | (go_simp; done) | (go_simp; rfl) | (go_simp; simp [u8w]; done)); intro gb183 hg w11 hbox hb; have n0_ := Aside0.mk (blk_below (g := gb176) (o := .cells #[.int .i64 a0_0, .int .i64 a0_1, .int .u64 a0_2, .int .u64 a0_3, .int .u64 a0_4, .string a0_5] 24 (0, 0)) (by (with_reducible repeat (first | refine blk_drewN ?_ _ | refine blk_drew ?_ | refine blk_alloc ?_ _)); exact BK176.out) hb); have n1_ := Aside0.mk (blk_below (g := gb177) (o := .cells #[.int .u64 a1_0, .int .u64 a1_1, .int .u64 a1_2, .string a1_3, .string a1_4] 26 (0, 0)) (by (with_reducible repeat (first | refine blk_drewN ?_ _ | refine blk_drew ?_ | refine blk_alloc ?_ _)); exact BK177.out) hb); have n2_ := Aside0.mk (below_step (by repeat (first | (with_reducible first | exact HB.out | apply below_alloc | apply pw_below_drewN | apply below_drew1 | refine below_set ?_ GE176.out | refine below_set ?_ GE177.out) | exact HB.out)) hb); have n3_ := Aside0.mk (hbox); have n4_ := Aside0.mk ((by rw [hg]; exact (below_size (by repeat (first | (with_reducible first | exact HB.out | apply below_alloc | apply pw_below_drewN | apply below_drew1 | refine below_set ?_ GE176.out | refine below_set ?_ GE177.out) | exact HB.out))) : w.heap.size ≤ gb183)); have n5_ := Aside0.mk ((by rw [hg]; exact (below_size (by repeat (first | (with_reducible first | exact HB.out | apply below_alloc | apply pw_below_drewN | apply below_drew1 | refine below_set ?_ GE176.out | refine below_set ?_ GE177.out) | exact HB.out))) : w.heap.size ≤ gb183)); have n6_ := Aside0.mk ((by rw [hg]; exact Nat.ne_of_lt (blk_lt (g := gb176) (o := .cells #[.int .i64 a0_0, .int .i64 a0_1, .int .u64 a0_2, .int .u64 a0_3, .int .u64 a0_4, .string a0_5] 24 (0, 0)) (by (with_reducible repeat (first | refine blk_drewN ?_ _ | refine blk_drew ?_ | refine blk_alloc ?_ _)); exact BK176.out)) : gb176 ≠ gb183)); have n7_ := Aside0.mk ((by rw [hg]; exact Nat.ne_of_gt (blk_lt (g := gb176) (o := .cells #[.int .i64 a0_0, .int .i64 a0_1, .int .u64 a0_2, .int .u64 a0_3, .int .u64 a0_4, .string a0_5] 24 (0, 0)) (by (with_reducible repeat (first | refine blk_drewN ?_ _ | refine blk_drew ?_ | refine blk_alloc ?_ _)); exact BK176.out)) : gb183 ≠ gb176)); have n8_ := Aside0.mk ((by rw [hg]; exact Nat.ne_of_lt (blk_lt (g := gb177) (o := .cells #[.int .u64 a1_0, .int .u64 a1_1, .int .u64 a1_2, .string a1_3, .string a1_4] 26 (0, 0)) (by (with_reducible repeat (first | refine blk_drewN ?_ _ | refine blk_drew ?_ | refine blk_alloc ?_ _)); exact BK177.out)) : gb177 ≠ gb183)); have n9_ := Aside0.mk ((by rw [hg]; exact Nat.ne_of_gt (blk_lt (g := gb177) (o := .cells #[.int .u64 a1_0, .int .u64 a1_1, .int .u64 a1_2, .string a1_3, .string a1_4] 26 (0, 0)) (by (with_reducible repeat (first | refine blk_drewN ?_ _ | refine blk_drew ?_ | refine blk_alloc ?_ _)); exact BK177.out)) : gb183 ≠ gb177)); clear BK176; clear BK177; clear HB; have BK176 := n0_; have BK177 := n1_; have HB := n2_; have BK183 := n3_; have GW183 := n4_; have GE183 := n5_; have NB176_183 := n6_; have NB183_176 := n7_; have NB177_183 := n8_; have NB183_177 := n9_; clear n0_ n1_ n2_ n3_ n4_ n5_ n6_ n7_ n8_ n9_; clear hb hbox hg; have hnb12 := NB183_176.out; have hnc12 := NB176_183.out; have hnb13 := NB183_177.out; have hnc13 := NB177_183.out; have hcz14_0 : w11.cell? ⟨gb183, 0, none⟩ = some (.int .u64 0) := (blk_cell BK183.out 0).trans rfl; have hcz14_1 : w11.cell? ⟨gb183, 1, none⟩ = some (.int .u64 0) := (blk_cell BK183.out 1).trans rfl; have hcz14_2 : w11.cell? ⟨gb183, 2, none⟩ = some (.int .u64 0) := (blk_cell BK183.out 2).trans rfl; have hcz14_3 : w11.cell? ⟨gb183, 3, none⟩ = some (.string (⟨#[]⟩ : ByteArray)) := (blk_cell BK183.out 3).trans rfl; have hcz14_4 : w11.cell? ⟨gb183, 4, none⟩ = some (.string (⟨#[]⟩ : ByteArray)) := (blk_cell BK183.out 4).trans rfl; have hfz14_0 := blk_frozen BK183.out 0; have hfz14_1 := blk_frozen BK183.out 1; have hfz14_2 := blk_frozen BK183.out 2; have hfz14_3 := blk_frozen BK183.out 3; have hfz14_4 := blk_frozen BK183.out 4; have hcz15_0 : w11.cell? ⟨gb177, 0, none⟩ = some (.int .u64 a1_0) := (blk_cell BK177.out 0).trans rfl; have hcz15_1 : w11.cell? ⟨gb177, 1, none⟩ = some (.int .u64 a1_1) := (blk_cell BK177.out 1).trans rfl; have hcz15_2 : w11.cell? ⟨gb177, 2, none⟩ = some (.int .u64 a1_2) := (blk_cell BK177.out 2).trans rfl; have hcz15_3 : w11.cell? ⟨gb177, 3, none⟩ = some (.string a1_3) := (blk_cell BK177.out 3).trans rfl; have hcz15_4 : w11.cell? ⟨gb177, 4, none⟩ = some (.string a1_4) := (blk_cell BK177.out 4).trans rfl; have hfz15_0 := blk_frozen BK177.out 0; have hfz15_1 := blk_frozen BK177.out 1; have hfz15_2 := blk_frozen BK177.out 2; have hfz15_3 := blk_frozen BK177.out 3; have hfz15_4 := blk_frozen BK177.out 4; have hcz16_0 : w11.cell? ⟨gb176, 0, none⟩ = some (.int .i64 a0_0) := (blk_cell BK176.out 0).trans rfl; have hcz16_1 : w11.cell? ⟨gb176, 1, none⟩ = some (.int .i64 a0_1) := (blk_cell BK176.out 1).trans rfl; have hcz16_2 : w11.cell? ⟨gb176, 2, none⟩ = some (.int .u64 a0_2) := (blk_cell BK176.out 2).trans rfl; have hcz16_3 : w11.cell? ⟨gb176, 3, none⟩ = some (.int .u64 a0_3) := (blk_cell BK176.out 3).trans rfl; have hcz16_4 : w11.cell? ⟨gb176, 4, none⟩ = some (.int .u64 a0_4) := (blk_cell BK176.out 4).trans rfl; have hcz16_5 : w11.cell? ⟨gb176, 5, none⟩ = some (.string a0_5) := (blk_cell BK176.out 5).trans rfl; have hfz16_0 := blk_frozen BK176.out 0; have hfz16_1 := blk_frozen BK176.out 1; have hfz16_2 := blk_frozen BK176.out 2; have hfz16_3 := blk_frozen BK176.out 3; have hfz16_4 := blk_frozen BK176.out 4; have hfz16_5 := blk_frozen BK176.out 5) | ((with_reducible refine gate_callee (f := 39) rfl ?_); refine goesL_ (some 13) rfl rfl Tryd.func39 (by kernel_rfl) rfl #[.agg #[.int .u64 a1_0, .int .u64 a1_1, .int .u64 a1_2, .string a1_3, .string a1_4], .agg #[.int .u64 t178, .int .u64 t179, .int .u64 t180, .string t181, .string t182], .int .i64 a0_1] rfl (by (try simp only [List.map_toArray, List.map_cons, List.map_nil]); first | done | rfl | (simp only [List.length_drop, List.length_take]; rfl)) ?_; (with_reducible refine (spec_CompareNumbers.calls a1_0 a1_1 a1_2 a1_3 a1_4 t178 t179 t180 t181 t182 a0_1 t184 _ A4.out).mono ?_); rintro e w17 ⟨rfl, hb⟩; refine ⟨_, rfl, ?_⟩; have n0_ := Aside0.mk (blk_below (g := gb176) (o := .cells #[.int .i64 a0_0, .int .i64 a0_1, .int .u64 a0_2, .int .u64 a0_3, .int .u64 a0_4, .string a0_5] 24 (0, 0)) (by (with_reducible repeat (first | refine blk_drewN ?_ _ | refine blk_drew ?_ | refine blk_alloc ?_ _)); refine blk_far ?_ NB176_183.out _; (with_reducible repeat (first | refine blk_drewN ?_ _ | refine blk_drew ?_ | refine blk_alloc ?_ _)); refine blk_far ?_ NB176_183.out _; (with_reducible repeat (first | refine blk_drewN ?_ _ | refine blk_drew ?_ | refine blk_alloc ?_ _)); refine blk_far ?_ NB176_183.out _; (with_reducible repeat (first | refine blk_drewN ?_ _ | refine blk_drew ?_ | refine blk_alloc ?_ _)); refine blk_far ?_ NB176_183.out _; (with_reducible repeat (first | refine blk_drewN ?_ _ | refine blk_drew ?_ | refine blk_alloc ?_ _)); refine blk_far ?_ NB176_183.out _; (with_reducible repeat (first | refine blk_drewN ?_ _ | refine blk_drew ?_ | refine blk_alloc ?_ _)); exact BK176.out) hb); have n1_ := Aside0.mk (blk_below (g := gb177) (o := .cells #[.int .u64 a1_0, .int .u64 a1_1, .int .u64 a1_2, .string a1_3, .string a1_4] 26 (0, 0)) (by (with_reducible repeat (first | refine blk_drewN ?_ _ | refine blk_drew ?_ | refine blk_alloc ?_ _)); refine blk_far ?_ NB177_183.out _; (with_reducible repeat (first | refine blk_drewN ?_ _ | refine blk_drew ?_ | refine blk_alloc ?_ _)); refine blk_far ?_ NB177_183.out _; (with_reducible repeat (first | refine blk_drewN ?_ _ | refine blk_drew ?_ | refine blk_alloc ?_ _)); refine blk_far ?_ NB177_183.out _; (with_reducible repeat (first | refine blk_drewN ?_ _ | refine blk_drew ?_ | refine blk_alloc ?_ _)); refine blk_far ?_ NB177_183.out _; (with_reducible repeat (first | refine blk_drewN ?_ _ | refine blk_drew ?_ | refine blk_alloc ?_ _)); refine blk_far ?_ NB177_183.out _; (with_reducible repeat (first | refine blk_drewN ?_ _ | refine blk_drew ?_ | refine blk_alloc ?_ _)); exact BK177.out) hb); have n2_ := Aside0.mk (blk_below (g := gb183) (o := .cells #[.int .u64 t178, .int .u64 t179, .int .u64 t180, .string t181, .string t182] 26 (0, 0)) (by (with_reducible repeat (first | refine blk_drewN ?_ _ | refine blk_drew ?_ | refine blk_alloc ?_ _)); refine blk_put (cs := #[.int .u64 t178, .int .u64 t179, .int .u64 t180, .string t181, .string (⟨#[]⟩ : ByteArray)]) ?_ 4 _ rfl; (with_reducible repeat (first | refine blk_drewN ?_ _ | refine blk_drew ?_ | refine blk_alloc ?_ _)); refine blk_put (cs := #[.int .u64 t178, .int .u64 t179, .int .u64 t180, .string (⟨#[]⟩ : ByteArray), .string (⟨#[]⟩ : ByteArray)]) ?_ 3 _ rfl; (with_reducible repeat (first | refine blk_drewN ?_ _ | refine blk_drew ?_ | refine blk_alloc ?_ _)); refine blk_put (cs := #[.int .u64 t178, .int .u64 t179, .int .u64 0, .string (⟨#[]⟩ : ByteArray), .string (⟨#[]⟩ : ByteArray)]) ?_ 2 _ rfl; (with_reducible repeat (first | refine blk_drewN ?_ _ | refine blk_drew ?_ | refine blk_alloc ?_ _)); refine blk_put (cs := #[.int .u64 t178, .int .u64 0, .int .u64 0, .string (⟨#[]⟩ : ByteArray), .string (⟨#[]⟩ : ByteArray)]) ?_ 1 _ rfl; (with_reducible repeat (first | refine blk_drewN ?_ _ | refine blk_drew ?_ | refine blk_alloc ?_ _)); refine blk_put (cs := #[.int .u64 0, .int .u64 0, .int .u64 0, .string (⟨#[]⟩ : ByteArray), .string (⟨#[]⟩ : ByteArray)]) ?_ 0 _ rfl; (with_reducible repeat (first | refine blk_drewN ?_ _ | refine blk_drew ?_ | refine blk_alloc ?_ _)); exact BK183.out) hb); have n3_ := Aside0.mk (below_step (by repeat (first | (with_reducible first | exact HB.out | apply below_alloc | apply pw_below_drewN | apply below_drew1 | refine below_set ?_ GE176.out | refine below_set ?_ GE177.out | refine below_set ?_ GE183.out) | exact HB.out)) hb); clear BK176; clear BK177; clear BK183; clear HB; have BK176 := n0_; have BK177 := n1_; have BK183 := n2_; have HB := n3_; clear n0_ n1_ n2_ n3_; (try clear hb); (try clear hb2); (try clear hk); (try clear hi); have hcz18_0 : w17.cell? ⟨gb176, 0, none⟩ = some (.int .i64 a0_0) := (blk_cell BK176.out 0).trans rfl; have hcz18_1 : w17.cell? ⟨gb176, 1, none⟩ = some (.int .i64 a0_1) := (blk_cell BK176.out 1).trans rfl; have hcz18_2 : w17.cell? ⟨gb176, 2, none⟩ = some (.int .u64 a0_2) := (blk_cell BK176.out 2).trans rfl; have hcz18_3 : w17.cell? ⟨gb176, 3, none⟩ = some (.int .u64 a0_3) := (blk_cell BK176.out 3).trans rfl; have hcz18_4 : w17.cell? ⟨gb176, 4, none⟩ = some (.int .u64 a0_4) := (blk_cell BK176.out 4).trans rfl; have hcz18_5 : w17.cell? ⟨gb176, 5, none⟩ = some (.string a0_5) := (blk_cell BK176.out 5).trans rfl; have hfz18_0 := blk_frozen BK176.out 0; have hfz18_1 := blk_frozen BK176.out 1; have hfz18_2 := blk_frozen BK176.out 2; have hfz18_3 := blk_frozen BK176.out 3; have hfz18_4 := blk_frozen BK176.out 4; have hfz18_5 := blk_frozen BK176.out 5))
 (try simp only [Act.put, List.setIfInBounds_toArray, List.set_cons_zero, List.set_cons_succ])
 go_cut [6] (fun v6 wc => ∃ (kq : Nat) (x6_4 : Int), v6 = .int .i64 x6_4 ∧ Aside0 (spec_Compares.j0 kq x6_4 a0_0 a0_1 a0_2 a0_3 a0_4 a0_5 a1_0 a1_1 a1_2 a1_3 a1_4 t178 t179 t180 t181 t182 = some r) ∧ Aside0 (kq ≤ k) ∧ Aside0 (wc.heap[gb176]? = some (.cells #[.int .i64 a0_0, .int .i64 a0_1, .int .u64 a0_2, .int .u64 a0_3, .int .u64 a0_4, .string a0_5] 24 (0, 0))) ∧ Aside0 (wc.heap[gb177]? = some (.cells #[.int .u64 a1_0, .int .u64 a1_1, .int .u64 a1_2, .string a1_3, .string a1_4] 26 (0, 0))) ∧ Aside0 (wc.heap[gb183]? = some (.cells #[.int .u64 t178, .int .u64 t179, .int .u64 t180, .string t181, .string t182] 26 (0, 0))) ∧ Aside0 (Below w.heap.size w wc))
 case first =>
  have H := HC5.out
  clear HC5
  by_cases c19 : a0_1 = 3
  ·
   rw [if_pos c19] at H
   have c19b0 : (a0_1 == 3) = true := beq_iff_eq.mpr c19
   have c19b1 : (a0_1 != 3) = false := bne_eq_false_iff_eq.mpr c19
   clear c19
   (first | rw [c19b0] | (simp only [i64_w, i32_w]; rw [c19b0]) | skip)
   replace H := Option.bind_eq_some_iff.mp H
   obtain ⟨t185, A200, H⟩ := H
   replace H : (spec_Compares.j0 k t185 a0_0 a0_1 a0_2 a0_3 a0_4 a0_5 a1_0 a1_1 a1_2 a1_3 a1_4 t178 t179 t180 t181 t182) = some r := H
   have A20 := Aside0.mk A200
   clear A200
   have H' := Aside0.mk H
   clear H
   have hnb21 := NB177_176.out
   have hnc21 := NB176_177.out
   have hnb22 := NB177_183.out
   have hnc22 := NB183_177.out
   have hcz23_0 : w17.cell? ⟨gb177, 0, none⟩ = some (.int .u64 a1_0) := (blk_cell BK177.out 0).trans rfl
   have hcz23_1 : w17.cell? ⟨gb177, 1, none⟩ = some (.int .u64 a1_1) := (blk_cell BK177.out 1).trans rfl
   have hcz23_2 : w17.cell? ⟨gb177, 2, none⟩ = some (.int .u64 a1_2) := (blk_cell BK177.out 2).trans rfl
   have hcz23_3 : w17.cell? ⟨gb177, 3, none⟩ = some (.string a1_3) := (blk_cell BK177.out 3).trans rfl
   have hcz23_4 : w17.cell? ⟨gb177, 4, none⟩ = some (.string a1_4) := (blk_cell BK177.out 4).trans rfl
   have hfz23_0 := blk_frozen BK177.out 0
   have hfz23_1 := blk_frozen BK177.out 1
   have hfz23_2 := blk_frozen BK177.out 2
   have hfz23_3 := blk_frozen BK177.out 3
   have hfz23_4 := blk_frozen BK177.out 4
   have hnb24 := NB183_176.out
   have hnc24 := NB176_183.out
   have hcz25_0 : w17.cell? ⟨gb183, 0, none⟩ = some (.int .u64 t178) := (blk_cell BK183.out 0).trans rfl
   have hcz25_1 : w17.cell? ⟨gb183, 1, none⟩ = some (.int .u64 t179) := (blk_cell BK183.out 1).trans rfl
   have hcz25_2 : w17.cell? ⟨gb183, 2, none⟩ = some (.int .u64 t180) := (blk_cell BK183.out 2).trans rfl
   have hcz25_3 : w17.cell? ⟨gb183, 3, none⟩ = some (.string t181) := (blk_cell BK183.out 3).trans rfl
   have hcz25_4 : w17.cell? ⟨gb183, 4, none⟩ = some (.string t182) := (blk_cell BK183.out 4).trans rfl
   have hfz25_0 := blk_frozen BK183.out 0
   have hfz25_1 := blk_frozen BK183.out 1
   have hfz25_2 := blk_frozen BK183.out 2
   have hfz25_3 := blk_frozen BK183.out 3
   have hfz25_4 := blk_frozen BK183.out 4
   go_wp2_with (first | ((with_reducible refine gate_callee (f := 57) rfl ?_); refine goesL_ (some 19) rfl rfl Tryd.func57 (by kernel_rfl) rfl #[.agg #[.int .u64 a1_0, .int .u64 a1_1, .int .u64 a1_2, .string a1_3, .string a1_4], .agg #[.int .u64 t178, .int .u64 t179, .int .u64 t180, .string t181, .string t182]] rfl (by (try simp only [List.map_toArray, List.map_cons, List.map_nil]); first | done | rfl | (simp only [List.length_drop, List.length_take]; rfl)) ?_; (with_reducible refine (spec_Compare.calls k a1_0 a1_1 a1_2 a1_3 a1_4 t178 t179 t180 t181 t182 t185 _ A20.out).mono ?_); rintro e w26 ⟨rfl, hb⟩; refine ⟨_, rfl, ?_⟩; have n0_ := Aside0.mk (blk_below (g := gb176) (o := .cells #[.int .i64 a0_0, .int .i64 a0_1, .int .u64 a0_2, .int .u64 a0_3, .int .u64 a0_4, .string a0_5] 24 (0, 0)) (by (with_reducible repeat (first | refine blk_drewN ?_ _ | refine blk_drew ?_ | refine blk_alloc ?_ _)); exact BK176.out) hb); have n1_ := Aside0.mk (blk_below (g := gb177) (o := .cells #[.int .u64 a1_0, .int .u64 a1_1, .int .u64 a1_2, .string a1_3, .string a1_4] 26 (0, 0)) (by (with_reducible repeat (first | refine blk_drewN ?_ _ | refine blk_drew ?_ | refine blk_alloc ?_ _)); exact BK177.out) hb); have n2_ := Aside0.mk (blk_below (g := gb183) (o := .cells #[.int .u64 t178, .int .u64 t179, .int .u64 t180, .string t181, .string t182] 26 (0, 0)) (by (with_reducible repeat (first | refine blk_drewN ?_ _ | refine blk_drew ?_ | refine blk_alloc ?_ _)); exact BK183.out) hb); have n3_ := Aside0.mk (below_step (by repeat (first | (with_reducible first | exact HB.out | apply below_alloc | apply pw_below_drewN | apply below_drew1 | refine below_set ?_ GE176.out | refine below_set ?_ GE177.out | refine below_set ?_ GE183.out) | exact HB.out)) hb); clear BK176; clear BK177; clear BK183; clear HB; have BK176 := n0_; have BK177 := n1_; have BK183 := n2_; have HB := n3_; clear n0_ n1_ n2_ n3_; (try clear hb); (try clear hb2); (try clear hk); (try clear hi)))
   go_meet
   case rel => exact ⟨_, (t185), (by first | rfl | (simp; done) | (simp [*]; done)), H', ⟨by first | omega | exact Nat.le_refl _⟩, ⟨by (with_reducible repeat (first | refine blk_drewN ?_ _ | refine blk_drew ?_ | refine blk_alloc ?_ _)); exact BK176.out⟩, ⟨by (with_reducible repeat (first | refine blk_drewN ?_ _ | refine blk_drew ?_ | refine blk_alloc ?_ _)); exact BK177.out⟩, ⟨by (with_reducible repeat (first | refine blk_drewN ?_ _ | refine blk_drew ?_ | refine blk_alloc ?_ _)); exact BK183.out⟩, ⟨by repeat (first | (with_reducible first | exact HB.out | apply below_alloc | apply pw_below_drewN | apply below_drew1 | refine below_set ?_ GE176.out | refine below_set ?_ GE177.out | refine below_set ?_ GE183.out) | exact HB.out)⟩⟩
  ·
   rw [if_neg c19] at H
   have c19b0 : (a0_1 == 3) = false := beq_eq_false_iff_ne.mpr c19
   have c19b1 : (a0_1 != 3) = true := bne_iff_ne.mpr c19
   (first | rw [c19b0] | (simp only [i64_w, i32_w]; rw [c19b0]) | skip)
   have H' := Aside0.mk H
   clear H
   go_wp2
   go_meet
   case rel => exact ⟨_, (t184), (by first | rfl | (simp; done) | (simp [*]; done)), H', ⟨by first | omega | exact Nat.le_refl _⟩, ⟨by (with_reducible repeat (first | refine blk_drewN ?_ _ | refine blk_drew ?_ | refine blk_alloc ?_ _)); exact BK176.out⟩, ⟨by (with_reducible repeat (first | refine blk_drewN ?_ _ | refine blk_drew ?_ | refine blk_alloc ?_ _)); exact BK177.out⟩, ⟨by (with_reducible repeat (first | refine blk_drewN ?_ _ | refine blk_drew ?_ | refine blk_alloc ?_ _)); exact BK183.out⟩, ⟨by repeat (first | (with_reducible first | exact HB.out | apply below_alloc | apply pw_below_drewN | apply below_drew1 | refine below_set ?_ GE176.out | refine below_set ?_ GE177.out | refine below_set ?_ GE183.out) | exact HB.out)⟩⟩
 case rest =>
  clear HC5
  try clear c1
  try clear c2
  try clear p2
  try clear c3
  try clear c5
  try clear c8
  try clear c12
  try clear c13
  try clear c19
  try clear c19b0
  try clear c19b1
  try clear c21
  try clear c22
  try clear c24
  try clear hcz14_0
  try clear hcz14_1
  try clear hcz14_2
  try clear hcz14_3
  try clear hcz14_4
  try clear hcz15_0
  try clear hcz15_1
  try clear hcz15_2
  try clear hcz15_3
  try clear hcz15_4
  try clear hcz16_0
  try clear hcz16_1
  try clear hcz16_2
  try clear hcz16_3
  try clear hcz16_4
  try clear hcz16_5
  try clear hcz18_0
  try clear hcz18_1
  try clear hcz18_2
  try clear hcz18_3
  try clear hcz18_4
  try clear hcz18_5
  try clear hcz23_0
  try clear hcz23_1
  try clear hcz23_2
  try clear hcz23_3
  try clear hcz23_4
  try clear hcz25_0
  try clear hcz25_1
  try clear hcz25_2
  try clear hcz25_3
  try clear hcz25_4
  try clear hcz9_0
  try clear hcz9_1
  try clear hcz9_2
  try clear hcz9_3
  try clear hcz9_4
  try clear hcz9_5
  try clear hfz14_0
  try clear hfz14_1
  try clear hfz14_2
  try clear hfz14_3
  try clear hfz14_4
  try clear hfz15_0
  try clear hfz15_1
  try clear hfz15_2
  try clear hfz15_3
  try clear hfz15_4
  try clear hfz16_0
  try clear hfz16_1
  try clear hfz16_2
  try clear hfz16_3
  try clear hfz16_4
  try clear hfz16_5
  try clear hfz18_0
  try clear hfz18_1
  try clear hfz18_2
  try clear hfz18_3
  try clear hfz18_4
  try clear hfz18_5
  try clear hfz23_0
  try clear hfz23_1
  try clear hfz23_2
  try clear hfz23_3
  try clear hfz23_4
  try clear hfz25_0
  try clear hfz25_1
  try clear hfz25_2
  try clear hfz25_3
  try clear hfz25_4
  try clear hfz9_0
  try clear hfz9_1
  try clear hfz9_2
  try clear hfz9_3
  try clear hfz9_4
  try clear hfz9_5
  obtain ⟨kq, x6_4, rfl, HA, HJ4, BK176, BK177, BK183, HB⟩ := hcut
  cases kq with
  | zero => exact absurd HA.out (by simp [spec_Compares.j0])
  | succ kj4 =>
   have H := HA.out
   clear HA
   simp only [spec_Compares.j0] at H
   by_cases c27 : a0_0 = 0
   ·
    rw [if_pos c27] at H
    have c27b0 : (a0_0 == 0) = true := beq_iff_eq.mpr c27
    have c27b1 : (a0_0 != 0) = false := bne_eq_false_iff_eq.mpr c27
    clear c27
    by_cases c28 : x6_4 = 0
    ·
     rw [if_pos c28] at H
     have c28b0 : (x6_4 == 0) = true := beq_iff_eq.mpr c28
     have c28b1 : (x6_4 != 0) = false := bne_eq_false_iff_eq.mpr c28
     clear c28
     by_cases c29 : a0_1 = 3
     ·
      rw [if_pos c29] at H
      have c29b0 : (a0_1 == 3) = true := beq_iff_eq.mpr c29
      have c29b1 : (a0_1 != 3) = false := bne_eq_false_iff_eq.mpr c29
      clear c29
      obtain rfl := Option.some.inj H
      have hnb30 := NB176_177.out
      have hnc30 := NB177_176.out
      have hnb31 := NB176_183.out
      have hnc31 := NB183_176.out
      have hcz32_0 : wc.cell? ⟨gb176, 0, none⟩ = some (.int .i64 a0_0) := (blk_cell BK176.out 0).trans rfl
      have hcz32_1 : wc.cell? ⟨gb176, 1, none⟩ = some (.int .i64 a0_1) := (blk_cell BK176.out 1).trans rfl
      have hcz32_2 : wc.cell? ⟨gb176, 2, none⟩ = some (.int .u64 a0_2) := (blk_cell BK176.out 2).trans rfl
      have hcz32_3 : wc.cell? ⟨gb176, 3, none⟩ = some (.int .u64 a0_3) := (blk_cell BK176.out 3).trans rfl
      have hcz32_4 : wc.cell? ⟨gb176, 4, none⟩ = some (.int .u64 a0_4) := (blk_cell BK176.out 4).trans rfl
      have hcz32_5 : wc.cell? ⟨gb176, 5, none⟩ = some (.string a0_5) := (blk_cell BK176.out 5).trans rfl
      have hfz32_0 := blk_frozen BK176.out 0
      have hfz32_1 := blk_frozen BK176.out 1
      have hfz32_2 := blk_frozen BK176.out 2
      have hfz32_3 := blk_frozen BK176.out 3
      have hfz32_4 := blk_frozen BK176.out 4
      have hfz32_5 := blk_frozen BK176.out 5
      go_wp2
      go_ret
      exact ⟨by first | rfl | (simp [errW_none, errW_some] <;> rfl) | (simp [*, errW_none, errW_some] <;> rfl) | (simp [bneNil]; done), by repeat (first | (with_reducible first | exact HB.out | apply below_alloc | apply pw_below_drewN | apply below_drew1 | refine below_set ?_ GE176.out | refine below_set ?_ GE177.out | refine below_set ?_ GE183.out) | exact HB.out)⟩
     ·
      rw [if_neg c29] at H
      have c29b0 : (a0_1 == 3) = false := beq_eq_false_iff_ne.mpr c29
      have c29b1 : (a0_1 != 3) = true := bne_iff_ne.mpr c29
      replace H := Option.bind_eq_some_iff.mp H
      obtain ⟨t186, A330, H⟩ := H
      replace H : (some (decide (t186 ≥ 0))) = some r := H
      have A33 := Aside0.mk A330
      clear A330
      obtain rfl := Option.some.inj H
      have hnb34 := NB176_177.out
      have hnc34 := NB177_176.out
      have hnb35 := NB176_183.out
      have hnc35 := NB183_176.out
      have hcz36_0 : wc.cell? ⟨gb176, 0, none⟩ = some (.int .i64 a0_0) := (blk_cell BK176.out 0).trans rfl
      have hcz36_1 : wc.cell? ⟨gb176, 1, none⟩ = some (.int .i64 a0_1) := (blk_cell BK176.out 1).trans rfl
      have hcz36_2 : wc.cell? ⟨gb176, 2, none⟩ = some (.int .u64 a0_2) := (blk_cell BK176.out 2).trans rfl
      have hcz36_3 : wc.cell? ⟨gb176, 3, none⟩ = some (.int .u64 a0_3) := (blk_cell BK176.out 3).trans rfl
      have hcz36_4 : wc.cell? ⟨gb176, 4, none⟩ = some (.int .u64 a0_4) := (blk_cell BK176.out 4).trans rfl
      have hcz36_5 : wc.cell? ⟨gb176, 5, none⟩ = some (.string a0_5) := (blk_cell BK176.out 5).trans rfl
      have hfz36_0 := blk_frozen BK176.out 0
      have hfz36_1 := blk_frozen BK176.out 1
      have hfz36_2 := blk_frozen BK176.out 2
      have hfz36_3 := blk_frozen BK176.out 3
      have hfz36_4 := blk_frozen BK176.out 4
      have hfz36_5 := blk_frozen BK176.out 5
      have hnb37 := NB177_183.out
      have hnc37 := NB183_177.out
      have hcz38_0 : wc.cell? ⟨gb177, 0, none⟩ = some (.int .u64 a1_0) := (blk_cell BK177.out 0).trans rfl
      have hcz38_1 : wc.cell? ⟨gb177, 1, none⟩ = some (.int .u64 a1_1) := (blk_cell BK177.out 1).trans rfl
      have hcz38_2 : wc.cell? ⟨gb177, 2, none⟩ = some (.int .u64 a1_2) := (blk_cell BK177.out 2).trans rfl
      have hcz38_3 : wc.cell? ⟨gb177, 3, none⟩ = some (.string a1_3) := (blk_cell BK177.out 3).trans rfl
      have hcz38_4 : wc.cell? ⟨gb177, 4, none⟩ = some (.string a1_4) := (blk_cell BK177.out 4).trans rfl
      have hfz38_0 := blk_frozen BK177.out 0
      have hfz38_1 := blk_frozen BK177.out 1
      have hfz38_2 := blk_frozen BK177.out 2
      have hfz38_3 := blk_frozen BK177.out 3
      have hfz38_4 := blk_frozen BK177.out 4
      have hcz39_0 : wc.cell? ⟨gb183, 0, none⟩ = some (.int .u64 t178) := (blk_cell BK183.out 0).trans rfl
      have hcz39_1 : wc.cell? ⟨gb183, 1, none⟩ = some (.int .u64 t179) := (blk_cell BK183.out 1).trans rfl
      have hcz39_2 : wc.cell? ⟨gb183, 2, none⟩ = some (.int .u64 t180) := (blk_cell BK183.out 2).trans rfl
      have hcz39_3 : wc.cell? ⟨gb183, 3, none⟩ = some (.string t181) := (blk_cell BK183.out 3).trans rfl
      have hcz39_4 : wc.cell? ⟨gb183, 4, none⟩ = some (.string t182) := (blk_cell BK183.out 4).trans rfl
      have hfz39_0 := blk_frozen BK183.out 0
      have hfz39_1 := blk_frozen BK183.out 1
      have hfz39_2 := blk_frozen BK183.out 2
      have hfz39_3 := blk_frozen BK183.out 3
      have hfz39_4 := blk_frozen BK183.out 4
      go_wp2_with (first | (go_at_call 57; (with_reducible refine (spec_Compare.calls kj4 a1_0 a1_1 a1_2 a1_3 a1_4 t178 t179 t180 t181 t182 t186 _ A33.out).mono ?_); rintro e w40 ⟨rfl, hb⟩; have n0_ := Aside0.mk (blk_below (g := gb176) (o := .cells #[.int .i64 a0_0, .int .i64 a0_1, .int .u64 a0_2, .int .u64 a0_3, .int .u64 a0_4, .string a0_5] 24 (0, 0)) (by (with_reducible repeat (first | refine blk_drewN ?_ _ | refine blk_drew ?_ | refine blk_alloc ?_ _)); exact BK176.out) hb); have n1_ := Aside0.mk (blk_below (g := gb177) (o := .cells #[.int .u64 a1_0, .int .u64 a1_1, .int .u64 a1_2, .string a1_3, .string a1_4] 26 (0, 0)) (by (with_reducible repeat (first | refine blk_drewN ?_ _ | refine blk_drew ?_ | refine blk_alloc ?_ _)); exact BK177.out) hb); have n2_ := Aside0.mk (blk_below (g := gb183) (o := .cells #[.int .u64 t178, .int .u64 t179, .int .u64 t180, .string t181, .string t182] 26 (0, 0)) (by (with_reducible repeat (first | refine blk_drewN ?_ _ | refine blk_drew ?_ | refine blk_alloc ?_ _)); exact BK183.out) hb); have n3_ := Aside0.mk (below_step (by repeat (first | (with_reducible first | exact HB.out | apply below_alloc | apply pw_below_drewN | apply below_drew1 | refine below_set ?_ GE176.out | refine below_set ?_ GE177.out | refine below_set ?_ GE183.out) | exact HB.out)) hb); clear BK176; clear BK177; clear BK183; clear HB; have BK176 := n0_; have BK177 := n1_; have BK183 := n2_; have HB := n3_; clear n0_ n1_ n2_ n3_; (try clear hb); (try clear hb2); (try clear hk); (try clear hi)))
      go_ret
      exact ⟨by first | rfl | (simp [errW_none, errW_some] <;> rfl) | (simp [*, errW_none, errW_some] <;> rfl) | (simp [bneNil]; done), by repeat (first | (with_reducible first | exact HB.out | apply below_alloc | apply pw_below_drewN | apply below_drew1 | refine below_set ?_ GE176.out | refine below_set ?_ GE177.out | refine below_set ?_ GE183.out) | exact HB.out)⟩
    ·
     rw [if_neg c28] at H
     have c28b0 : (x6_4 == 0) = false := beq_eq_false_iff_ne.mpr c28
     have c28b1 : (x6_4 != 0) = true := bne_iff_ne.mpr c28
     obtain rfl := Option.some.inj H
     have hnb41 := NB176_177.out
     have hnc41 := NB177_176.out
     have hnb42 := NB176_183.out
     have hnc42 := NB183_176.out
     have hcz43_0 : wc.cell? ⟨gb176, 0, none⟩ = some (.int .i64 a0_0) := (blk_cell BK176.out 0).trans rfl
     have hcz43_1 : wc.cell? ⟨gb176, 1, none⟩ = some (.int .i64 a0_1) := (blk_cell BK176.out 1).trans rfl
     have hcz43_2 : wc.cell? ⟨gb176, 2, none⟩ = some (.int .u64 a0_2) := (blk_cell BK176.out 2).trans rfl
     have hcz43_3 : wc.cell? ⟨gb176, 3, none⟩ = some (.int .u64 a0_3) := (blk_cell BK176.out 3).trans rfl
     have hcz43_4 : wc.cell? ⟨gb176, 4, none⟩ = some (.int .u64 a0_4) := (blk_cell BK176.out 4).trans rfl
     have hcz43_5 : wc.cell? ⟨gb176, 5, none⟩ = some (.string a0_5) := (blk_cell BK176.out 5).trans rfl
     have hfz43_0 := blk_frozen BK176.out 0
     have hfz43_1 := blk_frozen BK176.out 1
     have hfz43_2 := blk_frozen BK176.out 2
     have hfz43_3 := blk_frozen BK176.out 3
     have hfz43_4 := blk_frozen BK176.out 4
     have hfz43_5 := blk_frozen BK176.out 5
     go_wp2
     go_ret
     exact ⟨by first | rfl | (simp [errW_none, errW_some] <;> rfl) | (simp [*, errW_none, errW_some] <;> rfl) | (simp [bneNil]; done), by repeat (first | (with_reducible first | exact HB.out | apply below_alloc | apply pw_below_drewN | apply below_drew1 | refine below_set ?_ GE176.out | refine below_set ?_ GE177.out | refine below_set ?_ GE183.out) | exact HB.out)⟩
   ·
    rw [if_neg c27] at H
    have c27b0 : (a0_0 == 0) = false := beq_eq_false_iff_ne.mpr c27
    have c27b1 : (a0_0 != 0) = true := bne_iff_ne.mpr c27
    by_cases c44 : a0_0 = 1
    ·
     rw [if_pos c44] at H
     have c44b0 : (a0_0 == 1) = true := beq_iff_eq.mpr c44
     have c44b1 : (a0_0 != 1) = false := bne_eq_false_iff_eq.mpr c44
     clear c44
     obtain rfl := Option.some.inj H
     have hnb45 := NB176_177.out
     have hnc45 := NB177_176.out
     have hnb46 := NB176_183.out
     have hnc46 := NB183_176.out
     have hcz47_0 : wc.cell? ⟨gb176, 0, none⟩ = some (.int .i64 a0_0) := (blk_cell BK176.out 0).trans rfl
     have hcz47_1 : wc.cell? ⟨gb176, 1, none⟩ = some (.int .i64 a0_1) := (blk_cell BK176.out 1).trans rfl
     have hcz47_2 : wc.cell? ⟨gb176, 2, none⟩ = some (.int .u64 a0_2) := (blk_cell BK176.out 2).trans rfl
     have hcz47_3 : wc.cell? ⟨gb176, 3, none⟩ = some (.int .u64 a0_3) := (blk_cell BK176.out 3).trans rfl
     have hcz47_4 : wc.cell? ⟨gb176, 4, none⟩ = some (.int .u64 a0_4) := (blk_cell BK176.out 4).trans rfl
     have hcz47_5 : wc.cell? ⟨gb176, 5, none⟩ = some (.string a0_5) := (blk_cell BK176.out 5).trans rfl
     have hfz47_0 := blk_frozen BK176.out 0
     have hfz47_1 := blk_frozen BK176.out 1
     have hfz47_2 := blk_frozen BK176.out 2
     have hfz47_3 := blk_frozen BK176.out 3
     have hfz47_4 := blk_frozen BK176.out 4
     have hfz47_5 := blk_frozen BK176.out 5
     go_wp2
     go_ret
     exact ⟨by first | rfl | (simp [errW_none, errW_some] <;> rfl) | (simp [*, errW_none, errW_some] <;> rfl) | (simp [bneNil]; done), by repeat (first | (with_reducible first | exact HB.out | apply below_alloc | apply pw_below_drewN | apply below_drew1 | refine below_set ?_ GE176.out | refine below_set ?_ GE177.out | refine below_set ?_ GE183.out) | exact HB.out)⟩
    ·
     rw [if_neg c44] at H
     have c44b0 : (a0_0 == 1) = false := beq_eq_false_iff_ne.mpr c44
     have c44b1 : (a0_0 != 1) = true := bne_iff_ne.mpr c44
     by_cases c48 : a0_0 = 2
     ·
      rw [if_pos c48] at H
      have c48b0 : (a0_0 == 2) = true := beq_iff_eq.mpr c48
      have c48b1 : (a0_0 != 2) = false := bne_eq_false_iff_eq.mpr c48
      clear c48
      obtain rfl := Option.some.inj H
      have hnb49 := NB176_177.out
      have hnc49 := NB177_176.out
      have hnb50 := NB176_183.out
      have hnc50 := NB183_176.out
      have hcz51_0 : wc.cell? ⟨gb176, 0, none⟩ = some (.int .i64 a0_0) := (blk_cell BK176.out 0).trans rfl
      have hcz51_1 : wc.cell? ⟨gb176, 1, none⟩ = some (.int .i64 a0_1) := (blk_cell BK176.out 1).trans rfl
      have hcz51_2 : wc.cell? ⟨gb176, 2, none⟩ = some (.int .u64 a0_2) := (blk_cell BK176.out 2).trans rfl
      have hcz51_3 : wc.cell? ⟨gb176, 3, none⟩ = some (.int .u64 a0_3) := (blk_cell BK176.out 3).trans rfl
      have hcz51_4 : wc.cell? ⟨gb176, 4, none⟩ = some (.int .u64 a0_4) := (blk_cell BK176.out 4).trans rfl
      have hcz51_5 : wc.cell? ⟨gb176, 5, none⟩ = some (.string a0_5) := (blk_cell BK176.out 5).trans rfl
      have hfz51_0 := blk_frozen BK176.out 0
      have hfz51_1 := blk_frozen BK176.out 1
      have hfz51_2 := blk_frozen BK176.out 2
      have hfz51_3 := blk_frozen BK176.out 3
      have hfz51_4 := blk_frozen BK176.out 4
      have hfz51_5 := blk_frozen BK176.out 5
      go_wp2
      go_ret
      exact ⟨by first | rfl | (simp [errW_none, errW_some] <;> rfl) | (simp [*, errW_none, errW_some] <;> rfl) | (simp [bneNil]; done), by repeat (first | (with_reducible first | exact HB.out | apply below_alloc | apply pw_below_drewN | apply below_drew1 | refine below_set ?_ GE176.out | refine below_set ?_ GE177.out | refine below_set ?_ GE183.out) | exact HB.out)⟩
     ·
      rw [if_neg c48] at H
      have c48b0 : (a0_0 == 2) = false := beq_eq_false_iff_ne.mpr c48
      have c48b1 : (a0_0 != 2) = true := bne_iff_ne.mpr c48
      by_cases c52 : a0_0 = 3
      ·
       rw [if_pos c52] at H
       have c52b0 : (a0_0 == 3) = true := beq_iff_eq.mpr c52
       have c52b1 : (a0_0 != 3) = false := bne_eq_false_iff_eq.mpr c52
       clear c52
       replace H := Option.bind_eq_some_iff.mp H
       obtain ⟨t187, A530, H⟩ := H
       replace H : (some (decide (t187 < 0))) = some r := H
       have A53 := Aside0.mk A530
       clear A530
       obtain rfl := Option.some.inj H
       have hnb54 := NB176_177.out
       have hnc54 := NB177_176.out
       have hnb55 := NB176_183.out
       have hnc55 := NB183_176.out
       have hcz56_0 : wc.cell? ⟨gb176, 0, none⟩ = some (.int .i64 a0_0) := (blk_cell BK176.out 0).trans rfl
       have hcz56_1 : wc.cell? ⟨gb176, 1, none⟩ = some (.int .i64 a0_1) := (blk_cell BK176.out 1).trans rfl
       have hcz56_2 : wc.cell? ⟨gb176, 2, none⟩ = some (.int .u64 a0_2) := (blk_cell BK176.out 2).trans rfl
       have hcz56_3 : wc.cell? ⟨gb176, 3, none⟩ = some (.int .u64 a0_3) := (blk_cell BK176.out 3).trans rfl
       have hcz56_4 : wc.cell? ⟨gb176, 4, none⟩ = some (.int .u64 a0_4) := (blk_cell BK176.out 4).trans rfl
       have hcz56_5 : wc.cell? ⟨gb176, 5, none⟩ = some (.string a0_5) := (blk_cell BK176.out 5).trans rfl
       have hfz56_0 := blk_frozen BK176.out 0
       have hfz56_1 := blk_frozen BK176.out 1
       have hfz56_2 := blk_frozen BK176.out 2
       have hfz56_3 := blk_frozen BK176.out 3
       have hfz56_4 := blk_frozen BK176.out 4
       have hfz56_5 := blk_frozen BK176.out 5
       have hnb57 := NB177_183.out
       have hnc57 := NB183_177.out
       have hcz58_0 : wc.cell? ⟨gb177, 0, none⟩ = some (.int .u64 a1_0) := (blk_cell BK177.out 0).trans rfl
       have hcz58_1 : wc.cell? ⟨gb177, 1, none⟩ = some (.int .u64 a1_1) := (blk_cell BK177.out 1).trans rfl
       have hcz58_2 : wc.cell? ⟨gb177, 2, none⟩ = some (.int .u64 a1_2) := (blk_cell BK177.out 2).trans rfl
       have hcz58_3 : wc.cell? ⟨gb177, 3, none⟩ = some (.string a1_3) := (blk_cell BK177.out 3).trans rfl
       have hcz58_4 : wc.cell? ⟨gb177, 4, none⟩ = some (.string a1_4) := (blk_cell BK177.out 4).trans rfl
       have hfz58_0 := blk_frozen BK177.out 0
       have hfz58_1 := blk_frozen BK177.out 1
       have hfz58_2 := blk_frozen BK177.out 2
       have hfz58_3 := blk_frozen BK177.out 3
       have hfz58_4 := blk_frozen BK177.out 4
       have hcz59_0 : wc.cell? ⟨gb183, 0, none⟩ = some (.int .u64 t178) := (blk_cell BK183.out 0).trans rfl
       have hcz59_1 : wc.cell? ⟨gb183, 1, none⟩ = some (.int .u64 t179) := (blk_cell BK183.out 1).trans rfl
       have hcz59_2 : wc.cell? ⟨gb183, 2, none⟩ = some (.int .u64 t180) := (blk_cell BK183.out 2).trans rfl
       have hcz59_3 : wc.cell? ⟨gb183, 3, none⟩ = some (.string t181) := (blk_cell BK183.out 3).trans rfl
       have hcz59_4 : wc.cell? ⟨gb183, 4, none⟩ = some (.string t182) := (blk_cell BK183.out 4).trans rfl
       have hfz59_0 := blk_frozen BK183.out 0
       have hfz59_1 := blk_frozen BK183.out 1
       have hfz59_2 := blk_frozen BK183.out 2
       have hfz59_3 := blk_frozen BK183.out 3
       have hfz59_4 := blk_frozen BK183.out 4
       go_wp2_with (first | ((with_reducible refine gate_callee (f := 57) rfl ?_); refine goesL_ (some 49) rfl rfl Tryd.func57 (by kernel_rfl) rfl #[.agg #[.int .u64 a1_0, .int .u64 a1_1, .int .u64 a1_2, .string a1_3, .string a1_4], .agg #[.int .u64 t178, .int .u64 t179, .int .u64 t180, .string t181, .string t182]] rfl (by (try simp only [List.map_toArray, List.map_cons, List.map_nil]); first | done | rfl | (simp only [List.length_drop, List.length_take]; rfl)) ?_; (with_reducible refine (spec_Compare.calls kj4 a1_0 a1_1 a1_2 a1_3 a1_4 t178 t179 t180 t181 t182 t187 _ A53.out).mono ?_); rintro e w60 ⟨rfl, hb⟩; refine ⟨_, rfl, ?_⟩; have n0_ := Aside0.mk (blk_below (g := gb176) (o := .cells #[.int .i64 a0_0, .int .i64 a0_1, .int .u64 a0_2, .int .u64 a0_3, .int .u64 a0_4, .string a0_5] 24 (0, 0)) (by (with_reducible repeat (first | refine blk_drewN ?_ _ | refine blk_drew ?_ | refine blk_alloc ?_ _)); exact BK176.out) hb); have n1_ := Aside0.mk (blk_below (g := gb177) (o := .cells #[.int .u64 a1_0, .int .u64 a1_1, .int .u64 a1_2, .string a1_3, .string a1_4] 26 (0, 0)) (by (with_reducible repeat (first | refine blk_drewN ?_ _ | refine blk_drew ?_ | refine blk_alloc ?_ _)); exact BK177.out) hb); have n2_ := Aside0.mk (blk_below (g := gb183) (o := .cells #[.int .u64 t178, .int .u64 t179, .int .u64 t180, .string t181, .string t182] 26 (0, 0)) (by (with_reducible repeat (first | refine blk_drewN ?_ _ | refine blk_drew ?_ | refine blk_alloc ?_ _)); exact BK183.out) hb); have n3_ := Aside0.mk (below_step (by repeat (first | (with_reducible first | exact HB.out | apply below_alloc | apply pw_below_drewN | apply below_drew1 | refine below_set ?_ GE176.out | refine below_set ?_ GE177.out | refine below_set ?_ GE183.out) | exact HB.out)) hb); clear BK176; clear BK177; clear BK183; clear HB; have BK176 := n0_; have BK177 := n1_; have BK183 := n2_; have HB := n3_; clear n0_ n1_ n2_ n3_; (try clear hb); (try clear hb2); (try clear hk); (try clear hi)))
       go_ret
       exact ⟨by first | rfl | (simp [errW_none, errW_some] <;> rfl) | (simp [*, errW_none, errW_some] <;> rfl) | (simp [bneNil]; done), by repeat (first | (with_reducible first | exact HB.out | apply below_alloc | apply pw_below_drewN | apply below_drew1 | refine below_set ?_ GE176.out | refine below_set ?_ GE177.out | refine below_set ?_ GE183.out) | exact HB.out)⟩
      ·
       rw [if_neg c52] at H
       have c52b0 : (a0_0 == 3) = false := beq_eq_false_iff_ne.mpr c52
       have c52b1 : (a0_0 != 3) = true := bne_iff_ne.mpr c52
       by_cases c61 : a0_0 = 4
       ·
        rw [if_pos c61] at H
        have c61b0 : (a0_0 == 4) = true := beq_iff_eq.mpr c61
        have c61b1 : (a0_0 != 4) = false := bne_eq_false_iff_eq.mpr c61
        clear c61
        replace H := Option.bind_eq_some_iff.mp H
        obtain ⟨t188, A620, H⟩ := H
        replace H : (some (decide (t188 ≥ 0))) = some r := H
        have A62 := Aside0.mk A620
        clear A620
        obtain rfl := Option.some.inj H
        have hnb63 := NB176_177.out
        have hnc63 := NB177_176.out
        have hnb64 := NB176_183.out
        have hnc64 := NB183_176.out
        have hcz65_0 : wc.cell? ⟨gb176, 0, none⟩ = some (.int .i64 a0_0) := (blk_cell BK176.out 0).trans rfl
        have hcz65_1 : wc.cell? ⟨gb176, 1, none⟩ = some (.int .i64 a0_1) := (blk_cell BK176.out 1).trans rfl
        have hcz65_2 : wc.cell? ⟨gb176, 2, none⟩ = some (.int .u64 a0_2) := (blk_cell BK176.out 2).trans rfl
        have hcz65_3 : wc.cell? ⟨gb176, 3, none⟩ = some (.int .u64 a0_3) := (blk_cell BK176.out 3).trans rfl
        have hcz65_4 : wc.cell? ⟨gb176, 4, none⟩ = some (.int .u64 a0_4) := (blk_cell BK176.out 4).trans rfl
        have hcz65_5 : wc.cell? ⟨gb176, 5, none⟩ = some (.string a0_5) := (blk_cell BK176.out 5).trans rfl
        have hfz65_0 := blk_frozen BK176.out 0
        have hfz65_1 := blk_frozen BK176.out 1
        have hfz65_2 := blk_frozen BK176.out 2
        have hfz65_3 := blk_frozen BK176.out 3
        have hfz65_4 := blk_frozen BK176.out 4
        have hfz65_5 := blk_frozen BK176.out 5
        have hnb66 := NB177_183.out
        have hnc66 := NB183_177.out
        have hcz67_0 : wc.cell? ⟨gb177, 0, none⟩ = some (.int .u64 a1_0) := (blk_cell BK177.out 0).trans rfl
        have hcz67_1 : wc.cell? ⟨gb177, 1, none⟩ = some (.int .u64 a1_1) := (blk_cell BK177.out 1).trans rfl
        have hcz67_2 : wc.cell? ⟨gb177, 2, none⟩ = some (.int .u64 a1_2) := (blk_cell BK177.out 2).trans rfl
        have hcz67_3 : wc.cell? ⟨gb177, 3, none⟩ = some (.string a1_3) := (blk_cell BK177.out 3).trans rfl
        have hcz67_4 : wc.cell? ⟨gb177, 4, none⟩ = some (.string a1_4) := (blk_cell BK177.out 4).trans rfl
        have hfz67_0 := blk_frozen BK177.out 0
        have hfz67_1 := blk_frozen BK177.out 1
        have hfz67_2 := blk_frozen BK177.out 2
        have hfz67_3 := blk_frozen BK177.out 3
        have hfz67_4 := blk_frozen BK177.out 4
        have hcz68_0 : wc.cell? ⟨gb183, 0, none⟩ = some (.int .u64 t178) := (blk_cell BK183.out 0).trans rfl
        have hcz68_1 : wc.cell? ⟨gb183, 1, none⟩ = some (.int .u64 t179) := (blk_cell BK183.out 1).trans rfl
        have hcz68_2 : wc.cell? ⟨gb183, 2, none⟩ = some (.int .u64 t180) := (blk_cell BK183.out 2).trans rfl
        have hcz68_3 : wc.cell? ⟨gb183, 3, none⟩ = some (.string t181) := (blk_cell BK183.out 3).trans rfl
        have hcz68_4 : wc.cell? ⟨gb183, 4, none⟩ = some (.string t182) := (blk_cell BK183.out 4).trans rfl
        have hfz68_0 := blk_frozen BK183.out 0
        have hfz68_1 := blk_frozen BK183.out 1
        have hfz68_2 := blk_frozen BK183.out 2
        have hfz68_3 := blk_frozen BK183.out 3
        have hfz68_4 := blk_frozen BK183.out 4
        go_wp2_with (first | ((with_reducible refine gate_callee (f := 57) rfl ?_); refine goesL_ (some 55) rfl rfl Tryd.func57 (by kernel_rfl) rfl #[.agg #[.int .u64 a1_0, .int .u64 a1_1, .int .u64 a1_2, .string a1_3, .string a1_4], .agg #[.int .u64 t178, .int .u64 t179, .int .u64 t180, .string t181, .string t182]] rfl (by (try simp only [List.map_toArray, List.map_cons, List.map_nil]); first | done | rfl | (simp only [List.length_drop, List.length_take]; rfl)) ?_; (with_reducible refine (spec_Compare.calls kj4 a1_0 a1_1 a1_2 a1_3 a1_4 t178 t179 t180 t181 t182 t188 _ A62.out).mono ?_); rintro e w69 ⟨rfl, hb⟩; refine ⟨_, rfl, ?_⟩; have n0_ := Aside0.mk (blk_below (g := gb176) (o := .cells #[.int .i64 a0_0, .int .i64 a0_1, .int .u64 a0_2, .int .u64 a0_3, .int .u64 a0_4, .string a0_5] 24 (0, 0)) (by (with_reducible repeat (first | refine blk_drewN ?_ _ | refine blk_drew ?_ | refine blk_alloc ?_ _)); exact BK176.out) hb); have n1_ := Aside0.mk (blk_below (g := gb177) (o := .cells #[.int .u64 a1_0, .int .u64 a1_1, .int .u64 a1_2, .string a1_3, .string a1_4] 26 (0, 0)) (by (with_reducible repeat (first | refine blk_drewN ?_ _ | refine blk_drew ?_ | refine blk_alloc ?_ _)); exact BK177.out) hb); have n2_ := Aside0.mk (blk_below (g := gb183) (o := .cells #[.int .u64 t178, .int .u64 t179, .int .u64 t180, .string t181, .string t182] 26 (0, 0)) (by (with_reducible repeat (first | refine blk_drewN ?_ _ | refine blk_drew ?_ | refine blk_alloc ?_ _)); exact BK183.out) hb); have n3_ := Aside0.mk (below_step (by repeat (first | (with_reducible first | exact HB.out | apply below_alloc | apply pw_below_drewN | apply below_drew1 | refine below_set ?_ GE176.out | refine below_set ?_ GE177.out | refine below_set ?_ GE183.out) | exact HB.out)) hb); clear BK176; clear BK177; clear BK183; clear HB; have BK176 := n0_; have BK177 := n1_; have BK183 := n2_; have HB := n3_; clear n0_ n1_ n2_ n3_; (try clear hb); (try clear hb2); (try clear hk); (try clear hi)))
        go_ret
        exact ⟨by first | rfl | (simp [errW_none, errW_some] <;> rfl) | (simp [*, errW_none, errW_some] <;> rfl) | (simp [bneNil]; done), by repeat (first | (with_reducible first | exact HB.out | apply below_alloc | apply pw_below_drewN | apply below_drew1 | refine below_set ?_ GE176.out | refine below_set ?_ GE177.out | refine below_set ?_ GE183.out) | exact HB.out)⟩
       ·
        rw [if_neg c61] at H
        have c61b0 : (a0_0 == 4) = false := beq_eq_false_iff_ne.mpr c61
        have c61b1 : (a0_0 != 4) = true := bne_iff_ne.mpr c61
        by_cases c70 : a0_0 = 5
        ·
         rw [if_pos c70] at H
         have c70b0 : (a0_0 == 5) = true := beq_iff_eq.mpr c70
         have c70b1 : (a0_0 != 5) = false := bne_eq_false_iff_eq.mpr c70
         clear c70
         obtain rfl := Option.some.inj H
         have hnb71 := NB176_177.out
         have hnc71 := NB177_176.out
         have hnb72 := NB176_183.out
         have hnc72 := NB183_176.out
         have hcz73_0 : wc.cell? ⟨gb176, 0, none⟩ = some (.int .i64 a0_0) := (blk_cell BK176.out 0).trans rfl
         have hcz73_1 : wc.cell? ⟨gb176, 1, none⟩ = some (.int .i64 a0_1) := (blk_cell BK176.out 1).trans rfl
         have hcz73_2 : wc.cell? ⟨gb176, 2, none⟩ = some (.int .u64 a0_2) := (blk_cell BK176.out 2).trans rfl
         have hcz73_3 : wc.cell? ⟨gb176, 3, none⟩ = some (.int .u64 a0_3) := (blk_cell BK176.out 3).trans rfl
         have hcz73_4 : wc.cell? ⟨gb176, 4, none⟩ = some (.int .u64 a0_4) := (blk_cell BK176.out 4).trans rfl
         have hcz73_5 : wc.cell? ⟨gb176, 5, none⟩ = some (.string a0_5) := (blk_cell BK176.out 5).trans rfl
         have hfz73_0 := blk_frozen BK176.out 0
         have hfz73_1 := blk_frozen BK176.out 1
         have hfz73_2 := blk_frozen BK176.out 2
         have hfz73_3 := blk_frozen BK176.out 3
         have hfz73_4 := blk_frozen BK176.out 4
         have hfz73_5 := blk_frozen BK176.out 5
         go_wp2
         go_ret
         exact ⟨by first | rfl | (simp [errW_none, errW_some] <;> rfl) | (simp [*, errW_none, errW_some] <;> rfl) | (simp [bneNil]; done), by repeat (first | (with_reducible first | exact HB.out | apply below_alloc | apply pw_below_drewN | apply below_drew1 | refine below_set ?_ GE176.out | refine below_set ?_ GE177.out | refine below_set ?_ GE183.out) | exact HB.out)⟩
        ·
         rw [if_neg c70] at H
         have c70b0 : (a0_0 == 5) = false := beq_eq_false_iff_ne.mpr c70
         have c70b1 : (a0_0 != 5) = true := bne_iff_ne.mpr c70
         by_cases c74 : a0_0 = 6
         ·
          rw [if_pos c74] at H
          have c74b0 : (a0_0 == 6) = true := beq_iff_eq.mpr c74
          have c74b1 : (a0_0 != 6) = false := bne_eq_false_iff_eq.mpr c74
          clear c74
          replace H := Option.bind_eq_some_iff.mp H
          obtain ⟨t189, A750, H⟩ := H
          replace H : (if t189 ≥ 0 then ((spec_tildeNumbers.f a0_0 a0_1 a0_2 a0_3 a0_4 a0_5).bind fun t190 => ((spec_CompareNumbers.f a1_0 a1_1 a1_2 a1_3 a1_4 t178 t179 t180 t181 t182 t190).bind fun t191 => (some (t191 == 0)))) else (some false)) = some r := H
          have A75 := Aside0.mk A750
          clear A750
          by_cases c76 : t189 ≥ 0
          ·
           rw [if_pos c76] at H
           have c76b0 : decide (0 ≤ t189) = true := decide_eq_true c76
           clear c76
           replace H := Option.bind_eq_some_iff.mp H
           obtain ⟨t190, A770, H⟩ := H
           replace H : ((spec_CompareNumbers.f a1_0 a1_1 a1_2 a1_3 a1_4 t178 t179 t180 t181 t182 t190).bind fun t191 => (some (t191 == 0))) = some r := H
           have A77 := Aside0.mk A770
           clear A770
           replace H := Option.bind_eq_some_iff.mp H
           obtain ⟨t191, A780, H⟩ := H
           replace H : (some (t191 == 0)) = some r := H
           have A78 := Aside0.mk A780
           clear A780
           obtain rfl := Option.some.inj H
           have hnb79 := NB176_177.out
           have hnc79 := NB177_176.out
           have hnb80 := NB176_183.out
           have hnc80 := NB183_176.out
           have hcz81_0 : wc.cell? ⟨gb176, 0, none⟩ = some (.int .i64 a0_0) := (blk_cell BK176.out 0).trans rfl
           have hcz81_1 : wc.cell? ⟨gb176, 1, none⟩ = some (.int .i64 a0_1) := (blk_cell BK176.out 1).trans rfl
           have hcz81_2 : wc.cell? ⟨gb176, 2, none⟩ = some (.int .u64 a0_2) := (blk_cell BK176.out 2).trans rfl
           have hcz81_3 : wc.cell? ⟨gb176, 3, none⟩ = some (.int .u64 a0_3) := (blk_cell BK176.out 3).trans rfl
           have hcz81_4 : wc.cell? ⟨gb176, 4, none⟩ = some (.int .u64 a0_4) := (blk_cell BK176.out 4).trans rfl
           have hcz81_5 : wc.cell? ⟨gb176, 5, none⟩ = some (.string a0_5) := (blk_cell BK176.out 5).trans rfl
           have hfz81_0 := blk_frozen BK176.out 0
           have hfz81_1 := blk_frozen BK176.out 1
           have hfz81_2 := blk_frozen BK176.out 2
           have hfz81_3 := blk_frozen BK176.out 3
           have hfz81_4 := blk_frozen BK176.out 4
           have hfz81_5 := blk_frozen BK176.out 5
           try go_wp2
           have n0_ := Aside0.mk (blk_drew BK176.out)
           have n1_ := Aside0.mk (blk_drew BK177.out)
           have n2_ := Aside0.mk (blk_drew BK183.out)
           have n3_ := Aside0.mk (below_drew1 HB.out)
           clear BK176
           clear BK177
           clear BK183
           clear HB
           have BK176 := n0_
           have BK177 := n1_
           have BK183 := n2_
           have HB := n3_
           clear n0_ n1_ n2_ n3_
           refine start_ (n := 13) (S := fun w' => w'.cell? ⟨gb177, 0, none⟩ = some (.int .u64 a1_0) ∧ w'.cell? ⟨gb177, 1, none⟩ = some (.int .u64 a1_1) ∧ w'.cell? ⟨gb177, 2, none⟩ = some (.int .u64 a1_2) ∧ w'.cell? ⟨gb177, 3, none⟩ = some (.string a1_3) ∧ w'.cell? ⟨gb177, 4, none⟩ = some (.string a1_4) ∧ w'.cell? ⟨gb183, 0, none⟩ = some (.int .u64 t178) ∧ w'.cell? ⟨gb183, 1, none⟩ = some (.int .u64 t179) ∧ w'.cell? ⟨gb183, 2, none⟩ = some (.int .u64 t180) ∧ w'.cell? ⟨gb183, 3, none⟩ = some (.string t181) ∧ w'.cell? ⟨gb183, 4, none⟩ = some (.string t182) ∧ w'.cell? ⟨gb176, 0, none⟩ = some (.int .i64 a0_0) ∧ w'.cell? ⟨gb176, 1, none⟩ = some (.int .i64 a0_1) ∧ w'.cell? ⟨gb176, 2, none⟩ = some (.int .u64 a0_2) ∧ w'.cell? ⟨gb176, 3, none⟩ = some (.int .u64 a0_3) ∧ w'.cell? ⟨gb176, 4, none⟩ = some (.int .u64 a0_4) ∧ w'.cell? ⟨gb176, 5, none⟩ = some (.string a0_5)) (ds := []) #[false, false, false, false, false, false, false, false, false, false, false, false, false] (by kernel_rfl) rfl rfl ⟨(blk_cell BK177.out 0).trans rfl, (blk_cell BK177.out 1).trans rfl, (blk_cell BK177.out 2).trans rfl, (blk_cell BK177.out 3).trans rfl, (blk_cell BK177.out 4).trans rfl, (blk_cell BK183.out 0).trans rfl, (blk_cell BK183.out 1).trans rfl, (blk_cell BK183.out 2).trans rfl, (blk_cell BK183.out 3).trans rfl, (blk_cell BK183.out 4).trans rfl, (blk_cell BK176.out 0).trans rfl, (blk_cell BK176.out 1).trans rfl, (blk_cell BK176.out 2).trans rfl, (blk_cell BK176.out 3).trans rfl, (blk_cell BK176.out 4).trans rfl, (blk_cell BK176.out 5).trans rfl⟩ (fun hHeld => ?_); refine with_tabW spec_Compares.tab19 spec_Compares.bits19 (fun HT_ HW_ => ?_)
           generalize wc.drew = w82 at BK176 BK177 BK183 HB hHeld ⊢
           refine take_ (i := 0) (N := some 63) (v := ?_) (a' := ?_) #[true, false, false, false, false, false, false, false, false, false, false, false, false] rfl rfl (take_ofW HT_.out HW_.out (by kernel_rfl)) (fun _ _ _ h => h) (Or.inl ⟨by rfl, ?_⟩) hHeld ?_ ?_
           rotate_left
           ·
            rintro w' ⟨s0, s1, s2, s3, s4, s5, s6, s7, s8, s9, s10, s11, s12, s13, s14, s15⟩
            go_simp
            with_reducible rfl
           rotate_left
           ·
            simp only [Act.put, List.setIfInBounds_toArray, List.set_cons_zero, List.set_cons_succ, i64_w, i32_w]
            rfl
           refine take_ (i := 1) (N := some 64) (v := ?_) (a' := ?_) #[true, true, false, false, false, false, false, false, false, false, false, false, false] rfl rfl (take_ofW HT_.out HW_.out (by kernel_rfl)) (fun _ _ _ h => h) (Or.inl ⟨by rfl, ?_⟩) hHeld ?_ ?_
           rotate_left
           ·
            rintro w' ⟨s0, s1, s2, s3, s4, s5, s6, s7, s8, s9, s10, s11, s12, s13, s14, s15⟩
            go_simp
            with_reducible rfl
           rotate_left
           ·
            simp only [Act.put, List.setIfInBounds_toArray, List.set_cons_zero, List.set_cons_succ, i64_w, i32_w]
            rfl
           refine one_ (i := 2) (N := some 65) #[true, true, true, false, false, false, false, false, false, false, false, false, false] rfl rfl (one_of HT_.out (by kernel_rfl)) (by decide) (fun K hK => ?_)
           refine goes_ Tryd.func57 (by kernel_rfl) rfl #[.agg #[.int .u64 a1_0, .int .u64 a1_1, .int .u64 a1_2, .string a1_3, .string a1_4], .agg #[.int .u64 t178, .int .u64 t179, .int .u64 t180, .string t181, .string t182]] (by rfl) rfl rfl (by (try simp only [List.map_toArray, List.map_cons, List.map_nil]); first | done | rfl | (simp only [List.length_drop, List.length_take]; rfl)) ?_
           with_reducible refine (spec_Compare.calls kj4 a1_0 a1_1 a1_2 a1_3 a1_4 t178 t179 t180 t181 t182 t189 _ A75.out).mono ?_
           rintro e w83 ⟨rfl, hb⟩
           refine ⟨_, rfl, ?_⟩
           have n0_ := Aside0.mk (blk_below (g := gb176) (o := .cells #[.int .i64 a0_0, .int .i64 a0_1, .int .u64 a0_2, .int .u64 a0_3, .int .u64 a0_4, .string a0_5] 24 (0, 0)) (by (with_reducible repeat (first | refine blk_drewN ?_ _ | refine blk_drew ?_ | refine blk_alloc ?_ _)); exact BK176.out) hb)
           have n1_ := Aside0.mk (blk_below (g := gb177) (o := .cells #[.int .u64 a1_0, .int .u64 a1_1, .int .u64 a1_2, .string a1_3, .string a1_4] 26 (0, 0)) (by (with_reducible repeat (first | refine blk_drewN ?_ _ | refine blk_drew ?_ | refine blk_alloc ?_ _)); exact BK177.out) hb)
           have n2_ := Aside0.mk (blk_below (g := gb183) (o := .cells #[.int .u64 t178, .int .u64 t179, .int .u64 t180, .string t181, .string t182] 26 (0, 0)) (by (with_reducible repeat (first | refine blk_drewN ?_ _ | refine blk_drew ?_ | refine blk_alloc ?_ _)); exact BK183.out) hb)
           have n3_ := Aside0.mk (below_step (by repeat (first | (with_reducible first | exact HB.out | apply below_alloc | apply pw_below_drewN | apply below_drew1 | refine below_set ?_ GE176.out | refine below_set ?_ GE177.out | refine below_set ?_ GE183.out) | exact HB.out)) hb)
           clear BK176
           clear BK177
           clear BK183
           clear HB
           have BK176 := n0_
           have BK177 := n1_
           have BK183 := n2_
           have HB := n3_
           clear n0_ n1_ n2_ n3_
           (try clear hb)
           (try clear hb2)
           (try clear hk)
           (try clear hi)
           refine hK.out _ _ ⟨(blk_cell BK177.out 0).trans rfl, (blk_cell BK177.out 1).trans rfl, (blk_cell BK177.out 2).trans rfl, (blk_cell BK177.out 3).trans rfl, (blk_cell BK177.out 4).trans rfl, (blk_cell BK183.out 0).trans rfl, (blk_cell BK183.out 1).trans rfl, (blk_cell BK183.out 2).trans rfl, (blk_cell BK183.out 3).trans rfl, (blk_cell BK183.out 4).trans rfl, (blk_cell BK176.out 0).trans rfl, (blk_cell BK176.out 1).trans rfl, (blk_cell BK176.out 2).trans rfl, (blk_cell BK176.out 3).trans rfl, (blk_cell BK176.out 4).trans rfl, (blk_cell BK176.out 5).trans rfl⟩ (fun hHeld => ?_)
           clear hK K
           refine norm_ (a' := ?_) ?_ ?_
           rotate_left
           ·
            show Act.put _ (some 65) _ = _
            simp only [Act.put, List.setIfInBounds_toArray, List.set_cons_zero, List.set_cons_succ, i64_w, i32_w]
            rfl
           refine pure_ (i := 3) (N := some 66) (v := ?_) (a' := ?_) #[true, true, true, true, false, false, false, false, false, false, false, false, false] rfl rfl (any_of HT_.out (by kernel_rfl)) (fun _ _ _ h => h) (Or.inl ⟨by rfl, ?_⟩) ?_ ?_
           rotate_left
           ·
            intro w'
            go_simp
            with_reducible rfl
           rotate_left
           ·
            simp only [Act.put, List.setIfInBounds_toArray, List.set_cons_zero, List.set_cons_succ, i64_w, i32_w]
            rfl
           refine pure_ (i := 4) (N := some 67) (v := ?_) (a' := ?_) #[true, true, true, true, true, false, false, false, false, false, false, false, false] rfl rfl (any_of HT_.out (by kernel_rfl)) (fun _ _ _ h => h) (Or.inl ⟨by rfl, ?_⟩) ?_ ?_
           rotate_left
           ·
            intro w'
            go_simp
            with_reducible rfl
           rotate_left
           ·
            simp only [Act.put, List.setIfInBounds_toArray, List.set_cons_zero, List.set_cons_succ, i64_w, i32_w]
            rfl
           refine take_ (i := 5) (N := some 68) (v := ?_) (a' := ?_) #[true, true, true, true, true, true, false, false, false, false, false, false, false] rfl rfl (take_ofW HT_.out HW_.out (by kernel_rfl)) (fun _ _ _ h => h) (Or.inl ⟨by rfl, ?_⟩) hHeld ?_ ?_
           rotate_left
           ·
            rintro w' ⟨s0, s1, s2, s3, s4, s5, s6, s7, s8, s9, s10, s11, s12, s13, s14, s15⟩
            go_simp
            with_reducible rfl
           rotate_left
           ·
            simp only [Act.put, List.setIfInBounds_toArray, List.set_cons_zero, List.set_cons_succ, i64_w, i32_w]
            rfl
           refine take_ (i := 6) (N := some 69) (v := ?_) (a' := ?_) #[true, true, true, true, true, true, true, false, false, false, false, false, false] rfl rfl (take_ofW HT_.out HW_.out (by kernel_rfl)) (fun _ _ _ h => h) (Or.inl ⟨by rfl, ?_⟩) hHeld ?_ ?_
           rotate_left
           ·
            rintro w' ⟨s0, s1, s2, s3, s4, s5, s6, s7, s8, s9, s10, s11, s12, s13, s14, s15⟩
            go_simp
            with_reducible rfl
           rotate_left
           ·
            simp only [Act.put, List.setIfInBounds_toArray, List.set_cons_zero, List.set_cons_succ, i64_w, i32_w]
            rfl
           refine take_ (i := 7) (N := some 70) (v := ?_) (a' := ?_) #[true, true, true, true, true, true, true, true, false, false, false, false, false] rfl rfl (take_ofW HT_.out HW_.out (by kernel_rfl)) (fun _ _ _ h => h) (Or.inl ⟨by rfl, ?_⟩) hHeld ?_ ?_
           rotate_left
           ·
            rintro w' ⟨s0, s1, s2, s3, s4, s5, s6, s7, s8, s9, s10, s11, s12, s13, s14, s15⟩
            go_simp
            with_reducible rfl
           rotate_left
           ·
            simp only [Act.put, List.setIfInBounds_toArray, List.set_cons_zero, List.set_cons_succ, i64_w, i32_w]
            rfl
           refine one_ (i := 8) (N := some 71) #[true, true, true, true, true, true, true, true, true, false, false, false, false] rfl rfl (one_of HT_.out (by kernel_rfl)) (by decide) (fun K hK => ?_)
           refine goes_ Tryd.func58 (by kernel_rfl) rfl #[.agg #[.int .i64 a0_0, .int .i64 a0_1, .int .u64 a0_2, .int .u64 a0_3, .int .u64 a0_4, .string a0_5]] (by rfl) rfl rfl (by (try simp only [List.map_toArray, List.map_cons, List.map_nil]); first | done | rfl | (simp only [List.length_drop, List.length_take]; rfl)) ?_
           with_reducible refine (spec_tildeNumbers.calls a0_0 a0_1 a0_2 a0_3 a0_4 a0_5 t190 _ A77.out).mono ?_
           rintro e w84 ⟨rfl, hb⟩
           refine ⟨_, rfl, ?_⟩
           have n0_ := Aside0.mk (blk_below (g := gb176) (o := .cells #[.int .i64 a0_0, .int .i64 a0_1, .int .u64 a0_2, .int .u64 a0_3, .int .u64 a0_4, .string a0_5] 24 (0, 0)) (by (with_reducible repeat (first | refine blk_drewN ?_ _ | refine blk_drew ?_ | refine blk_alloc ?_ _)); exact BK176.out) hb)
           have n1_ := Aside0.mk (blk_below (g := gb177) (o := .cells #[.int .u64 a1_0, .int .u64 a1_1, .int .u64 a1_2, .string a1_3, .string a1_4] 26 (0, 0)) (by (with_reducible repeat (first | refine blk_drewN ?_ _ | refine blk_drew ?_ | refine blk_alloc ?_ _)); exact BK177.out) hb)
           have n2_ := Aside0.mk (blk_below (g := gb183) (o := .cells #[.int .u64 t178, .int .u64 t179, .int .u64 t180, .string t181, .string t182] 26 (0, 0)) (by (with_reducible repeat (first | refine blk_drewN ?_ _ | refine blk_drew ?_ | refine blk_alloc ?_ _)); exact BK183.out) hb)
           have n3_ := Aside0.mk (below_step (by repeat (first | (with_reducible first | exact HB.out | apply below_alloc | apply pw_below_drewN | apply below_drew1 | refine below_set ?_ GE176.out | refine below_set ?_ GE177.out | refine below_set ?_ GE183.out) | exact HB.out)) hb)
           clear BK176
           clear BK177
           clear BK183
           clear HB
           have BK176 := n0_
           have BK177 := n1_
           have BK183 := n2_
           have HB := n3_
           clear n0_ n1_ n2_ n3_
           (try clear hb)
           (try clear hb2)
           (try clear hk)
           (try clear hi)
           refine hK.out _ _ ⟨(blk_cell BK177.out 0).trans rfl, (blk_cell BK177.out 1).trans rfl, (blk_cell BK177.out 2).trans rfl, (blk_cell BK177.out 3).trans rfl, (blk_cell BK177.out 4).trans rfl, (blk_cell BK183.out 0).trans rfl, (blk_cell BK183.out 1).trans rfl, (blk_cell BK183.out 2).trans rfl, (blk_cell BK183.out 3).trans rfl, (blk_cell BK183.out 4).trans rfl, (blk_cell BK176.out 0).trans rfl, (blk_cell BK176.out 1).trans rfl, (blk_cell BK176.out 2).trans rfl, (blk_cell BK176.out 3).trans rfl, (blk_cell BK176.out 4).trans rfl, (blk_cell BK176.out 5).trans rfl⟩ (fun hHeld => ?_)
           clear hK K
           refine norm_ (a' := ?_) ?_ ?_
           rotate_left
           ·
            show Act.put _ (some 71) _ = _
            simp only [Act.put, List.setIfInBounds_toArray, List.set_cons_zero, List.set_cons_succ, i64_w, i32_w]
            rfl
           refine one_ (i := 9) (N := some 72) #[true, true, true, true, true, true, true, true, true, true, false, false, false] rfl rfl (one_of HT_.out (by kernel_rfl)) (by decide) (fun K hK => ?_)
           refine goes_ Tryd.func39 (by kernel_rfl) rfl #[.agg #[.int .u64 a1_0, .int .u64 a1_1, .int .u64 a1_2, .string a1_3, .string a1_4], .agg #[.int .u64 t178, .int .u64 t179, .int .u64 t180, .string t181, .string t182], .int .i64 t190] (by rfl) rfl rfl (by (try simp only [List.map_toArray, List.map_cons, List.map_nil]); first | done | rfl | (simp only [List.length_drop, List.length_take]; rfl)) ?_
           with_reducible refine (spec_CompareNumbers.calls a1_0 a1_1 a1_2 a1_3 a1_4 t178 t179 t180 t181 t182 t190 t191 _ A78.out).mono ?_
           rintro e w85 ⟨rfl, hb⟩
           refine ⟨_, rfl, ?_⟩
           have n0_ := Aside0.mk (blk_below (g := gb176) (o := .cells #[.int .i64 a0_0, .int .i64 a0_1, .int .u64 a0_2, .int .u64 a0_3, .int .u64 a0_4, .string a0_5] 24 (0, 0)) (by (with_reducible repeat (first | refine blk_drewN ?_ _ | refine blk_drew ?_ | refine blk_alloc ?_ _)); exact BK176.out) hb)
           have n1_ := Aside0.mk (blk_below (g := gb177) (o := .cells #[.int .u64 a1_0, .int .u64 a1_1, .int .u64 a1_2, .string a1_3, .string a1_4] 26 (0, 0)) (by (with_reducible repeat (first | refine blk_drewN ?_ _ | refine blk_drew ?_ | refine blk_alloc ?_ _)); exact BK177.out) hb)
           have n2_ := Aside0.mk (blk_below (g := gb183) (o := .cells #[.int .u64 t178, .int .u64 t179, .int .u64 t180, .string t181, .string t182] 26 (0, 0)) (by (with_reducible repeat (first | refine blk_drewN ?_ _ | refine blk_drew ?_ | refine blk_alloc ?_ _)); exact BK183.out) hb)
           have n3_ := Aside0.mk (below_step (by repeat (first | (with_reducible first | exact HB.out | apply below_alloc | apply pw_below_drewN | apply below_drew1 | refine below_set ?_ GE176.out | refine below_set ?_ GE177.out | refine below_set ?_ GE183.out) | exact HB.out)) hb)
           clear BK176
           clear BK177
           clear BK183
           clear HB
           have BK176 := n0_
           have BK177 := n1_
           have BK183 := n2_
           have HB := n3_
           clear n0_ n1_ n2_ n3_
           (try clear hb)
           (try clear hb2)
           (try clear hk)
           (try clear hi)
           refine hK.out _ _ ⟨(blk_cell BK177.out 0).trans rfl, (blk_cell BK177.out 1).trans rfl, (blk_cell BK177.out 2).trans rfl, (blk_cell BK177.out 3).trans rfl, (blk_cell BK177.out 4).trans rfl, (blk_cell BK183.out 0).trans rfl, (blk_cell BK183.out 1).trans rfl, (blk_cell BK183.out 2).trans rfl, (blk_cell BK183.out 3).trans rfl, (blk_cell BK183.out 4).trans rfl, (blk_cell BK176.out 0).trans rfl, (blk_cell BK176.out 1).trans rfl, (blk_cell BK176.out 2).trans rfl, (blk_cell BK176.out 3).trans rfl, (blk_cell BK176.out 4).trans rfl, (blk_cell BK176.out 5).trans rfl⟩ (fun hHeld => ?_)
           clear hK K
           refine norm_ (a' := ?_) ?_ ?_
           rotate_left
           ·
            show Act.put _ (some 72) _ = _
            simp only [Act.put, List.setIfInBounds_toArray, List.set_cons_zero, List.set_cons_succ, i64_w, i32_w]
            rfl
           refine pure_ (i := 10) (N := some 73) (v := ?_) (a' := ?_) #[true, true, true, true, true, true, true, true, true, true, true, false, false] rfl rfl (any_of HT_.out (by kernel_rfl)) (fun _ _ _ h => h) (Or.inl ⟨by rfl, ?_⟩) ?_ ?_
           rotate_left
           ·
            intro w'
            go_simp
            with_reducible rfl
           rotate_left
           ·
            simp only [Act.put, List.setIfInBounds_toArray, List.set_cons_zero, List.set_cons_succ, i64_w, i32_w]
            rfl
           refine pure_ (i := 11) (N := some 74) (v := ?_) (a' := ?_) #[true, true, true, true, true, true, true, true, true, true, true, true, false] rfl rfl (any_of HT_.out (by kernel_rfl)) (fun _ _ _ h => h) (Or.inl ⟨by rfl, ?_⟩) ?_ ?_
           rotate_left
           ·
            intro w'
            go_simp
            with_reducible rfl
           rotate_left
           ·
            simp only [Act.put, List.setIfInBounds_toArray, List.set_cons_zero, List.set_cons_succ, i64_w, i32_w]
            rfl
           refine pure_ (i := 12) (N := some 4) (v := ?_) (a' := ?_) #[true, true, true, true, true, true, true, true, true, true, true, true, true] rfl rfl (any_of HT_.out (by kernel_rfl)) (fun _ _ _ h => h) (Or.inl ⟨by rfl, ?_⟩) ?_ ?_
           rotate_left
           ·
            intro w'
            go_simp
            with_reducible rfl
           rotate_left
           ·
            simp only [Act.put, List.setIfInBounds_toArray, List.set_cons_zero, List.set_cons_succ, i64_w, i32_w]
            rfl
           refine done_ (done_of HT_.out (by kernel_rfl)) ?_
           try go_wp2
           go_ret
           exact ⟨by first | rfl | (simp [errW_none, errW_some] <;> rfl) | (simp [*, errW_none, errW_some] <;> rfl) | (simp [bneNil]; done), by repeat (first | (with_reducible first | exact HB.out | apply below_alloc | apply pw_below_drewN | apply below_drew1 | refine below_set ?_ GE176.out | refine below_set ?_ GE177.out | refine below_set ?_ GE183.out) | exact HB.out)⟩
          ·
           rw [if_neg c76] at H
           have c76b0 : decide (0 ≤ t189) = false := decide_eq_false c76
           clear c76
           obtain rfl := Option.some.inj H
           have hnb86 := NB176_177.out
           have hnc86 := NB177_176.out
           have hnb87 := NB176_183.out
           have hnc87 := NB183_176.out
           have hcz88_0 : wc.cell? ⟨gb176, 0, none⟩ = some (.int .i64 a0_0) := (blk_cell BK176.out 0).trans rfl
           have hcz88_1 : wc.cell? ⟨gb176, 1, none⟩ = some (.int .i64 a0_1) := (blk_cell BK176.out 1).trans rfl
           have hcz88_2 : wc.cell? ⟨gb176, 2, none⟩ = some (.int .u64 a0_2) := (blk_cell BK176.out 2).trans rfl
           have hcz88_3 : wc.cell? ⟨gb176, 3, none⟩ = some (.int .u64 a0_3) := (blk_cell BK176.out 3).trans rfl
           have hcz88_4 : wc.cell? ⟨gb176, 4, none⟩ = some (.int .u64 a0_4) := (blk_cell BK176.out 4).trans rfl
           have hcz88_5 : wc.cell? ⟨gb176, 5, none⟩ = some (.string a0_5) := (blk_cell BK176.out 5).trans rfl
           have hfz88_0 := blk_frozen BK176.out 0
           have hfz88_1 := blk_frozen BK176.out 1
           have hfz88_2 := blk_frozen BK176.out 2
           have hfz88_3 := blk_frozen BK176.out 3
           have hfz88_4 := blk_frozen BK176.out 4
           have hfz88_5 := blk_frozen BK176.out 5
           try go_wp2
           have n0_ := Aside0.mk (blk_drew BK176.out)
           have n1_ := Aside0.mk (blk_drew BK177.out)
           have n2_ := Aside0.mk (blk_drew BK183.out)
           have n3_ := Aside0.mk (below_drew1 HB.out)
           clear BK176
           clear BK177
           clear BK183
           clear HB
           have BK176 := n0_
           have BK177 := n1_
           have BK183 := n2_
           have HB := n3_
           clear n0_ n1_ n2_ n3_
           refine start_ (n := 13) (S := fun w' => w'.cell? ⟨gb177, 0, none⟩ = some (.int .u64 a1_0) ∧ w'.cell? ⟨gb177, 1, none⟩ = some (.int .u64 a1_1) ∧ w'.cell? ⟨gb177, 2, none⟩ = some (.int .u64 a1_2) ∧ w'.cell? ⟨gb177, 3, none⟩ = some (.string a1_3) ∧ w'.cell? ⟨gb177, 4, none⟩ = some (.string a1_4) ∧ w'.cell? ⟨gb183, 0, none⟩ = some (.int .u64 t178) ∧ w'.cell? ⟨gb183, 1, none⟩ = some (.int .u64 t179) ∧ w'.cell? ⟨gb183, 2, none⟩ = some (.int .u64 t180) ∧ w'.cell? ⟨gb183, 3, none⟩ = some (.string t181) ∧ w'.cell? ⟨gb183, 4, none⟩ = some (.string t182)) (ds := []) #[false, false, false, false, false, false, false, false, false, false, false, false, false] (by kernel_rfl) rfl rfl ⟨(blk_cell BK177.out 0).trans rfl, (blk_cell BK177.out 1).trans rfl, (blk_cell BK177.out 2).trans rfl, (blk_cell BK177.out 3).trans rfl, (blk_cell BK177.out 4).trans rfl, (blk_cell BK183.out 0).trans rfl, (blk_cell BK183.out 1).trans rfl, (blk_cell BK183.out 2).trans rfl, (blk_cell BK183.out 3).trans rfl, (blk_cell BK183.out 4).trans rfl⟩ (fun hHeld => ?_); refine with_tabW spec_Compares.tab19 spec_Compares.bits19 (fun HT_ HW_ => ?_)
           generalize wc.drew = w89 at BK176 BK177 BK183 HB hHeld ⊢
           refine take_ (i := 0) (N := some 63) (v := ?_) (a' := ?_) #[true, false, false, false, false, false, false, false, false, false, false, false, false] rfl rfl (take_ofW HT_.out HW_.out (by kernel_rfl)) (fun _ _ _ h => h) (Or.inl ⟨by rfl, ?_⟩) hHeld ?_ ?_
           rotate_left
           ·
            rintro w' ⟨s0, s1, s2, s3, s4, s5, s6, s7, s8, s9⟩
            go_simp
            with_reducible rfl
           rotate_left
           ·
            simp only [Act.put, List.setIfInBounds_toArray, List.set_cons_zero, List.set_cons_succ, i64_w, i32_w]
            rfl
           refine take_ (i := 1) (N := some 64) (v := ?_) (a' := ?_) #[true, true, false, false, false, false, false, false, false, false, false, false, false] rfl rfl (take_ofW HT_.out HW_.out (by kernel_rfl)) (fun _ _ _ h => h) (Or.inl ⟨by rfl, ?_⟩) hHeld ?_ ?_
           rotate_left
           ·
            rintro w' ⟨s0, s1, s2, s3, s4, s5, s6, s7, s8, s9⟩
            go_simp
            with_reducible rfl
           rotate_left
           ·
            simp only [Act.put, List.setIfInBounds_toArray, List.set_cons_zero, List.set_cons_succ, i64_w, i32_w]
            rfl
           refine one_ (i := 2) (N := some 65) #[true, true, true, false, false, false, false, false, false, false, false, false, false] rfl rfl (one_of HT_.out (by kernel_rfl)) (by decide) (fun K hK => ?_)
           refine goes_ Tryd.func57 (by kernel_rfl) rfl #[.agg #[.int .u64 a1_0, .int .u64 a1_1, .int .u64 a1_2, .string a1_3, .string a1_4], .agg #[.int .u64 t178, .int .u64 t179, .int .u64 t180, .string t181, .string t182]] (by rfl) rfl rfl (by (try simp only [List.map_toArray, List.map_cons, List.map_nil]); first | done | rfl | (simp only [List.length_drop, List.length_take]; rfl)) ?_
           with_reducible refine (spec_Compare.calls kj4 a1_0 a1_1 a1_2 a1_3 a1_4 t178 t179 t180 t181 t182 t189 _ A75.out).mono ?_
           rintro e w90 ⟨rfl, hb⟩
           refine ⟨_, rfl, ?_⟩
           have n0_ := Aside0.mk (blk_below (g := gb176) (o := .cells #[.int .i64 a0_0, .int .i64 a0_1, .int .u64 a0_2, .int .u64 a0_3, .int .u64 a0_4, .string a0_5] 24 (0, 0)) (by (with_reducible repeat (first | refine blk_drewN ?_ _ | refine blk_drew ?_ | refine blk_alloc ?_ _)); exact BK176.out) hb)
           have n1_ := Aside0.mk (blk_below (g := gb177) (o := .cells #[.int .u64 a1_0, .int .u64 a1_1, .int .u64 a1_2, .string a1_3, .string a1_4] 26 (0, 0)) (by (with_reducible repeat (first | refine blk_drewN ?_ _ | refine blk_drew ?_ | refine blk_alloc ?_ _)); exact BK177.out) hb)
           have n2_ := Aside0.mk (blk_below (g := gb183) (o := .cells #[.int .u64 t178, .int .u64 t179, .int .u64 t180, .string t181, .string t182] 26 (0, 0)) (by (with_reducible repeat (first | refine blk_drewN ?_ _ | refine blk_drew ?_ | refine blk_alloc ?_ _)); exact BK183.out) hb)
           have n3_ := Aside0.mk (below_step (by repeat (first | (with_reducible first | exact HB.out | apply below_alloc | apply pw_below_drewN | apply below_drew1 | refine below_set ?_ GE176.out | refine below_set ?_ GE177.out | refine below_set ?_ GE183.out) | exact HB.out)) hb)
           clear BK176
           clear BK177
           clear BK183
           clear HB
           have BK176 := n0_
           have BK177 := n1_
           have BK183 := n2_
           have HB := n3_
           clear n0_ n1_ n2_ n3_
           (try clear hb)
           (try clear hb2)
           (try clear hk)
           (try clear hi)
           refine hK.out _ _ ⟨(blk_cell BK177.out 0).trans rfl, (blk_cell BK177.out 1).trans rfl, (blk_cell BK177.out 2).trans rfl, (blk_cell BK177.out 3).trans rfl, (blk_cell BK177.out 4).trans rfl, (blk_cell BK183.out 0).trans rfl, (blk_cell BK183.out 1).trans rfl, (blk_cell BK183.out 2).trans rfl, (blk_cell BK183.out 3).trans rfl, (blk_cell BK183.out 4).trans rfl⟩ (fun hHeld => ?_)
           clear hK K
           refine norm_ (a' := ?_) ?_ ?_
           rotate_left
           ·
            show Act.put _ (some 65) _ = _
            simp only [Act.put, List.setIfInBounds_toArray, List.set_cons_zero, List.set_cons_succ, i64_w, i32_w]
            rfl
           refine pure_ (i := 3) (N := some 66) (v := ?_) (a' := ?_) #[true, true, true, true, false, false, false, false, false, false, false, false, false] rfl rfl (any_of HT_.out (by kernel_rfl)) (fun _ _ _ h => h) (Or.inl ⟨by rfl, ?_⟩) ?_ ?_
           rotate_left
           ·
            intro w'
            go_simp
            with_reducible rfl
           rotate_left
           ·
            simp only [Act.put, List.setIfInBounds_toArray, List.set_cons_zero, List.set_cons_succ, i64_w, i32_w]
            rfl
           refine pure_ (i := 4) (N := some 67) (v := ?_) (a' := ?_) #[true, true, true, true, true, false, false, false, false, false, false, false, false] rfl rfl (any_of HT_.out (by kernel_rfl)) (fun _ _ _ h => h) (Or.inl ⟨by rfl, ?_⟩) ?_ ?_
           rotate_left
           ·
            intro w'
            go_simp
            with_reducible rfl
           rotate_left
           ·
            simp only [Act.put, List.setIfInBounds_toArray, List.set_cons_zero, List.set_cons_succ, i64_w, i32_w]
            rfl
           refine pure_ (i := 5) (N := some 68) (v := undef) (a' := ?_) #[true, true, true, true, true, true, false, false, false, false, false, false, false] rfl rfl (any_of HT_.out (by kernel_rfl)) (fun _ _ _ h => h) (Or.inr ⟨by rfl, rfl⟩) ?_ ?_
           rotate_left
           ·
            simp only [Act.put, List.setIfInBounds_toArray, List.set_cons_zero, List.set_cons_succ, i64_w, i32_w]
            rfl
           refine pure_ (i := 6) (N := some 69) (v := undef) (a' := ?_) #[true, true, true, true, true, true, true, false, false, false, false, false, false] rfl rfl (any_of HT_.out (by kernel_rfl)) (fun _ _ _ h => h) (Or.inr ⟨by rfl, rfl⟩) ?_ ?_
           rotate_left
           ·
            simp only [Act.put, List.setIfInBounds_toArray, List.set_cons_zero, List.set_cons_succ, i64_w, i32_w]
            rfl
           refine pure_ (i := 7) (N := some 70) (v := undef) (a' := ?_) #[true, true, true, true, true, true, true, true, false, false, false, false, false] rfl rfl (any_of HT_.out (by kernel_rfl)) (fun _ _ _ h => h) (Or.inr ⟨by rfl, rfl⟩) ?_ ?_
           rotate_left
           ·
            simp only [Act.put, List.setIfInBounds_toArray, List.set_cons_zero, List.set_cons_succ, i64_w, i32_w]
            rfl
           refine pure_ (i := 8) (N := some 71) (v := undef) (a' := ?_) #[true, true, true, true, true, true, true, true, true, false, false, false, false] rfl rfl (any_of HT_.out (by kernel_rfl)) (fun _ _ _ h => h) (Or.inr ⟨by rfl, rfl⟩) ?_ ?_
           rotate_left
           ·
            simp only [Act.put, List.setIfInBounds_toArray, List.set_cons_zero, List.set_cons_succ, i64_w, i32_w]
            rfl
           refine pure_ (i := 9) (N := some 72) (v := undef) (a' := ?_) #[true, true, true, true, true, true, true, true, true, true, false, false, false] rfl rfl (any_of HT_.out (by kernel_rfl)) (fun _ _ _ h => h) (Or.inr ⟨by rfl, rfl⟩) ?_ ?_
           rotate_left
           ·
            simp only [Act.put, List.setIfInBounds_toArray, List.set_cons_zero, List.set_cons_succ, i64_w, i32_w]
            rfl
           refine pure_ (i := 10) (N := some 73) (v := undef) (a' := ?_) #[true, true, true, true, true, true, true, true, true, true, true, false, false] rfl rfl (any_of HT_.out (by kernel_rfl)) (fun _ _ _ h => h) (Or.inr ⟨by rfl, rfl⟩) ?_ ?_
           rotate_left
           ·
            simp only [Act.put, List.setIfInBounds_toArray, List.set_cons_zero, List.set_cons_succ, i64_w, i32_w]
            rfl
           refine pure_ (i := 11) (N := some 74) (v := ?_) (a' := ?_) #[true, true, true, true, true, true, true, true, true, true, true, true, false] rfl rfl (any_of HT_.out (by kernel_rfl)) (fun _ _ _ h => h) (Or.inl ⟨by rfl, ?_⟩) ?_ ?_
           rotate_left
           ·
            intro w'
            go_simp
            with_reducible rfl
           rotate_left
           ·
            simp only [Act.put, List.setIfInBounds_toArray, List.set_cons_zero, List.set_cons_succ, i64_w, i32_w]
            rfl
           refine pure_ (i := 12) (N := some 4) (v := ?_) (a' := ?_) #[true, true, true, true, true, true, true, true, true, true, true, true, true] rfl rfl (any_of HT_.out (by kernel_rfl)) (fun _ _ _ h => h) (Or.inl ⟨by rfl, ?_⟩) ?_ ?_
           rotate_left
           ·
            intro w'
            go_simp
            with_reducible rfl
           rotate_left
           ·
            simp only [Act.put, List.setIfInBounds_toArray, List.set_cons_zero, List.set_cons_succ, i64_w, i32_w]
            rfl
           refine done_ (done_of HT_.out (by kernel_rfl)) ?_
           try go_wp2
           go_ret
           exact ⟨by first | rfl | (simp [errW_none, errW_some] <;> rfl) | (simp [*, errW_none, errW_some] <;> rfl) | (simp [bneNil]; done), by repeat (first | (with_reducible first | exact HB.out | apply below_alloc | apply pw_below_drewN | apply below_drew1 | refine below_set ?_ GE176.out | refine below_set ?_ GE177.out | refine below_set ?_ GE183.out) | exact HB.out)⟩
         ·
          rw [if_neg c74] at H
          have c74b0 : (a0_0 == 6) = false := beq_eq_false_iff_ne.mpr c74
          have c74b1 : (a0_0 != 6) = true := bne_iff_ne.mpr c74
          replace H := Option.bind_eq_some_iff.mp H
          obtain ⟨t192, A910, H⟩ := H
          replace H : (if t192 ≥ 0 then ((spec_caretNumbers.f kj4 a0_0 a0_1 a0_2 a0_3 a0_4 a0_5).bind fun t193 => ((spec_CompareNumbers.f a1_0 a1_1 a1_2 a1_3 a1_4 t178 t179 t180 t181 t182 t193).bind fun t194 => (some (t194 == 0)))) else (some false)) = some r := H
          have A91 := Aside0.mk A910
          clear A910
          by_cases c92 : t192 ≥ 0
          ·
           rw [if_pos c92] at H
           have c92b0 : decide (0 ≤ t192) = true := decide_eq_true c92
           clear c92
           replace H := Option.bind_eq_some_iff.mp H
           obtain ⟨t193, A930, H⟩ := H
           replace H : ((spec_CompareNumbers.f a1_0 a1_1 a1_2 a1_3 a1_4 t178 t179 t180 t181 t182 t193).bind fun t194 => (some (t194 == 0))) = some r := H
           have A93 := Aside0.mk A930
           clear A930
           replace H := Option.bind_eq_some_iff.mp H
           obtain ⟨t194, A940, H⟩ := H
           replace H : (some (t194 == 0)) = some r := H
           have A94 := Aside0.mk A940
           clear A940
           obtain rfl := Option.some.inj H
           have hnb95 := NB176_177.out
           have hnc95 := NB177_176.out
           have hnb96 := NB176_183.out
           have hnc96 := NB183_176.out
           have hcz97_0 : wc.cell? ⟨gb176, 0, none⟩ = some (.int .i64 a0_0) := (blk_cell BK176.out 0).trans rfl
           have hcz97_1 : wc.cell? ⟨gb176, 1, none⟩ = some (.int .i64 a0_1) := (blk_cell BK176.out 1).trans rfl
           have hcz97_2 : wc.cell? ⟨gb176, 2, none⟩ = some (.int .u64 a0_2) := (blk_cell BK176.out 2).trans rfl
           have hcz97_3 : wc.cell? ⟨gb176, 3, none⟩ = some (.int .u64 a0_3) := (blk_cell BK176.out 3).trans rfl
           have hcz97_4 : wc.cell? ⟨gb176, 4, none⟩ = some (.int .u64 a0_4) := (blk_cell BK176.out 4).trans rfl
           have hcz97_5 : wc.cell? ⟨gb176, 5, none⟩ = some (.string a0_5) := (blk_cell BK176.out 5).trans rfl
           have hfz97_0 := blk_frozen BK176.out 0
           have hfz97_1 := blk_frozen BK176.out 1
           have hfz97_2 := blk_frozen BK176.out 2
           have hfz97_3 := blk_frozen BK176.out 3
           have hfz97_4 := blk_frozen BK176.out 4
           have hfz97_5 := blk_frozen BK176.out 5
           try go_wp2
           have n0_ := Aside0.mk (blk_drew BK176.out)
           have n1_ := Aside0.mk (blk_drew BK177.out)
           have n2_ := Aside0.mk (blk_drew BK183.out)
           have n3_ := Aside0.mk (below_drew1 HB.out)
           clear BK176
           clear BK177
           clear BK183
           clear HB
           have BK176 := n0_
           have BK177 := n1_
           have BK183 := n2_
           have HB := n3_
           clear n0_ n1_ n2_ n3_
           refine start_ (n := 13) (S := fun w' => w'.cell? ⟨gb177, 0, none⟩ = some (.int .u64 a1_0) ∧ w'.cell? ⟨gb177, 1, none⟩ = some (.int .u64 a1_1) ∧ w'.cell? ⟨gb177, 2, none⟩ = some (.int .u64 a1_2) ∧ w'.cell? ⟨gb177, 3, none⟩ = some (.string a1_3) ∧ w'.cell? ⟨gb177, 4, none⟩ = some (.string a1_4) ∧ w'.cell? ⟨gb183, 0, none⟩ = some (.int .u64 t178) ∧ w'.cell? ⟨gb183, 1, none⟩ = some (.int .u64 t179) ∧ w'.cell? ⟨gb183, 2, none⟩ = some (.int .u64 t180) ∧ w'.cell? ⟨gb183, 3, none⟩ = some (.string t181) ∧ w'.cell? ⟨gb183, 4, none⟩ = some (.string t182) ∧ w'.cell? ⟨gb176, 0, none⟩ = some (.int .i64 a0_0) ∧ w'.cell? ⟨gb176, 1, none⟩ = some (.int .i64 a0_1) ∧ w'.cell? ⟨gb176, 2, none⟩ = some (.int .u64 a0_2) ∧ w'.cell? ⟨gb176, 3, none⟩ = some (.int .u64 a0_3) ∧ w'.cell? ⟨gb176, 4, none⟩ = some (.int .u64 a0_4) ∧ w'.cell? ⟨gb176, 5, none⟩ = some (.string a0_5)) (ds := []) #[false, false, false, false, false, false, false, false, false, false, false, false, false] (by kernel_rfl) rfl rfl ⟨(blk_cell BK177.out 0).trans rfl, (blk_cell BK177.out 1).trans rfl, (blk_cell BK177.out 2).trans rfl, (blk_cell BK177.out 3).trans rfl, (blk_cell BK177.out 4).trans rfl, (blk_cell BK183.out 0).trans rfl, (blk_cell BK183.out 1).trans rfl, (blk_cell BK183.out 2).trans rfl, (blk_cell BK183.out 3).trans rfl, (blk_cell BK183.out 4).trans rfl, (blk_cell BK176.out 0).trans rfl, (blk_cell BK176.out 1).trans rfl, (blk_cell BK176.out 2).trans rfl, (blk_cell BK176.out 3).trans rfl, (blk_cell BK176.out 4).trans rfl, (blk_cell BK176.out 5).trans rfl⟩ (fun hHeld => ?_); refine with_tabW spec_Compares.tab20 spec_Compares.bits20 (fun HT_ HW_ => ?_)
           generalize wc.drew = w98 at BK176 BK177 BK183 HB hHeld ⊢
           refine take_ (i := 0) (N := some 75) (v := ?_) (a' := ?_) #[true, false, false, false, false, false, false, false, false, false, false, false, false] rfl rfl (take_ofW HT_.out HW_.out (by kernel_rfl)) (fun _ _ _ h => h) (Or.inl ⟨by rfl, ?_⟩) hHeld ?_ ?_
           rotate_left
           ·
            rintro w' ⟨s0, s1, s2, s3, s4, s5, s6, s7, s8, s9, s10, s11, s12, s13, s14, s15⟩
            go_simp
            with_reducible rfl
           rotate_left
           ·
            simp only [Act.put, List.setIfInBounds_toArray, List.set_cons_zero, List.set_cons_succ, i64_w, i32_w]
            rfl
           refine take_ (i := 1) (N := some 76) (v := ?_) (a' := ?_) #[true, true, false, false, false, false, false, false, false, false, false, false, false] rfl rfl (take_ofW HT_.out HW_.out (by kernel_rfl)) (fun _ _ _ h => h) (Or.inl ⟨by rfl, ?_⟩) hHeld ?_ ?_
           rotate_left
           ·
            rintro w' ⟨s0, s1, s2, s3, s4, s5, s6, s7, s8, s9, s10, s11, s12, s13, s14, s15⟩
            go_simp
            with_reducible rfl
           rotate_left
           ·
            simp only [Act.put, List.setIfInBounds_toArray, List.set_cons_zero, List.set_cons_succ, i64_w, i32_w]
            rfl
           refine one_ (i := 2) (N := some 77) #[true, true, true, false, false, false, false, false, false, false, false, false, false] rfl rfl (one_of HT_.out (by kernel_rfl)) (by decide) (fun K hK => ?_)
           refine goes_ Tryd.func57 (by kernel_rfl) rfl #[.agg #[.int .u64 a1_0, .int .u64 a1_1, .int .u64 a1_2, .string a1_3, .string a1_4], .agg #[.int .u64 t178, .int .u64 t179, .int .u64 t180, .string t181, .string t182]] (by rfl) rfl rfl (by (try simp only [List.map_toArray, List.map_cons, List.map_nil]); first | done | rfl | (simp only [List.length_drop, List.length_take]; rfl)) ?_
           with_reducible refine (spec_Compare.calls kj4 a1_0 a1_1 a1_2 a1_3 a1_4 t178 t179 t180 t181 t182 t192 _ A91.out).mono ?_
           rintro e w99 ⟨rfl, hb⟩
           refine ⟨_, rfl, ?_⟩
           have n0_ := Aside0.mk (blk_below (g := gb176) (o := .cells #[.int .i64 a0_0, .int .i64 a0_1, .int .u64 a0_2, .int .u64 a0_3, .int .u64 a0_4, .string a0_5] 24 (0, 0)) (by (with_reducible repeat (first | refine blk_drewN ?_ _ | refine blk_drew ?_ | refine blk_alloc ?_ _)); exact BK176.out) hb)
           have n1_ := Aside0.mk (blk_below (g := gb177) (o := .cells #[.int .u64 a1_0, .int .u64 a1_1, .int .u64 a1_2, .string a1_3, .string a1_4] 26 (0, 0)) (by (with_reducible repeat (first | refine blk_drewN ?_ _ | refine blk_drew ?_ | refine blk_alloc ?_ _)); exact BK177.out) hb)
           have n2_ := Aside0.mk (blk_below (g := gb183) (o := .cells #[.int .u64 t178, .int .u64 t179, .int .u64 t180, .string t181, .string t182] 26 (0, 0)) (by (with_reducible repeat (first | refine blk_drewN ?_ _ | refine blk_drew ?_ | refine blk_alloc ?_ _)); exact BK183.out) hb)
           have n3_ := Aside0.mk (below_step (by repeat (first | (with_reducible first | exact HB.out | apply below_alloc | apply pw_below_drewN | apply below_drew1 | refine below_set ?_ GE176.out | refine below_set ?_ GE177.out | refine below_set ?_ GE183.out) | exact HB.out)) hb)
           clear BK176
           clear BK177
           clear BK183
           clear HB
           have BK176 := n0_
           have BK177 := n1_
           have BK183 := n2_
           have HB := n3_
           clear n0_ n1_ n2_ n3_
           (try clear hb)
           (try clear hb2)
           (try clear hk)
           (try clear hi)
           refine hK.out _ _ ⟨(blk_cell BK177.out 0).trans rfl, (blk_cell BK177.out 1).trans rfl, (blk_cell BK177.out 2).trans rfl, (blk_cell BK177.out 3).trans rfl, (blk_cell BK177.out 4).trans rfl, (blk_cell BK183.out 0).trans rfl, (blk_cell BK183.out 1).trans rfl, (blk_cell BK183.out 2).trans rfl, (blk_cell BK183.out 3).trans rfl, (blk_cell BK183.out 4).trans rfl, (blk_cell BK176.out 0).trans rfl, (blk_cell BK176.out 1).trans rfl, (blk_cell BK176.out 2).trans rfl, (blk_cell BK176.out 3).trans rfl, (blk_cell BK176.out 4).trans rfl, (blk_cell BK176.out 5).trans rfl⟩ (fun hHeld => ?_)
           clear hK K
           refine norm_ (a' := ?_) ?_ ?_
           rotate_left
           ·
            show Act.put _ (some 77) _ = _
            simp only [Act.put, List.setIfInBounds_toArray, List.set_cons_zero, List.set_cons_succ, i64_w, i32_w]
            rfl
           refine pure_ (i := 3) (N := some 78) (v := ?_) (a' := ?_) #[true, true, true, true, false, false, false, false, false, false, false, false, false] rfl rfl (any_of HT_.out (by kernel_rfl)) (fun _ _ _ h => h) (Or.inl ⟨by rfl, ?_⟩) ?_ ?_
           rotate_left
           ·
            intro w'
            go_simp
            with_reducible rfl
           rotate_left
           ·
            simp only [Act.put, List.setIfInBounds_toArray, List.set_cons_zero, List.set_cons_succ, i64_w, i32_w]
            rfl
           refine pure_ (i := 4) (N := some 79) (v := ?_) (a' := ?_) #[true, true, true, true, true, false, false, false, false, false, false, false, false] rfl rfl (any_of HT_.out (by kernel_rfl)) (fun _ _ _ h => h) (Or.inl ⟨by rfl, ?_⟩) ?_ ?_
           rotate_left
           ·
            intro w'
            go_simp
            with_reducible rfl
           rotate_left
           ·
            simp only [Act.put, List.setIfInBounds_toArray, List.set_cons_zero, List.set_cons_succ, i64_w, i32_w]
            rfl
           refine take_ (i := 5) (N := some 80) (v := ?_) (a' := ?_) #[true, true, true, true, true, true, false, false, false, false, false, false, false] rfl rfl (take_ofW HT_.out HW_.out (by kernel_rfl)) (fun _ _ _ h => h) (Or.inl ⟨by rfl, ?_⟩) hHeld ?_ ?_
           rotate_left
           ·
            rintro w' ⟨s0, s1, s2, s3, s4, s5, s6, s7, s8, s9, s10, s11, s12, s13, s14, s15⟩
            go_simp
            with_reducible rfl
           rotate_left
           ·
            simp only [Act.put, List.setIfInBounds_toArray, List.set_cons_zero, List.set_cons_succ, i64_w, i32_w]
            rfl
           refine take_ (i := 6) (N := some 81) (v := ?_) (a' := ?_) #[true, true, true, true, true, true, true, false, false, false, false, false, false] rfl rfl (take_ofW HT_.out HW_.out (by kernel_rfl)) (fun _ _ _ h => h) (Or.inl ⟨by rfl, ?_⟩) hHeld ?_ ?_
           rotate_left
           ·
            rintro w' ⟨s0, s1, s2, s3, s4, s5, s6, s7, s8, s9, s10, s11, s12, s13, s14, s15⟩
            go_simp
            with_reducible rfl
           rotate_left
           ·
            simp only [Act.put, List.setIfInBounds_toArray, List.set_cons_zero, List.set_cons_succ, i64_w, i32_w]
            rfl
           refine take_ (i := 7) (N := some 82) (v := ?_) (a' := ?_) #[true, true, true, true, true, true, true, true, false, false, false, false, false] rfl rfl (take_ofW HT_.out HW_.out (by kernel_rfl)) (fun _ _ _ h => h) (Or.inl ⟨by rfl, ?_⟩) hHeld ?_ ?_
           rotate_left
           ·
            rintro w' ⟨s0, s1, s2, s3, s4, s5, s6, s7, s8, s9, s10, s11, s12, s13, s14, s15⟩
            go_simp
            with_reducible rfl
           rotate_left
           ·
            simp only [Act.put, List.setIfInBounds_toArray, List.set_cons_zero, List.set_cons_succ, i64_w, i32_w]
            rfl
           refine one_ (i := 8) (N := some 83) #[true, true, true, true, true, true, true, true, true, false, false, false, false] rfl rfl (one_of HT_.out (by kernel_rfl)) (by decide) (fun K hK => ?_)
           refine goes_ Tryd.func59 (by kernel_rfl) rfl #[.agg #[.int .i64 a0_0, .int .i64 a0_1, .int .u64 a0_2, .int .u64 a0_3, .int .u64 a0_4, .string a0_5]] (by rfl) rfl rfl (by (try simp only [List.map_toArray, List.map_cons, List.map_nil]); first | done | rfl | (simp only [List.length_drop, List.length_take]; rfl)) ?_
           with_reducible refine (spec_caretNumbers.calls kj4 a0_0 a0_1 a0_2 a0_3 a0_4 a0_5 t193 _ A93.out).mono ?_
           rintro e w100 ⟨rfl, hb⟩
           refine ⟨_, rfl, ?_⟩
           have n0_ := Aside0.mk (blk_below (g := gb176) (o := .cells #[.int .i64 a0_0, .int .i64 a0_1, .int .u64 a0_2, .int .u64 a0_3, .int .u64 a0_4, .string a0_5] 24 (0, 0)) (by (with_reducible repeat (first | refine blk_drewN ?_ _ | refine blk_drew ?_ | refine blk_alloc ?_ _)); exact BK176.out) hb)
           have n1_ := Aside0.mk (blk_below (g := gb177) (o := .cells #[.int .u64 a1_0, .int .u64 a1_1, .int .u64 a1_2, .string a1_3, .string a1_4] 26 (0, 0)) (by (with_reducible repeat (first | refine blk_drewN ?_ _ | refine blk_drew ?_ | refine blk_alloc ?_ _)); exact BK177.out) hb)
           have n2_ := Aside0.mk (blk_below (g := gb183) (o := .cells #[.int .u64 t178, .int .u64 t179, .int .u64 t180, .string t181, .string t182] 26 (0, 0)) (by (with_reducible repeat (first | refine blk_drewN ?_ _ | refine blk_drew ?_ | refine blk_alloc ?_ _)); exact BK183.out) hb)
           have n3_ := Aside0.mk (below_step (by repeat (first | (with_reducible first | exact HB.out | apply below_alloc | apply pw_below_drewN | apply below_drew1 | refine below_set ?_ GE176.out | refine below_set ?_ GE177.out | refine below_set ?_ GE183.out) | exact HB.out)) hb)
           clear BK176
           clear BK177
           clear BK183
           clear HB
           have BK176 := n0_
           have BK177 := n1_
           have BK183 := n2_
           have HB := n3_
           clear n0_ n1_ n2_ n3_
           (try clear hb)
           (try clear hb2)
           (try clear hk)
           (try clear hi)
           refine hK.out _ _ ⟨(blk_cell BK177.out 0).trans rfl, (blk_cell BK177.out 1).trans rfl, (blk_cell BK177.out 2).trans rfl, (blk_cell BK177.out 3).trans rfl, (blk_cell BK177.out 4).trans rfl, (blk_cell BK183.out 0).trans rfl, (blk_cell BK183.out 1).trans rfl, (blk_cell BK183.out 2).trans rfl, (blk_cell BK183.out 3).trans rfl, (blk_cell BK183.out 4).trans rfl, (blk_cell BK176.out 0).trans rfl, (blk_cell BK176.out 1).trans rfl, (blk_cell BK176.out 2).trans rfl, (blk_cell BK176.out 3).trans rfl, (blk_cell BK176.out 4).trans rfl, (blk_cell BK176.out 5).trans rfl⟩ (fun hHeld => ?_)
           clear hK K
           refine norm_ (a' := ?_) ?_ ?_
           rotate_left
           ·
            show Act.put _ (some 83) _ = _
            simp only [Act.put, List.setIfInBounds_toArray, List.set_cons_zero, List.set_cons_succ, i64_w, i32_w]
            rfl
           refine one_ (i := 9) (N := some 84) #[true, true, true, true, true, true, true, true, true, true, false, false, false] rfl rfl (one_of HT_.out (by kernel_rfl)) (by decide) (fun K hK => ?_)
           refine goes_ Tryd.func39 (by kernel_rfl) rfl #[.agg #[.int .u64 a1_0, .int .u64 a1_1, .int .u64 a1_2, .string a1_3, .string a1_4], .agg #[.int .u64 t178, .int .u64 t179, .int .u64 t180, .string t181, .string t182], .int .i64 t193] (by rfl) rfl rfl (by (try simp only [List.map_toArray, List.map_cons, List.map_nil]); first | done | rfl | (simp only [List.length_drop, List.length_take]; rfl)) ?_
           with_reducible refine (spec_CompareNumbers.calls a1_0 a1_1 a1_2 a1_3 a1_4 t178 t179 t180 t181 t182 t193 t194 _ A94.out).mono ?_
           rintro e w101 ⟨rfl, hb⟩
           refine ⟨_, rfl, ?_⟩
           have n0_ := Aside0.mk (blk_below (g := gb176) (o := .cells #[.int .i64 a0_0, .int .i64 a0_1, .int .u64 a0_2, .int .u64 a0_3, .int .u64 a0_4, .string a0_5] 24 (0, 0)) (by (with_reducible repeat (first | refine blk_drewN ?_ _ | refine blk_drew ?_ | refine blk_alloc ?_ _)); exact BK176.out) hb)
           have n1_ := Aside0.mk (blk_below (g := gb177) (o := .cells #[.int .u64 a1_0, .int .u64 a1_1, .int .u64 a1_2, .string a1_3, .string a1_4] 26 (0, 0)) (by (with_reducible repeat (first | refine blk_drewN ?_ _ | refine blk_drew ?_ | refine blk_alloc ?_ _)); exact BK177.out) hb)
           have n2_ := Aside0.mk (blk_below (g := gb183) (o := .cells #[.int .u64 t178, .int .u64 t179, .int .u64 t180, .string t181, .string t182] 26 (0, 0)) (by (with_reducible repeat (first | refine blk_drewN ?_ _ | refine blk_drew ?_ | refine blk_alloc ?_ _)); exact BK183.out) hb)
           have n3_ := Aside0.mk (below_step (by repeat (first | (with_reducible first | exact HB.out | apply below_alloc | apply pw_below_drewN | apply below_drew1 | refine below_set ?_ GE176.out | refine below_set ?_ GE177.out | refine below_set ?_ GE183.out) | exact HB.out)) hb)
           clear BK176
           clear BK177
           clear BK183
           clear HB
           have BK176 := n0_
           have BK177 := n1_
           have BK183 := n2_
           have HB := n3_
           clear n0_ n1_ n2_ n3_
           (try clear hb)
           (try clear hb2)
           (try clear hk)
           (try clear hi)
           refine hK.out _ _ ⟨(blk_cell BK177.out 0).trans rfl, (blk_cell BK177.out 1).trans rfl, (blk_cell BK177.out 2).trans rfl, (blk_cell BK177.out 3).trans rfl, (blk_cell BK177.out 4).trans rfl, (blk_cell BK183.out 0).trans rfl, (blk_cell BK183.out 1).trans rfl, (blk_cell BK183.out 2).trans rfl, (blk_cell BK183.out 3).trans rfl, (blk_cell BK183.out 4).trans rfl, (blk_cell BK176.out 0).trans rfl, (blk_cell BK176.out 1).trans rfl, (blk_cell BK176.out 2).trans rfl, (blk_cell BK176.out 3).trans rfl, (blk_cell BK176.out 4).trans rfl, (blk_cell BK176.out 5).trans rfl⟩ (fun hHeld => ?_)
           clear hK K
           refine norm_ (a' := ?_) ?_ ?_
           rotate_left
           ·
            show Act.put _ (some 84) _ = _
            simp only [Act.put, List.setIfInBounds_toArray, List.set_cons_zero, List.set_cons_succ, i64_w, i32_w]
            rfl
           refine pure_ (i := 10) (N := some 85) (v := ?_) (a' := ?_) #[true, true, true, true, true, true, true, true, true, true, true, false, false] rfl rfl (any_of HT_.out (by kernel_rfl)) (fun _ _ _ h => h) (Or.inl ⟨by rfl, ?_⟩) ?_ ?_
           rotate_left
           ·
            intro w'
            go_simp
            with_reducible rfl
           rotate_left
           ·
            simp only [Act.put, List.setIfInBounds_toArray, List.set_cons_zero, List.set_cons_succ, i64_w, i32_w]
            rfl
           refine pure_ (i := 11) (N := some 86) (v := ?_) (a' := ?_) #[true, true, true, true, true, true, true, true, true, true, true, true, false] rfl rfl (any_of HT_.out (by kernel_rfl)) (fun _ _ _ h => h) (Or.inl ⟨by rfl, ?_⟩) ?_ ?_
           rotate_left
           ·
            intro w'
            go_simp
            with_reducible rfl
           rotate_left
           ·
            simp only [Act.put, List.setIfInBounds_toArray, List.set_cons_zero, List.set_cons_succ, i64_w, i32_w]
            rfl
           refine pure_ (i := 12) (N := some 4) (v := ?_) (a' := ?_) #[true, true, true, true, true, true, true, true, true, true, true, true, true] rfl rfl (any_of HT_.out (by kernel_rfl)) (fun _ _ _ h => h) (Or.inl ⟨by rfl, ?_⟩) ?_ ?_
           rotate_left
           ·
            intro w'
            go_simp
            with_reducible rfl
           rotate_left
           ·
            simp only [Act.put, List.setIfInBounds_toArray, List.set_cons_zero, List.set_cons_succ, i64_w, i32_w]
            rfl
           refine done_ (done_of HT_.out (by kernel_rfl)) ?_
           try go_wp2
           go_ret
           exact ⟨by first | rfl | (simp [errW_none, errW_some] <;> rfl) | (simp [*, errW_none, errW_some] <;> rfl) | (simp [bneNil]; done), by repeat (first | (with_reducible first | exact HB.out | apply below_alloc | apply pw_below_drewN | apply below_drew1 | refine below_set ?_ GE176.out | refine below_set ?_ GE177.out | refine below_set ?_ GE183.out) | exact HB.out)⟩
          ·
           rw [if_neg c92] at H
           have c92b0 : decide (0 ≤ t192) = false := decide_eq_false c92
           clear c92
           obtain rfl := Option.some.inj H
           have hnb102 := NB176_177.out
           have hnc102 := NB177_176.out
           have hnb103 := NB176_183.out
           have hnc103 := NB183_176.out
           have hcz104_0 : wc.cell? ⟨gb176, 0, none⟩ = some (.int .i64 a0_0) := (blk_cell BK176.out 0).trans rfl
           have hcz104_1 : wc.cell? ⟨gb176, 1, none⟩ = some (.int .i64 a0_1) := (blk_cell BK176.out 1).trans rfl
           have hcz104_2 : wc.cell? ⟨gb176, 2, none⟩ = some (.int .u64 a0_2) := (blk_cell BK176.out 2).trans rfl
           have hcz104_3 : wc.cell? ⟨gb176, 3, none⟩ = some (.int .u64 a0_3) := (blk_cell BK176.out 3).trans rfl
           have hcz104_4 : wc.cell? ⟨gb176, 4, none⟩ = some (.int .u64 a0_4) := (blk_cell BK176.out 4).trans rfl
           have hcz104_5 : wc.cell? ⟨gb176, 5, none⟩ = some (.string a0_5) := (blk_cell BK176.out 5).trans rfl
           have hfz104_0 := blk_frozen BK176.out 0
           have hfz104_1 := blk_frozen BK176.out 1
           have hfz104_2 := blk_frozen BK176.out 2
           have hfz104_3 := blk_frozen BK176.out 3
           have hfz104_4 := blk_frozen BK176.out 4
           have hfz104_5 := blk_frozen BK176.out 5
           try go_wp2
           have n0_ := Aside0.mk (blk_drew BK176.out)
           have n1_ := Aside0.mk (blk_drew BK177.out)
           have n2_ := Aside0.mk (blk_drew BK183.out)
           have n3_ := Aside0.mk (below_drew1 HB.out)
           clear BK176
           clear BK177
           clear BK183
           clear HB
           have BK176 := n0_
           have BK177 := n1_
           have BK183 := n2_
           have HB := n3_
           clear n0_ n1_ n2_ n3_
           refine start_ (n := 13) (S := fun w' => w'.cell? ⟨gb177, 0, none⟩ = some (.int .u64 a1_0) ∧ w'.cell? ⟨gb177, 1, none⟩ = some (.int .u64 a1_1) ∧ w'.cell? ⟨gb177, 2, none⟩ = some (.int .u64 a1_2) ∧ w'.cell? ⟨gb177, 3, none⟩ = some (.string a1_3) ∧ w'.cell? ⟨gb177, 4, none⟩ = some (.string a1_4) ∧ w'.cell? ⟨gb183, 0, none⟩ = some (.int .u64 t178) ∧ w'.cell? ⟨gb183, 1, none⟩ = some (.int .u64 t179) ∧ w'.cell? ⟨gb183, 2, none⟩ = some (.int .u64 t180) ∧ w'.cell? ⟨gb183, 3, none⟩ = some (.string t181) ∧ w'.cell? ⟨gb183, 4, none⟩ = some (.string t182)) (ds := []) #[false, false, false, false, false, false, false, false, false, false, false, false, false] (by kernel_rfl) rfl rfl ⟨(blk_cell BK177.out 0).trans rfl, (blk_cell BK177.out 1).trans rfl, (blk_cell BK177.out 2).trans rfl, (blk_cell BK177.out 3).trans rfl, (blk_cell BK177.out 4).trans rfl, (blk_cell BK183.out 0).trans rfl, (blk_cell BK183.out 1).trans rfl, (blk_cell BK183.out 2).trans rfl, (blk_cell BK183.out 3).trans rfl, (blk_cell BK183.out 4).trans rfl⟩ (fun hHeld => ?_); refine with_tabW spec_Compares.tab20 spec_Compares.bits20 (fun HT_ HW_ => ?_)
           generalize wc.drew = w105 at BK176 BK177 BK183 HB hHeld ⊢
           refine take_ (i := 0) (N := some 75) (v := ?_) (a' := ?_) #[true, false, false, false, false, false, false, false, false, false, false, false, false] rfl rfl (take_ofW HT_.out HW_.out (by kernel_rfl)) (fun _ _ _ h => h) (Or.inl ⟨by rfl, ?_⟩) hHeld ?_ ?_
           rotate_left
           ·
            rintro w' ⟨s0, s1, s2, s3, s4, s5, s6, s7, s8, s9⟩
            go_simp
            with_reducible rfl
           rotate_left
           ·
            simp only [Act.put, List.setIfInBounds_toArray, List.set_cons_zero, List.set_cons_succ, i64_w, i32_w]
            rfl
           refine take_ (i := 1) (N := some 76) (v := ?_) (a' := ?_) #[true, true, false, false, false, false, false, false, false, false, false, false, false] rfl rfl (take_ofW HT_.out HW_.out (by kernel_rfl)) (fun _ _ _ h => h) (Or.inl ⟨by rfl, ?_⟩) hHeld ?_ ?_
           rotate_left
           ·
            rintro w' ⟨s0, s1, s2, s3, s4, s5, s6, s7, s8, s9⟩
            go_simp
            with_reducible rfl
           rotate_left
           ·
            simp only [Act.put, List.setIfInBounds_toArray, List.set_cons_zero, List.set_cons_succ, i64_w, i32_w]
            rfl
           refine one_ (i := 2) (N := some 77) #[true, true, true, false, false, false, false, false, false, false, false, false, false] rfl rfl (one_of HT_.out (by kernel_rfl)) (by decide) (fun K hK => ?_)
           refine goes_ Tryd.func57 (by kernel_rfl) rfl #[.agg #[.int .u64 a1_0, .int .u64 a1_1, .int .u64 a1_2, .string a1_3, .string a1_4], .agg #[.int .u64 t178, .int .u64 t179, .int .u64 t180, .string t181, .string t182]] (by rfl) rfl rfl (by (try simp only [List.map_toArray, List.map_cons, List.map_nil]); first | done | rfl | (simp only [List.length_drop, List.length_take]; rfl)) ?_
           with_reducible refine (spec_Compare.calls kj4 a1_0 a1_1 a1_2 a1_3 a1_4 t178 t179 t180 t181 t182 t192 _ A91.out).mono ?_
           rintro e w106 ⟨rfl, hb⟩
           refine ⟨_, rfl, ?_⟩
           have n0_ := Aside0.mk (blk_below (g := gb176) (o := .cells #[.int .i64 a0_0, .int .i64 a0_1, .int .u64 a0_2, .int .u64 a0_3, .int .u64 a0_4, .string a0_5] 24 (0, 0)) (by (with_reducible repeat (first | refine blk_drewN ?_ _ | refine blk_drew ?_ | refine blk_alloc ?_ _)); exact BK176.out) hb)
           have n1_ := Aside0.mk (blk_below (g := gb177) (o := .cells #[.int .u64 a1_0, .int .u64 a1_1, .int .u64 a1_2, .string a1_3, .string a1_4] 26 (0, 0)) (by (with_reducible repeat (first | refine blk_drewN ?_ _ | refine blk_drew ?_ | refine blk_alloc ?_ _)); exact BK177.out) hb)
           have n2_ := Aside0.mk (blk_below (g := gb183) (o := .cells #[.int .u64 t178, .int .u64 t179, .int .u64 t180, .string t181, .string t182] 26 (0, 0)) (by (with_reducible repeat (first | refine blk_drewN ?_ _ | refine blk_drew ?_ | refine blk_alloc ?_ _)); exact BK183.out) hb)
           have n3_ := Aside0.mk (below_step (by repeat (first | (with_reducible first | exact HB.out | apply below_alloc | apply pw_below_drewN | apply below_drew1 | refine below_set ?_ GE176.out | refine below_set ?_ GE177.out | refine below_set ?_ GE183.out) | exact HB.out)) hb)
           clear BK176
           clear BK177
           clear BK183
           clear HB
           have BK176 := n0_
           have BK177 := n1_
           have BK183 := n2_
           have HB := n3_
           clear n0_ n1_ n2_ n3_
           (try clear hb)
           (try clear hb2)
           (try clear hk)
           (try clear hi)
           refine hK.out _ _ ⟨(blk_cell BK177.out 0).trans rfl, (blk_cell BK177.out 1).trans rfl, (blk_cell BK177.out 2).trans rfl, (blk_cell BK177.out 3).trans rfl, (blk_cell BK177.out 4).trans rfl, (blk_cell BK183.out 0).trans rfl, (blk_cell BK183.out 1).trans rfl, (blk_cell BK183.out 2).trans rfl, (blk_cell BK183.out 3).trans rfl, (blk_cell BK183.out 4).trans rfl⟩ (fun hHeld => ?_)
           clear hK K
           refine norm_ (a' := ?_) ?_ ?_
           rotate_left
           ·
            show Act.put _ (some 77) _ = _
            simp only [Act.put, List.setIfInBounds_toArray, List.set_cons_zero, List.set_cons_succ, i64_w, i32_w]
            rfl
           refine pure_ (i := 3) (N := some 78) (v := ?_) (a' := ?_) #[true, true, true, true, false, false, false, false, false, false, false, false, false] rfl rfl (any_of HT_.out (by kernel_rfl)) (fun _ _ _ h => h) (Or.inl ⟨by rfl, ?_⟩) ?_ ?_
           rotate_left
           ·
            intro w'
            go_simp
            with_reducible rfl
           rotate_left
           ·
            simp only [Act.put, List.setIfInBounds_toArray, List.set_cons_zero, List.set_cons_succ, i64_w, i32_w]
            rfl
           refine pure_ (i := 4) (N := some 79) (v := ?_) (a' := ?_) #[true, true, true, true, true, false, false, false, false, false, false, false, false] rfl rfl (any_of HT_.out (by kernel_rfl)) (fun _ _ _ h => h) (Or.inl ⟨by rfl, ?_⟩) ?_ ?_
           rotate_left
           ·
            intro w'
            go_simp
            with_reducible rfl
           rotate_left
           ·
            simp only [Act.put, List.setIfInBounds_toArray, List.set_cons_zero, List.set_cons_succ, i64_w, i32_w]
            rfl
           refine pure_ (i := 5) (N := some 80) (v := undef) (a' := ?_) #[true, true, true, true, true, true, false, false, false, false, false, false, false] rfl rfl (any_of HT_.out (by kernel_rfl)) (fun _ _ _ h => h) (Or.inr ⟨by rfl, rfl⟩) ?_ ?_
           rotate_left
           ·
            simp only [Act.put, List.setIfInBounds_toArray, List.set_cons_zero, List.set_cons_succ, i64_w, i32_w]
            rfl
           refine pure_ (i := 6) (N := some 81) (v := undef) (a' := ?_) #[true, true, true, true, true, true, true, false, false, false, false, false, false] rfl rfl (any_of HT_.out (by kernel_rfl)) (fun _ _ _ h => h) (Or.inr ⟨by rfl, rfl⟩) ?_ ?_
           rotate_left
           ·
            simp only [Act.put, List.setIfInBounds_toArray, List.set_cons_zero, List.set_cons_succ, i64_w, i32_w]
            rfl
           refine pure_ (i := 7) (N := some 82) (v := undef) (a' := ?_) #[true, true, true, true, true, true, true, true, false, false, false, false, false] rfl rfl (any_of HT_.out (by kernel_rfl)) (fun _ _ _ h => h) (Or.inr ⟨by rfl, rfl⟩) ?_ ?_
           rotate_left
           ·
            simp only [Act.put, List.setIfInBounds_toArray, List.set_cons_zero, List.set_cons_succ, i64_w, i32_w]
            rfl
           refine pure_ (i := 8) (N := some 83) (v := undef) (a' := ?_) #[true, true, true, true, true, true, true, true, true, false, false, false, false] rfl rfl (any_of HT_.out (by kernel_rfl)) (fun _ _ _ h => h) (Or.inr ⟨by rfl, rfl⟩) ?_ ?_
           rotate_left
           ·
            simp only [Act.put, List.setIfInBounds_toArray, List.set_cons_zero, List.set_cons_succ, i64_w, i32_w]
            rfl
           refine pure_ (i := 9) (N := some 84) (v := undef) (a' := ?_) #[true, true, true, true, true, true, true, true, true, true, false, false, false] rfl rfl (any_of HT_.out (by kernel_rfl)) (fun _ _ _ h => h) (Or.inr ⟨by rfl, rfl⟩) ?_ ?_
           rotate_left
           ·
            simp only [Act.put, List.setIfInBounds_toArray, List.set_cons_zero, List.set_cons_succ, i64_w, i32_w]
            rfl
           refine pure_ (i := 10) (N := some 85) (v := undef) (a' := ?_) #[true, true, true, true, true, true, true, true, true, true, true, false, false] rfl rfl (any_of HT_.out (by kernel_rfl)) (fun _ _ _ h => h) (Or.inr ⟨by rfl, rfl⟩) ?_ ?_
           rotate_left
           ·
            simp only [Act.put, List.setIfInBounds_toArray, List.set_cons_zero, List.set_cons_succ, i64_w, i32_w]
            rfl
           refine pure_ (i := 11) (N := some 86) (v := ?_) (a' := ?_) #[true, true, true, true, true, true, true, true, true, true, true, true, false] rfl rfl (any_of HT_.out (by kernel_rfl)) (fun _ _ _ h => h) (Or.inl ⟨by rfl, ?_⟩) ?_ ?_
           rotate_left
           ·
            intro w'
            go_simp
            with_reducible rfl
           rotate_left
           ·
            simp only [Act.put, List.setIfInBounds_toArray, List.set_cons_zero, List.set_cons_succ, i64_w, i32_w]
            rfl
           refine pure_ (i := 12) (N := some 4) (v := ?_) (a' := ?_) #[true, true, true, true, true, true, true, true, true, true, true, true, true] rfl rfl (any_of HT_.out (by kernel_rfl)) (fun _ _ _ h => h) (Or.inl ⟨by rfl, ?_⟩) ?_ ?_
           rotate_left
           ·
            intro w'
            go_simp
            with_reducible rfl
           rotate_left
           ·
            simp only [Act.put, List.setIfInBounds_toArray, List.set_cons_zero, List.set_cons_succ, i64_w, i32_w]
            rfl
           refine done_ (done_of HT_.out (by kernel_rfl)) ?_
           try go_wp2
           go_ret
           exact ⟨by first | rfl | (simp [errW_none, errW_some] <;> rfl) | (simp [*, errW_none, errW_some] <;> rfl) | (simp [bneNil]; done), by repeat (first | (with_reducible first | exact HB.out | apply below_alloc | apply pw_below_drewN | apply below_drew1 | refine below_set ?_ GE176.out | refine below_set ?_ GE177.out | refine below_set ?_ GE183.out) | exact HB.out)⟩

end Go.Proofs.YtllkoadcpobdaaaDoor.PX
