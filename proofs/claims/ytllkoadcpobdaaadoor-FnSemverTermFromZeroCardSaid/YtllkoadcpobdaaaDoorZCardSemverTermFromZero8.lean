/- The row and the tied card of FnSemverTermFromZero, out of its printed walk and its plain law. For every input that the statement lets in. -/
import Derived.Test.YtllkoadcpobdaaaDoorZCardSemverTermFromZero1
import Derived.Test.YtllkoadcpobdaaaDoorZCardSemverTermFromZero6
import Derived.Test.YtllkoadcpobdaaaDoorZCardSemverTermFromZero7
import Derived.Deep.RegionHeld3
import Derived.Deep.LoopGhost
import Derived.Deep.QuietTactic
import Derived.BigQuiet
import Derived.Lib.QuietBelow
namespace Go.Proofs.YtllkoadcpobdaaaDoor.Base
end Go.Proofs.YtllkoadcpobdaaaDoor.Base
namespace Go.Proofs.YtllkoadcpobdaaaDoor.KX
end Go.Proofs.YtllkoadcpobdaaaDoor.KX
namespace Go.Proofs.YtllkoadcpobdaaaDoor.PX
end Go.Proofs.YtllkoadcpobdaaaDoor.PX
namespace Go.Proofs.YtllkoadcpobdaaaDoor.KX

open Go.RowKit Go.Lib Go.Sort Go.Proofs Go.Proofs.YtllkoadcpobdaaaDoor Go.Proofs.YtllkoadcpobdaaaDoor.Base Go.Proofs.YtllkoadcpobdaaaDoor.PX

open Go.Proofs.YtllkoadcpobdaaaDoorW.PrintWords Go.Proofs.YtllkoadcpobdaaaDoorW.PrintLast Go.Proofs.YtllkoadcpobdaaaDoorW.PrintMore

attribute [local go_sem] setCell_drewN alloc_drewN

def ordI (a b : Int) : Int := if a < b then -1 else if b < a then 1 else 0

/-- From the i-th number on. -/
def cmpFrom (k i : Int) (x0 x1 x2 y0 y1 y2 : Int) : Int :=
  if i ≤ 0 ∧ 0 < k ∧ ordI x0 y0 ≠ 0 then ordI x0 y0 else if i ≤ 1 ∧ 1 < k ∧ ordI x1 y1 ≠ 0 then ordI x1 y1 else if i ≤ 2 ∧ 2 < k ∧ ordI x2 y2 ≠ 0 then ordI x2 y2 else 0

theorem order_f (a b : Int) : spec_order.f a b = some (ordI a b) := by
  unfold spec_order.f ordI
  by_cases h1 : a < b
  · rw [if_pos h1, if_pos h1]
  · rw [if_neg h1, if_neg h1]
    by_cases h2 : b < a
    · rw [if_pos h2, if_pos h2]
    · rw [if_neg h2, if_neg h2]

set_option maxHeartbeats 4000000 in
set_option maxRecDepth 100000 in
theorem compareNumbers (x0 x1 x2 : Int) (xp xm : ByteArray) (y0 y1 y2 : Int) (yp ym : ByteArray) (k : Int) (w : World) :
  Calls Tryd.prog 39 #[.agg #[.int .u64 x0, .int .u64 x1, .int .u64 x2, .string xp, .string xm], .agg #[.int .u64 y0, .int .u64 y1, .int .u64 y2, .string yp, .string ym], .int .i64 k] w
   fun e w' => e = .returned (.int .i64 (cmpFrom k 0 x0 x1 x2 y0 y1 y2)) ∧ Below w.heap.size w w' := by
 have cOrd : ∀ (a b : Int) (W : World), Calls Tryd.prog 71 #[.int .u64 a, .int .u64 b] W fun e w' => e = .returned (.int .i64 (ordI a b)) ∧ Below W.heap.size W w' :=
  fun a b W => (spec_order.calls a b _ W (order_f a b)).mono fun _ _ ⟨he, hd⟩ => ⟨he, hd.below⟩
 obtain ⟨V, hV⟩ : ∃ V, cmpFrom k 0 x0 x1 x2 y0 y1 y2 = V := ⟨_, rfl⟩
 have HV0 := Lib.hid hV
 rw [hV]
 clear hV
 go_enter Tryd.func39, Tryd.ntmps39
 go_wp2_with fail
 generalize hW0 : World.alloc (World.alloc w _) _ = w0
 have a0 : At w0 w.heap.size [.int .u64 x0, .int .u64 x1, .int .u64 x2, .string xp, .string xm] := by
  rw [← hW0]
  exact (At.new _ _ _ _ rfl).below ((Below.refl _ _).alloc (Nat.le_refl _) _)
 have b0 : At w0 (w.heap.size + 1) [.int .u64 y0, .int .u64 y1, .int .u64 y2, .string yp, .string ym] := by
  rw [← hW0]
  exact At.new _ _ _ _ (by simp)
 have hb0 : Below w.heap.size w w0 := by
  rw [← hW0]
  go_grown
 have hz0 : w0.heap.size = w.heap.size + 2 := by rw [← hW0]; simp
 clear hW0
 obtain ⟨c0, c1, c2, c3, c4⟩ := a0.five
 obtain ⟨d0, d1, d2, d3, d4⟩ := b0.five
 have HA := Aside0.mk a0; have HD := Aside0.mk b0; have HB := Aside0.mk hb0
 clear a0 b0 hb0
 clear c0 c1 c2 c3 c4 d0 d1 d2 d3 d4
 go_region_held3 (fun W' => (W'.cell? ⟨w.heap.size, 0, none⟩ = some (.int .u64 x0) ∧ W'.cell? ⟨w.heap.size, 1, none⟩ = some (.int .u64 x1) ∧ W'.cell? ⟨w.heap.size, 2, none⟩ = some (.int .u64 x2) ∧ W'.cell? ⟨w.heap.size, 3, none⟩ = some (.string xp) ∧ W'.cell? ⟨w.heap.size, 4, none⟩ = some (.string xm)) ∧ W'.cell? ⟨w.heap.size + 1, 0, none⟩ = some (.int .u64 y0) ∧ W'.cell? ⟨w.heap.size + 1, 1, none⟩ = some (.int .u64 y1) ∧ W'.cell? ⟨w.heap.size + 1, 2, none⟩ = some (.int .u64 y2) ∧ W'.cell? ⟨w.heap.size + 1, 3, none⟩ = some (.string yp) ∧ W'.cell? ⟨w.heap.size + 1, 4, none⟩ = some (.string ym))
  ((with_reducible refine ⟨At.five ?_, At.five ?_⟩) <;> (repeat (first | (with_reducible exact HA.out) | (with_reducible exact HD.out) | (with_reducible apply At.drew) | (with_reducible apply At.alloc) | (with_reducible refine At.far ?_ _ (by simp; omega) _)))) (first | fail)
 ·
  generalize hW1 : World.drew _ = w1
  have hx : At w1 (w.heap.size + 2) [.int .u64 x0, .int .u64 x1, .int .u64 x2] := by
   rw [← hW1]
   exact ((At.new w0 _ _ _ hz0.symm).alloc _).drew
  have hy : At w1 (w.heap.size + 2 + 1) [.int .u64 y0, .int .u64 y1, .int .u64 y2] := by
   rw [← hW1]
   exact (At.new _ _ _ _ (by simp; omega)).drew
  have hb1 : Below w.heap.size w w1 := by
   rw [← hW1]
   exact below_drew ((HB.out.alloc (by omega) _).alloc (by simp; omega) _)
  clear hW1 HA HD HB hz0
  have HX1 := Aside0.mk hx; have HY1 := Aside0.mk hy; have HB1 := Aside0.mk hb1
  clear hx hy hb1
  go_wp2_with fail
  go_loopw [9] (fun v w' => ∃ i : Int, v = .int .i64 i ∧ (i = 0 ∨ i = 1 ∨ i = 2 ∨ i = 3) ∧ Aside0 (cmpFrom k i x0 x1 x2 y0 y1 y2 = V) ∧ Aside0 (At w' (w.heap.size + 2) [.int .u64 x0, .int .u64 x1, .int .u64 x2]) ∧ Aside0 (At w' (w.heap.size + 2 + 1) [.int .u64 y0, .int .u64 y1, .int .u64 y2]) ∧ Aside0 (Below w.heap.size w w')) (fun v _ => (3 - Go.RowKit.intOf v).toNat)
  case atStart => exact ⟨0, rfl, .inl rfl, ⟨HV0.out⟩, HX1, HY1, HB1⟩
  case round =>
   obtain ⟨i, rfl, hi, HA, HX, HY, HB3⟩ := hrel
   clear HX1 HY1 HB1 HV0
   rcases hi with rfl | rfl | rfl | rfl
   ·
    by_cases hk : 0 < k
    ·
     have k0 : decide ((0 : Int) < k) = true := decide_eq_true hk
     have cO := fun d os => Calls.regrown_of (cOrd x0 y0 (grow (redrawn wr d) os))
     obtain ⟨u0, u1, u2⟩ := HX.out.threeR
     obtain ⟨t0, t1, t2⟩ := HY.out.threeR
     have HS : Hid (cmpFrom k 0 x0 x1 x2 y0 y1 y2 = if ordI x0 y0 ≠ 0 then ordI x0 y0 else cmpFrom k 1 x0 x1 x2 y0 y1 y2) := Lib.hid (by unfold cmpFrom; by_cases h : ordI x0 y0 = 0 <;> simp [h, hk])
     clear hk
     cases hc : (ordI x0 y0 == 0) with
     | true =>
      have hc' : (ordI x0 y0 != 0) = false := by rw [bne, hc]; rfl
      have HZ := Lib.hid (beq_iff_eq.1 hc)
      generalize ordI x0 y0 = r at *
      go_wp2_with fail
      refine wp_region_quiet_below (by kernel_rfl) (by kernel_rfl) ?_
      repeat (first | go_big_quiet_step (exact cO _ _) | quiet_step (exact cO _ _))
      refine wpQuiet_nil ?_
      intro _ hw'; obtain ⟨⟨dq, osq⟩, hw''⟩ := hw'; subst hw''; clear cO u0 u1 u2 t0 t1 t2
      have hb := below_regrown wr dq osq
      generalize grow (redrawn wr dq) osq = w2 at *
      go_wp2_with fail
      go_roundw
      case rel => exact ⟨1, rfl, by omega, ⟨by rw [← HA.out, HS.out, HZ.out]; rfl⟩, ⟨HX.out.below hb⟩, ⟨HY.out.below hb⟩, ⟨HB3.out.trans (hb.mono HB3.out.size)⟩⟩
      case measure => simp [Go.RowKit.intOf]
     | false =>
      have hc' : (ordI x0 y0 != 0) = true := by rw [bne, hc]; rfl
      have HZ := Lib.hid (beq_eq_false_iff_ne.1 hc)
      have HV : Hid (ordI x0 y0 = V) := Lib.hid (by rw [← HA.out, HS.out, if_pos HZ.out])
      clear HS HA HZ
      generalize ordI x0 y0 = r at *
      go_wp2_with fail
      refine wp_region_quiet_below (by kernel_rfl) (by kernel_rfl) ?_
      repeat (first | go_big_quiet_step (exact cO _ _) | quiet_step (exact cO _ _))
      refine wpQuiet_nil ?_
      intro _ hw'; obtain ⟨⟨dq, osq⟩, hw''⟩ := hw'; subst hw''; clear cO u0 u1 u2 t0 t1 t2
      have hb := below_regrown wr dq osq
      generalize grow (redrawn wr dq) osq = w2 at *
      go_wp2_with fail
      go_ret
      exact ⟨by rw [← HV.out]; rfl, HB3.out.trans (hb.mono HB3.out.size)⟩
    ·
     have k0 : decide ((0 : Int) < k) = false := decide_eq_false hk
     have HV : Hid (V = 0) := Lib.hid (by rw [← HA.out]; unfold cmpFrom; rw [if_neg (by omega), if_neg (by omega), if_neg (by omega)])
     clear hk HA
     go_wp2_with fail
     go_ret
     exact ⟨by rw [HV.out] <;> rfl, HB3.out⟩
   ·
    by_cases hk : 1 < k
    ·
     have k0 : decide ((1 : Int) < k) = true := decide_eq_true hk
     have cO := fun d os => Calls.regrown_of (cOrd x1 y1 (grow (redrawn wr d) os))
     obtain ⟨u0, u1, u2⟩ := HX.out.threeR
     obtain ⟨t0, t1, t2⟩ := HY.out.threeR
     have HS : Hid (cmpFrom k 1 x0 x1 x2 y0 y1 y2 = if ordI x1 y1 ≠ 0 then ordI x1 y1 else cmpFrom k 2 x0 x1 x2 y0 y1 y2) := Lib.hid (by unfold cmpFrom; by_cases h : ordI x1 y1 = 0 <;> simp [h, hk])
     clear hk
     cases hc : (ordI x1 y1 == 0) with
     | true =>
      have hc' : (ordI x1 y1 != 0) = false := by rw [bne, hc]; rfl
      have HZ := Lib.hid (beq_iff_eq.1 hc)
      generalize ordI x1 y1 = r at *
      go_wp2_with fail
      refine wp_region_quiet_below (by kernel_rfl) (by kernel_rfl) ?_
      repeat (first | go_big_quiet_step (exact cO _ _) | quiet_step (exact cO _ _))
      refine wpQuiet_nil ?_
      intro _ hw'; obtain ⟨⟨dq, osq⟩, hw''⟩ := hw'; subst hw''; clear cO u0 u1 u2 t0 t1 t2
      have hb := below_regrown wr dq osq
      generalize grow (redrawn wr dq) osq = w2 at *
      go_wp2_with fail
      go_roundw
      case rel => exact ⟨2, rfl, by omega, ⟨by rw [← HA.out, HS.out, HZ.out]; rfl⟩, ⟨HX.out.below hb⟩, ⟨HY.out.below hb⟩, ⟨HB3.out.trans (hb.mono HB3.out.size)⟩⟩
      case measure => simp [Go.RowKit.intOf]
     | false =>
      have hc' : (ordI x1 y1 != 0) = true := by rw [bne, hc]; rfl
      have HZ := Lib.hid (beq_eq_false_iff_ne.1 hc)
      have HV : Hid (ordI x1 y1 = V) := Lib.hid (by rw [← HA.out, HS.out, if_pos HZ.out])
      clear HS HA HZ
      generalize ordI x1 y1 = r at *
      go_wp2_with fail
      refine wp_region_quiet_below (by kernel_rfl) (by kernel_rfl) ?_
      repeat (first | go_big_quiet_step (exact cO _ _) | quiet_step (exact cO _ _))
      refine wpQuiet_nil ?_
      intro _ hw'; obtain ⟨⟨dq, osq⟩, hw''⟩ := hw'; subst hw''; clear cO u0 u1 u2 t0 t1 t2
      have hb := below_regrown wr dq osq
      generalize grow (redrawn wr dq) osq = w2 at *
      go_wp2_with fail
      go_ret
      exact ⟨by rw [← HV.out]; rfl, HB3.out.trans (hb.mono HB3.out.size)⟩
    ·
     have k0 : decide ((1 : Int) < k) = false := decide_eq_false hk
     have HV : Hid (V = 0) := Lib.hid (by rw [← HA.out]; unfold cmpFrom; rw [if_neg (by omega), if_neg (by omega), if_neg (by omega)])
     clear hk HA
     go_wp2_with fail
     go_ret
     exact ⟨by rw [HV.out] <;> rfl, HB3.out⟩
   ·
    by_cases hk : 2 < k
    ·
     have k0 : decide ((2 : Int) < k) = true := decide_eq_true hk
     have cO := fun d os => Calls.regrown_of (cOrd x2 y2 (grow (redrawn wr d) os))
     obtain ⟨u0, u1, u2⟩ := HX.out.threeR
     obtain ⟨t0, t1, t2⟩ := HY.out.threeR
     have HS : Hid (cmpFrom k 2 x0 x1 x2 y0 y1 y2 = if ordI x2 y2 ≠ 0 then ordI x2 y2 else cmpFrom k 3 x0 x1 x2 y0 y1 y2) := Lib.hid (by unfold cmpFrom; by_cases h : ordI x2 y2 = 0 <;> simp [h, hk])
     clear hk
     cases hc : (ordI x2 y2 == 0) with
     | true =>
      have hc' : (ordI x2 y2 != 0) = false := by rw [bne, hc]; rfl
      have HZ := Lib.hid (beq_iff_eq.1 hc)
      generalize ordI x2 y2 = r at *
      go_wp2_with fail
      refine wp_region_quiet_below (by kernel_rfl) (by kernel_rfl) ?_
      repeat (first | go_big_quiet_step (exact cO _ _) | quiet_step (exact cO _ _))
      refine wpQuiet_nil ?_
      intro _ hw'; obtain ⟨⟨dq, osq⟩, hw''⟩ := hw'; subst hw''; clear cO u0 u1 u2 t0 t1 t2
      have hb := below_regrown wr dq osq
      generalize grow (redrawn wr dq) osq = w2 at *
      go_wp2_with fail
      go_roundw
      case rel => exact ⟨3, rfl, by omega, ⟨by rw [← HA.out, HS.out, HZ.out]; rfl⟩, ⟨HX.out.below hb⟩, ⟨HY.out.below hb⟩, ⟨HB3.out.trans (hb.mono HB3.out.size)⟩⟩
      case measure => simp [Go.RowKit.intOf]
     | false =>
      have hc' : (ordI x2 y2 != 0) = true := by rw [bne, hc]; rfl
      have HZ := Lib.hid (beq_eq_false_iff_ne.1 hc)
      have HV : Hid (ordI x2 y2 = V) := Lib.hid (by rw [← HA.out, HS.out, if_pos HZ.out])
      clear HS HA HZ
      generalize ordI x2 y2 = r at *
      go_wp2_with fail
      refine wp_region_quiet_below (by kernel_rfl) (by kernel_rfl) ?_
      repeat (first | go_big_quiet_step (exact cO _ _) | quiet_step (exact cO _ _))
      refine wpQuiet_nil ?_
      intro _ hw'; obtain ⟨⟨dq, osq⟩, hw''⟩ := hw'; subst hw''; clear cO u0 u1 u2 t0 t1 t2
      have hb := below_regrown wr dq osq
      generalize grow (redrawn wr dq) osq = w2 at *
      go_wp2_with fail
      go_ret
      exact ⟨by rw [← HV.out]; rfl, HB3.out.trans (hb.mono HB3.out.size)⟩
    ·
     have k0 : decide ((2 : Int) < k) = false := decide_eq_false hk
     have HV : Hid (V = 0) := Lib.hid (by rw [← HA.out]; unfold cmpFrom; rw [if_neg (by omega), if_neg (by omega), if_neg (by omega)])
     clear hk HA
     go_wp2_with fail
     go_ret
     exact ⟨by rw [HV.out] <;> rfl, HB3.out⟩
   ·
    have HV : Hid (V = 0) := Lib.hid (by rw [← HA.out]; unfold cmpFrom; rw [if_neg (by omega), if_neg (by omega), if_neg (by omega)])
    clear HA
    cases hk : decide ((3 : Int) < k) with
    | true =>
     go_wp2_with fail
     go_ret
     exact ⟨by rw [HV.out] <;> rfl, HB3.out⟩
    | false =>
     go_wp2_with fail
     go_ret
     exact ⟨by rw [HV.out] <;> rfl, HB3.out⟩
 ·
  generalize hW1 : World.drew _ = w1
  have hx : At w1 (w.heap.size + 2 + 1) [.int .u64 x0, .int .u64 x1, .int .u64 x2] := by
   rw [← hW1]
   exact (At.new _ _ _ _ (by simp; omega)).drew
  have hy : At w1 (w.heap.size + 2) [.int .u64 y0, .int .u64 y1, .int .u64 y2] := by
   rw [← hW1]
   exact ((At.new w0 _ _ _ hz0.symm).alloc _).drew
  have hb1 : Below w.heap.size w w1 := by
   rw [← hW1]
   exact below_drew ((HB.out.alloc (by omega) _).alloc (by simp; omega) _)
  clear hW1 HA HD HB hz0
  have HX1 := Aside0.mk hx; have HY1 := Aside0.mk hy; have HB1 := Aside0.mk hb1
  clear hx hy hb1
  go_wp2_with fail
  go_loopw [9] (fun v w' => ∃ i : Int, v = .int .i64 i ∧ (i = 0 ∨ i = 1 ∨ i = 2 ∨ i = 3) ∧ Aside0 (cmpFrom k i x0 x1 x2 y0 y1 y2 = V) ∧ Aside0 (At w' (w.heap.size + 2 + 1) [.int .u64 x0, .int .u64 x1, .int .u64 x2]) ∧ Aside0 (At w' (w.heap.size + 2) [.int .u64 y0, .int .u64 y1, .int .u64 y2]) ∧ Aside0 (Below w.heap.size w w')) (fun v _ => (3 - Go.RowKit.intOf v).toNat)
  case atStart => exact ⟨0, rfl, .inl rfl, ⟨HV0.out⟩, HX1, HY1, HB1⟩
  case round =>
   obtain ⟨i, rfl, hi, HA, HX, HY, HB3⟩ := hrel
   clear HX1 HY1 HB1 HV0
   rcases hi with rfl | rfl | rfl | rfl
   ·
    by_cases hk : 0 < k
    ·
     have k0 : decide ((0 : Int) < k) = true := decide_eq_true hk
     have cO := fun d os => Calls.regrown_of (cOrd x0 y0 (grow (redrawn wr d) os))
     obtain ⟨u0, u1, u2⟩ := HX.out.threeR
     obtain ⟨t0, t1, t2⟩ := HY.out.threeR
     have HS : Hid (cmpFrom k 0 x0 x1 x2 y0 y1 y2 = if ordI x0 y0 ≠ 0 then ordI x0 y0 else cmpFrom k 1 x0 x1 x2 y0 y1 y2) := Lib.hid (by unfold cmpFrom; by_cases h : ordI x0 y0 = 0 <;> simp [h, hk])
     clear hk
     cases hc : (ordI x0 y0 == 0) with
     | true =>
      have hc' : (ordI x0 y0 != 0) = false := by rw [bne, hc]; rfl
      have HZ := Lib.hid (beq_iff_eq.1 hc)
      generalize ordI x0 y0 = r at *
      go_wp2_with fail
      refine wp_region_quiet_below (by kernel_rfl) (by kernel_rfl) ?_
      repeat (first | go_big_quiet_step (exact cO _ _) | quiet_step (exact cO _ _))
      refine wpQuiet_nil ?_
      intro _ hw'; obtain ⟨⟨dq, osq⟩, hw''⟩ := hw'; subst hw''; clear cO u0 u1 u2 t0 t1 t2
      have hb := below_regrown wr dq osq
      generalize grow (redrawn wr dq) osq = w2 at *
      go_wp2_with fail
      go_roundw
      case rel => exact ⟨1, rfl, by omega, ⟨by rw [← HA.out, HS.out, HZ.out]; rfl⟩, ⟨HX.out.below hb⟩, ⟨HY.out.below hb⟩, ⟨HB3.out.trans (hb.mono HB3.out.size)⟩⟩
      case measure => simp [Go.RowKit.intOf]
     | false =>
      have hc' : (ordI x0 y0 != 0) = true := by rw [bne, hc]; rfl
      have HZ := Lib.hid (beq_eq_false_iff_ne.1 hc)
      have HV : Hid (ordI x0 y0 = V) := Lib.hid (by rw [← HA.out, HS.out, if_pos HZ.out])
      clear HS HA HZ
      generalize ordI x0 y0 = r at *
      go_wp2_with fail
      refine wp_region_quiet_below (by kernel_rfl) (by kernel_rfl) ?_
      repeat (first | go_big_quiet_step (exact cO _ _) | quiet_step (exact cO _ _))
      refine wpQuiet_nil ?_
      intro _ hw'; obtain ⟨⟨dq, osq⟩, hw''⟩ := hw'; subst hw''; clear cO u0 u1 u2 t0 t1 t2
      have hb := below_regrown wr dq osq
      generalize grow (redrawn wr dq) osq = w2 at *
      go_wp2_with fail
      go_ret
      exact ⟨by rw [← HV.out]; rfl, HB3.out.trans (hb.mono HB3.out.size)⟩
    ·
     have k0 : decide ((0 : Int) < k) = false := decide_eq_false hk
     have HV : Hid (V = 0) := Lib.hid (by rw [← HA.out]; unfold cmpFrom; rw [if_neg (by omega), if_neg (by omega), if_neg (by omega)])
     clear hk HA
     go_wp2_with fail
     go_ret
     exact ⟨by rw [HV.out] <;> rfl, HB3.out⟩
   ·
    by_cases hk : 1 < k
    ·
     have k0 : decide ((1 : Int) < k) = true := decide_eq_true hk
     have cO := fun d os => Calls.regrown_of (cOrd x1 y1 (grow (redrawn wr d) os))
     obtain ⟨u0, u1, u2⟩ := HX.out.threeR
     obtain ⟨t0, t1, t2⟩ := HY.out.threeR
     have HS : Hid (cmpFrom k 1 x0 x1 x2 y0 y1 y2 = if ordI x1 y1 ≠ 0 then ordI x1 y1 else cmpFrom k 2 x0 x1 x2 y0 y1 y2) := Lib.hid (by unfold cmpFrom; by_cases h : ordI x1 y1 = 0 <;> simp [h, hk])
     clear hk
     cases hc : (ordI x1 y1 == 0) with
     | true =>
      have hc' : (ordI x1 y1 != 0) = false := by rw [bne, hc]; rfl
      have HZ := Lib.hid (beq_iff_eq.1 hc)
      generalize ordI x1 y1 = r at *
      go_wp2_with fail
      refine wp_region_quiet_below (by kernel_rfl) (by kernel_rfl) ?_
      repeat (first | go_big_quiet_step (exact cO _ _) | quiet_step (exact cO _ _))
      refine wpQuiet_nil ?_
      intro _ hw'; obtain ⟨⟨dq, osq⟩, hw''⟩ := hw'; subst hw''; clear cO u0 u1 u2 t0 t1 t2
      have hb := below_regrown wr dq osq
      generalize grow (redrawn wr dq) osq = w2 at *
      go_wp2_with fail
      go_roundw
      case rel => exact ⟨2, rfl, by omega, ⟨by rw [← HA.out, HS.out, HZ.out]; rfl⟩, ⟨HX.out.below hb⟩, ⟨HY.out.below hb⟩, ⟨HB3.out.trans (hb.mono HB3.out.size)⟩⟩
      case measure => simp [Go.RowKit.intOf]
     | false =>
      have hc' : (ordI x1 y1 != 0) = true := by rw [bne, hc]; rfl
      have HZ := Lib.hid (beq_eq_false_iff_ne.1 hc)
      have HV : Hid (ordI x1 y1 = V) := Lib.hid (by rw [← HA.out, HS.out, if_pos HZ.out])
      clear HS HA HZ
      generalize ordI x1 y1 = r at *
      go_wp2_with fail
      refine wp_region_quiet_below (by kernel_rfl) (by kernel_rfl) ?_
      repeat (first | go_big_quiet_step (exact cO _ _) | quiet_step (exact cO _ _))
      refine wpQuiet_nil ?_
      intro _ hw'; obtain ⟨⟨dq, osq⟩, hw''⟩ := hw'; subst hw''; clear cO u0 u1 u2 t0 t1 t2
      have hb := below_regrown wr dq osq
      generalize grow (redrawn wr dq) osq = w2 at *
      go_wp2_with fail
      go_ret
      exact ⟨by rw [← HV.out]; rfl, HB3.out.trans (hb.mono HB3.out.size)⟩
    ·
     have k0 : decide ((1 : Int) < k) = false := decide_eq_false hk
     have HV : Hid (V = 0) := Lib.hid (by rw [← HA.out]; unfold cmpFrom; rw [if_neg (by omega), if_neg (by omega), if_neg (by omega)])
     clear hk HA
     go_wp2_with fail
     go_ret
     exact ⟨by rw [HV.out] <;> rfl, HB3.out⟩
   ·
    by_cases hk : 2 < k
    ·
     have k0 : decide ((2 : Int) < k) = true := decide_eq_true hk
     have cO := fun d os => Calls.regrown_of (cOrd x2 y2 (grow (redrawn wr d) os))
     obtain ⟨u0, u1, u2⟩ := HX.out.threeR
     obtain ⟨t0, t1, t2⟩ := HY.out.threeR
     have HS : Hid (cmpFrom k 2 x0 x1 x2 y0 y1 y2 = if ordI x2 y2 ≠ 0 then ordI x2 y2 else cmpFrom k 3 x0 x1 x2 y0 y1 y2) := Lib.hid (by unfold cmpFrom; by_cases h : ordI x2 y2 = 0 <;> simp [h, hk])
     clear hk
     cases hc : (ordI x2 y2 == 0) with
     | true =>
      have hc' : (ordI x2 y2 != 0) = false := by rw [bne, hc]; rfl
      have HZ := Lib.hid (beq_iff_eq.1 hc)
      generalize ordI x2 y2 = r at *
      go_wp2_with fail
      refine wp_region_quiet_below (by kernel_rfl) (by kernel_rfl) ?_
      repeat (first | go_big_quiet_step (exact cO _ _) | quiet_step (exact cO _ _))
      refine wpQuiet_nil ?_
      intro _ hw'; obtain ⟨⟨dq, osq⟩, hw''⟩ := hw'; subst hw''; clear cO u0 u1 u2 t0 t1 t2
      have hb := below_regrown wr dq osq
      generalize grow (redrawn wr dq) osq = w2 at *
      go_wp2_with fail
      go_roundw
      case rel => exact ⟨3, rfl, by omega, ⟨by rw [← HA.out, HS.out, HZ.out]; rfl⟩, ⟨HX.out.below hb⟩, ⟨HY.out.below hb⟩, ⟨HB3.out.trans (hb.mono HB3.out.size)⟩⟩
      case measure => simp [Go.RowKit.intOf]
     | false =>
      have hc' : (ordI x2 y2 != 0) = true := by rw [bne, hc]; rfl
      have HZ := Lib.hid (beq_eq_false_iff_ne.1 hc)
      have HV : Hid (ordI x2 y2 = V) := Lib.hid (by rw [← HA.out, HS.out, if_pos HZ.out])
      clear HS HA HZ
      generalize ordI x2 y2 = r at *
      go_wp2_with fail
      refine wp_region_quiet_below (by kernel_rfl) (by kernel_rfl) ?_
      repeat (first | go_big_quiet_step (exact cO _ _) | quiet_step (exact cO _ _))
      refine wpQuiet_nil ?_
      intro _ hw'; obtain ⟨⟨dq, osq⟩, hw''⟩ := hw'; subst hw''; clear cO u0 u1 u2 t0 t1 t2
      have hb := below_regrown wr dq osq
      generalize grow (redrawn wr dq) osq = w2 at *
      go_wp2_with fail
      go_ret
      exact ⟨by rw [← HV.out]; rfl, HB3.out.trans (hb.mono HB3.out.size)⟩
    ·
     have k0 : decide ((2 : Int) < k) = false := decide_eq_false hk
     have HV : Hid (V = 0) := Lib.hid (by rw [← HA.out]; unfold cmpFrom; rw [if_neg (by omega), if_neg (by omega), if_neg (by omega)])
     clear hk HA
     go_wp2_with fail
     go_ret
     exact ⟨by rw [HV.out] <;> rfl, HB3.out⟩
   ·
    have HV : Hid (V = 0) := Lib.hid (by rw [← HA.out]; unfold cmpFrom; rw [if_neg (by omega), if_neg (by omega), if_neg (by omega)])
    clear HA
    cases hk : decide ((3 : Int) < k) with
    | true =>
     go_wp2_with fail
     go_ret
     exact ⟨by rw [HV.out] <;> rfl, HB3.out⟩
    | false =>
     go_wp2_with fail
     go_ret
     exact ⟨by rw [HV.out] <;> rfl, HB3.out⟩

end Go.Proofs.YtllkoadcpobdaaaDoor.KX
namespace Go.Proofs.YtllkoadcpobdaaaDoor.PX

open Go Go.Proofs Go.RowKit Go.Lib Go.Proofs.YtllkoadcpobdaaaDoor.KX

def spec_CompareNumbers.f (a0 a1 a2 : Int) (_ _ : ByteArray) (b0 b1 b2 : Int) (_ _ : ByteArray) (k : Int) : Option Int := some (cmpFrom k 0 a0 a1 a2 b0 b1 b2)

theorem spec_CompareNumbers.calls (a0 a1 a2 : Int) (a3 a4 : ByteArray) (b0 b1 b2 : Int) (b3 b4 : ByteArray) (k : Int) (r : Int) (w : World) (h : spec_CompareNumbers.f a0 a1 a2 a3 a4 b0 b1 b2 b3 b4 k = some r) :
    Calls Tryd.prog 39 #[.agg #[.int .u64 a0, .int .u64 a1, .int .u64 a2, .string a3, .string a4], .agg #[.int .u64 b0, .int .u64 b1, .int .u64 b2, .string b3, .string b4], .int .i64 k] w fun e w' => e = .returned (.int .i64 r) ∧ Below w.heap.size w w' := by
  cases h
  exact compareNumbers a0 a1 a2 a3 a4 b0 b1 b2 b3 b4 k w

end Go.Proofs.YtllkoadcpobdaaaDoor.PX
