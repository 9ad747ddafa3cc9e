/- The row and the tied card of FnSemverEqualCompares, out of its printed walk and its plain law. For every input that the statement lets in. -/
import Derived.Test.YtllkoadcpobdaaaDoorZCardSemverEqualCompares9
import Derived.Test.YtllkoadcpobdaaaDoorZCardSemverEqualCompares10
import Derived.Test.YtllkoadcpobdaaaDoorZCardSemverEqualCompares11
import Derived.Test.YtllkoadcpobdaaaDoorZCardSemverEqualCompares16
import Derived.Test.YtllkoadcpobdaaaDoorZCardSemverEqualCompares19
import Derived.Test.YtllkoadcpobdaaaDoorZCardSemverEqualCompares22
namespace Go.Proofs.YtllkoadcpobdaaaDoor.PX

open Go.RowKit Go.Proofs.YtllkoadcpobdaaaDoorW.PrintWords Go.Proofs.YtllkoadcpobdaaaDoorW.PrintLast Go.Proofs.YtllkoadcpobdaaaDoorW.PrintMore

attribute [local go_sem] max2_int min2_int max_two min_two max_three min_three max_four min_four   -- for this text's walks alone

set_option linter.unusedVariables false

set_option linter.unusedSimpArgs false

def laws_FnSemverEqualCompares.j0 : Nat → Bool → Int → Int → Int → ByteArray → ByteArray → Int → Int → Int → ByteArray → ByteArray → Option (Bool)
  | 0, _, _, _, _, _, _, _, _, _, _, _ => none
  | k + 1, x13, x352000, x352001, x352002, x352003, x352004, x353000, x353001, x353002, x353003, x353004 => if x13 = true then (some true) else ((laws_svGood.f k (([(⟨x352000, x352001, x352002, x352003, x352004⟩ : S26), (⟨x353000, x353001, x353002, x353003, x353004⟩ : S26)] : List (S26)))).bind fun t358 => (if t358 = true then ((laws_stTerm.f 0 x353000 x353001 x353002 x353003 x353004 3).bind fun bt359 => ((impl_EqualHolds.f bt359.1 bt359.2.1 bt359.2.2.1 bt359.2.2.2.1 bt359.2.2.2.2.1 bt359.2.2.2.2.2 x352000 x352001 x352002 x352003 x352004 true).bind fun t366 => ((impl_VersionEqual.f x352000 x352001 x352002 x352003 x352004 x353000 x353001 x353002 x353003 x353004).bind fun t367 => (if (t366 == t367) = true then ((impl_NotEqualHolds.f bt359.1 bt359.2.1 bt359.2.2.1 bt359.2.2.2.1 bt359.2.2.2.2.1 bt359.2.2.2.2.2 x352000 x352001 x352002 x352003 x352004 true).bind fun t368 => ((impl_VersionEqual.f x352000 x352001 x352002 x352003 x352004 x353000 x353001 x353002 x353003 x353004).bind fun t369 => (some (t368 == (!t369))))) else (some false))))) else (some true)))

def laws_FnSemverEqualCompares.f (k : Nat) (a0_0 : Int) (a0_1 : Int) (a0_2 : Int) (a0_3 : ByteArray) (a0_4 : ByteArray) (a1_0 : Int) (a1_1 : Int) (a1_2 : Int) (a1_3 : ByteArray) (a1_4 : ByteArray) : Option (Bool) := (laws_zzFits14.f a0_0 a0_1 a0_2 a0_3 a0_4).bind fun t353 => (if t353 = true then ((laws_zzFits14.f a1_0 a1_1 a1_2 a1_3 a1_4).bind fun t354 => (laws_FnSemverEqualCompares.j0 k (!t354) a0_0 a0_1 a0_2 a0_3 a0_4 a1_0 a1_1 a1_2 a1_3 a1_4)) else (laws_FnSemverEqualCompares.j0 k true a0_0 a0_1 a0_2 a0_3 a0_4 a1_0 a1_1 a1_2 a1_3 a1_4))

theorem laws_FnSemverEqualCompares.mono_l : ∀ k, (∀ y0 y1 y2 y3 y4 y5 y6 y7 y8 y9 y10, LeO (laws_FnSemverEqualCompares.j0 k y0 y1 y2 y3 y4 y5 y6 y7 y8 y9 y10) (laws_FnSemverEqualCompares.j0 (k + 1) y0 y1 y2 y3 y4 y5 y6 y7 y8 y9 y10))
  | 0 => fun _ _ _ _ _ _ _ _ _ _ _ r h => by simp [laws_FnSemverEqualCompares.j0] at h
  | k + 1 => by
    have ih0 := laws_FnSemverEqualCompares.mono_l k
    · intro y0 y1 y2 y3 y4 y5 y6 y7 y8 y9 y10
      unfold laws_FnSemverEqualCompares.j0
      repeat' first
      | (with_reducible exact ih0 _ _ _ _ _ _ _ _ _ _ _)
      | (with_reducible exact laws_svGood.mono _ _)
      | (with_reducible exact LeO.refl _)
      | (with_reducible exact LeO.none _)
      | (with_reducible refine LeO.ite ?_ ?_)
      | (with_reducible refine LeO.bind ?_ (fun _ => ?_))
      | exact ih0 _ _ _ _ _ _ _ _ _ _ _
      | exact laws_svGood.mono _ _
      | exact LeO.none _
      | refine LeO.ite ?_ ?_
      | refine LeO.bind ?_ (fun _ => ?_)

theorem laws_FnSemverEqualCompares.mono : ∀ a0 a1 a2 a3 a4 a5 a6 a7 a8 a9 k, LeO (laws_FnSemverEqualCompares.f k a0 a1 a2 a3 a4 a5 a6 a7 a8 a9) (laws_FnSemverEqualCompares.f (k + 1) a0 a1 a2 a3 a4 a5 a6 a7 a8 a9) := by
  intro a0 a1 a2 a3 a4 a5 a6 a7 a8 a9 k
  have ih0 := laws_FnSemverEqualCompares.mono_l k
  unfold laws_FnSemverEqualCompares.f
  repeat' first
      | (with_reducible exact ih0 _ _ _ _ _ _ _ _ _ _ _)
      | (with_reducible exact laws_svGood.mono _ _)
      | (with_reducible exact LeO.refl _)
      | (with_reducible exact LeO.none _)
      | (with_reducible refine LeO.ite ?_ ?_)
      | (with_reducible refine LeO.bind ?_ (fun _ => ?_))
      | exact ih0 _ _ _ _ _ _ _ _ _ _ _
      | exact laws_svGood.mono _ _
      | exact LeO.none _
      | refine LeO.ite ?_ ?_
      | refine LeO.bind ?_ (fun _ => ?_)

def laws_FnSemverEqualCompares.T6 : Bool × List (List Nat × List Nat) := (true, [([], []), ([], []), ([0, 1], [0, 1]), ([], []), ([], []), ([3, 4, 2], [3, 4]), ([2, 5], [2, 5]), ([6, 5], [6]), ([7], [7]), ([7], [7]), ([8, 9, 7, 7], [7, 8, 9]), ([7], [7]), ([7], [7]), ([11, 12, 10, 7], [7, 11, 12]), ([13, 7], [7, 13]), ([10, 14, 7], [7, 10, 14]), ([7, 15], [7, 15]), ([16, 13, 0, 1, 2, 3, 4, 5, 6, 7, 8, 9, 10, 11, 12, 13, 14, 15, 16], [16])])

def laws_FnSemverEqualCompares.B6 : List Nat := [0, 0, 3, 0, 0, 31, 63, 127, 255, 255, 1023, 255, 255, 8191, 16383, 32767, 65535, 131071]

theorem laws_FnSemverEqualCompares.tab6 : rtab .any (opsOf Tryd.f7 6) = laws_FnSemverEqualCompares.T6 := by kernel_rfl

theorem laws_FnSemverEqualCompares.bits6 : waitsOk laws_FnSemverEqualCompares.T6.2 laws_FnSemverEqualCompares.B6 = true := by kernel_rfl

set_option maxHeartbeats 80000000 in
set_option maxRecDepth 100000 in
theorem laws_FnSemverEqualCompares.calls (k : Nat) (a0_0 : Int) (a0_1 : Int) (a0_2 : Int) (a0_3 : ByteArray) (a0_4 : ByteArray) (a1_0 : Int) (a1_1 : Int) (a1_2 : Int) (a1_3 : ByteArray) (a1_4 : ByteArray) (r : Bool) (w : World) (hStd : Std w) (h : laws_FnSemverEqualCompares.f k a0_0 a0_1 a0_2 a0_3 a0_4 a1_0 a1_1 a1_2 a1_3 a1_4 = some r) :
    Calls Tryd.prog 7 #[.agg #[.int .u64 a0_0, .int .u64 a0_1, .int .u64 a0_2, .string a0_3, .string a0_4], .agg #[.int .u64 a1_0, .int .u64 a1_1, .int .u64 a1_2, .string a1_3, .string a1_4]] w fun e w' => e = .returned (.bool r) ∧ Below w.heap.size w w' := by
  have hu26 := Tryd.underlying26
  have hu24 := Tryd.underlying24
  have HStd := Aside0.mk hStd
  clear hStd
  have HB := Aside0.mk (Below.refl w.heap.size w)
  have H : ((laws_zzFits14.f a0_0 a0_1 a0_2 a0_3 a0_4).bind fun t353 => (if t353 = true then ((laws_zzFits14.f a1_0 a1_1 a1_2 a1_3 a1_4).bind fun t354 => (laws_FnSemverEqualCompares.j0 k (!t354) a0_0 a0_1 a0_2 a0_3 a0_4 a1_0 a1_1 a1_2 a1_3 a1_4)) else (laws_FnSemverEqualCompares.j0 k true a0_0 a0_1 a0_2 a0_3 a0_4 a1_0 a1_1 a1_2 a1_3 a1_4))) = some r := h
  clear h
  have HC3 := Aside0.mk H
  clear H
  go_enter Tryd.func7, Tryd.ntmps7
  go_upto_region 1 with (first | ((with_reducible refine gate_dst (N := 2) rfl ?_); refine box_event ?hg (N := 2) ?hd (cs := #[.int .u64 a0_0, .int .u64 a0_1, .int .u64 a0_2, .string a0_3, .string a0_4]) (t := 26) ?hr ?_; (case hd => rfl); (case hg => rfl); (case hr => first | (go_simp; done) | (go_simp; rfl) | (go_simp; simp [u8w]; done)); intro gb351 hg w4 hbox hb; have n0_ := Aside0.mk (below_step (by repeat (first | (with_reducible first | exact HB.out | apply below_alloc | apply pw_below_drewN | apply below_drew1) | exact HB.out)) hb); have n1_ := Aside0.mk (hbox); have n2_ := Aside0.mk ((by rw [hg]; exact (below_size (by repeat (first | (with_reducible first | exact HB.out | apply below_alloc | apply pw_below_drewN | apply below_drew1) | exact HB.out))) : w.heap.size ≤ gb351)); have n3_ := Aside0.mk ((by rw [hg]; exact (below_size (by repeat (first | (with_reducible first | exact HB.out | apply below_alloc | apply pw_below_drewN | apply below_drew1) | exact HB.out))) : w.heap.size ≤ gb351)); clear HB; have HB := n0_; have BK351 := n1_; have GW351 := n2_; have GE351 := n3_; clear n0_ n1_ n2_ n3_; clear hb hbox hg) | ((with_reducible refine gate_dst (N := 3) rfl ?_); refine box_event ?hg (N := 3) ?hd (cs := #[.int .u64 a1_0, .int .u64 a1_1, .int .u64 a1_2, .string a1_3, .string a1_4]) (t := 26) ?hr ?_; (case hd => rfl); (case hg => rfl); (case hr => first | (go_simp; done) | (go_simp; rfl) | (go_simp; simp [u8w]; done)); intro gb352 hg w5 hbox hb; have n0_ := Aside0.mk (blk_below (g := gb351) (o := .cells #[.int .u64 a0_0, .int .u64 a0_1, .int .u64 a0_2, .string a0_3, .string a0_4] 26 (0, 0)) (by (with_reducible repeat (first | refine blk_drewN ?_ _ | refine blk_drew ?_ | refine blk_alloc ?_ _)); exact BK351.out) hb); have n1_ := Aside0.mk (below_step (by repeat (first | (with_reducible first | exact HB.out | apply below_alloc | apply pw_below_drewN | apply below_drew1 | refine below_set ?_ GE351.out) | exact HB.out)) hb); have n2_ := Aside0.mk (hbox); have n3_ := Aside0.mk ((by rw [hg]; exact (below_size (by repeat (first | (with_reducible first | exact HB.out | apply below_alloc | apply pw_below_drewN | apply below_drew1 | refine below_set ?_ GE351.out) | exact HB.out))) : w.heap.size ≤ gb352)); have n4_ := Aside0.mk ((by rw [hg]; exact (below_size (by repeat (first | (with_reducible first | exact HB.out | apply below_alloc | apply pw_below_drewN | apply below_drew1 | refine below_set ?_ GE351.out) | exact HB.out))) : w.heap.size ≤ gb352)); have n5_ := Aside0.mk ((by rw [hg]; exact Nat.ne_of_lt (blk_lt (g := gb351) (o := .cells #[.int .u64 a0_0, .int .u64 a0_1, .int .u64 a0_2, .string a0_3, .string a0_4] 26 (0, 0)) (by (with_reducible repeat (first | refine blk_drewN ?_ _ | refine blk_drew ?_ | refine blk_alloc ?_ _)); exact BK351.out)) : gb351 ≠ gb352)); have n6_ := Aside0.mk ((by rw [hg]; exact Nat.ne_of_gt (blk_lt (g := gb351) (o := .cells #[.int .u64 a0_0, .int .u64 a0_1, .int .u64 a0_2, .string a0_3, .string a0_4] 26 (0, 0)) (by (with_reducible repeat (first | refine blk_drewN ?_ _ | refine blk_drew ?_ | refine blk_alloc ?_ _)); exact BK351.out)) : gb352 ≠ gb351)); clear BK351; clear HB; have BK351 := n0_; have HB := n1_; have BK352 := n2_; have GW352 := n3_; have GE352 := n4_; have NB351_352 := n5_; have NB352_351 := n6_; clear n0_ n1_ n2_ n3_ n4_ n5_ n6_; clear hb hbox hg))
  (try simp only [Act.put, List.setIfInBounds_toArray, List.set_cons_zero, List.set_cons_succ])
  go_cut [13] (fun v13 wc => ∃ (kq : Nat) (x13_2 : Bool), v13 = .bool x13_2 ∧ Aside0 (laws_FnSemverEqualCompares.j0 kq x13_2 a0_0 a0_1 a0_2 a0_3 a0_4 a1_0 a1_1 a1_2 a1_3 a1_4 = some r) ∧ Aside0 (kq ≤ k) ∧ Aside0 (wc.heap[gb351]? = some (.cells #[.int .u64 a0_0, .int .u64 a0_1, .int .u64 a0_2, .string a0_3, .string a0_4] 26 (0, 0))) ∧ Aside0 (wc.heap[gb352]? = some (.cells #[.int .u64 a1_0, .int .u64 a1_1, .int .u64 a1_2, .string a1_3, .string a1_4] 26 (0, 0))) ∧ Aside0 (Below w.heap.size w wc))
  case first =>
    have H := HC3.out
    clear HC3
    replace H := Option.bind_eq_some_iff.mp H
    obtain ⟨t353, A60, H⟩ := H
    replace H : (if t353 = true then ((laws_zzFits14.f a1_0 a1_1 a1_2 a1_3 a1_4).bind fun t354 => (laws_FnSemverEqualCompares.j0 k (!t354) a0_0 a0_1 a0_2 a0_3 a0_4 a1_0 a1_1 a1_2 a1_3 a1_4)) else (laws_FnSemverEqualCompares.j0 k true a0_0 a0_1 a0_2 a0_3 a0_4 a1_0 a1_1 a1_2 a1_3 a1_4)) = some r := H
    have A6 := Aside0.mk A60
    clear A60
    by_cases c7 : t353 = true
    · subst c7
      have H1 : ((laws_zzFits14.f a1_0 a1_1 a1_2 a1_3 a1_4).bind fun t354 => (laws_FnSemverEqualCompares.j0 k (!t354) a0_0 a0_1 a0_2 a0_3 a0_4 a1_0 a1_1 a1_2 a1_3 a1_4)) = some r := by rw [if_pos rfl] at H; exact H
      clear H
      have H := H1
      clear H1
      replace H := Option.bind_eq_some_iff.mp H
      obtain ⟨t354, A80, H⟩ := H
      replace H : (laws_FnSemverEqualCompares.j0 k (!t354) a0_0 a0_1 a0_2 a0_3 a0_4 a1_0 a1_1 a1_2 a1_3 a1_4) = some r := H
      have A8 := Aside0.mk A80
      clear A80
      have H' := Aside0.mk H
      clear H
      have hnb9 := NB351_352.out
      have hnc9 := NB352_351.out
      have hcz10_0 : w5.cell? ⟨gb351, 0, none⟩ = some (.int .u64 a0_0) := (blk_cell BK351.out 0).trans rfl
      have hcz10_1 : w5.cell? ⟨gb351, 1, none⟩ = some (.int .u64 a0_1) := (blk_cell BK351.out 1).trans rfl
      have hcz10_2 : w5.cell? ⟨gb351, 2, none⟩ = some (.int .u64 a0_2) := (blk_cell BK351.out 2).trans rfl
      have hcz10_3 : w5.cell? ⟨gb351, 3, none⟩ = some (.string a0_3) := (blk_cell BK351.out 3).trans rfl
      have hcz10_4 : w5.cell? ⟨gb351, 4, none⟩ = some (.string a0_4) := (blk_cell BK351.out 4).trans rfl
      have hfz10_0 := blk_frozen BK351.out 0
      have hfz10_1 := blk_frozen BK351.out 1
      have hfz10_2 := blk_frozen BK351.out 2
      have hfz10_3 := blk_frozen BK351.out 3
      have hfz10_4 := blk_frozen BK351.out 4
      go_wp2_with (first | ((with_reducible refine gate_callee (f := 14) rfl ?_); refine goesL_ (some 7) rfl rfl Tryd.func14 (by kernel_rfl) rfl #[.agg #[.int .u64 a0_0, .int .u64 a0_1, .int .u64 a0_2, .string a0_3, .string a0_4]] rfl (by (try simp only [List.map_toArray, List.map_cons, List.map_nil]); first | done | rfl | (simp only [List.length_drop, List.length_take]; rfl)) ?_; (with_reducible refine (laws_zzFits14.calls a0_0 a0_1 a0_2 a0_3 a0_4 true _ A6.out).mono ?_); rintro e w11 ⟨rfl, hb⟩; refine ⟨_, rfl, ?_⟩; have n0_ := Aside0.mk (blk_below (g := gb351) (o := .cells #[.int .u64 a0_0, .int .u64 a0_1, .int .u64 a0_2, .string a0_3, .string a0_4] 26 (0, 0)) (by (with_reducible repeat (first | refine blk_drewN ?_ _ | refine blk_drew ?_ | refine blk_alloc ?_ _)); exact BK351.out) hb); have n1_ := Aside0.mk (blk_below (g := gb352) (o := .cells #[.int .u64 a1_0, .int .u64 a1_1, .int .u64 a1_2, .string a1_3, .string a1_4] 26 (0, 0)) (by (with_reducible repeat (first | refine blk_drewN ?_ _ | refine blk_drew ?_ | refine blk_alloc ?_ _)); exact BK352.out) hb); have n2_ := Aside0.mk (below_step (by repeat (first | (with_reducible first | exact HB.out | apply below_alloc | apply pw_below_drewN | apply below_drew1 | refine below_set ?_ GE351.out | refine below_set ?_ GE352.out) | exact HB.out)) hb); clear BK351; clear BK352; clear HB; have BK351 := n0_; have BK352 := n1_; have HB := n2_; clear n0_ n1_ n2_; (try clear hb); (try clear hb2); (try clear hk); (try clear hi); have hcz12_0 : w11.cell? ⟨gb352, 0, none⟩ = some (.int .u64 a1_0) := (blk_cell BK352.out 0).trans rfl; have hcz12_1 : w11.cell? ⟨gb352, 1, none⟩ = some (.int .u64 a1_1) := (blk_cell BK352.out 1).trans rfl; have hcz12_2 : w11.cell? ⟨gb352, 2, none⟩ = some (.int .u64 a1_2) := (blk_cell BK352.out 2).trans rfl; have hcz12_3 : w11.cell? ⟨gb352, 3, none⟩ = some (.string a1_3) := (blk_cell BK352.out 3).trans rfl; have hcz12_4 : w11.cell? ⟨gb352, 4, none⟩ = some (.string a1_4) := (blk_cell BK352.out 4).trans rfl; have hfz12_0 := blk_frozen BK352.out 0; have hfz12_1 := blk_frozen BK352.out 1; have hfz12_2 := blk_frozen BK352.out 2; have hfz12_3 := blk_frozen BK352.out 3; have hfz12_4 := blk_frozen BK352.out 4) | (go_at_call 14; (with_reducible refine (laws_zzFits14.calls a1_0 a1_1 a1_2 a1_3 a1_4 t354 _ A8.out).mono ?_); rintro e w13 ⟨rfl, hb⟩; have n0_ := Aside0.mk (blk_below (g := gb351) (o := .cells #[.int .u64 a0_0, .int .u64 a0_1, .int .u64 a0_2, .string a0_3, .string a0_4] 26 (0, 0)) (by (with_reducible repeat (first | refine blk_drewN ?_ _ | refine blk_drew ?_ | refine blk_alloc ?_ _)); exact BK351.out) hb); have n1_ := Aside0.mk (blk_below (g := gb352) (o := .cells #[.int .u64 a1_0, .int .u64 a1_1, .int .u64 a1_2, .string a1_3, .string a1_4] 26 (0, 0)) (by (with_reducible repeat (first | refine blk_drewN ?_ _ | refine blk_drew ?_ | refine blk_alloc ?_ _)); exact BK352.out) hb); have n2_ := Aside0.mk (below_step (by repeat (first | (with_reducible first | exact HB.out | apply below_alloc | apply pw_below_drewN | apply below_drew1 | refine below_set ?_ GE351.out | refine below_set ?_ GE352.out) | exact HB.out)) hb); clear BK351; clear BK352; clear HB; have BK351 := n0_; have BK352 := n1_; have HB := n2_; clear n0_ n1_ n2_; (try clear hb); (try clear hb2); (try clear hk); (try clear hi)))
      go_meet
      case rel => exact ⟨_, (!t354), (by first | rfl | (simp; done) | (simp [*]; done)), H', ⟨by first | omega | exact Nat.le_refl _⟩, ⟨by (with_reducible repeat (first | refine blk_drewN ?_ _ | refine blk_drew ?_ | refine blk_alloc ?_ _)); exact BK351.out⟩, ⟨by (with_reducible repeat (first | refine blk_drewN ?_ _ | refine blk_drew ?_ | refine blk_alloc ?_ _)); exact BK352.out⟩, ⟨by repeat (first | (with_reducible first | exact HB.out | apply below_alloc | apply pw_below_drewN | apply below_drew1 | refine below_set ?_ GE351.out | refine below_set ?_ GE352.out) | exact HB.out)⟩⟩
    · replace c7 := Bool.eq_false_iff.mpr c7
      subst c7
      have H1 : (laws_FnSemverEqualCompares.j0 k true a0_0 a0_1 a0_2 a0_3 a0_4 a1_0 a1_1 a1_2 a1_3 a1_4) = some r := by rw [if_neg (show ¬ (false = true) by decide)] at H; exact H
      clear H
      have H := H1
      clear H1
      have H' := Aside0.mk H
      clear H
      have hnb14 := NB351_352.out
      have hnc14 := NB352_351.out
      have hcz15_0 : w5.cell? ⟨gb351, 0, none⟩ = some (.int .u64 a0_0) := (blk_cell BK351.out 0).trans rfl
      have hcz15_1 : w5.cell? ⟨gb351, 1, none⟩ = some (.int .u64 a0_1) := (blk_cell BK351.out 1).trans rfl
      have hcz15_2 : w5.cell? ⟨gb351, 2, none⟩ = some (.int .u64 a0_2) := (blk_cell BK351.out 2).trans rfl
      have hcz15_3 : w5.cell? ⟨gb351, 3, none⟩ = some (.string a0_3) := (blk_cell BK351.out 3).trans rfl
      have hcz15_4 : w5.cell? ⟨gb351, 4, none⟩ = some (.string a0_4) := (blk_cell BK351.out 4).trans rfl
      have hfz15_0 := blk_frozen BK351.out 0
      have hfz15_1 := blk_frozen BK351.out 1
      have hfz15_2 := blk_frozen BK351.out 2
      have hfz15_3 := blk_frozen BK351.out 3
      have hfz15_4 := blk_frozen BK351.out 4
      go_wp2_with (first | ((with_reducible refine gate_callee (f := 14) rfl ?_); refine goesL_ (some 7) rfl rfl Tryd.func14 (by kernel_rfl) rfl #[.agg #[.int .u64 a0_0, .int .u64 a0_1, .int .u64 a0_2, .string a0_3, .string a0_4]] rfl (by (try simp only [List.map_toArray, List.map_cons, List.map_nil]); first | done | rfl | (simp only [List.length_drop, List.length_take]; rfl)) ?_; (with_reducible refine (laws_zzFits14.calls a0_0 a0_1 a0_2 a0_3 a0_4 false _ A6.out).mono ?_); rintro e w16 ⟨rfl, hb⟩; refine ⟨_, rfl, ?_⟩; have n0_ := Aside0.mk (blk_below (g := gb351) (o := .cells #[.int .u64 a0_0, .int .u64 a0_1, .int .u64 a0_2, .string a0_3, .string a0_4] 26 (0, 0)) (by (with_reducible repeat (first | refine blk_drewN ?_ _ | refine blk_drew ?_ | refine blk_alloc ?_ _)); exact BK351.out) hb); have n1_ := Aside0.mk (blk_below (g := gb352) (o := .cells #[.int .u64 a1_0, .int .u64 a1_1, .int .u64 a1_2, .string a1_3, .string a1_4] 26 (0, 0)) (by (with_reducible repeat (first | refine blk_drewN ?_ _ | refine blk_drew ?_ | refine blk_alloc ?_ _)); exact BK352.out) hb); have n2_ := Aside0.mk (below_step (by repeat (first | (with_reducible first | exact HB.out | apply below_alloc | apply pw_below_drewN | apply below_drew1 | refine below_set ?_ GE351.out | refine below_set ?_ GE352.out) | exact HB.out)) hb); clear BK351; clear BK352; clear HB; have BK351 := n0_; have BK352 := n1_; have HB := n2_; clear n0_ n1_ n2_; (try clear hb); (try clear hb2); (try clear hk); (try clear hi)))
      go_meet
      case rel => exact ⟨_, (true), (by first | rfl | (simp; done) | (simp [*]; done)), H', ⟨by first | omega | exact Nat.le_refl _⟩, ⟨by (with_reducible repeat (first | refine blk_drewN ?_ _ | refine blk_drew ?_ | refine blk_alloc ?_ _)); exact BK351.out⟩, ⟨by (with_reducible repeat (first | refine blk_drewN ?_ _ | refine blk_drew ?_ | refine blk_alloc ?_ _)); exact BK352.out⟩, ⟨by repeat (first | (with_reducible first | exact HB.out | apply below_alloc | apply pw_below_drewN | apply below_drew1 | refine below_set ?_ GE351.out | refine below_set ?_ GE352.out) | exact HB.out)⟩⟩
  case rest =>
    clear HC3
    try clear c1
    try clear p2
    try clear c7
    try clear c9
    try clear c14
    try clear hcz10_0
    try clear hcz10_1
    try clear hcz10_2
    try clear hcz10_3
    try clear hcz10_4
    try clear hcz12_0
    try clear hcz12_1
    try clear hcz12_2
    try clear hcz12_3
    try clear hcz12_4
    try clear hcz15_0
    try clear hcz15_1
    try clear hcz15_2
    try clear hcz15_3
    try clear hcz15_4
    try clear hfz10_0
    try clear hfz10_1
    try clear hfz10_2
    try clear hfz10_3
    try clear hfz10_4
    try clear hfz12_0
    try clear hfz12_1
    try clear hfz12_2
    try clear hfz12_3
    try clear hfz12_4
    try clear hfz15_0
    try clear hfz15_1
    try clear hfz15_2
    try clear hfz15_3
    try clear hfz15_4
    obtain ⟨kq, x13_2, rfl, HA, HJ2, BK351, BK352, HB⟩ := hcut
    cases kq with
    | zero => exact absurd HA.out (by simp [laws_FnSemverEqualCompares.j0])
    | succ kj2 =>
      have H := HA.out
      clear HA
      simp only [laws_FnSemverEqualCompares.j0] at H
      by_cases c17 : x13_2 = true
      · subst c17
        have H1 : (some true) = some r := by rw [if_pos rfl] at H; exact H
        clear H
        have H := H1
        clear H1
        obtain rfl := Option.some.inj H
        go_wp2
        go_ret
        exact ⟨by first | rfl | (simp [errW_none, errW_some] <;> rfl) | (simp [*, errW_none, errW_some] <;> rfl) | (simp [bneNil]; done), by repeat (first | (with_reducible first | exact HB.out | apply below_alloc | apply pw_below_drewN | apply below_drew1 | refine below_set ?_ GE351.out | refine below_set ?_ GE352.out) | exact HB.out)⟩
      · replace c17 := Bool.eq_false_iff.mpr c17
        subst c17
        have H1 : ((laws_svGood.f kj2 (([(⟨a0_0, a0_1, a0_2, a0_3, a0_4⟩ : S26), (⟨a1_0, a1_1, a1_2, a1_3, a1_4⟩ : S26)] : List (S26)))).bind fun t358 => (if t358 = true then ((laws_stTerm.f 0 a1_0 a1_1 a1_2 a1_3 a1_4 3).bind fun bt359 => ((impl_EqualHolds.f bt359.1 bt359.2.1 bt359.2.2.1 bt359.2.2.2.1 bt359.2.2.2.2.1 bt359.2.2.2.2.2 a0_0 a0_1 a0_2 a0_3 a0_4 true).bind fun t366 => ((impl_VersionEqual.f a0_0 a0_1 a0_2 a0_3 a0_4 a1_0 a1_1 a1_2 a1_3 a1_4).bind fun t367 => (if (t366 == t367) = true then ((impl_NotEqualHolds.f bt359.1 bt359.2.1 bt359.2.2.1 bt359.2.2.2.1 bt359.2.2.2.2.1 bt359.2.2.2.2.2 a0_0 a0_1 a0_2 a0_3 a0_4 true).bind fun t368 => ((impl_VersionEqual.f a0_0 a0_1 a0_2 a0_3 a0_4 a1_0 a1_1 a1_2 a1_3 a1_4).bind fun t369 => (some (t368 == (!t369))))) else (some false))))) else (some true))) = some r := by rw [if_neg (show ¬ (false = true) by decide)] at H; exact H
        clear H
        have H := H1
        clear H1
        obtain ⟨y355, hy355⟩ : ∃ y_ : List (S26), y_ = (([(⟨a0_0, a0_1, a0_2, a0_3, a0_4⟩ : S26), (⟨a1_0, a1_1, a1_2, a1_3, a1_4⟩ : S26)] : List (S26))) := ⟨_, rfl⟩
        replace H : ((laws_svGood.f kj2 y355).bind fun t358 => (if t358 = true then ((laws_stTerm.f 0 a1_0 a1_1 a1_2 a1_3 a1_4 3).bind fun bt359 => ((impl_EqualHolds.f bt359.1 bt359.2.1 bt359.2.2.1 bt359.2.2.2.1 bt359.2.2.2.2.1 bt359.2.2.2.2.2 a0_0 a0_1 a0_2 a0_3 a0_4 true).bind fun t366 => ((impl_VersionEqual.f a0_0 a0_1 a0_2 a0_3 a0_4 a1_0 a1_1 a1_2 a1_3 a1_4).bind fun t367 => (if (t366 == t367) = true then ((impl_NotEqualHolds.f bt359.1 bt359.2.1 bt359.2.2.1 bt359.2.2.2.1 bt359.2.2.2.2.1 bt359.2.2.2.2.2 a0_0 a0_1 a0_2 a0_3 a0_4 true).bind fun t368 => ((impl_VersionEqual.f a0_0 a0_1 a0_2 a0_3 a0_4 a1_0 a1_1 a1_2 a1_3 a1_4).bind fun t369 => (some (t368 == (!t369))))) else (some false))))) else (some true))) = some r := by first | (rw [hy355]; with_reducible exact H) | (have H2_ := (Option.bind_some _ _).symm.trans H; rw [hy355]; with_reducible exact H2_) | (have H2_ := (Option.bind_some _ _).symm.trans H; with_reducible exact H2_) | with_reducible exact H | (rw [hy355]; exact H) | exact H
        have Ny355 := Aside0.mk hy355
        clear hy355
        replace H := Option.bind_eq_some_iff.mp H
        obtain ⟨t358, A180, H⟩ := H
        replace H : (if t358 = true then ((laws_stTerm.f 0 a1_0 a1_1 a1_2 a1_3 a1_4 3).bind fun bt359 => ((impl_EqualHolds.f bt359.1 bt359.2.1 bt359.2.2.1 bt359.2.2.2.1 bt359.2.2.2.2.1 bt359.2.2.2.2.2 a0_0 a0_1 a0_2 a0_3 a0_4 true).bind fun t366 => ((impl_VersionEqual.f a0_0 a0_1 a0_2 a0_3 a0_4 a1_0 a1_1 a1_2 a1_3 a1_4).bind fun t367 => (if (t366 == t367) = true then ((impl_NotEqualHolds.f bt359.1 bt359.2.1 bt359.2.2.1 bt359.2.2.2.1 bt359.2.2.2.2.1 bt359.2.2.2.2.2 a0_0 a0_1 a0_2 a0_3 a0_4 true).bind fun t368 => ((impl_VersionEqual.f a0_0 a0_1 a0_2 a0_3 a0_4 a1_0 a1_1 a1_2 a1_3 a1_4).bind fun t369 => (some (t368 == (!t369))))) else (some false))))) else (some true)) = some r := H
        have A18 := Aside0.mk A180
        clear A180
        by_cases c19 : t358 = true
        · subst c19
          have H1 : ((laws_stTerm.f 0 a1_0 a1_1 a1_2 a1_3 a1_4 3).bind fun bt359 => ((impl_EqualHolds.f bt359.1 bt359.2.1 bt359.2.2.1 bt359.2.2.2.1 bt359.2.2.2.2.1 bt359.2.2.2.2.2 a0_0 a0_1 a0_2 a0_3 a0_4 true).bind fun t366 => ((impl_VersionEqual.f a0_0 a0_1 a0_2 a0_3 a0_4 a1_0 a1_1 a1_2 a1_3 a1_4).bind fun t367 => (if (t366 == t367) = true then ((impl_NotEqualHolds.f bt359.1 bt359.2.1 bt359.2.2.1 bt359.2.2.2.1 bt359.2.2.2.2.1 bt359.2.2.2.2.2 a0_0 a0_1 a0_2 a0_3 a0_4 true).bind fun t368 => ((impl_VersionEqual.f a0_0 a0_1 a0_2 a0_3 a0_4 a1_0 a1_1 a1_2 a1_3 a1_4).bind fun t369 => (some (t368 == (!t369))))) else (some false))))) = some r := by rw [if_pos rfl] at H; exact H
          clear H
          have H := H1
          clear H1
          replace H := Option.bind_eq_some_iff.mp H
          obtain ⟨⟨t359, t360, t361, t362, t363, t364⟩, A200, H⟩ := H
          replace H : ((impl_EqualHolds.f t359 t360 t361 t362 t363 t364 a0_0 a0_1 a0_2 a0_3 a0_4 true).bind fun t366 => ((impl_VersionEqual.f a0_0 a0_1 a0_2 a0_3 a0_4 a1_0 a1_1 a1_2 a1_3 a1_4).bind fun t367 => (if (t366 == t367) = true then ((impl_NotEqualHolds.f t359 t360 t361 t362 t363 t364 a0_0 a0_1 a0_2 a0_3 a0_4 true).bind fun t368 => ((impl_VersionEqual.f a0_0 a0_1 a0_2 a0_3 a0_4 a1_0 a1_1 a1_2 a1_3 a1_4).bind fun t369 => (some (t368 == (!t369))))) else (some false)))) = some r := H
          have A20 := Aside0.mk A200
          clear A200
          replace H := Option.bind_eq_some_iff.mp H
          obtain ⟨t366, A210, H⟩ := H
          replace H : ((impl_VersionEqual.f a0_0 a0_1 a0_2 a0_3 a0_4 a1_0 a1_1 a1_2 a1_3 a1_4).bind fun t367 => (if (t366 == t367) = true then ((impl_NotEqualHolds.f t359 t360 t361 t362 t363 t364 a0_0 a0_1 a0_2 a0_3 a0_4 true).bind fun t368 => ((impl_VersionEqual.f a0_0 a0_1 a0_2 a0_3 a0_4 a1_0 a1_1 a1_2 a1_3 a1_4).bind fun t369 => (some (t368 == (!t369))))) else (some false))) = some r := H
          have A21 := Aside0.mk A210
          clear A210
          replace H := Option.bind_eq_some_iff.mp H
          obtain ⟨t367, A220, H⟩ := H
          replace H : (if (t366 == t367) = true then ((impl_NotEqualHolds.f t359 t360 t361 t362 t363 t364 a0_0 a0_1 a0_2 a0_3 a0_4 true).bind fun t368 => ((impl_VersionEqual.f a0_0 a0_1 a0_2 a0_3 a0_4 a1_0 a1_1 a1_2 a1_3 a1_4).bind fun t369 => (some (t368 == (!t369))))) else (some false)) = some r := H
          have A22 := Aside0.mk A220
          clear A220
          by_cases c23 : (t366 == t367) = true
          · rw [if_pos c23] at H
            have c23b0 : (t366 == t367) = true := c23
            (try (have c23b1 : decide (t366 = t367) = true := by simpa using c23))
            (try (have c23b2 : (t366 == t367) = true := by simpa using c23))
            clear c23
            replace H := Option.bind_eq_some_iff.mp H
            obtain ⟨t368, A240, H⟩ := H
            replace H : ((impl_VersionEqual.f a0_0 a0_1 a0_2 a0_3 a0_4 a1_0 a1_1 a1_2 a1_3 a1_4).bind fun t369 => (some (t368 == (!t369)))) = some r := H
            have A24 := Aside0.mk A240
            clear A240
            replace H := Option.bind_eq_some_iff.mp H
            obtain ⟨t369, A250, H⟩ := H
            replace H : (some (t368 == (!t369))) = some r := H
            have A25 := Aside0.mk A250
            clear A250
            obtain rfl := Option.some.inj H
            have hnb26 := NB351_352.out
            have hnc26 := NB352_351.out
            have hcz27_0 : wc.cell? ⟨gb351, 0, none⟩ = some (.int .u64 a0_0) := (blk_cell BK351.out 0).trans rfl
            have hcz27_1 : wc.cell? ⟨gb351, 1, none⟩ = some (.int .u64 a0_1) := (blk_cell BK351.out 1).trans rfl
            have hcz27_2 : wc.cell? ⟨gb351, 2, none⟩ = some (.int .u64 a0_2) := (blk_cell BK351.out 2).trans rfl
            have hcz27_3 : wc.cell? ⟨gb351, 3, none⟩ = some (.string a0_3) := (blk_cell BK351.out 3).trans rfl
            have hcz27_4 : wc.cell? ⟨gb351, 4, none⟩ = some (.string a0_4) := (blk_cell BK351.out 4).trans rfl
            have hfz27_0 := blk_frozen BK351.out 0
            have hfz27_1 := blk_frozen BK351.out 1
            have hfz27_2 := blk_frozen BK351.out 2
            have hfz27_3 := blk_frozen BK351.out 3
            have hfz27_4 := blk_frozen BK351.out 4
            have hcz28_0 : wc.cell? ⟨gb352, 0, none⟩ = some (.int .u64 a1_0) := (blk_cell BK352.out 0).trans rfl
            have hcz28_1 : wc.cell? ⟨gb352, 1, none⟩ = some (.int .u64 a1_1) := (blk_cell BK352.out 1).trans rfl
            have hcz28_2 : wc.cell? ⟨gb352, 2, none⟩ = some (.int .u64 a1_2) := (blk_cell BK352.out 2).trans rfl
            have hcz28_3 : wc.cell? ⟨gb352, 3, none⟩ = some (.string a1_3) := (blk_cell BK352.out 3).trans rfl
            have hcz28_4 : wc.cell? ⟨gb352, 4, none⟩ = some (.string a1_4) := (blk_cell BK352.out 4).trans rfl
            have hfz28_0 := blk_frozen BK352.out 0
            have hfz28_1 := blk_frozen BK352.out 1
            have hfz28_2 := blk_frozen BK352.out 2
            have hfz28_3 := blk_frozen BK352.out 3
            have hfz28_4 := blk_frozen BK352.out 4
            try go_wp2_with (first | ((with_reducible refine gate_dst (N := 16) rfl ?_); refine Kd.R_lit k26 _ 26 ?hg (N := 16) ?hd (xs := ([(⟨a0_0, a0_1, a0_2, a0_3, a0_4⟩ : S26), (⟨a1_0, a1_1, a1_2, a1_3, a1_4⟩ : S26)] : List (S26))) (inner := [.int .u64 a0_0, .int .u64 a0_1, .int .u64 a0_2, .string a0_3, .string a0_4, .int .u64 a1_0, .int .u64 a1_1, .int .u64 a1_2, .string a1_3, .string a1_4]) (ok := fun _ => True) (okp := fun _ => True) ?hr ?hp (fun _ hk => hk) trivial (Below.refl _ _) (Nat.le_refl _) (by simp) ?_; (case hd => rfl); (case hg => rfl); (case hr => first | (go_simp; done) | (go_simp; rfl) | (go_simp; simp [u8w]; done)); (case hp => exact (Reps.c5 (show Kd.M k26 _ _ _ (⟨a0_0, a0_1, a0_2, a0_3, a0_4⟩ : S26) [.int .u64 a0_0, .int .u64 a0_1, .int .u64 a0_2, .string a0_3, .string a0_4] from (k26_mkM _ _ _ (⟨a0_0, a0_1, a0_2, a0_3, a0_4⟩ : S26) )) (Reps.c5 (show Kd.M k26 _ _ _ (⟨a1_0, a1_1, a1_2, a1_3, a1_4⟩ : S26) [.int .u64 a1_0, .int .u64 a1_1, .int .u64 a1_2, .string a1_3, .string a1_4] from (k26_mkM _ _ _ (⟨a1_0, a1_1, a1_2, a1_3, a1_4⟩ : S26) )) (Reps.none _ _)))); intro v356 w29 ho30 hb hg_ hnew_; clear hg_ hnew_; (first | rw [← Ny355.out] at ho30 | (simp only [Int.reduceToNat] at ho30; rw [← Ny355.out] at ho30)); have n0_ := Aside0.mk (Kd.R_lower (Kd.R_newB (Kd.R_newB ho30 (g := gb351) (o := .cells #[.int .u64 a0_0, .int .u64 a0_1, .int .u64 a0_2, .string a0_3, .string a0_4] 26 (0, 0)) (by (with_reducible repeat (first | refine blk_drewN ?_ _ | refine blk_drew ?_ | refine blk_alloc ?_ _)); exact BK351.out)) (g := gb352) (o := .cells #[.int .u64 a1_0, .int .u64 a1_1, .int .u64 a1_2, .string a1_3, .string a1_4] 26 (0, 0)) (by (with_reducible repeat (first | refine blk_drewN ?_ _ | refine blk_drew ?_ | refine blk_alloc ?_ _)); exact BK352.out)) (below_size (by repeat (first | (with_reducible first | exact HB.out | apply below_alloc | apply pw_below_drewN | apply below_drew1 | refine below_set ?_ GE351.out | refine below_set ?_ GE352.out) | exact HB.out)))); have n1_ := Aside0.mk (blk_below (g := gb351) (o := .cells #[.int .u64 a0_0, .int .u64 a0_1, .int .u64 a0_2, .string a0_3, .string a0_4] 26 (0, 0)) (by (with_reducible repeat (first | refine blk_drewN ?_ _ | refine blk_drew ?_ | refine blk_alloc ?_ _)); exact BK351.out) hb); have n2_ := Aside0.mk (blk_below (g := gb352) (o := .cells #[.int .u64 a1_0, .int .u64 a1_1, .int .u64 a1_2, .string a1_3, .string a1_4] 26 (0, 0)) (by (with_reducible repeat (first | refine blk_drewN ?_ _ | refine blk_drew ?_ | refine blk_alloc ?_ _)); exact BK352.out) hb); have n3_ := Aside0.mk (below_step (by repeat (first | (with_reducible first | exact HB.out | apply below_alloc | apply pw_below_drewN | apply below_drew1 | refine below_set ?_ GE351.out | refine below_set ?_ GE352.out) | exact HB.out)) hb); clear BK351; clear BK352; clear HB; have HO357 := n0_; have BK351 := n1_; have BK352 := n2_; have HB := n3_; clear n0_ n1_ n2_ n3_; clear hb ho30; obtain ⟨Ao31, co31, eo31⟩ := Kd.R_slice HO357.out; subst eo31) | ((with_reducible refine gate_callee (f := 16) rfl ?_); refine goesL_ (some 17) rfl rfl Tryd.func16 (by kernel_rfl) rfl #[.slice Ao31 y355.length co31] rfl (by (try simp only [List.map_toArray, List.map_cons, List.map_nil]); first | done | rfl | (simp only [List.length_drop, List.length_take]; rfl)) ?_; (with_reducible refine (laws_svGood.calls kj2 _ _ y355 true _ ?side1 ?side2 A18.out).mono ?_); (case side1 => repeat (first | exact (Kd.R_reads' HO357.out).2.2 | (with_reducible refine Kd.C_alloc ?_ _) | (with_reducible refine Kd.C_drewN ?_ _) | (with_reducible refine Kd.C_drew ?_))); (case side2 => exact (Kd.R_reads' HO357.out).2.1); rintro e w32 ⟨rfl, hb⟩; refine ⟨_, rfl, ?_⟩; have n0_ := Aside0.mk (Kd.R_below (by (with_reducible repeat (first | apply Kd.R_alloc | apply Kd.R_drewN | apply Kd.R_drew)); exact HO357.out) hb); have n1_ := Aside0.mk (blk_below (g := gb351) (o := .cells #[.int .u64 a0_0, .int .u64 a0_1, .int .u64 a0_2, .string a0_3, .string a0_4] 26 (0, 0)) (by (with_reducible repeat (first | refine blk_drewN ?_ _ | refine blk_drew ?_ | refine blk_alloc ?_ _)); exact BK351.out) hb); have n2_ := Aside0.mk (blk_below (g := gb352) (o := .cells #[.int .u64 a1_0, .int .u64 a1_1, .int .u64 a1_2, .string a1_3, .string a1_4] 26 (0, 0)) (by (with_reducible repeat (first | refine blk_drewN ?_ _ | refine blk_drew ?_ | refine blk_alloc ?_ _)); exact BK352.out) hb); have n3_ := Aside0.mk (below_step (by repeat (first | (with_reducible first | exact HB.out | apply below_alloc | apply pw_below_drewN | apply below_drew1 | refine below_set ?_ GE351.out | refine below_set ?_ GE352.out) | exact HB.out)) hb); clear HO357; clear BK351; clear BK352; clear HB; have HO357 := n0_; have BK351 := n1_; have BK352 := n2_; have HB := n3_; clear n0_ n1_ n2_ n3_; (try clear hb); (try clear hb2); (try clear hk); (try clear hi); have hcz33_0 : w32.cell? ⟨gb352, 0, none⟩ = some (.int .u64 a1_0) := (blk_cell BK352.out 0).trans rfl; have hcz33_1 : w32.cell? ⟨gb352, 1, none⟩ = some (.int .u64 a1_1) := (blk_cell BK352.out 1).trans rfl; have hcz33_2 : w32.cell? ⟨gb352, 2, none⟩ = some (.int .u64 a1_2) := (blk_cell BK352.out 2).trans rfl; have hcz33_3 : w32.cell? ⟨gb352, 3, none⟩ = some (.string a1_3) := (blk_cell BK352.out 3).trans rfl; have hcz33_4 : w32.cell? ⟨gb352, 4, none⟩ = some (.string a1_4) := (blk_cell BK352.out 4).trans rfl; have hfz33_0 := blk_frozen BK352.out 0; have hfz33_1 := blk_frozen BK352.out 1; have hfz33_2 := blk_frozen BK352.out 2; have hfz33_3 := blk_frozen BK352.out 3; have hfz33_4 := blk_frozen BK352.out 4) | ((with_reducible refine gate_callee (f := 28) rfl ?_); refine goesL_ (some 20) rfl rfl Tryd.func28 (by kernel_rfl) rfl #[.int .i64 0, .agg #[.int .u64 a1_0, .int .u64 a1_1, .int .u64 a1_2, .string a1_3, .string a1_4], .int .i64 3] rfl (by (try simp only [List.map_toArray, List.map_cons, List.map_nil]); first | done | rfl | (simp only [List.length_drop, List.length_take]; rfl)) ?_; (with_reducible refine (laws_stTerm.calls 0 a1_0 a1_1 a1_2 a1_3 a1_4 3 t359 t360 t361 t362 t363 t364 _ A20.out).mono ?_); rintro e w34 ⟨rfl, hb⟩; refine ⟨_, rfl, ?_⟩; have n0_ := Aside0.mk (Kd.R_below (by (with_reducible repeat (first | apply Kd.R_alloc | apply Kd.R_drewN | apply Kd.R_drew)); exact HO357.out) hb); have n1_ := Aside0.mk (blk_below (g := gb351) (o := .cells #[.int .u64 a0_0, .int .u64 a0_1, .int .u64 a0_2, .string a0_3, .string a0_4] 26 (0, 0)) (by (with_reducible repeat (first | refine blk_drewN ?_ _ | refine blk_drew ?_ | refine blk_alloc ?_ _)); exact BK351.out) hb); have n2_ := Aside0.mk (blk_below (g := gb352) (o := .cells #[.int .u64 a1_0, .int .u64 a1_1, .int .u64 a1_2, .string a1_3, .string a1_4] 26 (0, 0)) (by (with_reducible repeat (first | refine blk_drewN ?_ _ | refine blk_drew ?_ | refine blk_alloc ?_ _)); exact BK352.out) hb); have n3_ := Aside0.mk (below_step (by repeat (first | (with_reducible first | exact HB.out | apply below_alloc | apply pw_below_drewN | apply below_drew1 | refine below_set ?_ GE351.out | refine below_set ?_ GE352.out) | exact HB.out)) hb); clear HO357; clear BK351; clear BK352; clear HB; have HO357 := n0_; have BK351 := n1_; have BK352 := n2_; have HB := n3_; clear n0_ n1_ n2_ n3_; (try clear hb); (try clear hb2); (try clear hk); (try clear hi)) | ((with_reducible refine gate_dst (N := 5) rfl ?_); refine box_event ?hg (N := 5) ?hd (cs := #[.int .i64 0, .int .i64 0, .int .u64 0, .int .u64 0, .int .u64 0, .string (⟨#[]⟩ : ByteArray)]) (t := 24) ?hr ?_; (case hd => rfl); (case hg => rfl); (case hr => first | (go_simp; done) | (go_simp; rfl) | (go_simp; simp [u8w]; done)); intro gb365 hg w35 hbox hb; have n0_ := Aside0.mk (Kd.R_below (by (with_reducible repeat (first | apply Kd.R_alloc | apply Kd.R_drewN | apply Kd.R_drew)); exact HO357.out) hb); have n1_ := Aside0.mk (blk_below (g := gb351) (o := .cells #[.int .u64 a0_0, .int .u64 a0_1, .int .u64 a0_2, .string a0_3, .string a0_4] 26 (0, 0)) (by (with_reducible repeat (first | refine blk_drewN ?_ _ | refine blk_drew ?_ | refine blk_alloc ?_ _)); exact BK351.out) hb); have n2_ := Aside0.mk (blk_below (g := gb352) (o := .cells #[.int .u64 a1_0, .int .u64 a1_1, .int .u64 a1_2, .string a1_3, .string a1_4] 26 (0, 0)) (by (with_reducible repeat (first | refine blk_drewN ?_ _ | refine blk_drew ?_ | refine blk_alloc ?_ _)); exact BK352.out) hb); have n3_ := Aside0.mk (below_step (by repeat (first | (with_reducible first | exact HB.out | apply below_alloc | apply pw_below_drewN | apply below_drew1 | refine below_set ?_ GE351.out | refine below_set ?_ GE352.out) | exact HB.out)) hb); have n4_ := Aside0.mk (hbox); have n5_ := Aside0.mk ((by rw [hg]; exact (below_size (by repeat (first | (with_reducible first | exact HB.out | apply below_alloc | apply pw_below_drewN | apply below_drew1 | refine below_set ?_ GE351.out | refine below_set ?_ GE352.out) | exact HB.out))) : w.heap.size ≤ gb365)); have n6_ := Aside0.mk ((by rw [hg]; exact (below_size (by repeat (first | (with_reducible first | exact HB.out | apply below_alloc | apply pw_below_drewN | apply below_drew1 | refine below_set ?_ GE351.out | refine below_set ?_ GE352.out) | exact HB.out))) : w.heap.size ≤ gb365)); have n7_ := Aside0.mk ((by rw [hg]; exact Nat.ne_of_lt (blk_lt (g := gb351) (o := .cells #[.int .u64 a0_0, .int .u64 a0_1, .int .u64 a0_2, .string a0_3, .string a0_4] 26 (0, 0)) (by (with_reducible repeat (first | refine blk_drewN ?_ _ | refine blk_drew ?_ | refine blk_alloc ?_ _)); exact BK351.out)) : gb351 ≠ gb365)); have n8_ := Aside0.mk ((by rw [hg]; exact Nat.ne_of_gt (blk_lt (g := gb351) (o := .cells #[.int .u64 a0_0, .int .u64 a0_1, .int .u64 a0_2, .string a0_3, .string a0_4] 26 (0, 0)) (by (with_reducible repeat (first | refine blk_drewN ?_ _ | refine blk_drew ?_ | refine blk_alloc ?_ _)); exact BK351.out)) : gb365 ≠ gb351)); have n9_ := Aside0.mk ((by rw [hg]; exact Nat.ne_of_lt (blk_lt (g := gb352) (o := .cells #[.int .u64 a1_0, .int .u64 a1_1, .int .u64 a1_2, .string a1_3, .string a1_4] 26 (0, 0)) (by (with_reducible repeat (first | refine blk_drewN ?_ _ | refine blk_drew ?_ | refine blk_alloc ?_ _)); exact BK352.out)) : gb352 ≠ gb365)); have n10_ := Aside0.mk ((by rw [hg]; exact Nat.ne_of_gt (blk_lt (g := gb352) (o := .cells #[.int .u64 a1_0, .int .u64 a1_1, .int .u64 a1_2, .string a1_3, .string a1_4] 26 (0, 0)) (by (with_reducible repeat (first | refine blk_drewN ?_ _ | refine blk_drew ?_ | refine blk_alloc ?_ _)); exact BK352.out)) : gb365 ≠ gb352)); clear HO357; clear BK351; clear BK352; clear HB; have HO357 := n0_; have BK351 := n1_; have BK352 := n2_; have HB := n3_; have BK365 := n4_; have GW365 := n5_; have GE365 := n6_; have NB351_365 := n7_; have NB365_351 := n8_; have NB352_365 := n9_; have NB365_352 := n10_; clear n0_ n1_ n2_ n3_ n4_ n5_ n6_ n7_ n8_ n9_ n10_; clear hb hbox hg; have hnb36 := NB365_351.out; have hnc36 := NB351_365.out; have hnb37 := NB365_352.out; have hnc37 := NB352_365.out; have hcz38_0 : w35.cell? ⟨gb365, 0, none⟩ = some (.int .i64 0) := (blk_cell BK365.out 0).trans rfl; have hcz38_1 : w35.cell? ⟨gb365, 1, none⟩ = some (.int .i64 0) := (blk_cell BK365.out 1).trans rfl; have hcz38_2 : w35.cell? ⟨gb365, 2, none⟩ = some (.int .u64 0) := (blk_cell BK365.out 2).trans rfl; have hcz38_3 : w35.cell? ⟨gb365, 3, none⟩ = some (.int .u64 0) := (blk_cell BK365.out 3).trans rfl; have hcz38_4 : w35.cell? ⟨gb365, 4, none⟩ = some (.int .u64 0) := (blk_cell BK365.out 4).trans rfl; have hcz38_5 : w35.cell? ⟨gb365, 5, none⟩ = some (.string (⟨#[]⟩ : ByteArray)) := (blk_cell BK365.out 5).trans rfl; have hfz38_0 := blk_frozen BK365.out 0; have hfz38_1 := blk_frozen BK365.out 1; have hfz38_2 := blk_frozen BK365.out 2; have hfz38_3 := blk_frozen BK365.out 3; have hfz38_4 := blk_frozen BK365.out 4; have hfz38_5 := blk_frozen BK365.out 5))
            have n0_ : Aside0 (Kd.R k26 26 ((((((w35.setCell ⟨gb365, 0, none⟩ (.int .i64 t359)).setCell ⟨gb365, 1, none⟩ (.int .i64 t360)).setCell ⟨gb365, 2, none⟩ (.int .u64 t361)).setCell ⟨gb365, 3, none⟩ (.int .u64 t362)).setCell ⟨gb365, 4, none⟩ (.int .u64 t363)).setCell ⟨gb365, 5, none⟩ (.string t364)) w.heap.size (fun k_ => k_ ≠ gb351 ∧ k_ ≠ gb352) (.slice Ao31 y355.length co31) y355) := ⟨by (with_reducible repeat (first | apply Kd.R_alloc | apply Kd.R_drewN | apply Kd.R_drew)); exact Kd.R_mono (Kd.R_far (p := ⟨gb365, 5, none⟩) (Kd.R_far (p := ⟨gb365, 4, none⟩) (Kd.R_far (p := ⟨gb365, 3, none⟩) (Kd.R_far (p := ⟨gb365, 2, none⟩) (Kd.R_far (p := ⟨gb365, 1, none⟩) (Kd.R_far (p := ⟨gb365, 0, none⟩) (Kd.R_types HO357.out BK365.out (by decide)) (fun _ hk => hk.2) (.int .i64 t359)) (fun _ hk => hk.2) (.int .i64 t360)) (fun _ hk => hk.2) (.int .u64 t361)) (fun _ hk => hk.2) (.int .u64 t362)) (fun _ hk => hk.2) (.int .u64 t363)) (fun _ hk => hk.2) (.string t364)) (fun _ hk => ⟨hk.1.1.2, hk.1.2⟩)⟩
            have n1_ : Aside0 (((((((w35.setCell ⟨gb365, 0, none⟩ (.int .i64 t359)).setCell ⟨gb365, 1, none⟩ (.int .i64 t360)).setCell ⟨gb365, 2, none⟩ (.int .u64 t361)).setCell ⟨gb365, 3, none⟩ (.int .u64 t362)).setCell ⟨gb365, 4, none⟩ (.int .u64 t363)).setCell ⟨gb365, 5, none⟩ (.string t364)).heap[gb351]? = some (.cells #[.int .u64 a0_0, .int .u64 a0_1, .int .u64 a0_2, .string a0_3, .string a0_4] 26 (0, 0))) := ⟨by (with_reducible repeat (first | refine blk_drewN ?_ _ | refine blk_drew ?_ | refine blk_alloc ?_ _)); refine blk_far ?_ NB351_365.out _; (with_reducible repeat (first | refine blk_drewN ?_ _ | refine blk_drew ?_ | refine blk_alloc ?_ _)); refine blk_far ?_ NB351_365.out _; (with_reducible repeat (first | refine blk_drewN ?_ _ | refine blk_drew ?_ | refine blk_alloc ?_ _)); refine blk_far ?_ NB351_365.out _; (with_reducible repeat (first | refine blk_drewN ?_ _ | refine blk_drew ?_ | refine blk_alloc ?_ _)); refine blk_far ?_ NB351_365.out _; (with_reducible repeat (first | refine blk_drewN ?_ _ | refine blk_drew ?_ | refine blk_alloc ?_ _)); refine blk_far ?_ NB351_365.out _; (with_reducible repeat (first | refine blk_drewN ?_ _ | refine blk_drew ?_ | refine blk_alloc ?_ _)); refine blk_far ?_ NB351_365.out _; (with_reducible repeat (first | refine blk_drewN ?_ _ | refine blk_drew ?_ | refine blk_alloc ?_ _)); exact BK351.out⟩
            have n2_ : Aside0 (((((((w35.setCell ⟨gb365, 0, none⟩ (.int .i64 t359)).setCell ⟨gb365, 1, none⟩ (.int .i64 t360)).setCell ⟨gb365, 2, none⟩ (.int .u64 t361)).setCell ⟨gb365, 3, none⟩ (.int .u64 t362)).setCell ⟨gb365, 4, none⟩ (.int .u64 t363)).setCell ⟨gb365, 5, none⟩ (.string t364)).heap[gb352]? = some (.cells #[.int .u64 a1_0, .int .u64 a1_1, .int .u64 a1_2, .string a1_3, .string a1_4] 26 (0, 0))) := ⟨by (with_reducible repeat (first | refine blk_drewN ?_ _ | refine blk_drew ?_ | refine blk_alloc ?_ _)); refine blk_far ?_ NB352_365.out _; (with_reducible repeat (first | refine blk_drewN ?_ _ | refine blk_drew ?_ | refine blk_alloc ?_ _)); refine blk_far ?_ NB352_365.out _; (with_reducible repeat (first | refine blk_drewN ?_ _ | refine blk_drew ?_ | refine blk_alloc ?_ _)); refine blk_far ?_ NB352_365.out _; (with_reducible repeat (first | refine blk_drewN ?_ _ | refine blk_drew ?_ | refine blk_alloc ?_ _)); refine blk_far ?_ NB352_365.out _; (with_reducible repeat (first | refine blk_drewN ?_ _ | refine blk_drew ?_ | refine blk_alloc ?_ _)); refine blk_far ?_ NB352_365.out _; (with_reducible repeat (first | refine blk_drewN ?_ _ | refine blk_drew ?_ | refine blk_alloc ?_ _)); refine blk_far ?_ NB352_365.out _; (with_reducible repeat (first | refine blk_drewN ?_ _ | refine blk_drew ?_ | refine blk_alloc ?_ _)); exact BK352.out⟩
            have n3_ : Aside0 (((((((w35.setCell ⟨gb365, 0, none⟩ (.int .i64 t359)).setCell ⟨gb365, 1, none⟩ (.int .i64 t360)).setCell ⟨gb365, 2, none⟩ (.int .u64 t361)).setCell ⟨gb365, 3, none⟩ (.int .u64 t362)).setCell ⟨gb365, 4, none⟩ (.int .u64 t363)).setCell ⟨gb365, 5, none⟩ (.string t364)).heap[gb365]? = some (.cells #[.int .i64 t359, .int .i64 t360, .int .u64 t361, .int .u64 t362, .int .u64 t363, .string t364] 24 (0, 0))) := ⟨by (with_reducible repeat (first | refine blk_drewN ?_ _ | refine blk_drew ?_ | refine blk_alloc ?_ _)); refine blk_put (cs := #[.int .i64 t359, .int .i64 t360, .int .u64 t361, .int .u64 t362, .int .u64 t363, .string (⟨#[]⟩ : ByteArray)]) ?_ 5 _ rfl; (with_reducible repeat (first | refine blk_drewN ?_ _ | refine blk_drew ?_ | refine blk_alloc ?_ _)); refine blk_put (cs := #[.int .i64 t359, .int .i64 t360, .int .u64 t361, .int .u64 t362, .int .u64 0, .string (⟨#[]⟩ : ByteArray)]) ?_ 4 _ rfl; (with_reducible repeat (first | refine blk_drewN ?_ _ | refine blk_drew ?_ | refine blk_alloc ?_ _)); refine blk_put (cs := #[.int .i64 t359, .int .i64 t360, .int .u64 t361, .int .u64 0, .int .u64 0, .string (⟨#[]⟩ : ByteArray)]) ?_ 3 _ rfl; (with_reducible repeat (first | refine blk_drewN ?_ _ | refine blk_drew ?_ | refine blk_alloc ?_ _)); refine blk_put (cs := #[.int .i64 t359, .int .i64 t360, .int .u64 0, .int .u64 0, .int .u64 0, .string (⟨#[]⟩ : ByteArray)]) ?_ 2 _ rfl; (with_reducible repeat (first | refine blk_drewN ?_ _ | refine blk_drew ?_ | refine blk_alloc ?_ _)); refine blk_put (cs := #[.int .i64 t359, .int .i64 0, .int .u64 0, .int .u64 0, .int .u64 0, .string (⟨#[]⟩ : ByteArray)]) ?_ 1 _ rfl; (with_reducible repeat (first | refine blk_drewN ?_ _ | refine blk_drew ?_ | refine blk_alloc ?_ _)); refine blk_put (cs := #[.int .i64 0, .int .i64 0, .int .u64 0, .int .u64 0, .int .u64 0, .string (⟨#[]⟩ : ByteArray)]) ?_ 0 _ rfl; (with_reducible repeat (first | refine blk_drewN ?_ _ | refine blk_drew ?_ | refine blk_alloc ?_ _)); exact BK365.out⟩
            have n4_ : Aside0 (Below w.heap.size w ((((((w35.setCell ⟨gb365, 0, none⟩ (.int .i64 t359)).setCell ⟨gb365, 1, none⟩ (.int .i64 t360)).setCell ⟨gb365, 2, none⟩ (.int .u64 t361)).setCell ⟨gb365, 3, none⟩ (.int .u64 t362)).setCell ⟨gb365, 4, none⟩ (.int .u64 t363)).setCell ⟨gb365, 5, none⟩ (.string t364))) := ⟨by repeat (first | (with_reducible first | exact HB.out | apply below_alloc | apply pw_below_drewN | apply below_drew1 | refine below_set ?_ GE351.out | refine below_set ?_ GE352.out | refine below_set ?_ GE365.out) | exact HB.out)⟩
            (try clear HO357)
            (try clear BK351)
            (try clear BK352)
            (try clear BK365)
            (try clear HB)
            generalize ((((((w35.setCell ⟨gb365, 0, none⟩ (.int .i64 t359)).setCell ⟨gb365, 1, none⟩ (.int .i64 t360)).setCell ⟨gb365, 2, none⟩ (.int .u64 t361)).setCell ⟨gb365, 3, none⟩ (.int .u64 t362)).setCell ⟨gb365, 4, none⟩ (.int .u64 t363)).setCell ⟨gb365, 5, none⟩ (.string t364)) = w39 at n0_ n1_ n2_ n3_ n4_ ⊢
            have HO357 := n0_
            have BK351 := n1_
            have BK352 := n2_
            have BK365 := n3_
            have HB := n4_
            clear n0_ n1_ n2_ n3_ n4_
            have n0_ := Aside0.mk (Kd.R_drew HO357.out)
            have n1_ := Aside0.mk (blk_drew BK351.out)
            have n2_ := Aside0.mk (blk_drew BK352.out)
            have n3_ := Aside0.mk (blk_drew BK365.out)
            have n4_ := Aside0.mk (below_drew1 HB.out)
            clear HO357
            clear BK351
            clear BK352
            clear BK365
            clear HB
            have HO357 := n0_
            have BK351 := n1_
            have BK352 := n2_
            have BK365 := n3_
            have HB := n4_
            clear n0_ n1_ n2_ n3_ n4_
            refine start_ (n := 18) (S := fun w' => w'.cell? ⟨gb365, 0, none⟩ = some (.int .i64 t359) ∧ w'.cell? ⟨gb365, 1, none⟩ = some (.int .i64 t360) ∧ w'.cell? ⟨gb365, 2, none⟩ = some (.int .u64 t361) ∧ w'.cell? ⟨gb365, 3, none⟩ = some (.int .u64 t362) ∧ w'.cell? ⟨gb365, 4, none⟩ = some (.int .u64 t363) ∧ w'.cell? ⟨gb365, 5, none⟩ = some (.string t364) ∧ w'.cell? ⟨gb351, 0, none⟩ = some (.int .u64 a0_0) ∧ w'.cell? ⟨gb351, 1, none⟩ = some (.int .u64 a0_1) ∧ w'.cell? ⟨gb351, 2, none⟩ = some (.int .u64 a0_2) ∧ w'.cell? ⟨gb351, 3, none⟩ = some (.string a0_3) ∧ w'.cell? ⟨gb351, 4, none⟩ = some (.string a0_4) ∧ w'.cell? ⟨gb352, 0, none⟩ = some (.int .u64 a1_0) ∧ w'.cell? ⟨gb352, 1, none⟩ = some (.int .u64 a1_1) ∧ w'.cell? ⟨gb352, 2, none⟩ = some (.int .u64 a1_2) ∧ w'.cell? ⟨gb352, 3, none⟩ = some (.string a1_3) ∧ w'.cell? ⟨gb352, 4, none⟩ = some (.string a1_4)) (ds := []) #[false, false, false, false, false, false, false, false, false, false, false, false, false, false, false, false, false, false] (by kernel_rfl) rfl rfl ⟨(blk_cell BK365.out 0).trans rfl, (blk_cell BK365.out 1).trans rfl, (blk_cell BK365.out 2).trans rfl, (blk_cell BK365.out 3).trans rfl, (blk_cell BK365.out 4).trans rfl, (blk_cell BK365.out 5).trans rfl, (blk_cell BK351.out 0).trans rfl, (blk_cell BK351.out 1).trans rfl, (blk_cell BK351.out 2).trans rfl, (blk_cell BK351.out 3).trans rfl, (blk_cell BK351.out 4).trans rfl, (blk_cell BK352.out 0).trans rfl, (blk_cell BK352.out 1).trans rfl, (blk_cell BK352.out 2).trans rfl, (blk_cell BK352.out 3).trans rfl, (blk_cell BK352.out 4).trans rfl⟩ (fun hHeld => ?_); refine with_tabW laws_FnSemverEqualCompares.tab6 laws_FnSemverEqualCompares.bits6 (fun HT_ HW_ => ?_)
            generalize w39.drew = w40 at HO357 BK351 BK352 BK365 HB hHeld ⊢
            refine take_ (i := 0) (N := some 21) (v := ?_) (a' := ?_) #[true, false, false, false, false, false, false, false, false, false, false, false, false, false, false, false, false, false] rfl rfl (take_ofW HT_.out HW_.out (by kernel_rfl)) (fun _ _ _ h => h) (Or.inl ⟨by rfl, ?_⟩) hHeld ?_ ?_
            rotate_left
            · rintro w' ⟨s0, s1, s2, s3, s4, s5, s6, s7, s8, s9, s10, s11, s12, s13, s14, s15⟩
              go_simp
              with_reducible rfl
            rotate_left
            · simp only [Act.put, List.setIfInBounds_toArray, List.set_cons_zero, List.set_cons_succ, i64_w, i32_w]
              rfl
            refine take_ (i := 1) (N := some 22) (v := ?_) (a' := ?_) #[true, true, false, false, false, false, false, false, false, false, false, false, false, false, false, false, false, false] rfl rfl (take_ofW HT_.out HW_.out (by kernel_rfl)) (fun _ _ _ h => h) (Or.inl ⟨by rfl, ?_⟩) hHeld ?_ ?_
            rotate_left
            · rintro w' ⟨s0, s1, s2, s3, s4, s5, s6, s7, s8, s9, s10, s11, s12, s13, s14, s15⟩
              go_simp
              with_reducible rfl
            rotate_left
            · simp only [Act.put, List.setIfInBounds_toArray, List.set_cons_zero, List.set_cons_succ, i64_w, i32_w]
              rfl
            refine take_ (i := 3) (N := some 24) (v := ?_) (a' := ?_) #[true, true, false, true, false, false, false, false, false, false, false, false, false, false, false, false, false, false] rfl rfl (take_ofW HT_.out HW_.out (by kernel_rfl)) (fun _ _ _ h => h) (Or.inl ⟨by rfl, ?_⟩) hHeld ?_ ?_
            rotate_left
            · rintro w' ⟨s0, s1, s2, s3, s4, s5, s6, s7, s8, s9, s10, s11, s12, s13, s14, s15⟩
              go_simp
              with_reducible rfl
            rotate_left
            · simp only [Act.put, List.setIfInBounds_toArray, List.set_cons_zero, List.set_cons_succ, i64_w, i32_w]
              rfl
            refine take_ (i := 4) (N := some 25) (v := ?_) (a' := ?_) #[true, true, false, true, true, false, false, false, false, false, false, false, false, false, false, false, false, false] rfl rfl (take_ofW HT_.out HW_.out (by kernel_rfl)) (fun _ _ _ h => h) (Or.inl ⟨by rfl, ?_⟩) hHeld ?_ ?_
            rotate_left
            · rintro w' ⟨s0, s1, s2, s3, s4, s5, s6, s7, s8, s9, s10, s11, s12, s13, s14, s15⟩
              go_simp
              with_reducible rfl
            rotate_left
            · simp only [Act.put, List.setIfInBounds_toArray, List.set_cons_zero, List.set_cons_succ, i64_w, i32_w]
              rfl
            refine one_ (i := 2) (N := some 23) #[true, true, true, true, true, false, false, false, false, false, false, false, false, false, false, false, false, false] rfl rfl (one_of HT_.out (by kernel_rfl)) (by decide) (fun K hK => ?_)
            refine goes_ Tryd.func32 (by kernel_rfl) rfl #[.agg #[.int .i64 t359, .int .i64 t360, .int .u64 t361, .int .u64 t362, .int .u64 t363, .string t364], .agg #[.int .u64 a0_0, .int .u64 a0_1, .int .u64 a0_2, .string a0_3, .string a0_4], .bool true] (by rfl) rfl rfl (by (try simp only [List.map_toArray, List.map_cons, List.map_nil]); first | done | rfl | (simp only [List.length_drop, List.length_take]; rfl)) ?_
            with_reducible refine (impl_EqualHolds.calls t359 t360 t361 t362 t363 t364 a0_0 a0_1 a0_2 a0_3 a0_4 true t366 _ ?side1 A21.out).mono ?_
            (case side1 => exact HStd.out.below (by repeat (first | (with_reducible first | exact HB.out | apply below_alloc | apply pw_below_drewN | apply below_drew1 | refine below_set ?_ GE351.out | refine below_set ?_ GE352.out | refine below_set ?_ GE365.out) | exact HB.out)))
            rintro e w41 ⟨rfl, hb⟩
            refine ⟨_, rfl, ?_⟩
            have n0_ := Aside0.mk (Kd.R_below (by (with_reducible repeat (first | apply Kd.R_alloc | apply Kd.R_drewN | apply Kd.R_drew)); exact HO357.out) hb)
            have n1_ := Aside0.mk (blk_below (g := gb351) (o := .cells #[.int .u64 a0_0, .int .u64 a0_1, .int .u64 a0_2, .string a0_3, .string a0_4] 26 (0, 0)) (by (with_reducible repeat (first | refine blk_drewN ?_ _ | refine blk_drew ?_ | refine blk_alloc ?_ _)); exact BK351.out) hb)
            have n2_ := Aside0.mk (blk_below (g := gb352) (o := .cells #[.int .u64 a1_0, .int .u64 a1_1, .int .u64 a1_2, .string a1_3, .string a1_4] 26 (0, 0)) (by (with_reducible repeat (first | refine blk_drewN ?_ _ | refine blk_drew ?_ | refine blk_alloc ?_ _)); exact BK352.out) hb)
            have n3_ := Aside0.mk (blk_below (g := gb365) (o := .cells #[.int .i64 t359, .int .i64 t360, .int .u64 t361, .int .u64 t362, .int .u64 t363, .string t364] 24 (0, 0)) (by (with_reducible repeat (first | refine blk_drewN ?_ _ | refine blk_drew ?_ | refine blk_alloc ?_ _)); exact BK365.out) hb)
            have n4_ := Aside0.mk (below_step (by repeat (first | (with_reducible first | exact HB.out | apply below_alloc | apply pw_below_drewN | apply below_drew1 | refine below_set ?_ GE351.out | refine below_set ?_ GE352.out | refine below_set ?_ GE365.out) | exact HB.out)) hb)
            clear HO357
            clear BK351
            clear BK352
            clear BK365
            clear HB
            have HO357 := n0_
            have BK351 := n1_
            have BK352 := n2_
            have BK365 := n3_
            have HB := n4_
            clear n0_ n1_ n2_ n3_ n4_
            (try clear hb)
            (try clear hb2)
            (try clear hk)
            (try clear hi)
            refine hK.out _ _ ⟨(blk_cell BK365.out 0).trans rfl, (blk_cell BK365.out 1).trans rfl, (blk_cell BK365.out 2).trans rfl, (blk_cell BK365.out 3).trans rfl, (blk_cell BK365.out 4).trans rfl, (blk_cell BK365.out 5).trans rfl, (blk_cell BK351.out 0).trans rfl, (blk_cell BK351.out 1).trans rfl, (blk_cell BK351.out 2).trans rfl, (blk_cell BK351.out 3).trans rfl, (blk_cell BK351.out 4).trans rfl, (blk_cell BK352.out 0).trans rfl, (blk_cell BK352.out 1).trans rfl, (blk_cell BK352.out 2).trans rfl, (blk_cell BK352.out 3).trans rfl, (blk_cell BK352.out 4).trans rfl⟩ (fun hHeld => ?_)
            clear hK K
            refine norm_ (a' := ?_) ?_ ?_
            rotate_left
            · show Act.put _ (some 23) _ = _
              simp only [Act.put, List.setIfInBounds_toArray, List.set_cons_zero, List.set_cons_succ, i64_w, i32_w]
              rfl
            refine one_ (i := 5) (N := some 26) #[true, true, true, true, true, true, false, false, false, false, false, false, false, false, false, false, false, false] rfl rfl (one_of HT_.out (by kernel_rfl)) (by decide) (fun K hK => ?_)
            refine goes_ Tryd.func33 (by kernel_rfl) rfl #[.agg #[.int .u64 a0_0, .int .u64 a0_1, .int .u64 a0_2, .string a0_3, .string a0_4], .agg #[.int .u64 a1_0, .int .u64 a1_1, .int .u64 a1_2, .string a1_3, .string a1_4]] (by rfl) rfl rfl (by (try simp only [List.map_toArray, List.map_cons, List.map_nil]); first | done | rfl | (simp only [List.length_drop, List.length_take]; rfl)) ?_
            with_reducible refine (impl_VersionEqual.calls a0_0 a0_1 a0_2 a0_3 a0_4 a1_0 a1_1 a1_2 a1_3 a1_4 t367 _ ?side1 A22.out).mono ?_
            (case side1 => exact HStd.out.below (by repeat (first | (with_reducible first | exact HB.out | apply below_alloc | apply pw_below_drewN | apply below_drew1 | refine below_set ?_ GE351.out | refine below_set ?_ GE352.out | refine below_set ?_ GE365.out) | exact HB.out)))
            rintro e w42 ⟨rfl, hb⟩
            refine ⟨_, rfl, ?_⟩
            have n0_ := Aside0.mk (Kd.R_below (by (with_reducible repeat (first | apply Kd.R_alloc | apply Kd.R_drewN | apply Kd.R_drew)); exact HO357.out) hb)
            have n1_ := Aside0.mk (blk_below (g := gb351) (o := .cells #[.int .u64 a0_0, .int .u64 a0_1, .int .u64 a0_2, .string a0_3, .string a0_4] 26 (0, 0)) (by (with_reducible repeat (first | refine blk_drewN ?_ _ | refine blk_drew ?_ | refine blk_alloc ?_ _)); exact BK351.out) hb)
            have n2_ := Aside0.mk (blk_below (g := gb352) (o := .cells #[.int .u64 a1_0, .int .u64 a1_1, .int .u64 a1_2, .string a1_3, .string a1_4] 26 (0, 0)) (by (with_reducible repeat (first | refine blk_drewN ?_ _ | refine blk_drew ?_ | refine blk_alloc ?_ _)); exact BK352.out) hb)
            have n3_ := Aside0.mk (blk_below (g := gb365) (o := .cells #[.int .i64 t359, .int .i64 t360, .int .u64 t361, .int .u64 t362, .int .u64 t363, .string t364] 24 (0, 0)) (by (with_reducible repeat (first | refine blk_drewN ?_ _ | refine blk_drew ?_ | refine blk_alloc ?_ _)); exact BK365.out) hb)
            have n4_ := Aside0.mk (below_step (by repeat (first | (with_reducible first | exact HB.out | apply below_alloc | apply pw_below_drewN | apply below_drew1 | refine below_set ?_ GE351.out | refine below_set ?_ GE352.out | refine below_set ?_ GE365.out) | exact HB.out)) hb)
            clear HO357
            clear BK351
            clear BK352
            clear BK365
            clear HB
            have HO357 := n0_
            have BK351 := n1_
            have BK352 := n2_
            have BK365 := n3_
            have HB := n4_
            clear n0_ n1_ n2_ n3_ n4_
            (try clear hb)
            (try clear hb2)
            (try clear hk)
            (try clear hi)
            refine hK.out _ _ ⟨(blk_cell BK365.out 0).trans rfl, (blk_cell BK365.out 1).trans rfl, (blk_cell BK365.out 2).trans rfl, (blk_cell BK365.out 3).trans rfl, (blk_cell BK365.out 4).trans rfl, (blk_cell BK365.out 5).trans rfl, (blk_cell BK351.out 0).trans rfl, (blk_cell BK351.out 1).trans rfl, (blk_cell BK351.out 2).trans rfl, (blk_cell BK351.out 3).trans rfl, (blk_cell BK351.out 4).trans rfl, (blk_cell BK352.out 0).trans rfl, (blk_cell BK352.out 1).trans rfl, (blk_cell BK352.out 2).trans rfl, (blk_cell BK352.out 3).trans rfl, (blk_cell BK352.out 4).trans rfl⟩ (fun hHeld => ?_)
            clear hK K
            refine norm_ (a' := ?_) ?_ ?_
            rotate_left
            · show Act.put _ (some 26) _ = _
              simp only [Act.put, List.setIfInBounds_toArray, List.set_cons_zero, List.set_cons_succ, i64_w, i32_w]
              rfl
            refine pure_ (i := 6) (N := some 27) (v := ?_) (a' := ?_) #[true, true, true, true, true, true, true, false, false, false, false, false, false, false, false, false, false, false] rfl rfl (any_of HT_.out (by kernel_rfl)) (fun _ _ _ h => h) (Or.inl ⟨by rfl, ?_⟩) ?_ ?_
            rotate_left
            · intro w'
              go_simp
              with_reducible rfl
            rotate_left
            · simp only [Act.put, List.setIfInBounds_toArray, List.set_cons_zero, List.set_cons_succ, i64_w, i32_w]
              rfl
            refine pure_ (i := 7) (N := some 28) (v := ?_) (a' := ?_) #[true, true, true, true, true, true, true, true, false, false, false, false, false, false, false, false, false, false] rfl rfl (any_of HT_.out (by kernel_rfl)) (fun _ _ _ h => h) (Or.inl ⟨by rfl, ?_⟩) ?_ ?_
            rotate_left
            · intro w'
              go_simp
              with_reducible rfl
            rotate_left
            · simp only [Act.put, List.setIfInBounds_toArray, List.set_cons_zero, List.set_cons_succ, i64_w, i32_w]
              rfl
            refine take_ (i := 8) (N := some 29) (v := ?_) (a' := ?_) #[true, true, true, true, true, true, true, true, true, false, false, false, false, false, false, false, false, false] rfl rfl (take_ofW HT_.out HW_.out (by kernel_rfl)) (fun _ _ _ h => h) (Or.inl ⟨by rfl, ?_⟩) hHeld ?_ ?_
            rotate_left
            · rintro w' ⟨s0, s1, s2, s3, s4, s5, s6, s7, s8, s9, s10, s11, s12, s13, s14, s15⟩
              go_simp
              with_reducible rfl
            rotate_left
            · simp only [Act.put, List.setIfInBounds_toArray, List.set_cons_zero, List.set_cons_succ, i64_w, i32_w]
              rfl
            refine take_ (i := 9) (N := some 30) (v := ?_) (a' := ?_) #[true, true, true, true, true, true, true, true, true, true, false, false, false, false, false, false, false, false] rfl rfl (take_ofW HT_.out HW_.out (by kernel_rfl)) (fun _ _ _ h => h) (Or.inl ⟨by rfl, ?_⟩) hHeld ?_ ?_
            rotate_left
            · rintro w' ⟨s0, s1, s2, s3, s4, s5, s6, s7, s8, s9, s10, s11, s12, s13, s14, s15⟩
              go_simp
              with_reducible rfl
            rotate_left
            · simp only [Act.put, List.setIfInBounds_toArray, List.set_cons_zero, List.set_cons_succ, i64_w, i32_w]
              rfl
            refine take_ (i := 11) (N := some 32) (v := ?_) (a' := ?_) #[true, true, true, true, true, true, true, true, true, true, false, true, false, false, false, false, false, false] rfl rfl (take_ofW HT_.out HW_.out (by kernel_rfl)) (fun _ _ _ h => h) (Or.inl ⟨by rfl, ?_⟩) hHeld ?_ ?_
            rotate_left
            · rintro w' ⟨s0, s1, s2, s3, s4, s5, s6, s7, s8, s9, s10, s11, s12, s13, s14, s15⟩
              go_simp
              with_reducible rfl
            rotate_left
            · simp only [Act.put, List.setIfInBounds_toArray, List.set_cons_zero, List.set_cons_succ, i64_w, i32_w]
              rfl
            refine take_ (i := 12) (N := some 33) (v := ?_) (a' := ?_) #[true, true, true, true, true, true, true, true, true, true, false, true, true, false, false, false, false, false] rfl rfl (take_ofW HT_.out HW_.out (by kernel_rfl)) (fun _ _ _ h => h) (Or.inl ⟨by rfl, ?_⟩) hHeld ?_ ?_
            rotate_left
            · rintro w' ⟨s0, s1, s2, s3, s4, s5, s6, s7, s8, s9, s10, s11, s12, s13, s14, s15⟩
              go_simp
              with_reducible rfl
            rotate_left
            · simp only [Act.put, List.setIfInBounds_toArray, List.set_cons_zero, List.set_cons_succ, i64_w, i32_w]
              rfl
            refine one_ (i := 10) (N := some 31) #[true, true, true, true, true, true, true, true, true, true, true, true, true, false, false, false, false, false] rfl rfl (one_of HT_.out (by kernel_rfl)) (by decide) (fun K hK => ?_)
            refine goes_ Tryd.func30 (by kernel_rfl) rfl #[.agg #[.int .i64 t359, .int .i64 t360, .int .u64 t361, .int .u64 t362, .int .u64 t363, .string t364], .agg #[.int .u64 a0_0, .int .u64 a0_1, .int .u64 a0_2, .string a0_3, .string a0_4], .bool true] (by rfl) rfl rfl (by (try simp only [List.map_toArray, List.map_cons, List.map_nil]); first | done | rfl | (simp only [List.length_drop, List.length_take]; rfl)) ?_
            with_reducible refine (impl_NotEqualHolds.calls t359 t360 t361 t362 t363 t364 a0_0 a0_1 a0_2 a0_3 a0_4 true t368 _ ?side1 A24.out).mono ?_
            (case side1 => exact HStd.out.below (by repeat (first | (with_reducible first | exact HB.out | apply below_alloc | apply pw_below_drewN | apply below_drew1 | refine below_set ?_ GE351.out | refine below_set ?_ GE352.out | refine below_set ?_ GE365.out) | exact HB.out)))
            rintro e w43 ⟨rfl, hb⟩
            refine ⟨_, rfl, ?_⟩
            have n0_ := Aside0.mk (Kd.R_below (by (with_reducible repeat (first | apply Kd.R_alloc | apply Kd.R_drewN | apply Kd.R_drew)); exact HO357.out) hb)
            have n1_ := Aside0.mk (blk_below (g := gb351) (o := .cells #[.int .u64 a0_0, .int .u64 a0_1, .int .u64 a0_2, .string a0_3, .string a0_4] 26 (0, 0)) (by (with_reducible repeat (first | refine blk_drewN ?_ _ | refine blk_drew ?_ | refine blk_alloc ?_ _)); exact BK351.out) hb)
            have n2_ := Aside0.mk (blk_below (g := gb352) (o := .cells #[.int .u64 a1_0, .int .u64 a1_1, .int .u64 a1_2, .string a1_3, .string a1_4] 26 (0, 0)) (by (with_reducible repeat (first | refine blk_drewN ?_ _ | refine blk_drew ?_ | refine blk_alloc ?_ _)); exact BK352.out) hb)
            have n3_ := Aside0.mk (blk_below (g := gb365) (o := .cells #[.int .i64 t359, .int .i64 t360, .int .u64 t361, .int .u64 t362, .int .u64 t363, .string t364] 24 (0, 0)) (by (with_reducible repeat (first | refine blk_drewN ?_ _ | refine blk_drew ?_ | refine blk_alloc ?_ _)); exact BK365.out) hb)
            have n4_ := Aside0.mk (below_step (by repeat (first | (with_reducible first | exact HB.out | apply below_alloc | apply pw_below_drewN | apply below_drew1 | refine below_set ?_ GE351.out | refine below_set ?_ GE352.out | refine below_set ?_ GE365.out) | exact HB.out)) hb)
            clear HO357
            clear BK351
            clear BK352
            clear BK365
            clear HB
            have HO357 := n0_
            have BK351 := n1_
            have BK352 := n2_
            have BK365 := n3_
            have HB := n4_
            clear n0_ n1_ n2_ n3_ n4_
            (try clear hb)
            (try clear hb2)
            (try clear hk)
            (try clear hi)
            refine hK.out _ _ ⟨(blk_cell BK365.out 0).trans rfl, (blk_cell BK365.out 1).trans rfl, (blk_cell BK365.out 2).trans rfl, (blk_cell BK365.out 3).trans rfl, (blk_cell BK365.out 4).trans rfl, (blk_cell BK365.out 5).trans rfl, (blk_cell BK351.out 0).trans rfl, (blk_cell BK351.out 1).trans rfl, (blk_cell BK351.out 2).trans rfl, (blk_cell BK351.out 3).trans rfl, (blk_cell BK351.out 4).trans rfl, (blk_cell BK352.out 0).trans rfl, (blk_cell BK352.out 1).trans rfl, (blk_cell BK352.out 2).trans rfl, (blk_cell BK352.out 3).trans rfl, (blk_cell BK352.out 4).trans rfl⟩ (fun hHeld => ?_)
            clear hK K
            refine norm_ (a' := ?_) ?_ ?_
            rotate_left
            · show Act.put _ (some 31) _ = _
              simp only [Act.put, List.setIfInBounds_toArray, List.set_cons_zero, List.set_cons_succ, i64_w, i32_w]
              rfl
            refine one_ (i := 13) (N := some 34) #[true, true, true, true, true, true, true, true, true, true, true, true, true, true, false, false, false, false] rfl rfl (one_of HT_.out (by kernel_rfl)) (by decide) (fun K hK => ?_)
            refine goes_ Tryd.func33 (by kernel_rfl) rfl #[.agg #[.int .u64 a0_0, .int .u64 a0_1, .int .u64 a0_2, .string a0_3, .string a0_4], .agg #[.int .u64 a1_0, .int .u64 a1_1, .int .u64 a1_2, .string a1_3, .string a1_4]] (by rfl) rfl rfl (by (try simp only [List.map_toArray, List.map_cons, List.map_nil]); first | done | rfl | (simp only [List.length_drop, List.length_take]; rfl)) ?_
            with_reducible refine (impl_VersionEqual.calls a0_0 a0_1 a0_2 a0_3 a0_4 a1_0 a1_1 a1_2 a1_3 a1_4 t369 _ ?side1 A25.out).mono ?_
            (case side1 => exact HStd.out.below (by repeat (first | (with_reducible first | exact HB.out | apply below_alloc | apply pw_below_drewN | apply below_drew1 | refine below_set ?_ GE351.out | refine below_set ?_ GE352.out | refine below_set ?_ GE365.out) | exact HB.out)))
            rintro e w44 ⟨rfl, hb⟩
            refine ⟨_, rfl, ?_⟩
            have n0_ := Aside0.mk (Kd.R_below (by (with_reducible repeat (first | apply Kd.R_alloc | apply Kd.R_drewN | apply Kd.R_drew)); exact HO357.out) hb)
            have n1_ := Aside0.mk (blk_below (g := gb351) (o := .cells #[.int .u64 a0_0, .int .u64 a0_1, .int .u64 a0_2, .string a0_3, .string a0_4] 26 (0, 0)) (by (with_reducible repeat (first | refine blk_drewN ?_ _ | refine blk_drew ?_ | refine blk_alloc ?_ _)); exact BK351.out) hb)
            have n2_ := Aside0.mk (blk_below (g := gb352) (o := .cells #[.int .u64 a1_0, .int .u64 a1_1, .int .u64 a1_2, .string a1_3, .string a1_4] 26 (0, 0)) (by (with_reducible repeat (first | refine blk_drewN ?_ _ | refine blk_drew ?_ | refine blk_alloc ?_ _)); exact BK352.out) hb)
            have n3_ := Aside0.mk (blk_below (g := gb365) (o := .cells #[.int .i64 t359, .int .i64 t360, .int .u64 t361, .int .u64 t362, .int .u64 t363, .string t364] 24 (0, 0)) (by (with_reducible repeat (first | refine blk_drewN ?_ _ | refine blk_drew ?_ | refine blk_alloc ?_ _)); exact BK365.out) hb)
            have n4_ := Aside0.mk (below_step (by repeat (first | (with_reducible first | exact HB.out | apply below_alloc | apply pw_below_drewN | apply below_drew1 | refine below_set ?_ GE351.out | refine below_set ?_ GE352.out | refine below_set ?_ GE365.out) | exact HB.out)) hb)
            clear HO357
            clear BK351
            clear BK352
            clear BK365
            clear HB
            have HO357 := n0_
            have BK351 := n1_
            have BK352 := n2_
            have BK365 := n3_
            have HB := n4_
            clear n0_ n1_ n2_ n3_ n4_
            (try clear hb)
            (try clear hb2)
            (try clear hk)
            (try clear hi)
            refine hK.out _ _ ⟨(blk_cell BK365.out 0).trans rfl, (blk_cell BK365.out 1).trans rfl, (blk_cell BK365.out 2).trans rfl, (blk_cell BK365.out 3).trans rfl, (blk_cell BK365.out 4).trans rfl, (blk_cell BK365.out 5).trans rfl, (blk_cell BK351.out 0).trans rfl, (blk_cell BK351.out 1).trans rfl, (blk_cell BK351.out 2).trans rfl, (blk_cell BK351.out 3).trans rfl, (blk_cell BK351.out 4).trans rfl, (blk_cell BK352.out 0).trans rfl, (blk_cell BK352.out 1).trans rfl, (blk_cell BK352.out 2).trans rfl, (blk_cell BK352.out 3).trans rfl, (blk_cell BK352.out 4).trans rfl⟩ (fun hHeld => ?_)
            clear hK K
            refine norm_ (a' := ?_) ?_ ?_
            rotate_left
            · show Act.put _ (some 34) _ = _
              simp only [Act.put, List.setIfInBounds_toArray, List.set_cons_zero, List.set_cons_succ, i64_w, i32_w]
              rfl
            refine pure_ (i := 14) (N := some 35) (v := ?_) (a' := ?_) #[true, true, true, true, true, true, true, true, true, true, true, true, true, true, true, false, false, false] rfl rfl (any_of HT_.out (by kernel_rfl)) (fun _ _ _ h => h) (Or.inl ⟨by rfl, ?_⟩) ?_ ?_
            rotate_left
            · intro w'
              go_simp
              with_reducible rfl
            rotate_left
            · simp only [Act.put, List.setIfInBounds_toArray, List.set_cons_zero, List.set_cons_succ, i64_w, i32_w]
              rfl
            refine pure_ (i := 15) (N := some 36) (v := ?_) (a' := ?_) #[true, true, true, true, true, true, true, true, true, true, true, true, true, true, true, true, false, false] rfl rfl (any_of HT_.out (by kernel_rfl)) (fun _ _ _ h => h) (Or.inl ⟨by rfl, ?_⟩) ?_ ?_
            rotate_left
            · intro w'
              go_simp
              with_reducible rfl
            rotate_left
            · simp only [Act.put, List.setIfInBounds_toArray, List.set_cons_zero, List.set_cons_succ, i64_w, i32_w]
              rfl
            refine pure_ (i := 16) (N := some 37) (v := ?_) (a' := ?_) #[true, true, true, true, true, true, true, true, true, true, true, true, true, true, true, true, true, false] rfl rfl (any_of HT_.out (by kernel_rfl)) (fun _ _ _ h => h) (Or.inl ⟨by rfl, ?_⟩) ?_ ?_
            rotate_left
            · intro w'
              go_simp
              with_reducible rfl
            rotate_left
            · simp only [Act.put, List.setIfInBounds_toArray, List.set_cons_zero, List.set_cons_succ, i64_w, i32_w]
              rfl
            refine pure_ (i := 17) (N := some 4) (v := ?_) (a' := ?_) #[true, true, true, true, true, true, true, true, true, true, true, true, true, true, true, true, true, true] rfl rfl (any_of HT_.out (by kernel_rfl)) (fun _ _ _ h => h) (Or.inl ⟨by rfl, ?_⟩) ?_ ?_
            rotate_left
            · intro w'
              go_simp
              with_reducible rfl
            rotate_left
            · simp only [Act.put, List.setIfInBounds_toArray, List.set_cons_zero, List.set_cons_succ, i64_w, i32_w]
              rfl
            refine done_ (done_of HT_.out (by kernel_rfl)) ?_
            try go_wp2
            go_ret
            exact ⟨by first | rfl | (simp [errW_none, errW_some] <;> rfl) | (simp [*, errW_none, errW_some] <;> rfl) | (simp [bneNil]; done), by repeat (first | (with_reducible first | exact HB.out | apply below_alloc | apply pw_below_drewN | apply below_drew1 | refine below_set ?_ GE351.out | refine below_set ?_ GE352.out | refine below_set ?_ GE365.out) | exact HB.out)⟩
          · rw [if_neg c23] at H
            have c23b0 : (t366 == t367) = false := by simpa using c23
            (try (have c23b1 : decide (t366 = t367) = false := by simpa using c23))
            (try (have c23b2 : (t366 == t367) = false := by simpa using c23))
            (try (have c23b3 : ¬ (t366 = t367) := by simpa using c23))
            clear c23
            obtain rfl := Option.some.inj H
            have hnb45 := NB351_352.out
            have hnc45 := NB352_351.out
            have hcz46_0 : wc.cell? ⟨gb351, 0, none⟩ = some (.int .u64 a0_0) := (blk_cell BK351.out 0).trans rfl
            have hcz46_1 : wc.cell? ⟨gb351, 1, none⟩ = some (.int .u64 a0_1) := (blk_cell BK351.out 1).trans rfl
            have hcz46_2 : wc.cell? ⟨gb351, 2, none⟩ = some (.int .u64 a0_2) := (blk_cell BK351.out 2).trans rfl
            have hcz46_3 : wc.cell? ⟨gb351, 3, none⟩ = some (.string a0_3) := (blk_cell BK351.out 3).trans rfl
            have hcz46_4 : wc.cell? ⟨gb351, 4, none⟩ = some (.string a0_4) := (blk_cell BK351.out 4).trans rfl
            have hfz46_0 := blk_frozen BK351.out 0
            have hfz46_1 := blk_frozen BK351.out 1
            have hfz46_2 := blk_frozen BK351.out 2
            have hfz46_3 := blk_frozen BK351.out 3
            have hfz46_4 := blk_frozen BK351.out 4
            have hcz47_0 : wc.cell? ⟨gb352, 0, none⟩ = some (.int .u64 a1_0) := (blk_cell BK352.out 0).trans rfl
            have hcz47_1 : wc.cell? ⟨gb352, 1, none⟩ = some (.int .u64 a1_1) := (blk_cell BK352.out 1).trans rfl
            have hcz47_2 : wc.cell? ⟨gb352, 2, none⟩ = some (.int .u64 a1_2) := (blk_cell BK352.out 2).trans rfl
            have hcz47_3 : wc.cell? ⟨gb352, 3, none⟩ = some (.string a1_3) := (blk_cell BK352.out 3).trans rfl
            have hcz47_4 : wc.cell? ⟨gb352, 4, none⟩ = some (.string a1_4) := (blk_cell BK352.out 4).trans rfl
            have hfz47_0 := blk_frozen BK352.out 0
            have hfz47_1 := blk_frozen BK352.out 1
            have hfz47_2 := blk_frozen BK352.out 2
            have hfz47_3 := blk_frozen BK352.out 3
            have hfz47_4 := blk_frozen BK352.out 4
            try go_wp2_with (first | ((with_reducible refine gate_dst (N := 16) rfl ?_); refine Kd.R_lit k26 _ 26 ?hg (N := 16) ?hd (xs := ([(⟨a0_0, a0_1, a0_2, a0_3, a0_4⟩ : S26), (⟨a1_0, a1_1, a1_2, a1_3, a1_4⟩ : S26)] : List (S26))) (inner := [.int .u64 a0_0, .int .u64 a0_1, .int .u64 a0_2, .string a0_3, .string a0_4, .int .u64 a1_0, .int .u64 a1_1, .int .u64 a1_2, .string a1_3, .string a1_4]) (ok := fun _ => True) (okp := fun _ => True) ?hr ?hp (fun _ hk => hk) trivial (Below.refl _ _) (Nat.le_refl _) (by simp) ?_; (case hd => rfl); (case hg => rfl); (case hr => first | (go_simp; done) | (go_simp; rfl) | (go_simp; simp [u8w]; done)); (case hp => exact (Reps.c5 (show Kd.M k26 _ _ _ (⟨a0_0, a0_1, a0_2, a0_3, a0_4⟩ : S26) [.int .u64 a0_0, .int .u64 a0_1, .int .u64 a0_2, .string a0_3, .string a0_4] from (k26_mkM _ _ _ (⟨a0_0, a0_1, a0_2, a0_3, a0_4⟩ : S26) )) (Reps.c5 (show Kd.M k26 _ _ _ (⟨a1_0, a1_1, a1_2, a1_3, a1_4⟩ : S26) [.int .u64 a1_0, .int .u64 a1_1, .int .u64 a1_2, .string a1_3, .string a1_4] from (k26_mkM _ _ _ (⟨a1_0, a1_1, a1_2, a1_3, a1_4⟩ : S26) )) (Reps.none _ _)))); intro v356 w48 ho49 hb hg_ hnew_; clear hg_ hnew_; (first | rw [← Ny355.out] at ho49 | (simp only [Int.reduceToNat] at ho49; rw [← Ny355.out] at ho49)); have n0_ := Aside0.mk (Kd.R_lower (Kd.R_newB (Kd.R_newB ho49 (g := gb351) (o := .cells #[.int .u64 a0_0, .int .u64 a0_1, .int .u64 a0_2, .string a0_3, .string a0_4] 26 (0, 0)) (by (with_reducible repeat (first | refine blk_drewN ?_ _ | refine blk_drew ?_ | refine blk_alloc ?_ _)); exact BK351.out)) (g := gb352) (o := .cells #[.int .u64 a1_0, .int .u64 a1_1, .int .u64 a1_2, .string a1_3, .string a1_4] 26 (0, 0)) (by (with_reducible repeat (first | refine blk_drewN ?_ _ | refine blk_drew ?_ | refine blk_alloc ?_ _)); exact BK352.out)) (below_size (by repeat (first | (with_reducible first | exact HB.out | apply below_alloc | apply pw_below_drewN | apply below_drew1 | refine below_set ?_ GE351.out | refine below_set ?_ GE352.out) | exact HB.out)))); have n1_ := Aside0.mk (blk_below (g := gb351) (o := .cells #[.int .u64 a0_0, .int .u64 a0_1, .int .u64 a0_2, .string a0_3, .string a0_4] 26 (0, 0)) (by (with_reducible repeat (first | refine blk_drewN ?_ _ | refine blk_drew ?_ | refine blk_alloc ?_ _)); exact BK351.out) hb); have n2_ := Aside0.mk (blk_below (g := gb352) (o := .cells #[.int .u64 a1_0, .int .u64 a1_1, .int .u64 a1_2, .string a1_3, .string a1_4] 26 (0, 0)) (by (with_reducible repeat (first | refine blk_drewN ?_ _ | refine blk_drew ?_ | refine blk_alloc ?_ _)); exact BK352.out) hb); have n3_ := Aside0.mk (below_step (by repeat (first | (with_reducible first | exact HB.out | apply below_alloc | apply pw_below_drewN | apply below_drew1 | refine below_set ?_ GE351.out | refine below_set ?_ GE352.out) | exact HB.out)) hb); clear BK351; clear BK352; clear HB; have HO357 := n0_; have BK351 := n1_; have BK352 := n2_; have HB := n3_; clear n0_ n1_ n2_ n3_; clear hb ho49; obtain ⟨Ao50, co50, eo50⟩ := Kd.R_slice HO357.out; subst eo50) | ((with_reducible refine gate_callee (f := 16) rfl ?_); refine goesL_ (some 17) rfl rfl Tryd.func16 (by kernel_rfl) rfl #[.slice Ao50 y355.length co50] rfl (by (try simp only [List.map_toArray, List.map_cons, List.map_nil]); first | done | rfl | (simp only [List.length_drop, List.length_take]; rfl)) ?_; (with_reducible refine (laws_svGood.calls kj2 _ _ y355 true _ ?side1 ?side2 A18.out).mono ?_); (case side1 => repeat (first | exact (Kd.R_reads' HO357.out).2.2 | (with_reducible refine Kd.C_alloc ?_ _) | (with_reducible refine Kd.C_drewN ?_ _) | (with_reducible refine Kd.C_drew ?_))); (case side2 => exact (Kd.R_reads' HO357.out).2.1); rintro e w51 ⟨rfl, hb⟩; refine ⟨_, rfl, ?_⟩; have n0_ := Aside0.mk (Kd.R_below (by (with_reducible repeat (first | apply Kd.R_alloc | apply Kd.R_drewN | apply Kd.R_drew)); exact HO357.out) hb); have n1_ := Aside0.mk (blk_below (g := gb351) (o := .cells #[.int .u64 a0_0, .int .u64 a0_1, .int .u64 a0_2, .string a0_3, .string a0_4] 26 (0, 0)) (by (with_reducible repeat (first | refine blk_drewN ?_ _ | refine blk_drew ?_ | refine blk_alloc ?_ _)); exact BK351.out) hb); have n2_ := Aside0.mk (blk_below (g := gb352) (o := .cells #[.int .u64 a1_0, .int .u64 a1_1, .int .u64 a1_2, .string a1_3, .string a1_4] 26 (0, 0)) (by (with_reducible repeat (first | refine blk_drewN ?_ _ | refine blk_drew ?_ | refine blk_alloc ?_ _)); exact BK352.out) hb); have n3_ := Aside0.mk (below_step (by repeat (first | (with_reducible first | exact HB.out | apply below_alloc | apply pw_below_drewN | apply below_drew1 | refine below_set ?_ GE351.out | refine below_set ?_ GE352.out) | exact HB.out)) hb); clear HO357; clear BK351; clear BK352; clear HB; have HO357 := n0_; have BK351 := n1_; have BK352 := n2_; have HB := n3_; clear n0_ n1_ n2_ n3_; (try clear hb); (try clear hb2); (try clear hk); (try clear hi); have hcz52_0 : w51.cell? ⟨gb352, 0, none⟩ = some (.int .u64 a1_0) := (blk_cell BK352.out 0).trans rfl; have hcz52_1 : w51.cell? ⟨gb352, 1, none⟩ = some (.int .u64 a1_1) := (blk_cell BK352.out 1).trans rfl; have hcz52_2 : w51.cell? ⟨gb352, 2, none⟩ = some (.int .u64 a1_2) := (blk_cell BK352.out 2).trans rfl; have hcz52_3 : w51.cell? ⟨gb352, 3, none⟩ = some (.string a1_3) := (blk_cell BK352.out 3).trans rfl; have hcz52_4 : w51.cell? ⟨gb352, 4, none⟩ = some (.string a1_4) := (blk_cell BK352.out 4).trans rfl; have hfz52_0 := blk_frozen BK352.out 0; have hfz52_1 := blk_frozen BK352.out 1; have hfz52_2 := blk_frozen BK352.out 2; have hfz52_3 := blk_frozen BK352.out 3; have hfz52_4 := blk_frozen BK352.out 4) | ((with_reducible refine gate_callee (f := 28) rfl ?_); refine goesL_ (some 20) rfl rfl Tryd.func28 (by kernel_rfl) rfl #[.int .i64 0, .agg #[.int .u64 a1_0, .int .u64 a1_1, .int .u64 a1_2, .string a1_3, .string a1_4], .int .i64 3] rfl (by (try simp only [List.map_toArray, List.map_cons, List.map_nil]); first | done | rfl | (simp only [List.length_drop, List.length_take]; rfl)) ?_; (with_reducible refine (laws_stTerm.calls 0 a1_0 a1_1 a1_2 a1_3 a1_4 3 t359 t360 t361 t362 t363 t364 _ A20.out).mono ?_); rintro e w53 ⟨rfl, hb⟩; refine ⟨_, rfl, ?_⟩; have n0_ := Aside0.mk (Kd.R_below (by (with_reducible repeat (first | apply Kd.R_alloc | apply Kd.R_drewN | apply Kd.R_drew)); exact HO357.out) hb); have n1_ := Aside0.mk (blk_below (g := gb351) (o := .cells #[.int .u64 a0_0, .int .u64 a0_1, .int .u64 a0_2, .string a0_3, .string a0_4] 26 (0, 0)) (by (with_reducible repeat (first | refine blk_drewN ?_ _ | refine blk_drew ?_ | refine blk_alloc ?_ _)); exact BK351.out) hb); have n2_ := Aside0.mk (blk_below (g := gb352) (o := .cells #[.int .u64 a1_0, .int .u64 a1_1, .int .u64 a1_2, .string a1_3, .string a1_4] 26 (0, 0)) (by (with_reducible repeat (first | refine blk_drewN ?_ _ | refine blk_drew ?_ | refine blk_alloc ?_ _)); exact BK352.out) hb); have n3_ := Aside0.mk (below_step (by repeat (first | (with_reducible first | exact HB.out | apply below_alloc | apply pw_below_drewN | apply below_drew1 | refine below_set ?_ GE351.out | refine below_set ?_ GE352.out) | exact HB.out)) hb); clear HO357; clear BK351; clear BK352; clear HB; have HO357 := n0_; have BK351 := n1_; have BK352 := n2_; have HB := n3_; clear n0_ n1_ n2_ n3_; (try clear hb); (try clear hb2); (try clear hk); (try clear hi)) | ((with_reducible refine gate_dst (N := 5) rfl ?_); refine box_event ?hg (N := 5) ?hd (cs := #[.int .i64 0, .int .i64 0, .int .u64 0, .int .u64 0, .int .u64 0, .string (⟨#[]⟩ : ByteArray)]) (t := 24) ?hr ?_; (case hd => rfl); (case hg => rfl); (case hr => first | (go_simp; done) | (go_simp; rfl) | (go_simp; simp [u8w]; done)); intro gb365 hg w54 hbox hb; have n0_ := Aside0.mk (Kd.R_below (by (with_reducible repeat (first | apply Kd.R_alloc | apply Kd.R_drewN | apply Kd.R_drew)); exact HO357.out) hb); have n1_ := Aside0.mk (blk_below (g := gb351) (o := .cells #[.int .u64 a0_0, .int .u64 a0_1, .int .u64 a0_2, .string a0_3, .string a0_4] 26 (0, 0)) (by (with_reducible repeat (first | refine blk_drewN ?_ _ | refine blk_drew ?_ | refine blk_alloc ?_ _)); exact BK351.out) hb); have n2_ := Aside0.mk (blk_below (g := gb352) (o := .cells #[.int .u64 a1_0, .int .u64 a1_1, .int .u64 a1_2, .string a1_3, .string a1_4] 26 (0, 0)) (by (with_reducible repeat (first | refine blk_drewN ?_ _ | refine blk_drew ?_ | refine blk_alloc ?_ _)); exact BK352.out) hb); have n3_ := Aside0.mk (below_step (by repeat (first | (with_reducible first | exact HB.out | apply below_alloc | apply pw_below_drewN | apply below_drew1 | refine below_set ?_ GE351.out | refine below_set ?_ GE352.out) | exact HB.out)) hb); have n4_ := Aside0.mk (hbox); have n5_ := Aside0.mk ((by rw [hg]; exact (below_size (by repeat (first | (with_reducible first | exact HB.out | apply below_alloc | apply pw_below_drewN | apply below_drew1 | refine below_set ?_ GE351.out | refine below_set ?_ GE352.out) | exact HB.out))) : w.heap.size ≤ gb365)); have n6_ := Aside0.mk ((by rw [hg]; exact (below_size (by repeat (first | (with_reducible first | exact HB.out | apply below_alloc | apply pw_below_drewN | apply below_drew1 | refine below_set ?_ GE351.out | refine below_set ?_ GE352.out) | exact HB.out))) : w.heap.size ≤ gb365)); have n7_ := Aside0.mk ((by rw [hg]; exact Nat.ne_of_lt (blk_lt (g := gb351) (o := .cells #[.int .u64 a0_0, .int .u64 a0_1, .int .u64 a0_2, .string a0_3, .string a0_4] 26 (0, 0)) (by (with_reducible repeat (first | refine blk_drewN ?_ _ | refine blk_drew ?_ | refine blk_alloc ?_ _)); exact BK351.out)) : gb351 ≠ gb365)); have n8_ := Aside0.mk ((by rw [hg]; exact Nat.ne_of_gt (blk_lt (g := gb351) (o := .cells #[.int .u64 a0_0, .int .u64 a0_1, .int .u64 a0_2, .string a0_3, .string a0_4] 26 (0, 0)) (by (with_reducible repeat (first | refine blk_drewN ?_ _ | refine blk_drew ?_ | refine blk_alloc ?_ _)); exact BK351.out)) : gb365 ≠ gb351)); have n9_ := Aside0.mk ((by rw [hg]; exact Nat.ne_of_lt (blk_lt (g := gb352) (o := .cells #[.int .u64 a1_0, .int .u64 a1_1, .int .u64 a1_2, .string a1_3, .string a1_4] 26 (0, 0)) (by (with_reducible repeat (first | refine blk_drewN ?_ _ | refine blk_drew ?_ | refine blk_alloc ?_ _)); exact BK352.out)) : gb352 ≠ gb365)); have n10_ := Aside0.mk ((by rw [hg]; exact Nat.ne_of_gt (blk_lt (g := gb352) (o := .cells #[.int .u64 a1_0, .int .u64 a1_1, .int .u64 a1_2, .string a1_3, .string a1_4] 26 (0, 0)) (by (with_reducible repeat (first | refine blk_drewN ?_ _ | refine blk_drew ?_ | refine blk_alloc ?_ _)); exact BK352.out)) : gb365 ≠ gb352)); clear HO357; clear BK351; clear BK352; clear HB; have HO357 := n0_; have BK351 := n1_; have BK352 := n2_; have HB := n3_; have BK365 := n4_; have GW365 := n5_; have GE365 := n6_; have NB351_365 := n7_; have NB365_351 := n8_; have NB352_365 := n9_; have NB365_352 := n10_; clear n0_ n1_ n2_ n3_ n4_ n5_ n6_ n7_ n8_ n9_ n10_; clear hb hbox hg; have hnb55 := NB365_351.out; have hnc55 := NB351_365.out; have hnb56 := NB365_352.out; have hnc56 := NB352_365.out; have hcz57_0 : w54.cell? ⟨gb365, 0, none⟩ = some (.int .i64 0) := (blk_cell BK365.out 0).trans rfl; have hcz57_1 : w54.cell? ⟨gb365, 1, none⟩ = some (.int .i64 0) := (blk_cell BK365.out 1).trans rfl; have hcz57_2 : w54.cell? ⟨gb365, 2, none⟩ = some (.int .u64 0) := (blk_cell BK365.out 2).trans rfl; have hcz57_3 : w54.cell? ⟨gb365, 3, none⟩ = some (.int .u64 0) := (blk_cell BK365.out 3).trans rfl; have hcz57_4 : w54.cell? ⟨gb365, 4, none⟩ = some (.int .u64 0) := (blk_cell BK365.out 4).trans rfl; have hcz57_5 : w54.cell? ⟨gb365, 5, none⟩ = some (.string (⟨#[]⟩ : ByteArray)) := (blk_cell BK365.out 5).trans rfl; have hfz57_0 := blk_frozen BK365.out 0; have hfz57_1 := blk_frozen BK365.out 1; have hfz57_2 := blk_frozen BK365.out 2; have hfz57_3 := blk_frozen BK365.out 3; have hfz57_4 := blk_frozen BK365.out 4; have hfz57_5 := blk_frozen BK365.out 5))
            have n0_ : Aside0 (Kd.R k26 26 ((((((w54.setCell ⟨gb365, 0, none⟩ (.int .i64 t359)).setCell ⟨gb365, 1, none⟩ (.int .i64 t360)).setCell ⟨gb365, 2, none⟩ (.int .u64 t361)).setCell ⟨gb365, 3, none⟩ (.int .u64 t362)).setCell ⟨gb365, 4, none⟩ (.int .u64 t363)).setCell ⟨gb365, 5, none⟩ (.string t364)) w.heap.size (fun k_ => k_ ≠ gb351 ∧ k_ ≠ gb352) (.slice Ao50 y355.length co50) y355) := ⟨by (with_reducible repeat (first | apply Kd.R_alloc | apply Kd.R_drewN | apply Kd.R_drew)); exact Kd.R_mono (Kd.R_far (p := ⟨gb365, 5, none⟩) (Kd.R_far (p := ⟨gb365, 4, none⟩) (Kd.R_far (p := ⟨gb365, 3, none⟩) (Kd.R_far (p := ⟨gb365, 2, none⟩) (Kd.R_far (p := ⟨gb365, 1, none⟩) (Kd.R_far (p := ⟨gb365, 0, none⟩) (Kd.R_types HO357.out BK365.out (by decide)) (fun _ hk => hk.2) (.int .i64 t359)) (fun _ hk => hk.2) (.int .i64 t360)) (fun _ hk => hk.2) (.int .u64 t361)) (fun _ hk => hk.2) (.int .u64 t362)) (fun _ hk => hk.2) (.int .u64 t363)) (fun _ hk => hk.2) (.string t364)) (fun _ hk => ⟨hk.1.1.2, hk.1.2⟩)⟩
            have n1_ : Aside0 (((((((w54.setCell ⟨gb365, 0, none⟩ (.int .i64 t359)).setCell ⟨gb365, 1, none⟩ (.int .i64 t360)).setCell ⟨gb365, 2, none⟩ (.int .u64 t361)).setCell ⟨gb365, 3, none⟩ (.int .u64 t362)).setCell ⟨gb365, 4, none⟩ (.int .u64 t363)).setCell ⟨gb365, 5, none⟩ (.string t364)).heap[gb351]? = some (.cells #[.int .u64 a0_0, .int .u64 a0_1, .int .u64 a0_2, .string a0_3, .string a0_4] 26 (0, 0))) := ⟨by (with_reducible repeat (first | refine blk_drewN ?_ _ | refine blk_drew ?_ | refine blk_alloc ?_ _)); refine blk_far ?_ NB351_365.out _; (with_reducible repeat (first | refine blk_drewN ?_ _ | refine blk_drew ?_ | refine blk_alloc ?_ _)); refine blk_far ?_ NB351_365.out _; (with_reducible repeat (first | refine blk_drewN ?_ _ | refine blk_drew ?_ | refine blk_alloc ?_ _)); refine blk_far ?_ NB351_365.out _; (with_reducible repeat (first | refine blk_drewN ?_ _ | refine blk_drew ?_ | refine blk_alloc ?_ _)); refine blk_far ?_ NB351_365.out _; (with_reducible repeat (first | refine blk_drewN ?_ _ | refine blk_drew ?_ | refine blk_alloc ?_ _)); refine blk_far ?_ NB351_365.out _; (with_reducible repeat (first | refine blk_drewN ?_ _ | refine blk_drew ?_ | refine blk_alloc ?_ _)); refine blk_far ?_ NB351_365.out _; (with_reducible repeat (first | refine blk_drewN ?_ _ | refine blk_drew ?_ | refine blk_alloc ?_ _)); exact BK351.out⟩
            have n2_ : Aside0 (((((((w54.setCell ⟨gb365, 0, none⟩ (.int .i64 t359)).setCell ⟨gb365, 1, none⟩ (.int .i64 t360)).setCell ⟨gb365, 2, none⟩ (.int .u64 t361)).setCell ⟨gb365, 3, none⟩ (.int .u64 t362)).setCell ⟨gb365, 4, none⟩ (.int .u64 t363)).setCell ⟨gb365, 5, none⟩ (.string t364)).heap[gb352]? = some (.cells #[.int .u64 a1_0, .int .u64 a1_1, .int .u64 a1_2, .string a1_3, .string a1_4] 26 (0, 0))) := ⟨by (with_reducible repeat (first | refine blk_drewN ?_ _ | refine blk_drew ?_ | refine blk_alloc ?_ _)); refine blk_far ?_ NB352_365.out _; (with_reducible repeat (first | refine blk_drewN ?_ _ | refine blk_drew ?_ | refine blk_alloc ?_ _)); refine blk_far ?_ NB352_365.out _; (with_reducible repeat (first | refine blk_drewN ?_ _ | refine blk_drew ?_ | refine blk_alloc ?_ _)); refine blk_far ?_ NB352_365.out _; (with_reducible repeat (first | refine blk_drewN ?_ _ | refine blk_drew ?_ | refine blk_alloc ?_ _)); refine blk_far ?_ NB352_365.out _; (with_reducible repeat (first | refine blk_drewN ?_ _ | refine blk_drew ?_ | refine blk_alloc ?_ _)); refine blk_far ?_ NB352_365.out _; (with_reducible repeat (first | refine blk_drewN ?_ _ | refine blk_drew ?_ | refine blk_alloc ?_ _)); refine blk_far ?_ NB352_365.out _; (with_reducible repeat (first | refine blk_drewN ?_ _ | refine blk_drew ?_ | refine blk_alloc ?_ _)); exact BK352.out⟩
            have n3_ : Aside0 (((((((w54.setCell ⟨gb365, 0, none⟩ (.int .i64 t359)).setCell ⟨gb365, 1, none⟩ (.int .i64 t360)).setCell ⟨gb365, 2, none⟩ (.int .u64 t361)).setCell ⟨gb365, 3, none⟩ (.int .u64 t362)).setCell ⟨gb365, 4, none⟩ (.int .u64 t363)).setCell ⟨gb365, 5, none⟩ (.string t364)).heap[gb365]? = some (.cells #[.int .i64 t359, .int .i64 t360, .int .u64 t361, .int .u64 t362, .int .u64 t363, .string t364] 24 (0, 0))) := ⟨by (with_reducible repeat (first | refine blk_drewN ?_ _ | refine blk_drew ?_ | refine blk_alloc ?_ _)); refine blk_put (cs := #[.int .i64 t359, .int .i64 t360, .int .u64 t361, .int .u64 t362, .int .u64 t363, .string (⟨#[]⟩ : ByteArray)]) ?_ 5 _ rfl; (with_reducible repeat (first | refine blk_drewN ?_ _ | refine blk_drew ?_ | refine blk_alloc ?_ _)); refine blk_put (cs := #[.int .i64 t359, .int .i64 t360, .int .u64 t361, .int .u64 t362, .int .u64 0, .string (⟨#[]⟩ : ByteArray)]) ?_ 4 _ rfl; (with_reducible repeat (first | refine blk_drewN ?_ _ | refine blk_drew ?_ | refine blk_alloc ?_ _)); refine blk_put (cs := #[.int .i64 t359, .int .i64 t360, .int .u64 t361, .int .u64 0, .int .u64 0, .string (⟨#[]⟩ : ByteArray)]) ?_ 3 _ rfl; (with_reducible repeat (first | refine blk_drewN ?_ _ | refine blk_drew ?_ | refine blk_alloc ?_ _)); refine blk_put (cs := #[.int .i64 t359, .int .i64 t360, .int .u64 0, .int .u64 0, .int .u64 0, .string (⟨#[]⟩ : ByteArray)]) ?_ 2 _ rfl; (with_reducible repeat (first | refine blk_drewN ?_ _ | refine blk_drew ?_ | refine blk_alloc ?_ _)); refine blk_put (cs := #[.int .i64 t359, .int .i64 0, .int .u64 0, .int .u64 0, .int .u64 0, .string (⟨#[]⟩ : ByteArray)]) ?_ 1 _ rfl; (with_reducible repeat (first | refine blk_drewN ?_ _ | refine blk_drew ?_ | refine blk_alloc ?_ _)); refine blk_put (cs := #[.int .i64 0, .int .i64 0, .int .u64 0, .int .u64 0, .int .u64 0, .string (⟨#[]⟩ : ByteArray)]) ?_ 0 _ rfl; (with_reducible repeat (first | refine blk_drewN ?_ _ | refine blk_drew ?_ | refine blk_alloc ?_ _)); exact BK365.out⟩
            have n4_ : Aside0 (Below w.heap.size w ((((((w54.setCell ⟨gb365, 0, none⟩ (.int .i64 t359)).setCell ⟨gb365, 1, none⟩ (.int .i64 t360)).setCell ⟨gb365, 2, none⟩ (.int .u64 t361)).setCell ⟨gb365, 3, none⟩ (.int .u64 t362)).setCell ⟨gb365, 4, none⟩ (.int .u64 t363)).setCell ⟨gb365, 5, none⟩ (.string t364))) := ⟨by repeat (first | (with_reducible first | exact HB.out | apply below_alloc | apply pw_below_drewN | apply below_drew1 | refine below_set ?_ GE351.out | refine below_set ?_ GE352.out | refine below_set ?_ GE365.out) | exact HB.out)⟩
            (try clear HO357)
            (try clear BK351)
            (try clear BK352)
            (try clear BK365)
            (try clear HB)
            generalize ((((((w54.setCell ⟨gb365, 0, none⟩ (.int .i64 t359)).setCell ⟨gb365, 1, none⟩ (.int .i64 t360)).setCell ⟨gb365, 2, none⟩ (.int .u64 t361)).setCell ⟨gb365, 3, none⟩ (.int .u64 t362)).setCell ⟨gb365, 4, none⟩ (.int .u64 t363)).setCell ⟨gb365, 5, none⟩ (.string t364)) = w58 at n0_ n1_ n2_ n3_ n4_ ⊢
            have HO357 := n0_
            have BK351 := n1_
            have BK352 := n2_
            have BK365 := n3_
            have HB := n4_
            clear n0_ n1_ n2_ n3_ n4_
            have n0_ := Aside0.mk (Kd.R_drew HO357.out)
            have n1_ := Aside0.mk (blk_drew BK351.out)
            have n2_ := Aside0.mk (blk_drew BK352.out)
            have n3_ := Aside0.mk (blk_drew BK365.out)
            have n4_ := Aside0.mk (below_drew1 HB.out)
            clear HO357
            clear BK351
            clear BK352
            clear BK365
            clear HB
            have HO357 := n0_
            have BK351 := n1_
            have BK352 := n2_
            have BK365 := n3_
            have HB := n4_
            clear n0_ n1_ n2_ n3_ n4_
            refine start_ (n := 18) (S := fun w' => w'.cell? ⟨gb365, 0, none⟩ = some (.int .i64 t359) ∧ w'.cell? ⟨gb365, 1, none⟩ = some (.int .i64 t360) ∧ w'.cell? ⟨gb365, 2, none⟩ = some (.int .u64 t361) ∧ w'.cell? ⟨gb365, 3, none⟩ = some (.int .u64 t362) ∧ w'.cell? ⟨gb365, 4, none⟩ = some (.int .u64 t363) ∧ w'.cell? ⟨gb365, 5, none⟩ = some (.string t364) ∧ w'.cell? ⟨gb351, 0, none⟩ = some (.int .u64 a0_0) ∧ w'.cell? ⟨gb351, 1, none⟩ = some (.int .u64 a0_1) ∧ w'.cell? ⟨gb351, 2, none⟩ = some (.int .u64 a0_2) ∧ w'.cell? ⟨gb351, 3, none⟩ = some (.string a0_3) ∧ w'.cell? ⟨gb351, 4, none⟩ = some (.string a0_4) ∧ w'.cell? ⟨gb352, 0, none⟩ = some (.int .u64 a1_0) ∧ w'.cell? ⟨gb352, 1, none⟩ = some (.int .u64 a1_1) ∧ w'.cell? ⟨gb352, 2, none⟩ = some (.int .u64 a1_2) ∧ w'.cell? ⟨gb352, 3, none⟩ = some (.string a1_3) ∧ w'.cell? ⟨gb352, 4, none⟩ = some (.string a1_4)) (ds := []) #[false, false, false, false, false, false, false, false, false, false, false, false, false, false, false, false, false, false] (by kernel_rfl) rfl rfl ⟨(blk_cell BK365.out 0).trans rfl, (blk_cell BK365.out 1).trans rfl, (blk_cell BK365.out 2).trans rfl, (blk_cell BK365.out 3).trans rfl, (blk_cell BK365.out 4).trans rfl, (blk_cell BK365.out 5).trans rfl, (blk_cell BK351.out 0).trans rfl, (blk_cell BK351.out 1).trans rfl, (blk_cell BK351.out 2).trans rfl, (blk_cell BK351.out 3).trans rfl, (blk_cell BK351.out 4).trans rfl, (blk_cell BK352.out 0).trans rfl, (blk_cell BK352.out 1).trans rfl, (blk_cell BK352.out 2).trans rfl, (blk_cell BK352.out 3).trans rfl, (blk_cell BK352.out 4).trans rfl⟩ (fun hHeld => ?_); refine with_tabW laws_FnSemverEqualCompares.tab6 laws_FnSemverEqualCompares.bits6 (fun HT_ HW_ => ?_)
            generalize w58.drew = w59 at HO357 BK351 BK352 BK365 HB hHeld ⊢
            refine take_ (i := 0) (N := some 21) (v := ?_) (a' := ?_) #[true, false, false, false, false, false, false, false, false, false, false, false, false, false, false, false, false, false] rfl rfl (take_ofW HT_.out HW_.out (by kernel_rfl)) (fun _ _ _ h => h) (Or.inl ⟨by rfl, ?_⟩) hHeld ?_ ?_
            rotate_left
            · rintro w' ⟨s0, s1, s2, s3, s4, s5, s6, s7, s8, s9, s10, s11, s12, s13, s14, s15⟩
              go_simp
              with_reducible rfl
            rotate_left
            · simp only [Act.put, List.setIfInBounds_toArray, List.set_cons_zero, List.set_cons_succ, i64_w, i32_w]
              rfl
            refine take_ (i := 1) (N := some 22) (v := ?_) (a' := ?_) #[true, true, false, false, false, false, false, false, false, false, false, false, false, false, false, false, false, false] rfl rfl (take_ofW HT_.out HW_.out (by kernel_rfl)) (fun _ _ _ h => h) (Or.inl ⟨by rfl, ?_⟩) hHeld ?_ ?_
            rotate_left
            · rintro w' ⟨s0, s1, s2, s3, s4, s5, s6, s7, s8, s9, s10, s11, s12, s13, s14, s15⟩
              go_simp
              with_reducible rfl
            rotate_left
            · simp only [Act.put, List.setIfInBounds_toArray, List.set_cons_zero, List.set_cons_succ, i64_w, i32_w]
              rfl
            refine take_ (i := 3) (N := some 24) (v := ?_) (a' := ?_) #[true, true, false, true, false, false, false, false, false, false, false, false, false, false, false, false, false, false] rfl rfl (take_ofW HT_.out HW_.out (by kernel_rfl)) (fun _ _ _ h => h) (Or.inl ⟨by rfl, ?_⟩) hHeld ?_ ?_
            rotate_left
            · rintro w' ⟨s0, s1, s2, s3, s4, s5, s6, s7, s8, s9, s10, s11, s12, s13, s14, s15⟩
              go_simp
              with_reducible rfl
            rotate_left
            · simp only [Act.put, List.setIfInBounds_toArray, List.set_cons_zero, List.set_cons_succ, i64_w, i32_w]
              rfl
            refine take_ (i := 4) (N := some 25) (v := ?_) (a' := ?_) #[true, true, false, true, true, false, false, false, false, false, false, false, false, false, false, false, false, false] rfl rfl (take_ofW HT_.out HW_.out (by kernel_rfl)) (fun _ _ _ h => h) (Or.inl ⟨by rfl, ?_⟩) hHeld ?_ ?_
            rotate_left
            · rintro w' ⟨s0, s1, s2, s3, s4, s5, s6, s7, s8, s9, s10, s11, s12, s13, s14, s15⟩
              go_simp
              with_reducible rfl
            rotate_left
            · simp only [Act.put, List.setIfInBounds_toArray, List.set_cons_zero, List.set_cons_succ, i64_w, i32_w]
              rfl
            refine one_ (i := 2) (N := some 23) #[true, true, true, true, true, false, false, false, false, false, false, false, false, false, false, false, false, false] rfl rfl (one_of HT_.out (by kernel_rfl)) (by decide) (fun K hK => ?_)
            refine goes_ Tryd.func32 (by kernel_rfl) rfl #[.agg #[.int .i64 t359, .int .i64 t360, .int .u64 t361, .int .u64 t362, .int .u64 t363, .string t364], .agg #[.int .u64 a0_0, .int .u64 a0_1, .int .u64 a0_2, .string a0_3, .string a0_4], .bool true] (by rfl) rfl rfl (by (try simp only [List.map_toArray, List.map_cons, List.map_nil]); first | done | rfl | (simp only [List.length_drop, List.length_take]; rfl)) ?_
            with_reducible refine (impl_EqualHolds.calls t359 t360 t361 t362 t363 t364 a0_0 a0_1 a0_2 a0_3 a0_4 true t366 _ ?side1 A21.out).mono ?_
            (case side1 => exact HStd.out.below (by repeat (first | (with_reducible first | exact HB.out | apply below_alloc | apply pw_below_drewN | apply below_drew1 | refine below_set ?_ GE351.out | refine below_set ?_ GE352.out | refine below_set ?_ GE365.out) | exact HB.out)))
            rintro e w60 ⟨rfl, hb⟩
            refine ⟨_, rfl, ?_⟩
            have n0_ := Aside0.mk (Kd.R_below (by (with_reducible repeat (first | apply Kd.R_alloc | apply Kd.R_drewN | apply Kd.R_drew)); exact HO357.out) hb)
            have n1_ := Aside0.mk (blk_below (g := gb351) (o := .cells #[.int .u64 a0_0, .int .u64 a0_1, .int .u64 a0_2, .string a0_3, .string a0_4] 26 (0, 0)) (by (with_reducible repeat (first | refine blk_drewN ?_ _ | refine blk_drew ?_ | refine blk_alloc ?_ _)); exact BK351.out) hb)
            have n2_ := Aside0.mk (blk_below (g := gb352) (o := .cells #[.int .u64 a1_0, .int .u64 a1_1, .int .u64 a1_2, .string a1_3, .string a1_4] 26 (0, 0)) (by (with_reducible repeat (first | refine blk_drewN ?_ _ | refine blk_drew ?_ | refine blk_alloc ?_ _)); exact BK352.out) hb)
            have n3_ := Aside0.mk (blk_below (g := gb365) (o := .cells #[.int .i64 t359, .int .i64 t360, .int .u64 t361, .int .u64 t362, .int .u64 t363, .string t364] 24 (0, 0)) (by (with_reducible repeat (first | refine blk_drewN ?_ _ | refine blk_drew ?_ | refine blk_alloc ?_ _)); exact BK365.out) hb)
            have n4_ := Aside0.mk (below_step (by repeat (first | (with_reducible first | exact HB.out | apply below_alloc | apply pw_below_drewN | apply below_drew1 | refine below_set ?_ GE351.out | refine below_set ?_ GE352.out | refine below_set ?_ GE365.out) | exact HB.out)) hb)
            clear HO357
            clear BK351
            clear BK352
            clear BK365
            clear HB
            have HO357 := n0_
            have BK351 := n1_
            have BK352 := n2_
            have BK365 := n3_
            have HB := n4_
            clear n0_ n1_ n2_ n3_ n4_
            (try clear hb)
            (try clear hb2)
            (try clear hk)
            (try clear hi)
            refine hK.out _ _ ⟨(blk_cell BK365.out 0).trans rfl, (blk_cell BK365.out 1).trans rfl, (blk_cell BK365.out 2).trans rfl, (blk_cell BK365.out 3).trans rfl, (blk_cell BK365.out 4).trans rfl, (blk_cell BK365.out 5).trans rfl, (blk_cell BK351.out 0).trans rfl, (blk_cell BK351.out 1).trans rfl, (blk_cell BK351.out 2).trans rfl, (blk_cell BK351.out 3).trans rfl, (blk_cell BK351.out 4).trans rfl, (blk_cell BK352.out 0).trans rfl, (blk_cell BK352.out 1).trans rfl, (blk_cell BK352.out 2).trans rfl, (blk_cell BK352.out 3).trans rfl, (blk_cell BK352.out 4).trans rfl⟩ (fun hHeld => ?_)
            clear hK K
            refine norm_ (a' := ?_) ?_ ?_
            rotate_left
            · show Act.put _ (some 23) _ = _
              simp only [Act.put, List.setIfInBounds_toArray, List.set_cons_zero, List.set_cons_succ, i64_w, i32_w]
              rfl
            refine one_ (i := 5) (N := some 26) #[true, true, true, true, true, true, false, false, false, false, false, false, false, false, false, false, false, false] rfl rfl (one_of HT_.out (by kernel_rfl)) (by decide) (fun K hK => ?_)
            refine goes_ Tryd.func33 (by kernel_rfl) rfl #[.agg #[.int .u64 a0_0, .int .u64 a0_1, .int .u64 a0_2, .string a0_3, .string a0_4], .agg #[.int .u64 a1_0, .int .u64 a1_1, .int .u64 a1_2, .string a1_3, .string a1_4]] (by rfl) rfl rfl (by (try simp only [List.map_toArray, List.map_cons, List.map_nil]); first | done | rfl | (simp only [List.length_drop, List.length_take]; rfl)) ?_
            with_reducible refine (impl_VersionEqual.calls a0_0 a0_1 a0_2 a0_3 a0_4 a1_0 a1_1 a1_2 a1_3 a1_4 t367 _ ?side1 A22.out).mono ?_
            (case side1 => exact HStd.out.below (by repeat (first | (with_reducible first | exact HB.out | apply below_alloc | apply pw_below_drewN | apply below_drew1 | refine below_set ?_ GE351.out | refine below_set ?_ GE352.out | refine below_set ?_ GE365.out) | exact HB.out)))
            rintro e w61 ⟨rfl, hb⟩
            refine ⟨_, rfl, ?_⟩
            have n0_ := Aside0.mk (Kd.R_below (by (with_reducible repeat (first | apply Kd.R_alloc | apply Kd.R_drewN | apply Kd.R_drew)); exact HO357.out) hb)
            have n1_ := Aside0.mk (blk_below (g := gb351) (o := .cells #[.int .u64 a0_0, .int .u64 a0_1, .int .u64 a0_2, .string a0_3, .string a0_4] 26 (0, 0)) (by (with_reducible repeat (first | refine blk_drewN ?_ _ | refine blk_drew ?_ | refine blk_alloc ?_ _)); exact BK351.out) hb)
            have n2_ := Aside0.mk (blk_below (g := gb352) (o := .cells #[.int .u64 a1_0, .int .u64 a1_1, .int .u64 a1_2, .string a1_3, .string a1_4] 26 (0, 0)) (by (with_reducible repeat (first | refine blk_drewN ?_ _ | refine blk_drew ?_ | refine blk_alloc ?_ _)); exact BK352.out) hb)
            have n3_ := Aside0.mk (blk_below (g := gb365) (o := .cells #[.int .i64 t359, .int .i64 t360, .int .u64 t361, .int .u64 t362, .int .u64 t363, .string t364] 24 (0, 0)) (by (with_reducible repeat (first | refine blk_drewN ?_ _ | refine blk_drew ?_ | refine blk_alloc ?_ _)); exact BK365.out) hb)
            have n4_ := Aside0.mk (below_step (by repeat (first | (with_reducible first | exact HB.out | apply below_alloc | apply pw_below_drewN | apply below_drew1 | refine below_set ?_ GE351.out | refine below_set ?_ GE352.out | refine below_set ?_ GE365.out) | exact HB.out)) hb)
            clear HO357
            clear BK351
            clear BK352
            clear BK365
            clear HB
            have HO357 := n0_
            have BK351 := n1_
            have BK352 := n2_
            have BK365 := n3_
            have HB := n4_
            clear n0_ n1_ n2_ n3_ n4_
            (try clear hb)
            (try clear hb2)
            (try clear hk)
            (try clear hi)
            refine hK.out _ _ ⟨(blk_cell BK365.out 0).trans rfl, (blk_cell BK365.out 1).trans rfl, (blk_cell BK365.out 2).trans rfl, (blk_cell BK365.out 3).trans rfl, (blk_cell BK365.out 4).trans rfl, (blk_cell BK365.out 5).trans rfl, (blk_cell BK351.out 0).trans rfl, (blk_cell BK351.out 1).trans rfl, (blk_cell BK351.out 2).trans rfl, (blk_cell BK351.out 3).trans rfl, (blk_cell BK351.out 4).trans rfl, (blk_cell BK352.out 0).trans rfl, (blk_cell BK352.out 1).trans rfl, (blk_cell BK352.out 2).trans rfl, (blk_cell BK352.out 3).trans rfl, (blk_cell BK352.out 4).trans rfl⟩ (fun hHeld => ?_)
            clear hK K
            refine norm_ (a' := ?_) ?_ ?_
            rotate_left
            · show Act.put _ (some 26) _ = _
              simp only [Act.put, List.setIfInBounds_toArray, List.set_cons_zero, List.set_cons_succ, i64_w, i32_w]
              rfl
            refine pure_ (i := 6) (N := some 27) (v := ?_) (a' := ?_) #[true, true, true, true, true, true, true, false, false, false, false, false, false, false, false, false, false, false] rfl rfl (any_of HT_.out (by kernel_rfl)) (fun _ _ _ h => h) (Or.inl ⟨by rfl, ?_⟩) ?_ ?_
            rotate_left
            · intro w'
              go_simp
              with_reducible rfl
            rotate_left
            · simp only [Act.put, List.setIfInBounds_toArray, List.set_cons_zero, List.set_cons_succ, i64_w, i32_w]
              rfl
            refine pure_ (i := 7) (N := some 28) (v := ?_) (a' := ?_) #[true, true, true, true, true, true, true, true, false, false, false, false, false, false, false, false, false, false] rfl rfl (any_of HT_.out (by kernel_rfl)) (fun _ _ _ h => h) (Or.inl ⟨by rfl, ?_⟩) ?_ ?_
            rotate_left
            · intro w'
              go_simp
              with_reducible rfl
            rotate_left
            · simp only [Act.put, List.setIfInBounds_toArray, List.set_cons_zero, List.set_cons_succ, i64_w, i32_w]
              rfl
            refine pure_ (i := 8) (N := some 29) (v := undef) (a' := ?_) #[true, true, true, true, true, true, true, true, true, false, false, false, false, false, false, false, false, false] rfl rfl (any_of HT_.out (by kernel_rfl)) (fun _ _ _ h => h) (Or.inr ⟨by rfl, rfl⟩) ?_ ?_
            rotate_left
            · simp only [Act.put, List.setIfInBounds_toArray, List.set_cons_zero, List.set_cons_succ, i64_w, i32_w]
              rfl
            refine pure_ (i := 9) (N := some 30) (v := undef) (a' := ?_) #[true, true, true, true, true, true, true, true, true, true, false, false, false, false, false, false, false, false] rfl rfl (any_of HT_.out (by kernel_rfl)) (fun _ _ _ h => h) (Or.inr ⟨by rfl, rfl⟩) ?_ ?_
            rotate_left
            · simp only [Act.put, List.setIfInBounds_toArray, List.set_cons_zero, List.set_cons_succ, i64_w, i32_w]
              rfl
            refine pure_ (i := 10) (N := some 31) (v := undef) (a' := ?_) #[true, true, true, true, true, true, true, true, true, true, true, false, false, false, false, false, false, false] rfl rfl (any_of HT_.out (by kernel_rfl)) (fun _ _ _ h => h) (Or.inr ⟨by rfl, rfl⟩) ?_ ?_
            rotate_left
            · simp only [Act.put, List.setIfInBounds_toArray, List.set_cons_zero, List.set_cons_succ, i64_w, i32_w]
              rfl
            refine pure_ (i := 11) (N := some 32) (v := undef) (a' := ?_) #[true, true, true, true, true, true, true, true, true, true, true, true, false, false, false, false, false, false] rfl rfl (any_of HT_.out (by kernel_rfl)) (fun _ _ _ h => h) (Or.inr ⟨by rfl, rfl⟩) ?_ ?_
            rotate_left
            · simp only [Act.put, List.setIfInBounds_toArray, List.set_cons_zero, List.set_cons_succ, i64_w, i32_w]
              rfl
            refine pure_ (i := 12) (N := some 33) (v := undef) (a' := ?_) #[true, true, true, true, true, true, true, true, true, true, true, true, true, false, false, false, false, false] rfl rfl (any_of HT_.out (by kernel_rfl)) (fun _ _ _ h => h) (Or.inr ⟨by rfl, rfl⟩) ?_ ?_
            rotate_left
            · simp only [Act.put, List.setIfInBounds_toArray, List.set_cons_zero, List.set_cons_succ, i64_w, i32_w]
              rfl
            refine pure_ (i := 13) (N := some 34) (v := undef) (a' := ?_) #[true, true, true, true, true, true, true, true, true, true, true, true, true, true, false, false, false, false] rfl rfl (any_of HT_.out (by kernel_rfl)) (fun _ _ _ h => h) (Or.inr ⟨by rfl, rfl⟩) ?_ ?_
            rotate_left
            · simp only [Act.put, List.setIfInBounds_toArray, List.set_cons_zero, List.set_cons_succ, i64_w, i32_w]
              rfl
            refine pure_ (i := 14) (N := some 35) (v := undef) (a' := ?_) #[true, true, true, true, true, true, true, true, true, true, true, true, true, true, true, false, false, false] rfl rfl (any_of HT_.out (by kernel_rfl)) (fun _ _ _ h => h) (Or.inr ⟨by rfl, rfl⟩) ?_ ?_
            rotate_left
            · simp only [Act.put, List.setIfInBounds_toArray, List.set_cons_zero, List.set_cons_succ, i64_w, i32_w]
              rfl
            refine pure_ (i := 15) (N := some 36) (v := undef) (a' := ?_) #[true, true, true, true, true, true, true, true, true, true, true, true, true, true, true, true, false, false] rfl rfl (any_of HT_.out (by kernel_rfl)) (fun _ _ _ h => h) (Or.inr ⟨by rfl, rfl⟩) ?_ ?_
            rotate_left
            · simp only [Act.put, List.setIfInBounds_toArray, List.set_cons_zero, List.set_cons_succ, i64_w, i32_w]
              rfl
            refine pure_ (i := 16) (N := some 37) (v := ?_) (a' := ?_) #[true, true, true, true, true, true, true, true, true, true, true, true, true, true, true, true, true, false] rfl rfl (any_of HT_.out (by kernel_rfl)) (fun _ _ _ h => h) (Or.inl ⟨by rfl, ?_⟩) ?_ ?_
            rotate_left
            · intro w'
              go_simp
              with_reducible rfl
            rotate_left
            · simp only [Act.put, List.setIfInBounds_toArray, List.set_cons_zero, List.set_cons_succ, i64_w, i32_w]
              rfl
            refine pure_ (i := 17) (N := some 4) (v := ?_) (a' := ?_) #[true, true, true, true, true, true, true, true, true, true, true, true, true, true, true, true, true, true] rfl rfl (any_of HT_.out (by kernel_rfl)) (fun _ _ _ h => h) (Or.inl ⟨by rfl, ?_⟩) ?_ ?_
            rotate_left
            · intro w'
              go_simp
              with_reducible rfl
            rotate_left
            · simp only [Act.put, List.setIfInBounds_toArray, List.set_cons_zero, List.set_cons_succ, i64_w, i32_w]
              rfl
            refine done_ (done_of HT_.out (by kernel_rfl)) ?_
            try go_wp2
            go_ret
            exact ⟨by first | rfl | (simp [errW_none, errW_some] <;> rfl) | (simp [*, errW_none, errW_some] <;> rfl) | (simp [bneNil]; done), by repeat (first | (with_reducible first | exact HB.out | apply below_alloc | apply pw_below_drewN | apply below_drew1 | refine below_set ?_ GE351.out | refine below_set ?_ GE352.out | refine below_set ?_ GE365.out) | exact HB.out)⟩
        · replace c19 := Bool.eq_false_iff.mpr c19
          subst c19
          have H1 : (some true) = some r := by rw [if_neg (show ¬ (false = true) by decide)] at H; exact H
          clear H
          have H := H1
          clear H1
          obtain rfl := Option.some.inj H
          have hnb62 := NB351_352.out
          have hnc62 := NB352_351.out
          have hcz63_0 : wc.cell? ⟨gb351, 0, none⟩ = some (.int .u64 a0_0) := (blk_cell BK351.out 0).trans rfl
          have hcz63_1 : wc.cell? ⟨gb351, 1, none⟩ = some (.int .u64 a0_1) := (blk_cell BK351.out 1).trans rfl
          have hcz63_2 : wc.cell? ⟨gb351, 2, none⟩ = some (.int .u64 a0_2) := (blk_cell BK351.out 2).trans rfl
          have hcz63_3 : wc.cell? ⟨gb351, 3, none⟩ = some (.string a0_3) := (blk_cell BK351.out 3).trans rfl
          have hcz63_4 : wc.cell? ⟨gb351, 4, none⟩ = some (.string a0_4) := (blk_cell BK351.out 4).trans rfl
          have hfz63_0 := blk_frozen BK351.out 0
          have hfz63_1 := blk_frozen BK351.out 1
          have hfz63_2 := blk_frozen BK351.out 2
          have hfz63_3 := blk_frozen BK351.out 3
          have hfz63_4 := blk_frozen BK351.out 4
          have hcz64_0 : wc.cell? ⟨gb352, 0, none⟩ = some (.int .u64 a1_0) := (blk_cell BK352.out 0).trans rfl
          have hcz64_1 : wc.cell? ⟨gb352, 1, none⟩ = some (.int .u64 a1_1) := (blk_cell BK352.out 1).trans rfl
          have hcz64_2 : wc.cell? ⟨gb352, 2, none⟩ = some (.int .u64 a1_2) := (blk_cell BK352.out 2).trans rfl
          have hcz64_3 : wc.cell? ⟨gb352, 3, none⟩ = some (.string a1_3) := (blk_cell BK352.out 3).trans rfl
          have hcz64_4 : wc.cell? ⟨gb352, 4, none⟩ = some (.string a1_4) := (blk_cell BK352.out 4).trans rfl
          have hfz64_0 := blk_frozen BK352.out 0
          have hfz64_1 := blk_frozen BK352.out 1
          have hfz64_2 := blk_frozen BK352.out 2
          have hfz64_3 := blk_frozen BK352.out 3
          have hfz64_4 := blk_frozen BK352.out 4
          go_wp2_with (first | ((with_reducible refine gate_dst (N := 16) rfl ?_); refine Kd.R_lit k26 _ 26 ?hg (N := 16) ?hd (xs := ([(⟨a0_0, a0_1, a0_2, a0_3, a0_4⟩ : S26), (⟨a1_0, a1_1, a1_2, a1_3, a1_4⟩ : S26)] : List (S26))) (inner := [.int .u64 a0_0, .int .u64 a0_1, .int .u64 a0_2, .string a0_3, .string a0_4, .int .u64 a1_0, .int .u64 a1_1, .int .u64 a1_2, .string a1_3, .string a1_4]) (ok := fun _ => True) (okp := fun _ => True) ?hr ?hp (fun _ hk => hk) trivial (Below.refl _ _) (Nat.le_refl _) (by simp) ?_; (case hd => rfl); (case hg => rfl); (case hr => first | (go_simp; done) | (go_simp; rfl) | (go_simp; simp [u8w]; done)); (case hp => exact (Reps.c5 (show Kd.M k26 _ _ _ (⟨a0_0, a0_1, a0_2, a0_3, a0_4⟩ : S26) [.int .u64 a0_0, .int .u64 a0_1, .int .u64 a0_2, .string a0_3, .string a0_4] from (k26_mkM _ _ _ (⟨a0_0, a0_1, a0_2, a0_3, a0_4⟩ : S26) )) (Reps.c5 (show Kd.M k26 _ _ _ (⟨a1_0, a1_1, a1_2, a1_3, a1_4⟩ : S26) [.int .u64 a1_0, .int .u64 a1_1, .int .u64 a1_2, .string a1_3, .string a1_4] from (k26_mkM _ _ _ (⟨a1_0, a1_1, a1_2, a1_3, a1_4⟩ : S26) )) (Reps.none _ _)))); intro v356 w65 ho66 hb hg_ hnew_; clear hg_ hnew_; (first | rw [← Ny355.out] at ho66 | (simp only [Int.reduceToNat] at ho66; rw [← Ny355.out] at ho66)); have n0_ := Aside0.mk (Kd.R_lower (Kd.R_newB (Kd.R_newB ho66 (g := gb351) (o := .cells #[.int .u64 a0_0, .int .u64 a0_1, .int .u64 a0_2, .string a0_3, .string a0_4] 26 (0, 0)) (by (with_reducible repeat (first | refine blk_drewN ?_ _ | refine blk_drew ?_ | refine blk_alloc ?_ _)); exact BK351.out)) (g := gb352) (o := .cells #[.int .u64 a1_0, .int .u64 a1_1, .int .u64 a1_2, .string a1_3, .string a1_4] 26 (0, 0)) (by (with_reducible repeat (first | refine blk_drewN ?_ _ | refine blk_drew ?_ | refine blk_alloc ?_ _)); exact BK352.out)) (below_size (by repeat (first | (with_reducible first | exact HB.out | apply below_alloc | apply pw_below_drewN | apply below_drew1 | refine below_set ?_ GE351.out | refine below_set ?_ GE352.out) | exact HB.out)))); have n1_ := Aside0.mk (blk_below (g := gb351) (o := .cells #[.int .u64 a0_0, .int .u64 a0_1, .int .u64 a0_2, .string a0_3, .string a0_4] 26 (0, 0)) (by (with_reducible repeat (first | refine blk_drewN ?_ _ | refine blk_drew ?_ | refine blk_alloc ?_ _)); exact BK351.out) hb); have n2_ := Aside0.mk (blk_below (g := gb352) (o := .cells #[.int .u64 a1_0, .int .u64 a1_1, .int .u64 a1_2, .string a1_3, .string a1_4] 26 (0, 0)) (by (with_reducible repeat (first | refine blk_drewN ?_ _ | refine blk_drew ?_ | refine blk_alloc ?_ _)); exact BK352.out) hb); have n3_ := Aside0.mk (below_step (by repeat (first | (with_reducible first | exact HB.out | apply below_alloc | apply pw_below_drewN | apply below_drew1 | refine below_set ?_ GE351.out | refine below_set ?_ GE352.out) | exact HB.out)) hb); clear BK351; clear BK352; clear HB; have HO357 := n0_; have BK351 := n1_; have BK352 := n2_; have HB := n3_; clear n0_ n1_ n2_ n3_; clear hb ho66; obtain ⟨Ao67, co67, eo67⟩ := Kd.R_slice HO357.out; subst eo67) | ((with_reducible refine gate_callee (f := 16) rfl ?_); refine goesL_ (some 17) rfl rfl Tryd.func16 (by kernel_rfl) rfl #[.slice Ao67 y355.length co67] rfl (by (try simp only [List.map_toArray, List.map_cons, List.map_nil]); first | done | rfl | (simp only [List.length_drop, List.length_take]; rfl)) ?_; (with_reducible refine (laws_svGood.calls kj2 _ _ y355 false _ ?side1 ?side2 A18.out).mono ?_); (case side1 => repeat (first | exact (Kd.R_reads' HO357.out).2.2 | (with_reducible refine Kd.C_alloc ?_ _) | (with_reducible refine Kd.C_drewN ?_ _) | (with_reducible refine Kd.C_drew ?_))); (case side2 => exact (Kd.R_reads' HO357.out).2.1); rintro e w68 ⟨rfl, hb⟩; refine ⟨_, rfl, ?_⟩; have n0_ := Aside0.mk (Kd.R_below (by (with_reducible repeat (first | apply Kd.R_alloc | apply Kd.R_drewN | apply Kd.R_drew)); exact HO357.out) hb); have n1_ := Aside0.mk (blk_below (g := gb351) (o := .cells #[.int .u64 a0_0, .int .u64 a0_1, .int .u64 a0_2, .string a0_3, .string a0_4] 26 (0, 0)) (by (with_reducible repeat (first | refine blk_drewN ?_ _ | refine blk_drew ?_ | refine blk_alloc ?_ _)); exact BK351.out) hb); have n2_ := Aside0.mk (blk_below (g := gb352) (o := .cells #[.int .u64 a1_0, .int .u64 a1_1, .int .u64 a1_2, .string a1_3, .string a1_4] 26 (0, 0)) (by (with_reducible repeat (first | refine blk_drewN ?_ _ | refine blk_drew ?_ | refine blk_alloc ?_ _)); exact BK352.out) hb); have n3_ := Aside0.mk (below_step (by repeat (first | (with_reducible first | exact HB.out | apply below_alloc | apply pw_below_drewN | apply below_drew1 | refine below_set ?_ GE351.out | refine below_set ?_ GE352.out) | exact HB.out)) hb); clear HO357; clear BK351; clear BK352; clear HB; have HO357 := n0_; have BK351 := n1_; have BK352 := n2_; have HB := n3_; clear n0_ n1_ n2_ n3_; (try clear hb); (try clear hb2); (try clear hk); (try clear hi)))
          go_ret
          exact ⟨by first | rfl | (simp [errW_none, errW_some] <;> rfl) | (simp [*, errW_none, errW_some] <;> rfl) | (simp [bneNil]; done), by repeat (first | (with_reducible first | exact HB.out | apply below_alloc | apply pw_below_drewN | apply below_drew1 | refine below_set ?_ GE351.out | refine below_set ?_ GE352.out) | exact HB.out)⟩

end Go.Proofs.YtllkoadcpobdaaaDoor.PX
namespace Go.Proofs.YtllkoadcpobdaaaDoor.KX

open Go.RowKit Go.Lib Go.Proofs Go.Proofs.YtllkoadcpobdaaaDoor.Base Go.Proofs.YtllkoadcpobdaaaDoor.L Go.Proofs.YtllkoadcpobdaaaDoor.Bt Go.Proofs.YtllkoadcpobdaaaDoor.Parse Go.Proofs.YtllkoadcpobdaaaDoor.PX

open Go.Proofs.YtllkoadcpobdaaaDoorW.PrintWords Go.Proofs.YtllkoadcpobdaaaDoorW.PrintLast Go.Proofs.YtllkoadcpobdaaaDoorW.PrintMore

theorem equal_three (v n : Ver) (mD pD : Bool) : equalB v n mD false pD true = (verC v n == 0) := by
  unfold equalB cEqual_r
  cases (v.pre.toList == []) <;> cases (verC v n == 0) <;> rfl

theorem notEqual_three (v n : Ver) (mD pD : Bool) : notEqualB v n mD false pD true = !(verC v n == 0) := by
  unfold notEqualB cNotEqual_r
  cases (v.pre.toList == []) <;> cases (verC v n == 0) <;> rfl

theorem ec_j0 (fl : Bool) (a b c a' b' c' : Nat) (p m p' m' : ByteArray) (k : Nat) (hk : 140010 ≤ k) :
    laws_FnSemverEqualCompares.j0 (k + 1) fl a b c p m a' b' c' p' m' = some true := by
  simp only [laws_FnSemverEqualCompares.j0]
  cases fl with
  | true => rfl
  | false =>
    rw [if_neg (by decide), svGood_k _ (by simp) _ (by simp; omega), Option.bind_some]
    split
    · rename_i hg
      simp only [List.all_cons, List.all_nil, Bool.and_true, Bool.and_eq_true, goodS, decide_eq_true_eq] at hg
      obtain ⟨⟨⟨g1, g2⟩, g3⟩, ⟨⟨g4, g5⟩, g6⟩⟩ := hg
      simp only [laws_stTerm.f, Option.bind_some]
      rw [if_pos (by decide), if_pos (by decide), if_pos (by decide)]
      have k1 : okV (a : Int) b c p := by unfold okV; omega
      have k2 : okV (a' : Int) b' c' p' := by unfold okV; omega
      unfold impl_EqualHolds.f impl_NotEqualHolds.f impl_VersionEqual.f
      have e1 : equalB (vOf a b c p m) (vOf a' b' c' p' ⟨#[]⟩) ((3 : Int) == 1) (decide ((3 : Int) < 3)) ((3 : Int) == 2) true = (verC (vOf a b c p m) (vOf a' b' c' p' m') == 0) := equal_three _ _ _ _
      have e2 : notEqualB (vOf a b c p m) (vOf a' b' c' p' ⟨#[]⟩) ((3 : Int) == 1) (decide ((3 : Int) < 3)) ((3 : Int) == 2) true = !(verC (vOf a b c p m) (vOf a' b' c' p' m') == 0) := notEqual_three _ _ _ _
      have kk : (0 : Int) ≤ 3 ∧ okV (a' : Int) b' c' p' ∧ okV (a : Int) b c p := ⟨by decide, k2, k1⟩
      rw [if_pos kk, Option.bind_some, if_pos ⟨k1, k2⟩, Option.bind_some, e1]
      simp only [beq_self_eq_true, if_true, Option.bind_some]
      rw [if_pos kk, Option.bind_some, e2]
      simp
    · rfl

theorem pure_EqualCompares (a b c : Nat) (p m : ByteArray) (a' b' c' : Nat) (p' m' : ByteArray) (_ : a ≤ 18446744073709551615) (_ : b ≤ 18446744073709551615) (_ : c ≤ 18446744073709551615) (_ : a' ≤ 18446744073709551615) (_ : b' ≤ 18446744073709551615) (_ : c' ≤ 18446744073709551615) :
    ∃ k, laws_FnSemverEqualCompares.f k a b c p m a' b' c' p' m' = some true := by
  refine ⟨140011, ?_⟩
  unfold laws_FnSemverEqualCompares.f
  rw [fits14_f, Option.bind_some]
  split
  · rw [fits14_f, Option.bind_some]
    exact ec_j0 _ a b c a' b' c' p m p' m' 140010 (by omega)
  · exact ec_j0 _ a b c a' b' c' p m p' m' 140010 (by omega)

end Go.Proofs.YtllkoadcpobdaaaDoor.KX
