/- Contracts, made out of the kit's print of the program, widened by contracts of my own. -/
import Derived.Test.YtekmeoemnekmcaaDoorPXx0
import Derived.Test.YtekmeoemnekmcaaDoorPXx1
import Derived.Test.YtekmeoemnekmcaaDoorPXx2
import Derived.Test.YtekmeoemnekmcaaDoorEText
namespace Go.Proofs.YtekmeoemnekmcaaDoor.PX
open Go.RowKit Go.Proofs.YtekmeoemnekmcaaDoorW.PrintWords Go.Proofs.YtekmeoemnekmcaaDoorW.PrintLast Go.Proofs.YtekmeoemnekmcaaDoorW.PrintMore
attribute [local go_sem] max2_int min2_int max_two min_two max_three min_three max_four min_four   -- for this text's walks alone
set_option linter.unusedVariables false
set_option linter.unusedSimpArgs false

attribute [local go_sem high] eqA28
/-! ### laws_FnSemverPrintsApart: function 5 -/
def laws_FnSemverPrintsApart.j0 : Nat → Bool → Int → Int → Int → ByteArray → ByteArray → Int → Int → Int → ByteArray → ByteArray → Option (Bool)
  | 0, _, _, _, _, _, _, _, _, _, _, _ => none
  | k + 1, x12, x194000, x194001, x194002, x194003, x194004, x195000, x195001, x195002, x195003, x195004 => if x12 = true then (some true) else ((laws_svGood.f k (([(⟨x194000, x194001, x194002, x194003, x194004⟩ : S28), (⟨x195000, x195001, x195002, x195003, x195004⟩ : S28)] : List (S28)))).bind fun t200 => (if t200 = true then ((impl_VersionText.f x194000 x194001 x194002 x194003 x194004).bind fun t201 => ((impl_VersionText.f x195000 x195001 x195002 x195003 x195004).bind fun t202 => (some ((t201.toList == t202.toList) == (x194000 == x195000 && (x194001 == x195001 && (x194002 == x195002 && (x194003.toList == x195003.toList && (x194004.toList == x195004.toList))))))))) else (some true)))
def laws_FnSemverPrintsApart.f (k : Nat) (a0_0 : Int) (a0_1 : Int) (a0_2 : Int) (a0_3 : ByteArray) (a0_4 : ByteArray) (a1_0 : Int) (a1_1 : Int) (a1_2 : Int) (a1_3 : ByteArray) (a1_4 : ByteArray) : Option (Bool) := (laws_zzFits14.f a0_0 a0_1 a0_2 a0_3 a0_4).bind fun t195 => (if t195 = true then ((laws_zzFits14.f a1_0 a1_1 a1_2 a1_3 a1_4).bind fun t196 => (laws_FnSemverPrintsApart.j0 k (!t196) a0_0 a0_1 a0_2 a0_3 a0_4 a1_0 a1_1 a1_2 a1_3 a1_4)) else (laws_FnSemverPrintsApart.j0 k true a0_0 a0_1 a0_2 a0_3 a0_4 a1_0 a1_1 a1_2 a1_3 a1_4))
theorem laws_FnSemverPrintsApart.mono_l : ∀ k, (∀ y0 y1 y2 y3 y4 y5 y6 y7 y8 y9 y10, LeO (laws_FnSemverPrintsApart.j0 k y0 y1 y2 y3 y4 y5 y6 y7 y8 y9 y10) (laws_FnSemverPrintsApart.j0 (k + 1) y0 y1 y2 y3 y4 y5 y6 y7 y8 y9 y10))
  | 0 => fun _ _ _ _ _ _ _ _ _ _ _ r h => by simp [laws_FnSemverPrintsApart.j0] at h
  | k + 1 => by
    have ih0 := laws_FnSemverPrintsApart.mono_l k
    · intro y0 y1 y2 y3 y4 y5 y6 y7 y8 y9 y10
      unfold laws_FnSemverPrintsApart.j0
      repeat' first
      | (with_reducible exact ih0 _ _ _ _ _ _ _ _ _ _ _)
      | (with_reducible exact laws_svGood.mono _ _)
      | (with_reducible exact LeO.refl _)
      | (with_reducible exact LeO.none _)
      | (with_reducible refine LeO.ite ?_ ?_)
      | (with_reducible refine LeO.bind ?_ (fun _ => ?_))
      | exact ih0 _ _ _ _ _ _ _ _ _ _ _
      | exact laws_svGood.mono _ _
      | exact LeO.none _
      | refine LeO.ite ?_ ?_
      | refine LeO.bind ?_ (fun _ => ?_)
theorem laws_FnSemverPrintsApart.mono : ∀ a0 a1 a2 a3 a4 a5 a6 a7 a8 a9 k, LeO (laws_FnSemverPrintsApart.f k a0 a1 a2 a3 a4 a5 a6 a7 a8 a9) (laws_FnSemverPrintsApart.f (k + 1) a0 a1 a2 a3 a4 a5 a6 a7 a8 a9) := by
  intro a0 a1 a2 a3 a4 a5 a6 a7 a8 a9 k
  have ih0 := laws_FnSemverPrintsApart.mono_l k
  unfold laws_FnSemverPrintsApart.f
  repeat' first
      | (with_reducible exact ih0 _ _ _ _ _ _ _ _ _ _ _)
      | (with_reducible exact laws_svGood.mono _ _)
      | (with_reducible exact LeO.refl _)
      | (with_reducible exact LeO.none _)
      | (with_reducible refine LeO.ite ?_ ?_)
      | (with_reducible refine LeO.bind ?_ (fun _ => ?_))
      | exact ih0 _ _ _ _ _ _ _ _ _ _ _
      | exact laws_svGood.mono _ _
      | exact LeO.none _
      | refine LeO.ite ?_ ?_
      | refine LeO.bind ?_ (fun _ => ?_)
def laws_FnSemverPrintsApart.T3 : Bool × List (List Nat × List Nat) := (true, [([], []), ([], []), ([0, 1], [0, 1]), ([2], [2]), ([3], [3]), ([4, 3], [4]), ([5], [5]), ([6, 5, 5], [5, 6]), ([5], [5]), ([8, 7, 5], [5, 8]), ([7, 9, 5], [5, 7, 9]), ([5], [5]), ([5], [5]), ([11, 12, 5], [5, 11, 12]), ([10, 13, 5], [5, 10, 13]), ([5, 14], [5, 14]), ([15, 9, 0, 1, 2, 3, 4, 5, 6, 7, 8, 9, 10, 11, 12, 13, 14, 15], [15])])
def laws_FnSemverPrintsApart.B3 : List Nat := [0, 0, 3, 7, 15, 31, 63, 127, 63, 511, 1023, 63, 63, 6207, 16383, 32767, 65535]
theorem laws_FnSemverPrintsApart.tab3 : rtab .any (opsOf Tryd.f5 3) = laws_FnSemverPrintsApart.T3 := by kernel_rfl
theorem laws_FnSemverPrintsApart.bits3 : waitsOk laws_FnSemverPrintsApart.T3.2 laws_FnSemverPrintsApart.B3 = true := by kernel_rfl
set_option maxHeartbeats 8000000 in
set_option maxRecDepth 100000 in
theorem laws_FnSemverPrintsApart.calls (k : Nat) (a0_0 : Int) (a0_1 : Int) (a0_2 : Int) (a0_3 : ByteArray) (a0_4 : ByteArray) (a1_0 : Int) (a1_1 : Int) (a1_2 : Int) (a1_3 : ByteArray) (a1_4 : ByteArray) (r : Bool) (w : World) (hPow : Pow w) (h : laws_FnSemverPrintsApart.f k a0_0 a0_1 a0_2 a0_3 a0_4 a1_0 a1_1 a1_2 a1_3 a1_4 = some r) :
    Calls Tryd.prog 5 #[.agg #[.int .u64 a0_0, .int .u64 a0_1, .int .u64 a0_2, .string a0_3, .string a0_4], .agg #[.int .u64 a1_0, .int .u64 a1_1, .int .u64 a1_2, .string a1_3, .string a1_4]] w fun e w' => e = .returned (.bool r) ∧ Below w.heap.size w w' := by
  have hu28 := Tryd.underlying28
  have HPow := Aside0.mk hPow
  clear hPow
  have HB := Aside0.mk (Below.refl w.heap.size w)
  have H : ((laws_zzFits14.f a0_0 a0_1 a0_2 a0_3 a0_4).bind fun t195 => (if t195 = true then ((laws_zzFits14.f a1_0 a1_1 a1_2 a1_3 a1_4).bind fun t196 => (laws_FnSemverPrintsApart.j0 k (!t196) a0_0 a0_1 a0_2 a0_3 a0_4 a1_0 a1_1 a1_2 a1_3 a1_4)) else (laws_FnSemverPrintsApart.j0 k true a0_0 a0_1 a0_2 a0_3 a0_4 a1_0 a1_1 a1_2 a1_3 a1_4))) = some r := h
  clear h
  have HC3 := Aside0.mk H
  clear H
  go_enter Tryd.func5, Tryd.ntmps5
  go_upto_region 1 with (first | ((with_reducible refine gate_dst (N := 2) rfl ?_); refine box_event ?hg (N := 2) ?hd (cs := #[.int .u64 a0_0, .int .u64 a0_1, .int .u64 a0_2, .string a0_3, .string a0_4]) (t := 28) ?hr ?_; (case hd => rfl); (case hg => rfl); (case hr => first | (go_simp; done) | (go_simp; rfl) | (go_simp; simp [u8w]; done)); intro gb193 hg w4 hbox hb; have n0_ := Aside0.mk (below_step (by repeat (first | (with_reducible first | exact HB.out | apply below_alloc | apply pw_below_drewN | apply below_drew1) | exact HB.out)) hb); have n1_ := Aside0.mk (hbox); have n2_ := Aside0.mk ((by rw [hg]; exact (below_size (by repeat (first | (with_reducible first | exact HB.out | apply below_alloc | apply pw_below_drewN | apply below_drew1) | exact HB.out))) : w.heap.size ≤ gb193)); have n3_ := Aside0.mk ((by rw [hg]; exact (below_size (by repeat (first | (with_reducible first | exact HB.out | apply below_alloc | apply pw_below_drewN | apply below_drew1) | exact HB.out))) : w.heap.size ≤ gb193)); clear HB; have HB := n0_; have BK193 := n1_; have GW193 := n2_; have GE193 := n3_; clear n0_ n1_ n2_ n3_; clear hb hbox hg) | ((with_reducible refine gate_dst (N := 3) rfl ?_); refine box_event ?hg (N := 3) ?hd (cs := #[.int .u64 a1_0, .int .u64 a1_1, .int .u64 a1_2, .string a1_3, .string a1_4]) (t := 28) ?hr ?_; (case hd => rfl); (case hg => rfl); (case hr => first | (go_simp; done) | (go_simp; rfl) | (go_simp; simp [u8w]; done)); intro gb194 hg w5 hbox hb; have n0_ := Aside0.mk (blk_below (g := gb193) (o := .cells #[.int .u64 a0_0, .int .u64 a0_1, .int .u64 a0_2, .string a0_3, .string a0_4] 28 (0, 0)) (by (with_reducible repeat (first | refine blk_drewN ?_ _ | refine blk_drew ?_ | refine blk_alloc ?_ _)); exact BK193.out) hb); have n1_ := Aside0.mk (below_step (by repeat (first | (with_reducible first | exact HB.out | apply below_alloc | apply pw_below_drewN | apply below_drew1 | refine below_set ?_ GE193.out) | exact HB.out)) hb); have n2_ := Aside0.mk (hbox); have n3_ := Aside0.mk ((by rw [hg]; exact (below_size (by repeat (first | (with_reducible first | exact HB.out | apply below_alloc | apply pw_below_drewN | apply below_drew1 | refine below_set ?_ GE193.out) | exact HB.out))) : w.heap.size ≤ gb194)); have n4_ := Aside0.mk ((by rw [hg]; exact (below_size (by repeat (first | (with_reducible first | exact HB.out | apply below_alloc | apply pw_below_drewN | apply below_drew1 | refine below_set ?_ GE193.out) | exact HB.out))) : w.heap.size ≤ gb194)); have n5_ := Aside0.mk ((by rw [hg]; exact Nat.ne_of_lt (blk_lt (g := gb193) (o := .cells #[.int .u64 a0_0, .int .u64 a0_1, .int .u64 a0_2, .string a0_3, .string a0_4] 28 (0, 0)) (by (with_reducible repeat (first | refine blk_drewN ?_ _ | refine blk_drew ?_ | refine blk_alloc ?_ _)); exact BK193.out)) : gb193 ≠ gb194)); have n6_ := Aside0.mk ((by rw [hg]; exact Nat.ne_of_gt (blk_lt (g := gb193) (o := .cells #[.int .u64 a0_0, .int .u64 a0_1, .int .u64 a0_2, .string a0_3, .string a0_4] 28 (0, 0)) (by (with_reducible repeat (first | refine blk_drewN ?_ _ | refine blk_drew ?_ | refine blk_alloc ?_ _)); exact BK193.out)) : gb194 ≠ gb193)); clear BK193; clear HB; have BK193 := n0_; have HB := n1_; have BK194 := n2_; have GW194 := n3_; have GE194 := n4_; have NB193_194 := n5_; have NB194_193 := n6_; clear n0_ n1_ n2_ n3_ n4_ n5_ n6_; clear hb hbox hg))
  (try simp only [Act.put, List.setIfInBounds_toArray, List.set_cons_zero, List.set_cons_succ])
  go_cut [12] (fun v12 wc => ∃ (kq : Nat) (x12_2 : Bool), v12 = .bool x12_2 ∧ Aside0 (laws_FnSemverPrintsApart.j0 kq x12_2 a0_0 a0_1 a0_2 a0_3 a0_4 a1_0 a1_1 a1_2 a1_3 a1_4 = some r) ∧ Aside0 (kq ≤ k) ∧ Aside0 (wc.heap[gb193]? = some (.cells #[.int .u64 a0_0, .int .u64 a0_1, .int .u64 a0_2, .string a0_3, .string a0_4] 28 (0, 0))) ∧ Aside0 (wc.heap[gb194]? = some (.cells #[.int .u64 a1_0, .int .u64 a1_1, .int .u64 a1_2, .string a1_3, .string a1_4] 28 (0, 0))) ∧ Aside0 (Below w.heap.size w wc))
  case first =>
    have H := HC3.out
    clear HC3
    replace H := Option.bind_eq_some_iff.mp H
    obtain ⟨t195, A60, H⟩ := H
    replace H : (if t195 = true then ((laws_zzFits14.f a1_0 a1_1 a1_2 a1_3 a1_4).bind fun t196 => (laws_FnSemverPrintsApart.j0 k (!t196) a0_0 a0_1 a0_2 a0_3 a0_4 a1_0 a1_1 a1_2 a1_3 a1_4)) else (laws_FnSemverPrintsApart.j0 k true a0_0 a0_1 a0_2 a0_3 a0_4 a1_0 a1_1 a1_2 a1_3 a1_4)) = some r := H
    have A6 := Aside0.mk A60
    clear A60
    by_cases c7 : t195 = true
    · subst c7
      have H1 : ((laws_zzFits14.f a1_0 a1_1 a1_2 a1_3 a1_4).bind fun t196 => (laws_FnSemverPrintsApart.j0 k (!t196) a0_0 a0_1 a0_2 a0_3 a0_4 a1_0 a1_1 a1_2 a1_3 a1_4)) = some r := by rw [if_pos rfl] at H; exact H
      clear H
      have H := H1
      clear H1
      replace H := Option.bind_eq_some_iff.mp H
      obtain ⟨t196, A80, H⟩ := H
      replace H : (laws_FnSemverPrintsApart.j0 k (!t196) a0_0 a0_1 a0_2 a0_3 a0_4 a1_0 a1_1 a1_2 a1_3 a1_4) = some r := H
      have A8 := Aside0.mk A80
      clear A80
      have H' := Aside0.mk H
      clear H
      have hnb9 := NB193_194.out
      have hnc9 := NB194_193.out
      have hcz10_0 : w5.cell? ⟨gb193, 0, none⟩ = some (.int .u64 a0_0) := (blk_cell BK193.out 0).trans rfl
      have hcz10_1 : w5.cell? ⟨gb193, 1, none⟩ = some (.int .u64 a0_1) := (blk_cell BK193.out 1).trans rfl
      have hcz10_2 : w5.cell? ⟨gb193, 2, none⟩ = some (.int .u64 a0_2) := (blk_cell BK193.out 2).trans rfl
      have hcz10_3 : w5.cell? ⟨gb193, 3, none⟩ = some (.string a0_3) := (blk_cell BK193.out 3).trans rfl
      have hcz10_4 : w5.cell? ⟨gb193, 4, none⟩ = some (.string a0_4) := (blk_cell BK193.out 4).trans rfl
      have hfz10_0 := blk_frozen BK193.out 0
      have hfz10_1 := blk_frozen BK193.out 1
      have hfz10_2 := blk_frozen BK193.out 2
      have hfz10_3 := blk_frozen BK193.out 3
      have hfz10_4 := blk_frozen BK193.out 4
      go_wp2_with (first | ((with_reducible refine gate_callee (f := 16) rfl ?_); refine goesL_ (some 6) rfl rfl Tryd.func16 (by kernel_rfl) rfl #[.agg #[.int .u64 a0_0, .int .u64 a0_1, .int .u64 a0_2, .string a0_3, .string a0_4]] rfl (by (try simp only [List.map_toArray, List.map_cons, List.map_nil]); first | done | rfl | (simp only [List.length_drop, List.length_take]; rfl)) ?_; (with_reducible refine (laws_zzFits14.calls a0_0 a0_1 a0_2 a0_3 a0_4 true _ A6.out).mono ?_); rintro e w11 ⟨rfl, hb⟩; refine ⟨_, rfl, ?_⟩; have n0_ := Aside0.mk (blk_below (g := gb193) (o := .cells #[.int .u64 a0_0, .int .u64 a0_1, .int .u64 a0_2, .string a0_3, .string a0_4] 28 (0, 0)) (by (with_reducible repeat (first | refine blk_drewN ?_ _ | refine blk_drew ?_ | refine blk_alloc ?_ _)); exact BK193.out) hb); have n1_ := Aside0.mk (blk_below (g := gb194) (o := .cells #[.int .u64 a1_0, .int .u64 a1_1, .int .u64 a1_2, .string a1_3, .string a1_4] 28 (0, 0)) (by (with_reducible repeat (first | refine blk_drewN ?_ _ | refine blk_drew ?_ | refine blk_alloc ?_ _)); exact BK194.out) hb); have n2_ := Aside0.mk (below_step (by repeat (first | (with_reducible first | exact HB.out | apply below_alloc | apply pw_below_drewN | apply below_drew1 | refine below_set ?_ GE193.out | refine below_set ?_ GE194.out) | exact HB.out)) hb); clear BK193; clear BK194; clear HB; have BK193 := n0_; have BK194 := n1_; have HB := n2_; clear n0_ n1_ n2_; (try clear hb); (try clear hb2); (try clear hk); (try clear hi); have hcz12_0 : w11.cell? ⟨gb194, 0, none⟩ = some (.int .u64 a1_0) := (blk_cell BK194.out 0).trans rfl; have hcz12_1 : w11.cell? ⟨gb194, 1, none⟩ = some (.int .u64 a1_1) := (blk_cell BK194.out 1).trans rfl; have hcz12_2 : w11.cell? ⟨gb194, 2, none⟩ = some (.int .u64 a1_2) := (blk_cell BK194.out 2).trans rfl; have hcz12_3 : w11.cell? ⟨gb194, 3, none⟩ = some (.string a1_3) := (blk_cell BK194.out 3).trans rfl; have hcz12_4 : w11.cell? ⟨gb194, 4, none⟩ = some (.string a1_4) := (blk_cell BK194.out 4).trans rfl; have hfz12_0 := blk_frozen BK194.out 0; have hfz12_1 := blk_frozen BK194.out 1; have hfz12_2 := blk_frozen BK194.out 2; have hfz12_3 := blk_frozen BK194.out 3; have hfz12_4 := blk_frozen BK194.out 4) | (go_at_call 16; (with_reducible refine (laws_zzFits14.calls a1_0 a1_1 a1_2 a1_3 a1_4 t196 _ A8.out).mono ?_); rintro e w13 ⟨rfl, hb⟩; have n0_ := Aside0.mk (blk_below (g := gb193) (o := .cells #[.int .u64 a0_0, .int .u64 a0_1, .int .u64 a0_2, .string a0_3, .string a0_4] 28 (0, 0)) (by (with_reducible repeat (first | refine blk_drewN ?_ _ | refine blk_drew ?_ | refine blk_alloc ?_ _)); exact BK193.out) hb); have n1_ := Aside0.mk (blk_below (g := gb194) (o := .cells #[.int .u64 a1_0, .int .u64 a1_1, .int .u64 a1_2, .string a1_3, .string a1_4] 28 (0, 0)) (by (with_reducible repeat (first | refine blk_drewN ?_ _ | refine blk_drew ?_ | refine blk_alloc ?_ _)); exact BK194.out) hb); have n2_ := Aside0.mk (below_step (by repeat (first | (with_reducible first | exact HB.out | apply below_alloc | apply pw_below_drewN | apply below_drew1 | refine below_set ?_ GE193.out | refine below_set ?_ GE194.out) | exact HB.out)) hb); clear BK193; clear BK194; clear HB; have BK193 := n0_; have BK194 := n1_; have HB := n2_; clear n0_ n1_ n2_; (try clear hb); (try clear hb2); (try clear hk); (try clear hi)))
      go_meet
      case rel => exact ⟨_, (!t196), (by first | rfl | (simp; done) | (simp [*]; done)), H', ⟨by first | omega | exact Nat.le_refl _⟩, ⟨by (with_reducible repeat (first | refine blk_drewN ?_ _ | refine blk_drew ?_ | refine blk_alloc ?_ _)); exact BK193.out⟩, ⟨by (with_reducible repeat (first | refine blk_drewN ?_ _ | refine blk_drew ?_ | refine blk_alloc ?_ _)); exact BK194.out⟩, ⟨by repeat (first | (with_reducible first | exact HB.out | apply below_alloc | apply pw_below_drewN | apply below_drew1 | refine below_set ?_ GE193.out | refine below_set ?_ GE194.out) | exact HB.out)⟩⟩
    · replace c7 := Bool.eq_false_iff.mpr c7
      subst c7
      have H1 : (laws_FnSemverPrintsApart.j0 k true a0_0 a0_1 a0_2 a0_3 a0_4 a1_0 a1_1 a1_2 a1_3 a1_4) = some r := by rw [if_neg (show ¬ (false = true) by decide)] at H; exact H
      clear H
      have H := H1
      clear H1
      have H' := Aside0.mk H
      clear H
      have hnb14 := NB193_194.out
      have hnc14 := NB194_193.out
      have hcz15_0 : w5.cell? ⟨gb193, 0, none⟩ = some (.int .u64 a0_0) := (blk_cell BK193.out 0).trans rfl
      have hcz15_1 : w5.cell? ⟨gb193, 1, none⟩ = some (.int .u64 a0_1) := (blk_cell BK193.out 1).trans rfl
      have hcz15_2 : w5.cell? ⟨gb193, 2, none⟩ = some (.int .u64 a0_2) := (blk_cell BK193.out 2).trans rfl
      have hcz15_3 : w5.cell? ⟨gb193, 3, none⟩ = some (.string a0_3) := (blk_cell BK193.out 3).trans rfl
      have hcz15_4 : w5.cell? ⟨gb193, 4, none⟩ = some (.string a0_4) := (blk_cell BK193.out 4).trans rfl
      have hfz15_0 := blk_frozen BK193.out 0
      have hfz15_1 := blk_frozen BK193.out 1
      have hfz15_2 := blk_frozen BK193.out 2
      have hfz15_3 := blk_frozen BK193.out 3
      have hfz15_4 := blk_frozen BK193.out 4
      go_wp2_with (first | ((with_reducible refine gate_callee (f := 16) rfl ?_); refine goesL_ (some 6) rfl rfl Tryd.func16 (by kernel_rfl) rfl #[.agg #[.int .u64 a0_0, .int .u64 a0_1, .int .u64 a0_2, .string a0_3, .string a0_4]] rfl (by (try simp only [List.map_toArray, List.map_cons, List.map_nil]); first | done | rfl | (simp only [List.length_drop, List.length_take]; rfl)) ?_; (with_reducible refine (laws_zzFits14.calls a0_0 a0_1 a0_2 a0_3 a0_4 false _ A6.out).mono ?_); rintro e w16 ⟨rfl, hb⟩; refine ⟨_, rfl, ?_⟩; have n0_ := Aside0.mk (blk_below (g := gb193) (o := .cells #[.int .u64 a0_0, .int .u64 a0_1, .int .u64 a0_2, .string a0_3, .string a0_4] 28 (0, 0)) (by (with_reducible repeat (first | refine blk_drewN ?_ _ | refine blk_drew ?_ | refine blk_alloc ?_ _)); exact BK193.out) hb); have n1_ := Aside0.mk (blk_below (g := gb194) (o := .cells #[.int .u64 a1_0, .int .u64 a1_1, .int .u64 a1_2, .string a1_3, .string a1_4] 28 (0, 0)) (by (with_reducible repeat (first | refine blk_drewN ?_ _ | refine blk_drew ?_ | refine blk_alloc ?_ _)); exact BK194.out) hb); have n2_ := Aside0.mk (below_step (by repeat (first | (with_reducible first | exact HB.out | apply below_alloc | apply pw_below_drewN | apply below_drew1 | refine below_set ?_ GE193.out | refine below_set ?_ GE194.out) | exact HB.out)) hb); clear BK193; clear BK194; clear HB; have BK193 := n0_; have BK194 := n1_; have HB := n2_; clear n0_ n1_ n2_; (try clear hb); (try clear hb2); (try clear hk); (try clear hi)))
      go_meet
      case rel => exact ⟨_, (true), (by first | rfl | (simp; done) | (simp [*]; done)), H', ⟨by first | omega | exact Nat.le_refl _⟩, ⟨by (with_reducible repeat (first | refine blk_drewN ?_ _ | refine blk_drew ?_ | refine blk_alloc ?_ _)); exact BK193.out⟩, ⟨by (with_reducible repeat (first | refine blk_drewN ?_ _ | refine blk_drew ?_ | refine blk_alloc ?_ _)); exact BK194.out⟩, ⟨by repeat (first | (with_reducible first | exact HB.out | apply below_alloc | apply pw_below_drewN | apply below_drew1 | refine below_set ?_ GE193.out | refine below_set ?_ GE194.out) | exact HB.out)⟩⟩
  case rest =>
    clear HC3
    try clear c1
    try clear p2
    try clear c5
    try clear c7
    try clear c9
    try clear c14
    try clear c16
    try clear hcz10_0
    try clear hcz10_1
    try clear hcz10_2
    try clear hcz10_3
    try clear hcz10_4
    try clear hcz12_0
    try clear hcz12_1
    try clear hcz12_2
    try clear hcz12_3
    try clear hcz12_4
    try clear hcz15_0
    try clear hcz15_1
    try clear hcz15_2
    try clear hcz15_3
    try clear hcz15_4
    try clear hfz10_0
    try clear hfz10_1
    try clear hfz10_2
    try clear hfz10_3
    try clear hfz10_4
    try clear hfz12_0
    try clear hfz12_1
    try clear hfz12_2
    try clear hfz12_3
    try clear hfz12_4
    try clear hfz15_0
    try clear hfz15_1
    try clear hfz15_2
    try clear hfz15_3
    try clear hfz15_4
    obtain ⟨kq, x12_2, rfl, HA, HJ2, BK193, BK194, HB⟩ := hcut
    cases kq with
    | zero => exact absurd HA.out (by simp [laws_FnSemverPrintsApart.j0])
    | succ kj2 =>
      have H := HA.out
      clear HA
      simp only [laws_FnSemverPrintsApart.j0] at H
      by_cases c17 : x12_2 = true
      · subst c17
        have H1 : (some true) = some r := by rw [if_pos rfl] at H; exact H
        clear H
        have H := H1
        clear H1
        obtain rfl := Option.some.inj H
        go_wp2
        go_ret
        exact ⟨by first | rfl | (simp [errW_none, errW_some] <;> rfl) | (simp [*, errW_none, errW_some] <;> rfl) | (simp [bneNil]; done), by repeat (first | (with_reducible first | exact HB.out | apply below_alloc | apply pw_below_drewN | apply below_drew1 | refine below_set ?_ GE193.out | refine below_set ?_ GE194.out) | exact HB.out)⟩
      · replace c17 := Bool.eq_false_iff.mpr c17
        subst c17
        have H1 : ((laws_svGood.f kj2 (([(⟨a0_0, a0_1, a0_2, a0_3, a0_4⟩ : S28), (⟨a1_0, a1_1, a1_2, a1_3, a1_4⟩ : S28)] : List (S28)))).bind fun t200 => (if t200 = true then ((impl_VersionText.f a0_0 a0_1 a0_2 a0_3 a0_4).bind fun t201 => ((impl_VersionText.f a1_0 a1_1 a1_2 a1_3 a1_4).bind fun t202 => (some ((t201.toList == t202.toList) == (a0_0 == a1_0 && (a0_1 == a1_1 && (a0_2 == a1_2 && (a0_3.toList == a1_3.toList && (a0_4.toList == a1_4.toList))))))))) else (some true))) = some r := by rw [if_neg (show ¬ (false = true) by decide)] at H; exact H
        clear H
        have H := H1
        clear H1
        obtain ⟨y197, hy197⟩ : ∃ y_ : List (S28), y_ = (([(⟨a0_0, a0_1, a0_2, a0_3, a0_4⟩ : S28), (⟨a1_0, a1_1, a1_2, a1_3, a1_4⟩ : S28)] : List (S28))) := ⟨_, rfl⟩
        replace H : ((laws_svGood.f kj2 y197).bind fun t200 => (if t200 = true then ((impl_VersionText.f a0_0 a0_1 a0_2 a0_3 a0_4).bind fun t201 => ((impl_VersionText.f a1_0 a1_1 a1_2 a1_3 a1_4).bind fun t202 => (some ((t201.toList == t202.toList) == (a0_0 == a1_0 && (a0_1 == a1_1 && (a0_2 == a1_2 && (a0_3.toList == a1_3.toList && (a0_4.toList == a1_4.toList))))))))) else (some true))) = some r := by first | (rw [hy197]; with_reducible exact H) | (have H2_ := (Option.bind_some _ _).symm.trans H; rw [hy197]; with_reducible exact H2_) | (have H2_ := (Option.bind_some _ _).symm.trans H; with_reducible exact H2_) | with_reducible exact H | (rw [hy197]; exact H) | exact H
        have Ny197 := Aside0.mk hy197
        clear hy197
        replace H := Option.bind_eq_some_iff.mp H
        obtain ⟨t200, A180, H⟩ := H
        replace H : (if t200 = true then ((impl_VersionText.f a0_0 a0_1 a0_2 a0_3 a0_4).bind fun t201 => ((impl_VersionText.f a1_0 a1_1 a1_2 a1_3 a1_4).bind fun t202 => (some ((t201.toList == t202.toList) == (a0_0 == a1_0 && (a0_1 == a1_1 && (a0_2 == a1_2 && (a0_3.toList == a1_3.toList && (a0_4.toList == a1_4.toList))))))))) else (some true)) = some r := H
        have A18 := Aside0.mk A180
        clear A180
        by_cases c19 : t200 = true
        · subst c19
          have H1 : ((impl_VersionText.f a0_0 a0_1 a0_2 a0_3 a0_4).bind fun t201 => ((impl_VersionText.f a1_0 a1_1 a1_2 a1_3 a1_4).bind fun t202 => (some ((t201.toList == t202.toList) == (a0_0 == a1_0 && (a0_1 == a1_1 && (a0_2 == a1_2 && (a0_3.toList == a1_3.toList && (a0_4.toList == a1_4.toList))))))))) = some r := by rw [if_pos rfl] at H; exact H
          clear H
          have H := H1
          clear H1
          replace H := Option.bind_eq_some_iff.mp H
          obtain ⟨t201, A200, H⟩ := H
          replace H : ((impl_VersionText.f a1_0 a1_1 a1_2 a1_3 a1_4).bind fun t202 => (some ((t201.toList == t202.toList) == (a0_0 == a1_0 && (a0_1 == a1_1 && (a0_2 == a1_2 && (a0_3.toList == a1_3.toList && (a0_4.toList == a1_4.toList)))))))) = some r := H
          have A20 := Aside0.mk A200
          clear A200
          replace H := Option.bind_eq_some_iff.mp H
          obtain ⟨t202, A210, H⟩ := H
          replace H : (some ((t201.toList == t202.toList) == (a0_0 == a1_0 && (a0_1 == a1_1 && (a0_2 == a1_2 && (a0_3.toList == a1_3.toList && (a0_4.toList == a1_4.toList))))))) = some r := H
          have A21 := Aside0.mk A210
          clear A210
          obtain rfl := Option.some.inj H
          try go_wp2
          have n0_ := Aside0.mk (blk_drew BK193.out)
          have n1_ := Aside0.mk (blk_drew BK194.out)
          have n2_ := Aside0.mk (below_drew1 HB.out)
          clear BK193
          clear BK194
          clear HB
          have BK193 := n0_
          have BK194 := n1_
          have HB := n2_
          clear n0_ n1_ n2_
          refine start_ (n := 17) (S := fun w' => w'.cell? ⟨gb193, 0, none⟩ = some (.int .u64 a0_0) ∧ w'.cell? ⟨gb193, 1, none⟩ = some (.int .u64 a0_1) ∧ w'.cell? ⟨gb193, 2, none⟩ = some (.int .u64 a0_2) ∧ w'.cell? ⟨gb193, 3, none⟩ = some (.string a0_3) ∧ w'.cell? ⟨gb193, 4, none⟩ = some (.string a0_4) ∧ w'.cell? ⟨gb194, 0, none⟩ = some (.int .u64 a1_0) ∧ w'.cell? ⟨gb194, 1, none⟩ = some (.int .u64 a1_1) ∧ w'.cell? ⟨gb194, 2, none⟩ = some (.int .u64 a1_2) ∧ w'.cell? ⟨gb194, 3, none⟩ = some (.string a1_3) ∧ w'.cell? ⟨gb194, 4, none⟩ = some (.string a1_4)) (ds := []) #[false, false, false, false, false, false, false, false, false, false, false, false, false, false, false, false, false] (by kernel_rfl) rfl rfl ⟨(blk_cell BK193.out 0).trans rfl, (blk_cell BK193.out 1).trans rfl, (blk_cell BK193.out 2).trans rfl, (blk_cell BK193.out 3).trans rfl, (blk_cell BK193.out 4).trans rfl, (blk_cell BK194.out 0).trans rfl, (blk_cell BK194.out 1).trans rfl, (blk_cell BK194.out 2).trans rfl, (blk_cell BK194.out 3).trans rfl, (blk_cell BK194.out 4).trans rfl⟩ (fun hHeld => ?_); refine with_tabW laws_FnSemverPrintsApart.tab3 laws_FnSemverPrintsApart.bits3 (fun HT_ HW_ => ?_)
          generalize wc.drew = w22 at BK193 BK194 HB hHeld ⊢
          refine take_ (i := 0) (N := some 13) (v := ?_) (a' := ?_) #[true, false, false, false, false, false, false, false, false, false, false, false, false, false, false, false, false] rfl rfl (take_ofW HT_.out HW_.out (by kernel_rfl)) (fun _ _ _ h => h) (Or.inl ⟨by rfl, ?_⟩) hHeld ?_ ?_
          rotate_left
          · rintro w' ⟨s0, s1, s2, s3, s4, s5, s6, s7, s8, s9⟩
            go_simp
            with_reducible rfl
          rotate_left
          · simp only [Act.put, List.setIfInBounds_toArray, List.set_cons_zero, List.set_cons_succ, i64_w, i32_w]
            rfl
          refine take_ (i := 1) (N := some 14) (v := ?_) (a' := ?_) #[true, true, false, false, false, false, false, false, false, false, false, false, false, false, false, false, false] rfl rfl (take_ofW HT_.out HW_.out (by kernel_rfl)) (fun _ _ _ h => h) (Or.inl ⟨by rfl, ?_⟩) hHeld ?_ ?_
          rotate_left
          · rintro w' ⟨s0, s1, s2, s3, s4, s5, s6, s7, s8, s9⟩
            go_simp
            with_reducible rfl
          rotate_left
          · simp only [Act.put, List.setIfInBounds_toArray, List.set_cons_zero, List.set_cons_succ, i64_w, i32_w]
            rfl
          refine one_ (i := 2) (N := some 15) #[true, true, true, false, false, false, false, false, false, false, false, false, false, false, false, false, false] rfl rfl (one_of HT_.out (by kernel_rfl)) (by decide) (fun K hK => ?_)
          refine Kd.R_lit_step k28 _ 28 ?hg (N := 15) ?hd (xs := ([(⟨a0_0, a0_1, a0_2, a0_3, a0_4⟩ : S28), (⟨a1_0, a1_1, a1_2, a1_3, a1_4⟩ : S28)] : List (S28))) (inner := [.int .u64 a0_0, .int .u64 a0_1, .int .u64 a0_2, .string a0_3, .string a0_4, .int .u64 a1_0, .int .u64 a1_1, .int .u64 a1_2, .string a1_3, .string a1_4]) (ok := fun _ => True) (okp := fun _ => True) ?hr ?hp (fun _ hk => hk) trivial (Below.refl _ _) (Nat.le_refl _) (by simp) ?_; (case hd => rfl); (case hg => rfl); (case hr => first | (go_simp; done) | (go_simp; rfl) | (go_simp; simp [u8w]; done)); (case hp => exact (Reps.c5 (show Kd.M k28 _ _ _ (⟨a0_0, a0_1, a0_2, a0_3, a0_4⟩ : S28) [.int .u64 a0_0, .int .u64 a0_1, .int .u64 a0_2, .string a0_3, .string a0_4] from (k28_mkM _ _ _ (⟨a0_0, a0_1, a0_2, a0_3, a0_4⟩ : S28) )) (Reps.c5 (show Kd.M k28 _ _ _ (⟨a1_0, a1_1, a1_2, a1_3, a1_4⟩ : S28) [.int .u64 a1_0, .int .u64 a1_1, .int .u64 a1_2, .string a1_3, .string a1_4] from (k28_mkM _ _ _ (⟨a1_0, a1_1, a1_2, a1_3, a1_4⟩ : S28) )) (Reps.none _ _))))
          intro v198 w23 ho24 hb hg_ hnew_
          clear hg_ hnew_
          (first | rw [← Ny197.out] at ho24 | (simp only [Int.reduceToNat] at ho24; rw [← Ny197.out] at ho24))
          have n0_ := Aside0.mk (Kd.R_lower (Kd.R_newB (Kd.R_newB ho24 (g := gb193) (o := .cells #[.int .u64 a0_0, .int .u64 a0_1, .int .u64 a0_2, .string a0_3, .string a0_4] 28 (0, 0)) (by (with_reducible repeat (first | refine blk_drewN ?_ _ | refine blk_drew ?_ | refine blk_alloc ?_ _)); exact BK193.out)) (g := gb194) (o := .cells #[.int .u64 a1_0, .int .u64 a1_1, .int .u64 a1_2, .string a1_3, .string a1_4] 28 (0, 0)) (by (with_reducible repeat (first | refine blk_drewN ?_ _ | refine blk_drew ?_ | refine blk_alloc ?_ _)); exact BK194.out)) (below_size (by repeat (first | (with_reducible first | exact HB.out | apply below_alloc | apply pw_below_drewN | apply below_drew1 | refine below_set ?_ GE193.out | refine below_set ?_ GE194.out) | exact HB.out))))
          have n1_ := Aside0.mk (blk_below (g := gb193) (o := .cells #[.int .u64 a0_0, .int .u64 a0_1, .int .u64 a0_2, .string a0_3, .string a0_4] 28 (0, 0)) (by (with_reducible repeat (first | refine blk_drewN ?_ _ | refine blk_drew ?_ | refine blk_alloc ?_ _)); exact BK193.out) hb)
          have n2_ := Aside0.mk (blk_below (g := gb194) (o := .cells #[.int .u64 a1_0, .int .u64 a1_1, .int .u64 a1_2, .string a1_3, .string a1_4] 28 (0, 0)) (by (with_reducible repeat (first | refine blk_drewN ?_ _ | refine blk_drew ?_ | refine blk_alloc ?_ _)); exact BK194.out) hb)
          have n3_ := Aside0.mk (below_step (by repeat (first | (with_reducible first | exact HB.out | apply below_alloc | apply pw_below_drewN | apply below_drew1 | refine below_set ?_ GE193.out | refine below_set ?_ GE194.out) | exact HB.out)) hb)
          clear BK193
          clear BK194
          clear HB
          have HO199 := n0_
          have BK193 := n1_
          have BK194 := n2_
          have HB := n3_
          clear n0_ n1_ n2_ n3_
          clear hb ho24
          obtain ⟨Ao25, co25, eo25⟩ := Kd.R_slice HO199.out
          (first | subst eo25 | (injection eo25 with f1_ f2_ f3_; have f4_ := f1_.symm; have f5_ := f3_.symm; clear f1_ f2_ f3_; subst f4_; subst f5_))
          refine hK.out _ _ ⟨(blk_cell BK193.out 0).trans rfl, (blk_cell BK193.out 1).trans rfl, (blk_cell BK193.out 2).trans rfl, (blk_cell BK193.out 3).trans rfl, (blk_cell BK193.out 4).trans rfl, (blk_cell BK194.out 0).trans rfl, (blk_cell BK194.out 1).trans rfl, (blk_cell BK194.out 2).trans rfl, (blk_cell BK194.out 3).trans rfl, (blk_cell BK194.out 4).trans rfl⟩ (fun hHeld => ?_)
          clear hK K
          refine norm_ (a' := ?_) ?_ ?_
          rotate_left
          · show Act.put _ (some 15) _ = _
            simp only [Act.put, List.setIfInBounds_toArray, List.set_cons_zero, List.set_cons_succ, i64_w, i32_w]
            rfl
          refine one_ (i := 3) (N := some 16) #[true, true, true, true, false, false, false, false, false, false, false, false, false, false, false, false, false] rfl rfl (one_of HT_.out (by kernel_rfl)) (by decide) (fun K hK => ?_)
          refine goes_ Tryd.func17 (by kernel_rfl) rfl #[.slice Ao25 y197.length co25] (by rfl) rfl rfl (by (try simp only [List.map_toArray, List.map_cons, List.map_nil]); first | done | rfl | (simp only [List.length_drop, List.length_take]; rfl)) ?_
          with_reducible refine (laws_svGood.calls kj2 _ _ y197 true _ ?side1 ?side2 A18.out).mono ?_
          (case side1 => repeat (first | exact (Kd.R_reads' HO199.out).2.2 | (with_reducible refine Kd.C_alloc ?_ _) | (with_reducible refine Kd.C_drewN ?_ _) | (with_reducible refine Kd.C_drew ?_)))
          (case side2 => exact (Kd.R_reads' HO199.out).2.1)
          rintro e w26 ⟨rfl, hb⟩
          refine ⟨_, rfl, ?_⟩
          have n0_ := Aside0.mk (Kd.R_below (by (with_reducible repeat (first | apply Kd.R_alloc | apply Kd.R_drewN | apply Kd.R_drew)); exact HO199.out) hb)
          have n1_ := Aside0.mk (blk_below (g := gb193) (o := .cells #[.int .u64 a0_0, .int .u64 a0_1, .int .u64 a0_2, .string a0_3, .string a0_4] 28 (0, 0)) (by (with_reducible repeat (first | refine blk_drewN ?_ _ | refine blk_drew ?_ | refine blk_alloc ?_ _)); exact BK193.out) hb)
          have n2_ := Aside0.mk (blk_below (g := gb194) (o := .cells #[.int .u64 a1_0, .int .u64 a1_1, .int .u64 a1_2, .string a1_3, .string a1_4] 28 (0, 0)) (by (with_reducible repeat (first | refine blk_drewN ?_ _ | refine blk_drew ?_ | refine blk_alloc ?_ _)); exact BK194.out) hb)
          have n3_ := Aside0.mk (below_step (by repeat (first | (with_reducible first | exact HB.out | apply below_alloc | apply pw_below_drewN | apply below_drew1 | refine below_set ?_ GE193.out | refine below_set ?_ GE194.out) | exact HB.out)) hb)
          clear HO199
          clear BK193
          clear BK194
          clear HB
          have HO199 := n0_
          have BK193 := n1_
          have BK194 := n2_
          have HB := n3_
          clear n0_ n1_ n2_ n3_
          (try clear hb)
          (try clear hb2)
          (try clear hk)
          (try clear hi)
          refine hK.out _ _ ⟨(blk_cell BK193.out 0).trans rfl, (blk_cell BK193.out 1).trans rfl, (blk_cell BK193.out 2).trans rfl, (blk_cell BK193.out 3).trans rfl, (blk_cell BK193.out 4).trans rfl, (blk_cell BK194.out 0).trans rfl, (blk_cell BK194.out 1).trans rfl, (blk_cell BK194.out 2).trans rfl, (blk_cell BK194.out 3).trans rfl, (blk_cell BK194.out 4).trans rfl⟩ (fun hHeld => ?_)
          clear hK K
          refine norm_ (a' := ?_) ?_ ?_
          rotate_left
          · show Act.put _ (some 16) _ = _
            simp only [Act.put, List.setIfInBounds_toArray, List.set_cons_zero, List.set_cons_succ, i64_w, i32_w]
            rfl
          refine pure_ (i := 4) (N := some 17) (v := ?_) (a' := ?_) #[true, true, true, true, true, false, false, false, false, false, false, false, false, false, false, false, false] rfl rfl (any_of HT_.out (by kernel_rfl)) (fun _ _ _ h => h) (Or.inl ⟨by rfl, ?_⟩) ?_ ?_
          rotate_left
          · intro w'
            go_simp
            with_reducible rfl
          rotate_left
          · simp only [Act.put, List.setIfInBounds_toArray, List.set_cons_zero, List.set_cons_succ, i64_w, i32_w]
            rfl
          refine pure_ (i := 5) (N := some 18) (v := ?_) (a' := ?_) #[true, true, true, true, true, true, false, false, false, false, false, false, false, false, false, false, false] rfl rfl (any_of HT_.out (by kernel_rfl)) (fun _ _ _ h => h) (Or.inl ⟨by rfl, ?_⟩) ?_ ?_
          rotate_left
          · intro w'
            go_simp
            with_reducible rfl
          rotate_left
          · simp only [Act.put, List.setIfInBounds_toArray, List.set_cons_zero, List.set_cons_succ, i64_w, i32_w]
            rfl
          refine take_ (i := 6) (N := some 19) (v := ?_) (a' := ?_) #[true, true, true, true, true, true, true, false, false, false, false, false, false, false, false, false, false] rfl rfl (take_ofW HT_.out HW_.out (by kernel_rfl)) (fun _ _ _ h => h) (Or.inl ⟨by rfl, ?_⟩) hHeld ?_ ?_
          rotate_left
          · rintro w' ⟨s0, s1, s2, s3, s4, s5, s6, s7, s8, s9⟩
            go_simp
            with_reducible rfl
          rotate_left
          · simp only [Act.put, List.setIfInBounds_toArray, List.set_cons_zero, List.set_cons_succ, i64_w, i32_w]
            rfl
          refine take_ (i := 8) (N := some 21) (v := ?_) (a' := ?_) #[true, true, true, true, true, true, true, false, true, false, false, false, false, false, false, false, false] rfl rfl (take_ofW HT_.out HW_.out (by kernel_rfl)) (fun _ _ _ h => h) (Or.inl ⟨by rfl, ?_⟩) hHeld ?_ ?_
          rotate_left
          · rintro w' ⟨s0, s1, s2, s3, s4, s5, s6, s7, s8, s9⟩
            go_simp
            with_reducible rfl
          rotate_left
          · simp only [Act.put, List.setIfInBounds_toArray, List.set_cons_zero, List.set_cons_succ, i64_w, i32_w]
            rfl
          refine take_ (i := 11) (N := some 24) (v := ?_) (a' := ?_) #[true, true, true, true, true, true, true, false, true, false, false, true, false, false, false, false, false] rfl rfl (take_ofW HT_.out HW_.out (by kernel_rfl)) (fun _ _ _ h => h) (Or.inl ⟨by rfl, ?_⟩) hHeld ?_ ?_
          rotate_left
          · rintro w' ⟨s0, s1, s2, s3, s4, s5, s6, s7, s8, s9⟩
            go_simp
            with_reducible rfl
          rotate_left
          · simp only [Act.put, List.setIfInBounds_toArray, List.set_cons_zero, List.set_cons_succ, i64_w, i32_w]
            rfl
          refine take_ (i := 12) (N := some 25) (v := ?_) (a' := ?_) #[true, true, true, true, true, true, true, false, true, false, false, true, true, false, false, false, false] rfl rfl (take_ofW HT_.out HW_.out (by kernel_rfl)) (fun _ _ _ h => h) (Or.inl ⟨by rfl, ?_⟩) hHeld ?_ ?_
          rotate_left
          · rintro w' ⟨s0, s1, s2, s3, s4, s5, s6, s7, s8, s9⟩
            go_simp
            with_reducible rfl
          rotate_left
          · simp only [Act.put, List.setIfInBounds_toArray, List.set_cons_zero, List.set_cons_succ, i64_w, i32_w]
            rfl
          refine pure_ (i := 13) (N := some 26) (v := ?_) (a' := ?_) #[true, true, true, true, true, true, true, false, true, false, false, true, true, true, false, false, false] rfl rfl (any_of HT_.out (by kernel_rfl)) (fun _ _ _ h => h) (Or.inl ⟨by rfl, ?_⟩) ?_ ?_
          rotate_left
          · intro w'
            go_simp
            with_reducible rfl
          rotate_left
          · simp only [Act.put, List.setIfInBounds_toArray, List.set_cons_zero, List.set_cons_succ, i64_w, i32_w]
            rfl
          refine one_ (i := 7) (N := some 20) #[true, true, true, true, true, true, true, true, true, false, false, true, true, true, false, false, false] rfl rfl (one_of HT_.out (by kernel_rfl)) (by decide) (fun K hK => ?_)
          refine goes_ Tryd.func18 (by kernel_rfl) rfl #[.agg #[.int .u64 a0_0, .int .u64 a0_1, .int .u64 a0_2, .string a0_3, .string a0_4]] (by rfl) rfl rfl (by (try simp only [List.map_toArray, List.map_cons, List.map_nil]); first | done | rfl | (simp only [List.length_drop, List.length_take]; rfl)) ?_
          with_reducible refine (impl_VersionText.calls a0_0 a0_1 a0_2 a0_3 a0_4 t201 _ ?side1 A20.out).mono ?_
          (case side1 => exact HPow.out.below (by repeat (first | (with_reducible first | exact HB.out | apply below_alloc | apply pw_below_drewN | apply below_drew1 | refine below_set ?_ GE193.out | refine below_set ?_ GE194.out) | exact HB.out)))
          rintro e w27 ⟨rfl, hb⟩
          refine ⟨_, rfl, ?_⟩
          have n0_ := Aside0.mk (Kd.R_below (by (with_reducible repeat (first | apply Kd.R_alloc | apply Kd.R_drewN | apply Kd.R_drew)); exact HO199.out) hb)
          have n1_ := Aside0.mk (blk_below (g := gb193) (o := .cells #[.int .u64 a0_0, .int .u64 a0_1, .int .u64 a0_2, .string a0_3, .string a0_4] 28 (0, 0)) (by (with_reducible repeat (first | refine blk_drewN ?_ _ | refine blk_drew ?_ | refine blk_alloc ?_ _)); exact BK193.out) hb)
          have n2_ := Aside0.mk (blk_below (g := gb194) (o := .cells #[.int .u64 a1_0, .int .u64 a1_1, .int .u64 a1_2, .string a1_3, .string a1_4] 28 (0, 0)) (by (with_reducible repeat (first | refine blk_drewN ?_ _ | refine blk_drew ?_ | refine blk_alloc ?_ _)); exact BK194.out) hb)
          have n3_ := Aside0.mk (below_step (by repeat (first | (with_reducible first | exact HB.out | apply below_alloc | apply pw_below_drewN | apply below_drew1 | refine below_set ?_ GE193.out | refine below_set ?_ GE194.out) | exact HB.out)) hb)
          clear HO199
          clear BK193
          clear BK194
          clear HB
          have HO199 := n0_
          have BK193 := n1_
          have BK194 := n2_
          have HB := n3_
          clear n0_ n1_ n2_ n3_
          (try clear hb)
          (try clear hb2)
          (try clear hk)
          (try clear hi)
          refine hK.out _ _ ⟨(blk_cell BK193.out 0).trans rfl, (blk_cell BK193.out 1).trans rfl, (blk_cell BK193.out 2).trans rfl, (blk_cell BK193.out 3).trans rfl, (blk_cell BK193.out 4).trans rfl, (blk_cell BK194.out 0).trans rfl, (blk_cell BK194.out 1).trans rfl, (blk_cell BK194.out 2).trans rfl, (blk_cell BK194.out 3).trans rfl, (blk_cell BK194.out 4).trans rfl⟩ (fun hHeld => ?_)
          clear hK K
          refine norm_ (a' := ?_) ?_ ?_
          rotate_left
          · show Act.put _ (some 20) _ = _
            simp only [Act.put, List.setIfInBounds_toArray, List.set_cons_zero, List.set_cons_succ, i64_w, i32_w]
            rfl
          refine one_ (i := 9) (N := some 22) #[true, true, true, true, true, true, true, true, true, true, false, true, true, true, false, false, false] rfl rfl (one_of HT_.out (by kernel_rfl)) (by decide) (fun K hK => ?_)
          refine goes_ Tryd.func18 (by kernel_rfl) rfl #[.agg #[.int .u64 a1_0, .int .u64 a1_1, .int .u64 a1_2, .string a1_3, .string a1_4]] (by rfl) rfl rfl (by (try simp only [List.map_toArray, List.map_cons, List.map_nil]); first | done | rfl | (simp only [List.length_drop, List.length_take]; rfl)) ?_
          with_reducible refine (impl_VersionText.calls a1_0 a1_1 a1_2 a1_3 a1_4 t202 _ ?side1 A21.out).mono ?_
          (case side1 => exact HPow.out.below (by repeat (first | (with_reducible first | exact HB.out | apply below_alloc | apply pw_below_drewN | apply below_drew1 | refine below_set ?_ GE193.out | refine below_set ?_ GE194.out) | exact HB.out)))
          rintro e w28 ⟨rfl, hb⟩
          refine ⟨_, rfl, ?_⟩
          have n0_ := Aside0.mk (Kd.R_below (by (with_reducible repeat (first | apply Kd.R_alloc | apply Kd.R_drewN | apply Kd.R_drew)); exact HO199.out) hb)
          have n1_ := Aside0.mk (blk_below (g := gb193) (o := .cells #[.int .u64 a0_0, .int .u64 a0_1, .int .u64 a0_2, .string a0_3, .string a0_4] 28 (0, 0)) (by (with_reducible repeat (first | refine blk_drewN ?_ _ | refine blk_drew ?_ | refine blk_alloc ?_ _)); exact BK193.out) hb)
          have n2_ := Aside0.mk (blk_below (g := gb194) (o := .cells #[.int .u64 a1_0, .int .u64 a1_1, .int .u64 a1_2, .string a1_3, .string a1_4] 28 (0, 0)) (by (with_reducible repeat (first | refine blk_drewN ?_ _ | refine blk_drew ?_ | refine blk_alloc ?_ _)); exact BK194.out) hb)
          have n3_ := Aside0.mk (below_step (by repeat (first | (with_reducible first | exact HB.out | apply below_alloc | apply pw_below_drewN | apply below_drew1 | refine below_set ?_ GE193.out | refine below_set ?_ GE194.out) | exact HB.out)) hb)
          clear HO199
          clear BK193
          clear BK194
          clear HB
          have HO199 := n0_
          have BK193 := n1_
          have BK194 := n2_
          have HB := n3_
          clear n0_ n1_ n2_ n3_
          (try clear hb)
          (try clear hb2)
          (try clear hk)
          (try clear hi)
          refine hK.out _ _ ⟨(blk_cell BK193.out 0).trans rfl, (blk_cell BK193.out 1).trans rfl, (blk_cell BK193.out 2).trans rfl, (blk_cell BK193.out 3).trans rfl, (blk_cell BK193.out 4).trans rfl, (blk_cell BK194.out 0).trans rfl, (blk_cell BK194.out 1).trans rfl, (blk_cell BK194.out 2).trans rfl, (blk_cell BK194.out 3).trans rfl, (blk_cell BK194.out 4).trans rfl⟩ (fun hHeld => ?_)
          clear hK K
          refine norm_ (a' := ?_) ?_ ?_
          rotate_left
          · show Act.put _ (some 22) _ = _
            simp only [Act.put, List.setIfInBounds_toArray, List.set_cons_zero, List.set_cons_succ, i64_w, i32_w]
            rfl
          refine pure_ (i := 10) (N := some 23) (v := ?_) (a' := ?_) #[true, true, true, true, true, true, true, true, true, true, true, true, true, true, false, false, false] rfl rfl (any_of HT_.out (by kernel_rfl)) (fun _ _ _ h => h) (Or.inl ⟨by rfl, ?_⟩) ?_ ?_
          rotate_left
          · intro w'
            go_simp
            with_reducible rfl
          rotate_left
          · simp only [Act.put, List.setIfInBounds_toArray, List.set_cons_zero, List.set_cons_succ, i64_w, i32_w]
            rfl
          refine pure_ (i := 14) (N := some 27) (v := ?_) (a' := ?_) #[true, true, true, true, true, true, true, true, true, true, true, true, true, true, true, false, false] rfl rfl (any_of HT_.out (by kernel_rfl)) (fun _ _ _ h => h) (Or.inl ⟨by rfl, ?_⟩) ?_ ?_
          rotate_left
          · intro w'
            go_simp
            with_reducible rfl
          rotate_left
          · simp only [Act.put, List.setIfInBounds_toArray, List.set_cons_zero, List.set_cons_succ, i64_w, i32_w]
            rfl
          refine pure_ (i := 15) (N := some 28) (v := ?_) (a' := ?_) #[true, true, true, true, true, true, true, true, true, true, true, true, true, true, true, true, false] rfl rfl (any_of HT_.out (by kernel_rfl)) (fun _ _ _ h => h) (Or.inl ⟨by rfl, ?_⟩) ?_ ?_
          rotate_left
          · intro w'
            go_simp
            with_reducible rfl
          rotate_left
          · simp only [Act.put, List.setIfInBounds_toArray, List.set_cons_zero, List.set_cons_succ, i64_w, i32_w]
            rfl
          refine pure_ (i := 16) (N := some 4) (v := ?_) (a' := ?_) #[true, true, true, true, true, true, true, true, true, true, true, true, true, true, true, true, true] rfl rfl (any_of HT_.out (by kernel_rfl)) (fun _ _ _ h => h) (Or.inl ⟨by rfl, ?_⟩) ?_ ?_
          rotate_left
          · intro w'
            go_simp
            with_reducible rfl
          rotate_left
          · simp only [Act.put, List.setIfInBounds_toArray, List.set_cons_zero, List.set_cons_succ, i64_w, i32_w]
            rfl
          refine done_ (done_of HT_.out (by kernel_rfl)) ?_
          try go_wp2
          go_ret
          exact ⟨by first | rfl | (simp [errW_none, errW_some] <;> rfl) | (simp [*, errW_none, errW_some] <;> rfl) | (simp [bneNil]; done), by repeat (first | (with_reducible first | exact HB.out | apply below_alloc | apply pw_below_drewN | apply below_drew1 | refine below_set ?_ GE193.out | refine below_set ?_ GE194.out) | exact HB.out)⟩
        · replace c19 := Bool.eq_false_iff.mpr c19
          subst c19
          have H1 : (some true) = some r := by rw [if_neg (show ¬ (false = true) by decide)] at H; exact H
          clear H
          have H := H1
          clear H1
          obtain rfl := Option.some.inj H
          try go_wp2
          have n0_ := Aside0.mk (blk_drew BK193.out)
          have n1_ := Aside0.mk (blk_drew BK194.out)
          have n2_ := Aside0.mk (below_drew1 HB.out)
          clear BK193
          clear BK194
          clear HB
          have BK193 := n0_
          have BK194 := n1_
          have HB := n2_
          clear n0_ n1_ n2_
          refine start_ (n := 17) (S := fun w' => w'.cell? ⟨gb193, 0, none⟩ = some (.int .u64 a0_0) ∧ w'.cell? ⟨gb193, 1, none⟩ = some (.int .u64 a0_1) ∧ w'.cell? ⟨gb193, 2, none⟩ = some (.int .u64 a0_2) ∧ w'.cell? ⟨gb193, 3, none⟩ = some (.string a0_3) ∧ w'.cell? ⟨gb193, 4, none⟩ = some (.string a0_4) ∧ w'.cell? ⟨gb194, 0, none⟩ = some (.int .u64 a1_0) ∧ w'.cell? ⟨gb194, 1, none⟩ = some (.int .u64 a1_1) ∧ w'.cell? ⟨gb194, 2, none⟩ = some (.int .u64 a1_2) ∧ w'.cell? ⟨gb194, 3, none⟩ = some (.string a1_3) ∧ w'.cell? ⟨gb194, 4, none⟩ = some (.string a1_4)) (ds := []) #[false, false, false, false, false, false, false, false, false, false, false, false, false, false, false, false, false] (by kernel_rfl) rfl rfl ⟨(blk_cell BK193.out 0).trans rfl, (blk_cell BK193.out 1).trans rfl, (blk_cell BK193.out 2).trans rfl, (blk_cell BK193.out 3).trans rfl, (blk_cell BK193.out 4).trans rfl, (blk_cell BK194.out 0).trans rfl, (blk_cell BK194.out 1).trans rfl, (blk_cell BK194.out 2).trans rfl, (blk_cell BK194.out 3).trans rfl, (blk_cell BK194.out 4).trans rfl⟩ (fun hHeld => ?_); refine with_tabW laws_FnSemverPrintsApart.tab3 laws_FnSemverPrintsApart.bits3 (fun HT_ HW_ => ?_)
          generalize wc.drew = w29 at BK193 BK194 HB hHeld ⊢
          refine take_ (i := 0) (N := some 13) (v := ?_) (a' := ?_) #[true, false, false, false, false, false, false, false, false, false, false, false, false, false, false, false, false] rfl rfl (take_ofW HT_.out HW_.out (by kernel_rfl)) (fun _ _ _ h => h) (Or.inl ⟨by rfl, ?_⟩) hHeld ?_ ?_
          rotate_left
          · rintro w' ⟨s0, s1, s2, s3, s4, s5, s6, s7, s8, s9⟩
            go_simp
            with_reducible rfl
          rotate_left
          · simp only [Act.put, List.setIfInBounds_toArray, List.set_cons_zero, List.set_cons_succ, i64_w, i32_w]
            rfl
          refine take_ (i := 1) (N := some 14) (v := ?_) (a' := ?_) #[true, true, false, false, false, false, false, false, false, false, false, false, false, false, false, false, false] rfl rfl (take_ofW HT_.out HW_.out (by kernel_rfl)) (fun _ _ _ h => h) (Or.inl ⟨by rfl, ?_⟩) hHeld ?_ ?_
          rotate_left
          · rintro w' ⟨s0, s1, s2, s3, s4, s5, s6, s7, s8, s9⟩
            go_simp
            with_reducible rfl
          rotate_left
          · simp only [Act.put, List.setIfInBounds_toArray, List.set_cons_zero, List.set_cons_succ, i64_w, i32_w]
            rfl
          refine one_ (i := 2) (N := some 15) #[true, true, true, false, false, false, false, false, false, false, false, false, false, false, false, false, false] rfl rfl (one_of HT_.out (by kernel_rfl)) (by decide) (fun K hK => ?_)
          refine Kd.R_lit_step k28 _ 28 ?hg (N := 15) ?hd (xs := ([(⟨a0_0, a0_1, a0_2, a0_3, a0_4⟩ : S28), (⟨a1_0, a1_1, a1_2, a1_3, a1_4⟩ : S28)] : List (S28))) (inner := [.int .u64 a0_0, .int .u64 a0_1, .int .u64 a0_2, .string a0_3, .string a0_4, .int .u64 a1_0, .int .u64 a1_1, .int .u64 a1_2, .string a1_3, .string a1_4]) (ok := fun _ => True) (okp := fun _ => True) ?hr ?hp (fun _ hk => hk) trivial (Below.refl _ _) (Nat.le_refl _) (by simp) ?_; (case hd => rfl); (case hg => rfl); (case hr => first | (go_simp; done) | (go_simp; rfl) | (go_simp; simp [u8w]; done)); (case hp => exact (Reps.c5 (show Kd.M k28 _ _ _ (⟨a0_0, a0_1, a0_2, a0_3, a0_4⟩ : S28) [.int .u64 a0_0, .int .u64 a0_1, .int .u64 a0_2, .string a0_3, .string a0_4] from (k28_mkM _ _ _ (⟨a0_0, a0_1, a0_2, a0_3, a0_4⟩ : S28) )) (Reps.c5 (show Kd.M k28 _ _ _ (⟨a1_0, a1_1, a1_2, a1_3, a1_4⟩ : S28) [.int .u64 a1_0, .int .u64 a1_1, .int .u64 a1_2, .string a1_3, .string a1_4] from (k28_mkM _ _ _ (⟨a1_0, a1_1, a1_2, a1_3, a1_4⟩ : S28) )) (Reps.none _ _))))
          intro v198 w30 ho31 hb hg_ hnew_
          clear hg_ hnew_
          (first | rw [← Ny197.out] at ho31 | (simp only [Int.reduceToNat] at ho31; rw [← Ny197.out] at ho31))
          have n0_ := Aside0.mk (Kd.R_lower (Kd.R_newB (Kd.R_newB ho31 (g := gb193) (o := .cells #[.int .u64 a0_0, .int .u64 a0_1, .int .u64 a0_2, .string a0_3, .string a0_4] 28 (0, 0)) (by (with_reducible repeat (first | refine blk_drewN ?_ _ | refine blk_drew ?_ | refine blk_alloc ?_ _)); exact BK193.out)) (g := gb194) (o := .cells #[.int .u64 a1_0, .int .u64 a1_1, .int .u64 a1_2, .string a1_3, .string a1_4] 28 (0, 0)) (by (with_reducible repeat (first | refine blk_drewN ?_ _ | refine blk_drew ?_ | refine blk_alloc ?_ _)); exact BK194.out)) (below_size (by repeat (first | (with_reducible first | exact HB.out | apply below_alloc | apply pw_below_drewN | apply below_drew1 | refine below_set ?_ GE193.out | refine below_set ?_ GE194.out) | exact HB.out))))
          have n1_ := Aside0.mk (blk_below (g := gb193) (o := .cells #[.int .u64 a0_0, .int .u64 a0_1, .int .u64 a0_2, .string a0_3, .string a0_4] 28 (0, 0)) (by (with_reducible repeat (first | refine blk_drewN ?_ _ | refine blk_drew ?_ | refine blk_alloc ?_ _)); exact BK193.out) hb)
          have n2_ := Aside0.mk (blk_below (g := gb194) (o := .cells #[.int .u64 a1_0, .int .u64 a1_1, .int .u64 a1_2, .string a1_3, .string a1_4] 28 (0, 0)) (by (with_reducible repeat (first | refine blk_drewN ?_ _ | refine blk_drew ?_ | refine blk_alloc ?_ _)); exact BK194.out) hb)
          have n3_ := Aside0.mk (below_step (by repeat (first | (with_reducible first | exact HB.out | apply below_alloc | apply pw_below_drewN | apply below_drew1 | refine below_set ?_ GE193.out | refine below_set ?_ GE194.out) | exact HB.out)) hb)
          clear BK193
          clear BK194
          clear HB
          have HO199 := n0_
          have BK193 := n1_
          have BK194 := n2_
          have HB := n3_
          clear n0_ n1_ n2_ n3_
          clear hb ho31
          obtain ⟨Ao32, co32, eo32⟩ := Kd.R_slice HO199.out
          (first | subst eo32 | (injection eo32 with f1_ f2_ f3_; have f4_ := f1_.symm; have f5_ := f3_.symm; clear f1_ f2_ f3_; subst f4_; subst f5_))
          refine hK.out _ _ ⟨(blk_cell BK193.out 0).trans rfl, (blk_cell BK193.out 1).trans rfl, (blk_cell BK193.out 2).trans rfl, (blk_cell BK193.out 3).trans rfl, (blk_cell BK193.out 4).trans rfl, (blk_cell BK194.out 0).trans rfl, (blk_cell BK194.out 1).trans rfl, (blk_cell BK194.out 2).trans rfl, (blk_cell BK194.out 3).trans rfl, (blk_cell BK194.out 4).trans rfl⟩ (fun hHeld => ?_)
          clear hK K
          refine norm_ (a' := ?_) ?_ ?_
          rotate_left
          · show Act.put _ (some 15) _ = _
            simp only [Act.put, List.setIfInBounds_toArray, List.set_cons_zero, List.set_cons_succ, i64_w, i32_w]
            rfl
          refine one_ (i := 3) (N := some 16) #[true, true, true, true, false, false, false, false, false, false, false, false, false, false, false, false, false] rfl rfl (one_of HT_.out (by kernel_rfl)) (by decide) (fun K hK => ?_)
          refine goes_ Tryd.func17 (by kernel_rfl) rfl #[.slice Ao32 y197.length co32] (by rfl) rfl rfl (by (try simp only [List.map_toArray, List.map_cons, List.map_nil]); first | done | rfl | (simp only [List.length_drop, List.length_take]; rfl)) ?_
          with_reducible refine (laws_svGood.calls kj2 _ _ y197 false _ ?side1 ?side2 A18.out).mono ?_
          (case side1 => repeat (first | exact (Kd.R_reads' HO199.out).2.2 | (with_reducible refine Kd.C_alloc ?_ _) | (with_reducible refine Kd.C_drewN ?_ _) | (with_reducible refine Kd.C_drew ?_)))
          (case side2 => exact (Kd.R_reads' HO199.out).2.1)
          rintro e w33 ⟨rfl, hb⟩
          refine ⟨_, rfl, ?_⟩
          have n0_ := Aside0.mk (Kd.R_below (by (with_reducible repeat (first | apply Kd.R_alloc | apply Kd.R_drewN | apply Kd.R_drew)); exact HO199.out) hb)
          have n1_ := Aside0.mk (blk_below (g := gb193) (o := .cells #[.int .u64 a0_0, .int .u64 a0_1, .int .u64 a0_2, .string a0_3, .string a0_4] 28 (0, 0)) (by (with_reducible repeat (first | refine blk_drewN ?_ _ | refine blk_drew ?_ | refine blk_alloc ?_ _)); exact BK193.out) hb)
          have n2_ := Aside0.mk (blk_below (g := gb194) (o := .cells #[.int .u64 a1_0, .int .u64 a1_1, .int .u64 a1_2, .string a1_3, .string a1_4] 28 (0, 0)) (by (with_reducible repeat (first | refine blk_drewN ?_ _ | refine blk_drew ?_ | refine blk_alloc ?_ _)); exact BK194.out) hb)
          have n3_ := Aside0.mk (below_step (by repeat (first | (with_reducible first | exact HB.out | apply below_alloc | apply pw_below_drewN | apply below_drew1 | refine below_set ?_ GE193.out | refine below_set ?_ GE194.out) | exact HB.out)) hb)
          clear HO199
          clear BK193
          clear BK194
          clear HB
          have HO199 := n0_
          have BK193 := n1_
          have BK194 := n2_
          have HB := n3_
          clear n0_ n1_ n2_ n3_
          (try clear hb)
          (try clear hb2)
          (try clear hk)
          (try clear hi)
          refine hK.out _ _ ⟨(blk_cell BK193.out 0).trans rfl, (blk_cell BK193.out 1).trans rfl, (blk_cell BK193.out 2).trans rfl, (blk_cell BK193.out 3).trans rfl, (blk_cell BK193.out 4).trans rfl, (blk_cell BK194.out 0).trans rfl, (blk_cell BK194.out 1).trans rfl, (blk_cell BK194.out 2).trans rfl, (blk_cell BK194.out 3).trans rfl, (blk_cell BK194.out 4).trans rfl⟩ (fun hHeld => ?_)
          clear hK K
          refine norm_ (a' := ?_) ?_ ?_
          rotate_left
          · show Act.put _ (some 16) _ = _
            simp only [Act.put, List.setIfInBounds_toArray, List.set_cons_zero, List.set_cons_succ, i64_w, i32_w]
            rfl
          refine pure_ (i := 4) (N := some 17) (v := ?_) (a' := ?_) #[true, true, true, true, true, false, false, false, false, false, false, false, false, false, false, false, false] rfl rfl (any_of HT_.out (by kernel_rfl)) (fun _ _ _ h => h) (Or.inl ⟨by rfl, ?_⟩) ?_ ?_
          rotate_left
          · intro w'
            go_simp
            with_reducible rfl
          rotate_left
          · simp only [Act.put, List.setIfInBounds_toArray, List.set_cons_zero, List.set_cons_succ, i64_w, i32_w]
            rfl
          refine pure_ (i := 5) (N := some 18) (v := ?_) (a' := ?_) #[true, true, true, true, true, true, false, false, false, false, false, false, false, false, false, false, false] rfl rfl (any_of HT_.out (by kernel_rfl)) (fun _ _ _ h => h) (Or.inl ⟨by rfl, ?_⟩) ?_ ?_
          rotate_left
          · intro w'
            go_simp
            with_reducible rfl
          rotate_left
          · simp only [Act.put, List.setIfInBounds_toArray, List.set_cons_zero, List.set_cons_succ, i64_w, i32_w]
            rfl
          refine pure_ (i := 6) (N := some 19) (v := undef) (a' := ?_) #[true, true, true, true, true, true, true, false, false, false, false, false, false, false, false, false, false] rfl rfl (any_of HT_.out (by kernel_rfl)) (fun _ _ _ h => h) (Or.inr ⟨by rfl, rfl⟩) ?_ ?_
          rotate_left
          · simp only [Act.put, List.setIfInBounds_toArray, List.set_cons_zero, List.set_cons_succ, i64_w, i32_w]
            rfl
          refine pure_ (i := 7) (N := some 20) (v := undef) (a' := ?_) #[true, true, true, true, true, true, true, true, false, false, false, false, false, false, false, false, false] rfl rfl (any_of HT_.out (by kernel_rfl)) (fun _ _ _ h => h) (Or.inr ⟨by rfl, rfl⟩) ?_ ?_
          rotate_left
          · simp only [Act.put, List.setIfInBounds_toArray, List.set_cons_zero, List.set_cons_succ, i64_w, i32_w]
            rfl
          refine pure_ (i := 8) (N := some 21) (v := undef) (a' := ?_) #[true, true, true, true, true, true, true, true, true, false, false, false, false, false, false, false, false] rfl rfl (any_of HT_.out (by kernel_rfl)) (fun _ _ _ h => h) (Or.inr ⟨by rfl, rfl⟩) ?_ ?_
          rotate_left
          · simp only [Act.put, List.setIfInBounds_toArray, List.set_cons_zero, List.set_cons_succ, i64_w, i32_w]
            rfl
          refine pure_ (i := 9) (N := some 22) (v := undef) (a' := ?_) #[true, true, true, true, true, true, true, true, true, true, false, false, false, false, false, false, false] rfl rfl (any_of HT_.out (by kernel_rfl)) (fun _ _ _ h => h) (Or.inr ⟨by rfl, rfl⟩) ?_ ?_
          rotate_left
          · simp only [Act.put, List.setIfInBounds_toArray, List.set_cons_zero, List.set_cons_succ, i64_w, i32_w]
            rfl
          refine pure_ (i := 10) (N := some 23) (v := undef) (a' := ?_) #[true, true, true, true, true, true, true, true, true, true, true, false, false, false, false, false, false] rfl rfl (any_of HT_.out (by kernel_rfl)) (fun _ _ _ h => h) (Or.inr ⟨by rfl, rfl⟩) ?_ ?_
          rotate_left
          · simp only [Act.put, List.setIfInBounds_toArray, List.set_cons_zero, List.set_cons_succ, i64_w, i32_w]
            rfl
          refine pure_ (i := 11) (N := some 24) (v := undef) (a' := ?_) #[true, true, true, true, true, true, true, true, true, true, true, true, false, false, false, false, false] rfl rfl (any_of HT_.out (by kernel_rfl)) (fun _ _ _ h => h) (Or.inr ⟨by rfl, rfl⟩) ?_ ?_
          rotate_left
          · simp only [Act.put, List.setIfInBounds_toArray, List.set_cons_zero, List.set_cons_succ, i64_w, i32_w]
            rfl
          refine pure_ (i := 12) (N := some 25) (v := undef) (a' := ?_) #[true, true, true, true, true, true, true, true, true, true, true, true, true, false, false, false, false] rfl rfl (any_of HT_.out (by kernel_rfl)) (fun _ _ _ h => h) (Or.inr ⟨by rfl, rfl⟩) ?_ ?_
          rotate_left
          · simp only [Act.put, List.setIfInBounds_toArray, List.set_cons_zero, List.set_cons_succ, i64_w, i32_w]
            rfl
          refine pure_ (i := 13) (N := some 26) (v := undef) (a' := ?_) #[true, true, true, true, true, true, true, true, true, true, true, true, true, true, false, false, false] rfl rfl (any_of HT_.out (by kernel_rfl)) (fun _ _ _ h => h) (Or.inr ⟨by rfl, rfl⟩) ?_ ?_
          rotate_left
          · simp only [Act.put, List.setIfInBounds_toArray, List.set_cons_zero, List.set_cons_succ, i64_w, i32_w]
            rfl
          refine pure_ (i := 14) (N := some 27) (v := undef) (a' := ?_) #[true, true, true, true, true, true, true, true, true, true, true, true, true, true, true, false, false] rfl rfl (any_of HT_.out (by kernel_rfl)) (fun _ _ _ h => h) (Or.inr ⟨by rfl, rfl⟩) ?_ ?_
          rotate_left
          · simp only [Act.put, List.setIfInBounds_toArray, List.set_cons_zero, List.set_cons_succ, i64_w, i32_w]
            rfl
          refine pure_ (i := 15) (N := some 28) (v := ?_) (a' := ?_) #[true, true, true, true, true, true, true, true, true, true, true, true, true, true, true, true, false] rfl rfl (any_of HT_.out (by kernel_rfl)) (fun _ _ _ h => h) (Or.inl ⟨by rfl, ?_⟩) ?_ ?_
          rotate_left
          · intro w'
            go_simp
            with_reducible rfl
          rotate_left
          · simp only [Act.put, List.setIfInBounds_toArray, List.set_cons_zero, List.set_cons_succ, i64_w, i32_w]
            rfl
          refine pure_ (i := 16) (N := some 4) (v := ?_) (a' := ?_) #[true, true, true, true, true, true, true, true, true, true, true, true, true, true, true, true, true] rfl rfl (any_of HT_.out (by kernel_rfl)) (fun _ _ _ h => h) (Or.inl ⟨by rfl, ?_⟩) ?_ ?_
          rotate_left
          · intro w'
            go_simp
            with_reducible rfl
          rotate_left
          · simp only [Act.put, List.setIfInBounds_toArray, List.set_cons_zero, List.set_cons_succ, i64_w, i32_w]
            rfl
          refine done_ (done_of HT_.out (by kernel_rfl)) ?_
          try go_wp2
          go_ret
          exact ⟨by first | rfl | (simp [errW_none, errW_some] <;> rfl) | (simp [*, errW_none, errW_some] <;> rfl) | (simp [bneNil]; done), by repeat (first | (with_reducible first | exact HB.out | apply below_alloc | apply pw_below_drewN | apply below_drew1 | refine below_set ?_ GE193.out | refine below_set ?_ GE194.out) | exact HB.out)⟩

end Go.Proofs.YtekmeoemnekmcaaDoor.PX
