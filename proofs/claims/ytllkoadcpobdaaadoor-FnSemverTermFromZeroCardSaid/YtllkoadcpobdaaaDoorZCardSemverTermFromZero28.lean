/- The row and the tied card of FnSemverTermFromZero, out of its printed walk and its plain law. For every input that the statement lets in. -/
import Derived.Test.YtllkoadcpobdaaaDoorZCardSemverTermFromZero6
import Derived.Test.YtllkoadcpobdaaaDoorZCardSemverTermFromZero8
import Derived.Test.YtllkoadcpobdaaaDoorZCardSemverTermFromZero9
import Derived.Test.YtllkoadcpobdaaaDoorZCardSemverTermFromZero23
import Derived.Test.YtllkoadcpobdaaaDoorZCardSemverTermFromZero24
namespace Go.Proofs.YtllkoadcpobdaaaDoor.PX

open Go.RowKit Go.Proofs.YtllkoadcpobdaaaDoorW.PrintWords Go.Proofs.YtllkoadcpobdaaaDoorW.PrintLast Go.Proofs.YtllkoadcpobdaaaDoorW.PrintMore

attribute [local go_sem] max2_int min2_int max_two min_two max_three min_three max_four min_four   -- for this text's walks alone

set_option linter.unusedVariables false

set_option linter.unusedSimpArgs false

def laws_FnSemverTermFromZero.j0 : Nat → Bool → Int → Int → Int → ByteArray → ByteArray → Int → Int → Int → ByteArray → ByteArray → Option (Bool)
  | 0, _, _, _, _, _, _, _, _, _, _, _ => none
  | k + 1, x14, x420000, x420001, x420002, x420003, x420004, x421000, x421001, x421002, x421003, x421004 => if x14 = true then (some true) else ((laws_svGood.f k (([(⟨x421000, x421001, x421002, x421003, x421004⟩ : S26)] : List (S26)))).bind fun t426 => (if t426 = true then ((laws_svPre.f x420000 x420001 x420002 x420003 x420004 (⟨#[48]⟩ : ByteArray)).bind fun bt427 => ((laws_stTerm.f 4 bt427.1 bt427.2.1 bt427.2.2.1 bt427.2.2.2.1 bt427.2.2.2.2 3).bind fun bt432 => ((spec_CompareNumbers.f x421000 x421001 x421002 x421003 x421004 x420000 x420001 x420002 x420003 x420004 3).bind fun t438 => ((impl_TermHolds.f bt432.1 bt432.2.1 bt432.2.2.1 bt432.2.2.2.1 bt432.2.2.2.2.1 bt432.2.2.2.2.2 x421000 x421001 x421002 x421003 x421004 true).bind fun t440 => (if (t440 == (decide (t438 ≥ 0))) = true then ((impl_TermsHold.f (([(([(⟨bt432.1, bt432.2.1, bt432.2.2.1, bt432.2.2.2.1, bt432.2.2.2.2.1, bt432.2.2.2.2.2⟩ : S24)] : List (S24)))] : List (List (S24)))) x421000 x421001 x421002 x421003 x421004 false).bind fun t447 => (some (t447 == (decide (t438 ≥ 0))))) else (some false)))))) else (some true)))

def laws_FnSemverTermFromZero.f (k : Nat) (a0_0 : Int) (a0_1 : Int) (a0_2 : Int) (a0_3 : ByteArray) (a0_4 : ByteArray) (a1_0 : Int) (a1_1 : Int) (a1_2 : Int) (a1_3 : ByteArray) (a1_4 : ByteArray) : Option (Bool) := (laws_zzFits14.f a0_0 a0_1 a0_2 a0_3 a0_4).bind fun t421 => (if t421 = true then ((laws_zzFits14.f a1_0 a1_1 a1_2 a1_3 a1_4).bind fun t422 => (laws_FnSemverTermFromZero.j0 k (!t422) a0_0 a0_1 a0_2 a0_3 a0_4 a1_0 a1_1 a1_2 a1_3 a1_4)) else (laws_FnSemverTermFromZero.j0 k true a0_0 a0_1 a0_2 a0_3 a0_4 a1_0 a1_1 a1_2 a1_3 a1_4))

def laws_FnSemverTermFromZero.T5 : Bool × List (List Nat × List Nat) := (true, [([], []), ([0], [0]), ([1, 1], [1]), ([], []), ([], []), ([3, 4, 2], [3, 4]), ([5], [5]), ([], []), ([7, 2, 5, 0, 1, 2, 7], [2, 7]), ([6, 8, 0, 1, 2, 3, 4, 5, 6, 7, 8], [6])])

def laws_FnSemverTermFromZero.B5 : List Nat := [0, 1, 3, 0, 0, 31, 63, 0, 191, 511]

theorem laws_FnSemverTermFromZero.tab5 : rtab .any (opsOf Tryd.f9 5) = laws_FnSemverTermFromZero.T5 := by kernel_rfl

theorem laws_FnSemverTermFromZero.bits5 : waitsOk laws_FnSemverTermFromZero.T5.2 laws_FnSemverTermFromZero.B5 = true := by kernel_rfl

set_option maxHeartbeats 80000000 in
set_option maxRecDepth 100000 in
theorem laws_FnSemverTermFromZero.calls (k : Nat) (a0_0 : Int) (a0_1 : Int) (a0_2 : Int) (a0_3 : ByteArray) (a0_4 : ByteArray) (a1_0 : Int) (a1_1 : Int) (a1_2 : Int) (a1_3 : ByteArray) (a1_4 : ByteArray) (r : Bool) (w : World) (hStd : Std w) (h : laws_FnSemverTermFromZero.f k a0_0 a0_1 a0_2 a0_3 a0_4 a1_0 a1_1 a1_2 a1_3 a1_4 = some r) :
  Calls Tryd.prog 9 #[.agg #[.int .u64 a0_0, .int .u64 a0_1, .int .u64 a0_2, .string a0_3, .string a0_4], .agg #[.int .u64 a1_0, .int .u64 a1_1, .int .u64 a1_2, .string a1_3, .string a1_4]] w fun e w' => e = .returned (.bool r) ∧ Below w.heap.size w w' := by
 have hu26 := Tryd.underlying26
 have hu24 := Tryd.underlying24
 have HStd := Aside0.mk hStd
 clear hStd
 have HB := Aside0.mk (Below.refl w.heap.size w)
 have H : ((laws_zzFits14.f a0_0 a0_1 a0_2 a0_3 a0_4).bind fun t421 => (if t421 = true then ((laws_zzFits14.f a1_0 a1_1 a1_2 a1_3 a1_4).bind fun t422 => (laws_FnSemverTermFromZero.j0 k (!t422) a0_0 a0_1 a0_2 a0_3 a0_4 a1_0 a1_1 a1_2 a1_3 a1_4)) else (laws_FnSemverTermFromZero.j0 k true a0_0 a0_1 a0_2 a0_3 a0_4 a1_0 a1_1 a1_2 a1_3 a1_4))) = some r := h
 clear h
 have HC3 := Aside0.mk H
 clear H
 go_enter Tryd.func9, Tryd.ntmps9
 go_upto_region 1 with (first | ((with_reducible refine gate_dst (N := 2) rfl ?_); (try (refine gate_guard (by rfl) ?_; dsimp only)); refine box_event ?hg (N := 2) ?hd (cs := #[.int .u64 a0_0, .int .u64 a0_1, .int .u64 a0_2, .string a0_3, .string a0_4]) (t := 26) ?hr ?_; (case hd => rfl); (case hg => rfl); (case hr => first | (go_simp; done) | (go_simp; rfl) | (go_simp; simp [u8w]; done)); intro gb419 hg w4 hbox hb; have n0_ := Aside0.mk (below_step (by repeat (first | (with_reducible first | exact HB.out | apply below_alloc | apply pw_below_drewN | apply below_drew1) | exact HB.out)) hb); have n1_ := Aside0.mk (hbox); have n2_ := Aside0.mk ((by rw [hg]; exact (below_size (by repeat (first | (with_reducible first | exact HB.out | apply below_alloc | apply pw_below_drewN | apply below_drew1) | exact HB.out))) : w.heap.size ≤ gb419)); have n3_ := Aside0.mk ((by rw [hg]; exact (below_size (by repeat (first | (with_reducible first | exact HB.out | apply below_alloc | apply pw_below_drewN | apply below_drew1) | exact HB.out))) : w.heap.size ≤ gb419)); clear HB; have HB := n0_; have BK419 := n1_; have GW419 := n2_; have GE419 := n3_; clear n0_ n1_ n2_ n3_; clear hb hbox hg) | ((with_reducible refine gate_dst (N := 3) rfl ?_); (try (refine gate_guard (by rfl) ?_; dsimp only)); refine box_event ?hg (N := 3) ?hd (cs := #[.int .u64 a1_0, .int .u64 a1_1, .int .u64 a1_2, .string a1_3, .string a1_4]) (t := 26) ?hr ?_; (case hd => rfl); (case hg => rfl); (case hr => first | (go_simp; done) | (go_simp; rfl) | (go_simp; simp [u8w]; done)); intro gb420 hg w5 hbox hb; have n0_ := Aside0.mk (blk_below (g := gb419) (o := .cells #[.int .u64 a0_0, .int .u64 a0_1, .int .u64 a0_2, .string a0_3, .string a0_4] 26 (0, 0)) (by (with_reducible repeat (first | refine blk_drewN ?_ _ | refine blk_drew ?_ | refine blk_alloc ?_ _)); exact BK419.out) hb); have n1_ := Aside0.mk (below_step (by repeat (first | (with_reducible first | exact HB.out | apply below_alloc | apply pw_below_drewN | apply below_drew1 | refine below_set ?_ GE419.out) | exact HB.out)) hb); have n2_ := Aside0.mk (hbox); have n3_ := Aside0.mk ((by rw [hg]; exact (below_size (by repeat (first | (with_reducible first | exact HB.out | apply below_alloc | apply pw_below_drewN | apply below_drew1 | refine below_set ?_ GE419.out) | exact HB.out))) : w.heap.size ≤ gb420)); have n4_ := Aside0.mk ((by rw [hg]; exact (below_size (by repeat (first | (with_reducible first | exact HB.out | apply below_alloc | apply pw_below_drewN | apply below_drew1 | refine below_set ?_ GE419.out) | exact HB.out))) : w.heap.size ≤ gb420)); have n5_ := Aside0.mk ((by rw [hg]; exact Nat.ne_of_lt (blk_lt (g := gb419) (o := .cells #[.int .u64 a0_0, .int .u64 a0_1, .int .u64 a0_2, .string a0_3, .string a0_4] 26 (0, 0)) (by (with_reducible repeat (first | refine blk_drewN ?_ _ | refine blk_drew ?_ | refine blk_alloc ?_ _)); exact BK419.out)) : gb419 ≠ gb420)); have n6_ := Aside0.mk ((by rw [hg]; exact Nat.ne_of_gt (blk_lt (g := gb419) (o := .cells #[.int .u64 a0_0, .int .u64 a0_1, .int .u64 a0_2, .string a0_3, .string a0_4] 26 (0, 0)) (by (with_reducible repeat (first | refine blk_drewN ?_ _ | refine blk_drew ?_ | refine blk_alloc ?_ _)); exact BK419.out)) : gb420 ≠ gb419)); clear BK419; clear HB; have BK419 := n0_; have HB := n1_; have BK420 := n2_; have GW420 := n3_; have GE420 := n4_; have NB419_420 := n5_; have NB420_419 := n6_; clear n0_ n1_ n2_ n3_ n4_ n5_ n6_; clear hb hbox hg))
 (try simp only [Act.put, List.setIfInBounds_toArray, List.set_cons_zero, List.set_cons_succ])
 go_cut [14] (fun v14 wc => ∃ (kq : Nat) (x14_2 : Bool), v14 = .bool x14_2 ∧ Aside0 (laws_FnSemverTermFromZero.j0 kq x14_2 a0_0 a0_1 a0_2 a0_3 a0_4 a1_0 a1_1 a1_2 a1_3 a1_4 = some r) ∧ Aside0 (kq ≤ k) ∧ Aside0 (wc.heap[gb419]? = some (.cells #[.int .u64 a0_0, .int .u64 a0_1, .int .u64 a0_2, .string a0_3, .string a0_4] 26 (0, 0))) ∧ Aside0 (wc.heap[gb420]? = some (.cells #[.int .u64 a1_0, .int .u64 a1_1, .int .u64 a1_2, .string a1_3, .string a1_4] 26 (0, 0))) ∧ Aside0 (Below w.heap.size w wc))
 case first =>
  have H := HC3.out
  clear HC3
  replace H := Option.bind_eq_some_iff.mp H
  obtain ⟨t421, A60, H⟩ := H
  replace H : (if t421 = true then ((laws_zzFits14.f a1_0 a1_1 a1_2 a1_3 a1_4).bind fun t422 => (laws_FnSemverTermFromZero.j0 k (!t422) a0_0 a0_1 a0_2 a0_3 a0_4 a1_0 a1_1 a1_2 a1_3 a1_4)) else (laws_FnSemverTermFromZero.j0 k true a0_0 a0_1 a0_2 a0_3 a0_4 a1_0 a1_1 a1_2 a1_3 a1_4)) = some r := H
  have A6 := Aside0.mk A60
  clear A60
  by_cases c7 : t421 = true
  ·
   subst c7
   have H1 : ((laws_zzFits14.f a1_0 a1_1 a1_2 a1_3 a1_4).bind fun t422 => (laws_FnSemverTermFromZero.j0 k (!t422) a0_0 a0_1 a0_2 a0_3 a0_4 a1_0 a1_1 a1_2 a1_3 a1_4)) = some r := by rw [if_pos rfl] at H; exact H
   clear H
   have H := H1
   clear H1
   replace H := Option.bind_eq_some_iff.mp H
   obtain ⟨t422, A80, H⟩ := H
   replace H : (laws_FnSemverTermFromZero.j0 k (!t422) a0_0 a0_1 a0_2 a0_3 a0_4 a1_0 a1_1 a1_2 a1_3 a1_4) = some r := H
   have A8 := Aside0.mk A80
   clear A80
   have H' := Aside0.mk H
   clear H
   have hnb9 := NB419_420.out
   have hnc9 := NB420_419.out
   have hcz10_0 : w5.cell? ⟨gb419, 0, none⟩ = some (.int .u64 a0_0) := (blk_cell BK419.out 0).trans rfl
   have hcz10_1 : w5.cell? ⟨gb419, 1, none⟩ = some (.int .u64 a0_1) := (blk_cell BK419.out 1).trans rfl
   have hcz10_2 : w5.cell? ⟨gb419, 2, none⟩ = some (.int .u64 a0_2) := (blk_cell BK419.out 2).trans rfl
   have hcz10_3 : w5.cell? ⟨gb419, 3, none⟩ = some (.string a0_3) := (blk_cell BK419.out 3).trans rfl
   have hcz10_4 : w5.cell? ⟨gb419, 4, none⟩ = some (.string a0_4) := (blk_cell BK419.out 4).trans rfl
   have hfz10_0 := blk_frozen BK419.out 0
   have hfz10_1 := blk_frozen BK419.out 1
   have hfz10_2 := blk_frozen BK419.out 2
   have hfz10_3 := blk_frozen BK419.out 3
   have hfz10_4 := blk_frozen BK419.out 4
   go_wp2_with (first | ((with_reducible refine gate_callee (f := 14) rfl ?_); refine goesL_ (some 8) rfl rfl Tryd.func14 (by kernel_rfl) rfl #[.agg #[.int .u64 a0_0, .int .u64 a0_1, .int .u64 a0_2, .string a0_3, .string a0_4]] rfl (by (try simp only [List.map_toArray, List.map_cons, List.map_nil]); first | done | rfl | (simp only [List.length_drop, List.length_take]; rfl)) ?_; (with_reducible refine (laws_zzFits14.calls a0_0 a0_1 a0_2 a0_3 a0_4 true _ A6.out).mono ?_); rintro e w11 ⟨rfl, hb⟩; refine ⟨_, rfl, ?_⟩; have n0_ := Aside0.mk (blk_below (g := gb419) (o := .cells #[.int .u64 a0_0, .int .u64 a0_1, .int .u64 a0_2, .string a0_3, .string a0_4] 26 (0, 0)) (by (with_reducible repeat (first | refine blk_drewN ?_ _ | refine blk_drew ?_ | refine blk_alloc ?_ _)); exact BK419.out) hb); have n1_ := Aside0.mk (blk_below (g := gb420) (o := .cells #[.int .u64 a1_0, .int .u64 a1_1, .int .u64 a1_2, .string a1_3, .string a1_4] 26 (0, 0)) (by (with_reducible repeat (first | refine blk_drewN ?_ _ | refine blk_drew ?_ | refine blk_alloc ?_ _)); exact BK420.out) hb); have n2_ := Aside0.mk (below_step (by repeat (first | (with_reducible first | exact HB.out | apply below_alloc | apply pw_below_drewN | apply below_drew1 | refine below_set ?_ GE419.out | refine below_set ?_ GE420.out) | exact HB.out)) hb); clear BK419; clear BK420; clear HB; have BK419 := n0_; have BK420 := n1_; have HB := n2_; clear n0_ n1_ n2_; (try clear hb); (try clear hb2); (try clear hk); (try clear hi); have hcz12_0 : w11.cell? ⟨gb420, 0, none⟩ = some (.int .u64 a1_0) := (blk_cell BK420.out 0).trans rfl; have hcz12_1 : w11.cell? ⟨gb420, 1, none⟩ = some (.int .u64 a1_1) := (blk_cell BK420.out 1).trans rfl; have hcz12_2 : w11.cell? ⟨gb420, 2, none⟩ = some (.int .u64 a1_2) := (blk_cell BK420.out 2).trans rfl; have hcz12_3 : w11.cell? ⟨gb420, 3, none⟩ = some (.string a1_3) := (blk_cell BK420.out 3).trans rfl; have hcz12_4 : w11.cell? ⟨gb420, 4, none⟩ = some (.string a1_4) := (blk_cell BK420.out 4).trans rfl; have hfz12_0 := blk_frozen BK420.out 0; have hfz12_1 := blk_frozen BK420.out 1; have hfz12_2 := blk_frozen BK420.out 2; have hfz12_3 := blk_frozen BK420.out 3; have hfz12_4 := blk_frozen BK420.out 4) | (go_at_call 14; (with_reducible refine (laws_zzFits14.calls a1_0 a1_1 a1_2 a1_3 a1_4 t422 _ A8.out).mono ?_); rintro e w13 ⟨rfl, hb⟩; have n0_ := Aside0.mk (blk_below (g := gb419) (o := .cells #[.int .u64 a0_0, .int .u64 a0_1, .int .u64 a0_2, .string a0_3, .string a0_4] 26 (0, 0)) (by (with_reducible repeat (first | refine blk_drewN ?_ _ | refine blk_drew ?_ | refine blk_alloc ?_ _)); exact BK419.out) hb); have n1_ := Aside0.mk (blk_below (g := gb420) (o := .cells #[.int .u64 a1_0, .int .u64 a1_1, .int .u64 a1_2, .string a1_3, .string a1_4] 26 (0, 0)) (by (with_reducible repeat (first | refine blk_drewN ?_ _ | refine blk_drew ?_ | refine blk_alloc ?_ _)); exact BK420.out) hb); have n2_ := Aside0.mk (below_step (by repeat (first | (with_reducible first | exact HB.out | apply below_alloc | apply pw_below_drewN | apply below_drew1 | refine below_set ?_ GE419.out | refine below_set ?_ GE420.out) | exact HB.out)) hb); clear BK419; clear BK420; clear HB; have BK419 := n0_; have BK420 := n1_; have HB := n2_; clear n0_ n1_ n2_; (try clear hb); (try clear hb2); (try clear hk); (try clear hi)))
   go_meet
   case rel => exact ⟨_, (!t422), (by first | rfl | (simp; done) | (simp [*]; done)), H', ⟨by first | omega | exact Nat.le_refl _⟩, ⟨by (with_reducible repeat (first | refine blk_drewN ?_ _ | refine blk_drew ?_ | refine blk_alloc ?_ _)); exact BK419.out⟩, ⟨by (with_reducible repeat (first | refine blk_drewN ?_ _ | refine blk_drew ?_ | refine blk_alloc ?_ _)); exact BK420.out⟩, ⟨by repeat (first | (with_reducible first | exact HB.out | apply below_alloc | apply pw_below_drewN | apply below_drew1 | refine below_set ?_ GE419.out | refine below_set ?_ GE420.out) | exact HB.out)⟩⟩
  ·
   replace c7 := Bool.eq_false_iff.mpr c7
   subst c7
   have H1 : (laws_FnSemverTermFromZero.j0 k true a0_0 a0_1 a0_2 a0_3 a0_4 a1_0 a1_1 a1_2 a1_3 a1_4) = some r := by rw [if_neg (show ¬ (false = true) by decide)] at H; exact H
   clear H
   have H := H1
   clear H1
   have H' := Aside0.mk H
   clear H
   have hnb14 := NB419_420.out
   have hnc14 := NB420_419.out
   have hcz15_0 : w5.cell? ⟨gb419, 0, none⟩ = some (.int .u64 a0_0) := (blk_cell BK419.out 0).trans rfl
   have hcz15_1 : w5.cell? ⟨gb419, 1, none⟩ = some (.int .u64 a0_1) := (blk_cell BK419.out 1).trans rfl
   have hcz15_2 : w5.cell? ⟨gb419, 2, none⟩ = some (.int .u64 a0_2) := (blk_cell BK419.out 2).trans rfl
   have hcz15_3 : w5.cell? ⟨gb419, 3, none⟩ = some (.string a0_3) := (blk_cell BK419.out 3).trans rfl
   have hcz15_4 : w5.cell? ⟨gb419, 4, none⟩ = some (.string a0_4) := (blk_cell BK419.out 4).trans rfl
   have hfz15_0 := blk_frozen BK419.out 0
   have hfz15_1 := blk_frozen BK419.out 1
   have hfz15_2 := blk_frozen BK419.out 2
   have hfz15_3 := blk_frozen BK419.out 3
   have hfz15_4 := blk_frozen BK419.out 4
   go_wp2_with (first | ((with_reducible refine gate_callee (f := 14) rfl ?_); refine goesL_ (some 8) rfl rfl Tryd.func14 (by kernel_rfl) rfl #[.agg #[.int .u64 a0_0, .int .u64 a0_1, .int .u64 a0_2, .string a0_3, .string a0_4]] rfl (by (try simp only [List.map_toArray, List.map_cons, List.map_nil]); first | done | rfl | (simp only [List.length_drop, List.length_take]; rfl)) ?_; (with_reducible refine (laws_zzFits14.calls a0_0 a0_1 a0_2 a0_3 a0_4 false _ A6.out).mono ?_); rintro e w16 ⟨rfl, hb⟩; refine ⟨_, rfl, ?_⟩; have n0_ := Aside0.mk (blk_below (g := gb419) (o := .cells #[.int .u64 a0_0, .int .u64 a0_1, .int .u64 a0_2, .string a0_3, .string a0_4] 26 (0, 0)) (by (with_reducible repeat (first | refine blk_drewN ?_ _ | refine blk_drew ?_ | refine blk_alloc ?_ _)); exact BK419.out) hb); have n1_ := Aside0.mk (blk_below (g := gb420) (o := .cells #[.int .u64 a1_0, .int .u64 a1_1, .int .u64 a1_2, .string a1_3, .string a1_4] 26 (0, 0)) (by (with_reducible repeat (first | refine blk_drewN ?_ _ | refine blk_drew ?_ | refine blk_alloc ?_ _)); exact BK420.out) hb); have n2_ := Aside0.mk (below_step (by repeat (first | (with_reducible first | exact HB.out | apply below_alloc | apply pw_below_drewN | apply below_drew1 | refine below_set ?_ GE419.out | refine below_set ?_ GE420.out) | exact HB.out)) hb); clear BK419; clear BK420; clear HB; have BK419 := n0_; have BK420 := n1_; have HB := n2_; clear n0_ n1_ n2_; (try clear hb); (try clear hb2); (try clear hk); (try clear hi)))
   go_meet
   case rel => exact ⟨_, (true), (by first | rfl | (simp; done) | (simp [*]; done)), H', ⟨by first | omega | exact Nat.le_refl _⟩, ⟨by (with_reducible repeat (first | refine blk_drewN ?_ _ | refine blk_drew ?_ | refine blk_alloc ?_ _)); exact BK419.out⟩, ⟨by (with_reducible repeat (first | refine blk_drewN ?_ _ | refine blk_drew ?_ | refine blk_alloc ?_ _)); exact BK420.out⟩, ⟨by repeat (first | (with_reducible first | exact HB.out | apply below_alloc | apply pw_below_drewN | apply below_drew1 | refine below_set ?_ GE419.out | refine below_set ?_ GE420.out) | exact HB.out)⟩⟩
 case rest =>
  clear HC3
  try clear c1
  try clear p2
  try clear c7
  try clear c9
  try clear c14
  try clear hcz10_0
  try clear hcz10_1
  try clear hcz10_2
  try clear hcz10_3
  try clear hcz10_4
  try clear hcz12_0
  try clear hcz12_1
  try clear hcz12_2
  try clear hcz12_3
  try clear hcz12_4
  try clear hcz15_0
  try clear hcz15_1
  try clear hcz15_2
  try clear hcz15_3
  try clear hcz15_4
  try clear hfz10_0
  try clear hfz10_1
  try clear hfz10_2
  try clear hfz10_3
  try clear hfz10_4
  try clear hfz12_0
  try clear hfz12_1
  try clear hfz12_2
  try clear hfz12_3
  try clear hfz12_4
  try clear hfz15_0
  try clear hfz15_1
  try clear hfz15_2
  try clear hfz15_3
  try clear hfz15_4
  obtain ⟨kq, x14_2, rfl, HA, HJ2, BK419, BK420, HB⟩ := hcut
  cases kq with
  | zero => exact absurd HA.out (by simp [laws_FnSemverTermFromZero.j0])
  | succ kj2 =>
   have H := HA.out
   clear HA
   simp only [laws_FnSemverTermFromZero.j0] at H
   by_cases c17 : x14_2 = true
   ·
    subst c17
    have H1 : (some true) = some r := by rw [if_pos rfl] at H; exact H
    clear H
    have H := H1
    clear H1
    obtain rfl := Option.some.inj H
    go_wp2
    go_ret
    exact ⟨by first | rfl | (simp [errW_none, errW_some] <;> rfl) | (simp [*, errW_none, errW_some] <;> rfl) | (simp [bneNil]; done), by repeat (first | (with_reducible first | exact HB.out | apply below_alloc | apply pw_below_drewN | apply below_drew1 | refine below_set ?_ GE419.out | refine below_set ?_ GE420.out) | exact HB.out)⟩
   ·
    replace c17 := Bool.eq_false_iff.mpr c17
    subst c17
    have H1 : ((laws_svGood.f kj2 (([(⟨a1_0, a1_1, a1_2, a1_3, a1_4⟩ : S26)] : List (S26)))).bind fun t426 => (if t426 = true then ((laws_svPre.f a0_0 a0_1 a0_2 a0_3 a0_4 (⟨#[48]⟩ : ByteArray)).bind fun bt427 => ((laws_stTerm.f 4 bt427.1 bt427.2.1 bt427.2.2.1 bt427.2.2.2.1 bt427.2.2.2.2 3).bind fun bt432 => ((spec_CompareNumbers.f a1_0 a1_1 a1_2 a1_3 a1_4 a0_0 a0_1 a0_2 a0_3 a0_4 3).bind fun t438 => ((impl_TermHolds.f bt432.1 bt432.2.1 bt432.2.2.1 bt432.2.2.2.1 bt432.2.2.2.2.1 bt432.2.2.2.2.2 a1_0 a1_1 a1_2 a1_3 a1_4 true).bind fun t440 => (if (t440 == (decide (t438 ≥ 0))) = true then ((impl_TermsHold.f (([(([(⟨bt432.1, bt432.2.1, bt432.2.2.1, bt432.2.2.2.1, bt432.2.2.2.2.1, bt432.2.2.2.2.2⟩ : S24)] : List (S24)))] : List (List (S24)))) a1_0 a1_1 a1_2 a1_3 a1_4 false).bind fun t447 => (some (t447 == (decide (t438 ≥ 0))))) else (some false)))))) else (some true))) = some r := by rw [if_neg (show ¬ (false = true) by decide)] at H; exact H
    clear H
    have H := H1
    clear H1
    obtain ⟨y423, hy423⟩ : ∃ y_ : List (S26), y_ = (([(⟨a1_0, a1_1, a1_2, a1_3, a1_4⟩ : S26)] : List (S26))) := ⟨_, rfl⟩
    replace H : ((laws_svGood.f kj2 y423).bind fun t426 => (if t426 = true then ((laws_svPre.f a0_0 a0_1 a0_2 a0_3 a0_4 (⟨#[48]⟩ : ByteArray)).bind fun bt427 => ((laws_stTerm.f 4 bt427.1 bt427.2.1 bt427.2.2.1 bt427.2.2.2.1 bt427.2.2.2.2 3).bind fun bt432 => ((spec_CompareNumbers.f a1_0 a1_1 a1_2 a1_3 a1_4 a0_0 a0_1 a0_2 a0_3 a0_4 3).bind fun t438 => ((impl_TermHolds.f bt432.1 bt432.2.1 bt432.2.2.1 bt432.2.2.2.1 bt432.2.2.2.2.1 bt432.2.2.2.2.2 a1_0 a1_1 a1_2 a1_3 a1_4 true).bind fun t440 => (if (t440 == (decide (t438 ≥ 0))) = true then ((impl_TermsHold.f (([(([(⟨bt432.1, bt432.2.1, bt432.2.2.1, bt432.2.2.2.1, bt432.2.2.2.2.1, bt432.2.2.2.2.2⟩ : S24)] : List (S24)))] : List (List (S24)))) a1_0 a1_1 a1_2 a1_3 a1_4 false).bind fun t447 => (some (t447 == (decide (t438 ≥ 0))))) else (some false)))))) else (some true))) = some r := by first | (rw [hy423]; with_reducible exact H) | (have H2_ := (Option.bind_some _ _).symm.trans H; rw [hy423]; with_reducible exact H2_) | (have H2_ := (Option.bind_some _ _).symm.trans H; with_reducible exact H2_) | with_reducible exact H | (rw [hy423]; exact H) | exact H
    have Ny423 := Aside0.mk hy423
    clear hy423
    replace H := Option.bind_eq_some_iff.mp H
    obtain ⟨t426, A180, H⟩ := H
    replace H : (if t426 = true then ((laws_svPre.f a0_0 a0_1 a0_2 a0_3 a0_4 (⟨#[48]⟩ : ByteArray)).bind fun bt427 => ((laws_stTerm.f 4 bt427.1 bt427.2.1 bt427.2.2.1 bt427.2.2.2.1 bt427.2.2.2.2 3).bind fun bt432 => ((spec_CompareNumbers.f a1_0 a1_1 a1_2 a1_3 a1_4 a0_0 a0_1 a0_2 a0_3 a0_4 3).bind fun t438 => ((impl_TermHolds.f bt432.1 bt432.2.1 bt432.2.2.1 bt432.2.2.2.1 bt432.2.2.2.2.1 bt432.2.2.2.2.2 a1_0 a1_1 a1_2 a1_3 a1_4 true).bind fun t440 => (if (t440 == (decide (t438 ≥ 0))) = true then ((impl_TermsHold.f (([(([(⟨bt432.1, bt432.2.1, bt432.2.2.1, bt432.2.2.2.1, bt432.2.2.2.2.1, bt432.2.2.2.2.2⟩ : S24)] : List (S24)))] : List (List (S24)))) a1_0 a1_1 a1_2 a1_3 a1_4 false).bind fun t447 => (some (t447 == (decide (t438 ≥ 0))))) else (some false)))))) else (some true)) = some r := H
    have A18 := Aside0.mk A180
    clear A180
    by_cases c19 : t426 = true
    ·
     subst c19
     have H1 : ((laws_svPre.f a0_0 a0_1 a0_2 a0_3 a0_4 (⟨#[48]⟩ : ByteArray)).bind fun bt427 => ((laws_stTerm.f 4 bt427.1 bt427.2.1 bt427.2.2.1 bt427.2.2.2.1 bt427.2.2.2.2 3).bind fun bt432 => ((spec_CompareNumbers.f a1_0 a1_1 a1_2 a1_3 a1_4 a0_0 a0_1 a0_2 a0_3 a0_4 3).bind fun t438 => ((impl_TermHolds.f bt432.1 bt432.2.1 bt432.2.2.1 bt432.2.2.2.1 bt432.2.2.2.2.1 bt432.2.2.2.2.2 a1_0 a1_1 a1_2 a1_3 a1_4 true).bind fun t440 => (if (t440 == (decide (t438 ≥ 0))) = true then ((impl_TermsHold.f (([(([(⟨bt432.1, bt432.2.1, bt432.2.2.1, bt432.2.2.2.1, bt432.2.2.2.2.1, bt432.2.2.2.2.2⟩ : S24)] : List (S24)))] : List (List (S24)))) a1_0 a1_1 a1_2 a1_3 a1_4 false).bind fun t447 => (some (t447 == (decide (t438 ≥ 0))))) else (some false)))))) = some r := by rw [if_pos rfl] at H; exact H
     clear H
     have H := H1
     clear H1
     replace H := Option.bind_eq_some_iff.mp H
     obtain ⟨⟨t427, t428, t429, t430, t431⟩, A200, H⟩ := H
     replace H : ((laws_stTerm.f 4 t427 t428 t429 t430 t431 3).bind fun bt432 => ((spec_CompareNumbers.f a1_0 a1_1 a1_2 a1_3 a1_4 a0_0 a0_1 a0_2 a0_3 a0_4 3).bind fun t438 => ((impl_TermHolds.f bt432.1 bt432.2.1 bt432.2.2.1 bt432.2.2.2.1 bt432.2.2.2.2.1 bt432.2.2.2.2.2 a1_0 a1_1 a1_2 a1_3 a1_4 true).bind fun t440 => (if (t440 == (decide (t438 ≥ 0))) = true then ((impl_TermsHold.f (([(([(⟨bt432.1, bt432.2.1, bt432.2.2.1, bt432.2.2.2.1, bt432.2.2.2.2.1, bt432.2.2.2.2.2⟩ : S24)] : List (S24)))] : List (List (S24)))) a1_0 a1_1 a1_2 a1_3 a1_4 false).bind fun t447 => (some (t447 == (decide (t438 ≥ 0))))) else (some false))))) = some r := H
     have A20 := Aside0.mk A200
     clear A200
     replace H := Option.bind_eq_some_iff.mp H
     obtain ⟨⟨t432, t433, t434, t435, t436, t437⟩, A210, H⟩ := H
     replace H : ((spec_CompareNumbers.f a1_0 a1_1 a1_2 a1_3 a1_4 a0_0 a0_1 a0_2 a0_3 a0_4 3).bind fun t438 => ((impl_TermHolds.f t432 t433 t434 t435 t436 t437 a1_0 a1_1 a1_2 a1_3 a1_4 true).bind fun t440 => (if (t440 == (decide (t438 ≥ 0))) = true then ((impl_TermsHold.f (([(([(⟨t432, t433, t434, t435, t436, t437⟩ : S24)] : List (S24)))] : List (List (S24)))) a1_0 a1_1 a1_2 a1_3 a1_4 false).bind fun t447 => (some (t447 == (decide (t438 ≥ 0))))) else (some false)))) = some r := H
     have A21 := Aside0.mk A210
     clear A210
     replace H := Option.bind_eq_some_iff.mp H
     obtain ⟨t438, A220, H⟩ := H
     replace H : ((impl_TermHolds.f t432 t433 t434 t435 t436 t437 a1_0 a1_1 a1_2 a1_3 a1_4 true).bind fun t440 => (if (t440 == (decide (t438 ≥ 0))) = true then ((impl_TermsHold.f (([(([(⟨t432, t433, t434, t435, t436, t437⟩ : S24)] : List (S24)))] : List (List (S24)))) a1_0 a1_1 a1_2 a1_3 a1_4 false).bind fun t447 => (some (t447 == (decide (t438 ≥ 0))))) else (some false))) = some r := H
     have A22 := Aside0.mk A220
     clear A220
     replace H := Option.bind_eq_some_iff.mp H
     obtain ⟨t440, A230, H⟩ := H
     replace H : (if (t440 == (decide (t438 ≥ 0))) = true then ((impl_TermsHold.f (([(([(⟨t432, t433, t434, t435, t436, t437⟩ : S24)] : List (S24)))] : List (List (S24)))) a1_0 a1_1 a1_2 a1_3 a1_4 false).bind fun t447 => (some (t447 == (decide (t438 ≥ 0))))) else (some false)) = some r := H
     have A23 := Aside0.mk A230
     clear A230
     by_cases c24 : (t440 == (decide (t438 ≥ 0))) = true
     ·
      rw [if_pos c24] at H
      have c24b0 : (t440 == (decide (t438 ≥ 0))) = true := c24
      (try (have c24b1 : decide (t440 = (decide (t438 ≥ 0))) = true := by simpa using c24))
      (try (have c24b2 : (t440 == (decide (t438 ≥ 0))) = true := by simpa using c24))
      clear c24
      obtain ⟨y441, hy441⟩ : ∃ y_ : List (S24), y_ = (([(⟨t432, t433, t434, t435, t436, t437⟩ : S24)] : List (S24))) := ⟨_, rfl⟩
      replace H : ((impl_TermsHold.f (([y441] : List (List (S24)))) a1_0 a1_1 a1_2 a1_3 a1_4 false).bind fun t447 => (some (t447 == (decide (t438 ≥ 0))))) = some r := by first | (rw [hy441]; with_reducible exact H) | (have H2_ := (Option.bind_some _ _).symm.trans H; rw [hy441]; with_reducible exact H2_) | (have H2_ := (Option.bind_some _ _).symm.trans H; with_reducible exact H2_) | with_reducible exact H | (rw [hy441]; exact H) | exact H
      have Ny441 := Aside0.mk hy441
      clear hy441
      obtain ⟨y444, hy444⟩ : ∃ y_ : List (List (S24)), y_ = (([y441] : List (List (S24)))) := ⟨_, rfl⟩
      replace H : ((impl_TermsHold.f y444 a1_0 a1_1 a1_2 a1_3 a1_4 false).bind fun t447 => (some (t447 == (decide (t438 ≥ 0))))) = some r := by first | (rw [hy444]; with_reducible exact H) | (have H2_ := (Option.bind_some _ _).symm.trans H; rw [hy444]; with_reducible exact H2_) | (have H2_ := (Option.bind_some _ _).symm.trans H; with_reducible exact H2_) | with_reducible exact H | (rw [hy444]; exact H) | exact H
      have Ny444 := Aside0.mk hy444
      clear hy444
      replace H := Option.bind_eq_some_iff.mp H
      obtain ⟨t447, A250, H⟩ := H
      replace H : (some (t447 == (decide (t438 ≥ 0)))) = some r := H
      have A25 := Aside0.mk A250
      clear A250
      obtain rfl := Option.some.inj H
      have hnb26 := NB420_419.out
      have hnc26 := NB419_420.out
      have hcz27_0 : wc.cell? ⟨gb420, 0, none⟩ = some (.int .u64 a1_0) := (blk_cell BK420.out 0).trans rfl
      have hcz27_1 : wc.cell? ⟨gb420, 1, none⟩ = some (.int .u64 a1_1) := (blk_cell BK420.out 1).trans rfl
      have hcz27_2 : wc.cell? ⟨gb420, 2, none⟩ = some (.int .u64 a1_2) := (blk_cell BK420.out 2).trans rfl
      have hcz27_3 : wc.cell? ⟨gb420, 3, none⟩ = some (.string a1_3) := (blk_cell BK420.out 3).trans rfl
      have hcz27_4 : wc.cell? ⟨gb420, 4, none⟩ = some (.string a1_4) := (blk_cell BK420.out 4).trans rfl
      have hfz27_0 := blk_frozen BK420.out 0
      have hfz27_1 := blk_frozen BK420.out 1
      have hfz27_2 := blk_frozen BK420.out 2
      have hfz27_3 := blk_frozen BK420.out 3
      have hfz27_4 := blk_frozen BK420.out 4
      try go_wp2_with (first | ((with_reducible refine gate_dst (N := 16) rfl ?_); (try (refine gate_guard (by rfl) ?_; dsimp only)); refine Kd.R_lit k26 _ 26 ?hg (N := 16) ?hd (xs := ([(⟨a1_0, a1_1, a1_2, a1_3, a1_4⟩ : S26)] : List (S26))) (inner := [.int .u64 a1_0, .int .u64 a1_1, .int .u64 a1_2, .string a1_3, .string a1_4]) (ok := fun _ => True) (okp := fun _ => True) ?hr ?hp (fun _ hk => hk) trivial (Below.refl _ _) (Nat.le_refl _) (by simp) ?_; (case hd => rfl); (case hg => rfl); (case hr => first | (go_simp; done) | (go_simp; rfl) | (go_simp; simp [u8w]; done)); (case hp => exact (Reps.c5 (show Kd.M k26 _ _ _ (⟨a1_0, a1_1, a1_2, a1_3, a1_4⟩ : S26) [.int .u64 a1_0, .int .u64 a1_1, .int .u64 a1_2, .string a1_3, .string a1_4] from (k26_mkM _ _ _ (⟨a1_0, a1_1, a1_2, a1_3, a1_4⟩ : S26) )) (Reps.none _ _))); intro v424 w28 ho29 hb hg_ hnew_; clear hg_ hnew_; (first | rw [← Ny423.out] at ho29 | (simp only [Int.reduceToNat] at ho29; rw [← Ny423.out] at ho29)); have n0_ := Aside0.mk (Kd.R_lower (Kd.R_newB (Kd.R_newB ho29 (g := gb419) (o := .cells #[.int .u64 a0_0, .int .u64 a0_1, .int .u64 a0_2, .string a0_3, .string a0_4] 26 (0, 0)) (by (with_reducible repeat (first | refine blk_drewN ?_ _ | refine blk_drew ?_ | refine blk_alloc ?_ _)); exact BK419.out)) (g := gb420) (o := .cells #[.int .u64 a1_0, .int .u64 a1_1, .int .u64 a1_2, .string a1_3, .string a1_4] 26 (0, 0)) (by (with_reducible repeat (first | refine blk_drewN ?_ _ | refine blk_drew ?_ | refine blk_alloc ?_ _)); exact BK420.out)) (below_size (by repeat (first | (with_reducible first | exact HB.out | apply below_alloc | apply pw_below_drewN | apply below_drew1 | refine below_set ?_ GE419.out | refine below_set ?_ GE420.out) | exact HB.out)))); have n1_ := Aside0.mk (blk_below (g := gb419) (o := .cells #[.int .u64 a0_0, .int .u64 a0_1, .int .u64 a0_2, .string a0_3, .string a0_4] 26 (0, 0)) (by (with_reducible repeat (first | refine blk_drewN ?_ _ | refine blk_drew ?_ | refine blk_alloc ?_ _)); exact BK419.out) hb); have n2_ := Aside0.mk (blk_below (g := gb420) (o := .cells #[.int .u64 a1_0, .int .u64 a1_1, .int .u64 a1_2, .string a1_3, .string a1_4] 26 (0, 0)) (by (with_reducible repeat (first | refine blk_drewN ?_ _ | refine blk_drew ?_ | refine blk_alloc ?_ _)); exact BK420.out) hb); have n3_ := Aside0.mk (below_step (by repeat (first | (with_reducible first | exact HB.out | apply below_alloc | apply pw_below_drewN | apply below_drew1 | refine below_set ?_ GE419.out | refine below_set ?_ GE420.out) | exact HB.out)) hb); clear BK419; clear BK420; clear HB; have HO425 := n0_; have BK419 := n1_; have BK420 := n2_; have HB := n3_; clear n0_ n1_ n2_ n3_; clear hb ho29; obtain ⟨Ao30, co30, eo30⟩ := Kd.R_slice HO425.out; subst eo30) | ((with_reducible refine gate_callee (f := 16) rfl ?_); refine goesL_ (some 17) rfl rfl Tryd.func16 (by kernel_rfl) rfl #[.slice Ao30 y423.length co30] rfl (by (try simp only [List.map_toArray, List.map_cons, List.map_nil]); first | done | rfl | (simp only [List.length_drop, List.length_take]; rfl)) ?_; (with_reducible refine (laws_svGood.calls kj2 _ _ y423 true _ ?side1 ?side2 A18.out).mono ?_); (case side1 => repeat (first | exact (Kd.R_reads' HO425.out).2.2 | (with_reducible refine Kd.C_alloc ?_ _) | (with_reducible refine Kd.C_drewN ?_ _) | (with_reducible refine Kd.C_drew ?_))); (case side2 => exact (Kd.R_reads' HO425.out).2.1); rintro e w31 ⟨rfl, hb⟩; refine ⟨_, rfl, ?_⟩; have n0_ := Aside0.mk (Kd.R_below (by (with_reducible repeat (first | apply Kd.R_alloc | apply Kd.R_drewN | apply Kd.R_drew)); exact HO425.out) hb); have n1_ := Aside0.mk (blk_below (g := gb419) (o := .cells #[.int .u64 a0_0, .int .u64 a0_1, .int .u64 a0_2, .string a0_3, .string a0_4] 26 (0, 0)) (by (with_reducible repeat (first | refine blk_drewN ?_ _ | refine blk_drew ?_ | refine blk_alloc ?_ _)); exact BK419.out) hb); have n2_ := Aside0.mk (blk_below (g := gb420) (o := .cells #[.int .u64 a1_0, .int .u64 a1_1, .int .u64 a1_2, .string a1_3, .string a1_4] 26 (0, 0)) (by (with_reducible repeat (first | refine blk_drewN ?_ _ | refine blk_drew ?_ | refine blk_alloc ?_ _)); exact BK420.out) hb); have n3_ := Aside0.mk (below_step (by repeat (first | (with_reducible first | exact HB.out | apply below_alloc | apply pw_below_drewN | apply below_drew1 | refine below_set ?_ GE419.out | refine below_set ?_ GE420.out) | exact HB.out)) hb); clear HO425; clear BK419; clear BK420; clear HB; have HO425 := n0_; have BK419 := n1_; have BK420 := n2_; have HB := n3_; clear n0_ n1_ n2_ n3_; (try clear hb); (try clear hb2); (try clear hk); (try clear hi)))
      have n0_ := Aside0.mk (Kd.R_drew HO425.out)
      have n1_ := Aside0.mk (blk_drew BK419.out)
      have n2_ := Aside0.mk (blk_drew BK420.out)
      have n3_ := Aside0.mk (below_drew1 HB.out)
      clear HO425
      clear BK419
      clear BK420
      clear HB
      have HO425 := n0_
      have BK419 := n1_
      have BK420 := n2_
      have HB := n3_
      clear n0_ n1_ n2_ n3_
      refine start_ (n := 10) (S := fun w' => w'.cell? ⟨gb419, 0, none⟩ = some (.int .u64 a0_0) ∧ w'.cell? ⟨gb419, 1, none⟩ = some (.int .u64 a0_1) ∧ w'.cell? ⟨gb419, 2, none⟩ = some (.int .u64 a0_2) ∧ w'.cell? ⟨gb419, 3, none⟩ = some (.string a0_3) ∧ w'.cell? ⟨gb419, 4, none⟩ = some (.string a0_4) ∧ w'.cell? ⟨gb420, 0, none⟩ = some (.int .u64 a1_0) ∧ w'.cell? ⟨gb420, 1, none⟩ = some (.int .u64 a1_1) ∧ w'.cell? ⟨gb420, 2, none⟩ = some (.int .u64 a1_2) ∧ w'.cell? ⟨gb420, 3, none⟩ = some (.string a1_3) ∧ w'.cell? ⟨gb420, 4, none⟩ = some (.string a1_4)) (ds := []) #[false, false, false, false, false, false, false, false, false, false] (by kernel_rfl) rfl rfl ⟨(blk_cell BK419.out 0).trans rfl, (blk_cell BK419.out 1).trans rfl, (blk_cell BK419.out 2).trans rfl, (blk_cell BK419.out 3).trans rfl, (blk_cell BK419.out 4).trans rfl, (blk_cell BK420.out 0).trans rfl, (blk_cell BK420.out 1).trans rfl, (blk_cell BK420.out 2).trans rfl, (blk_cell BK420.out 3).trans rfl, (blk_cell BK420.out 4).trans rfl⟩ (fun hHeld => ?_); refine with_tabW laws_FnSemverTermFromZero.tab5 laws_FnSemverTermFromZero.bits5 (fun HT_ HW_ => ?_)
      generalize w31.drew = w32 at HO425 BK419 BK420 HB hHeld ⊢
      refine take_ (i := 0) (N := some 19) (v := ?_) (a' := ?_) #[true, false, false, false, false, false, false, false, false, false] rfl rfl (take_ofW HT_.out HW_.out (by kernel_rfl)) (fun _ _ _ h => h) (Or.inl ⟨by rfl, ?_⟩) hHeld ?_ ?_
      rotate_left
      ·
       rintro w' ⟨s0, s1, s2, s3, s4, s5, s6, s7, s8, s9⟩
       go_simp
       with_reducible rfl
      rotate_left
      ·
       simp only [Act.put, List.setIfInBounds_toArray, List.set_cons_zero, List.set_cons_succ, i64_w, i32_w]
       rfl
      refine take_ (i := 3) (N := some 22) (v := ?_) (a' := ?_) #[true, false, false, true, false, false, false, false, false, false] rfl rfl (take_ofW HT_.out HW_.out (by kernel_rfl)) (fun _ _ _ h => h) (Or.inl ⟨by rfl, ?_⟩) hHeld ?_ ?_
      rotate_left
      ·
       rintro w' ⟨s0, s1, s2, s3, s4, s5, s6, s7, s8, s9⟩
       go_simp
       with_reducible rfl
      rotate_left
      ·
       simp only [Act.put, List.setIfInBounds_toArray, List.set_cons_zero, List.set_cons_succ, i64_w, i32_w]
       rfl
      refine take_ (i := 4) (N := some 23) (v := ?_) (a' := ?_) #[true, false, false, true, true, false, false, false, false, false] rfl rfl (take_ofW HT_.out HW_.out (by kernel_rfl)) (fun _ _ _ h => h) (Or.inl ⟨by rfl, ?_⟩) hHeld ?_ ?_
      rotate_left
      ·
       rintro w' ⟨s0, s1, s2, s3, s4, s5, s6, s7, s8, s9⟩
       go_simp
       with_reducible rfl
      rotate_left
      ·
       simp only [Act.put, List.setIfInBounds_toArray, List.set_cons_zero, List.set_cons_succ, i64_w, i32_w]
       rfl
      refine join_ (σ := Nat) 2 #[true, true, true, true, true, true, true, true, false, false] (fun s_ => [(20, .agg #[.int .u64 t427, .int .u64 t428, .int .u64 t429, .string t430, .string t431]), (21, .agg #[.int .i64 t432, .int .i64 t433, .int .u64 t434, .int .u64 t435, .int .u64 t436, .string t437]), (24, .int .i64 t438), (5, .pointer (some ⟨s_, 0, none⟩)), (25, .bool (decide (t438 ≥ 0)))]) (fun s_ w' => (w'.cell? ⟨gb419, 0, none⟩ = some (.int .u64 a0_0) ∧ w'.cell? ⟨gb419, 1, none⟩ = some (.int .u64 a0_1) ∧ w'.cell? ⟨gb419, 2, none⟩ = some (.int .u64 a0_2) ∧ w'.cell? ⟨gb419, 3, none⟩ = some (.string a0_3) ∧ w'.cell? ⟨gb419, 4, none⟩ = some (.string a0_4) ∧ w'.cell? ⟨gb420, 0, none⟩ = some (.int .u64 a1_0) ∧ w'.cell? ⟨gb420, 1, none⟩ = some (.int .u64 a1_1) ∧ w'.cell? ⟨gb420, 2, none⟩ = some (.int .u64 a1_2) ∧ w'.cell? ⟨gb420, 3, none⟩ = some (.string a1_3) ∧ w'.cell? ⟨gb420, 4, none⟩ = some (.string a1_4)) ∧ (Kd.R k26 26 w' w.heap.size (fun k_ => k_ ≠ gb419 ∧ k_ ≠ gb420) (.slice Ao30 y423.length co30) y423) ∧ (w'.heap[gb419]? = some (.cells #[.int .u64 a0_0, .int .u64 a0_1, .int .u64 a0_2, .string a0_3, .string a0_4] 26 (0, 0))) ∧ (w'.heap[gb420]? = some (.cells #[.int .u64 a1_0, .int .u64 a1_1, .int .u64 a1_2, .string a1_3, .string a1_4] 26 (0, 0))) ∧ (w'.heap[s_]? = some (.cells #[.int .i64 0, .int .i64 0, .int .u64 0, .int .u64 0, .int .u64 0, .string (⟨#[]⟩ : ByteArray)] 24 (0, 0))) ∧ (w.heap.size ≤ s_) ∧ (w.heap.size ≤ s_) ∧ (gb419 ≠ s_) ∧ (s_ ≠ gb419) ∧ (gb420 ≠ s_) ∧ (s_ ≠ gb420) ∧ (Below w.heap.size w w')) ?_ ?_
      rotate_left
      ·
       intro hCont
       refine two_ (i := 1) (j := 7) (Ni := some 20) (Nj := some 5) #[true, true, false, true, true, false, false, false, false, false] #[true, false, false, true, true, false, false, true, false, false] rfl rfl rfl rfl (two_of HT_.out (by kernel_rfl)) (by decide) (by decide) (fun K hK => ?_) (fun K hK => ?_)
       ·
        skip
        refine goes_ Tryd.func38 (by kernel_rfl) rfl #[.agg #[.int .u64 a0_0, .int .u64 a0_1, .int .u64 a0_2, .string a0_3, .string a0_4], .string (⟨#[48]⟩ : ByteArray)] (by rfl) rfl rfl (by (try simp only [List.map_toArray, List.map_cons, List.map_nil]); first | done | rfl | (simp only [List.length_drop, List.length_take]; rfl)) ?_
        with_reducible refine (laws_svPre.calls a0_0 a0_1 a0_2 a0_3 a0_4 (⟨#[48]⟩ : ByteArray) t427 t428 t429 t430 t431 _ A20.out).mono ?_
        rintro e w33 ⟨rfl, hb⟩
        refine ⟨_, rfl, ?_⟩
        have n0_ := Aside0.mk (Kd.R_below (by (with_reducible repeat (first | apply Kd.R_alloc | apply Kd.R_drewN | apply Kd.R_drew)); exact HO425.out) hb)
        have n1_ := Aside0.mk (blk_below (g := gb419) (o := .cells #[.int .u64 a0_0, .int .u64 a0_1, .int .u64 a0_2, .string a0_3, .string a0_4] 26 (0, 0)) (by (with_reducible repeat (first | refine blk_drewN ?_ _ | refine blk_drew ?_ | refine blk_alloc ?_ _)); exact BK419.out) hb)
        have n2_ := Aside0.mk (blk_below (g := gb420) (o := .cells #[.int .u64 a1_0, .int .u64 a1_1, .int .u64 a1_2, .string a1_3, .string a1_4] 26 (0, 0)) (by (with_reducible repeat (first | refine blk_drewN ?_ _ | refine blk_drew ?_ | refine blk_alloc ?_ _)); exact BK420.out) hb)
        have n3_ := Aside0.mk (below_step (by repeat (first | (with_reducible first | exact HB.out | apply below_alloc | apply pw_below_drewN | apply below_drew1 | refine below_set ?_ GE419.out | refine below_set ?_ GE420.out) | exact HB.out)) hb)
        clear HO425
        clear BK419
        clear BK420
        clear HB
        have HO425 := n0_
        have BK419 := n1_
        have BK420 := n2_
        have HB := n3_
        clear n0_ n1_ n2_ n3_
        (try clear hb)
        (try clear hb2)
        (try clear hk)
        (try clear hi)
        refine hK.out _ _ ⟨(blk_cell BK419.out 0).trans rfl, (blk_cell BK419.out 1).trans rfl, (blk_cell BK419.out 2).trans rfl, (blk_cell BK419.out 3).trans rfl, (blk_cell BK419.out 4).trans rfl, (blk_cell BK420.out 0).trans rfl, (blk_cell BK420.out 1).trans rfl, (blk_cell BK420.out 2).trans rfl, (blk_cell BK420.out 3).trans rfl, (blk_cell BK420.out 4).trans rfl⟩ (fun hHeld => ?_)
        clear hK K
        refine norm_ (a' := ?_) ?_ ?_
        rotate_left
        ·
         show Act.put _ (some 20) _ = _
         simp only [Act.put, List.setIfInBounds_toArray, List.set_cons_zero, List.set_cons_succ, i64_w, i32_w]
         rfl
        refine two_ (i := 2) (j := 7) (Ni := some 21) (Nj := some 5) #[true, true, true, true, true, false, false, false, false, false] #[true, true, false, true, true, false, false, true, false, false] rfl rfl rfl rfl (two_of HT_.out (by kernel_rfl)) (by decide) (by decide) (fun K hK => ?_) (fun K hK => ?_)
        ·
         skip
         refine goes_ Tryd.func28 (by kernel_rfl) rfl #[.int .i64 4, .agg #[.int .u64 t427, .int .u64 t428, .int .u64 t429, .string t430, .string t431], .int .i64 3] (by rfl) rfl rfl (by (try simp only [List.map_toArray, List.map_cons, List.map_nil]); first | done | rfl | (simp only [List.length_drop, List.length_take]; rfl)) ?_
         with_reducible refine (laws_stTerm.calls 4 t427 t428 t429 t430 t431 3 t432 t433 t434 t435 t436 t437 _ A21.out).mono ?_
         rintro e w34 ⟨rfl, hb⟩
         refine ⟨_, rfl, ?_⟩
         have n0_ := Aside0.mk (Kd.R_below (by (with_reducible repeat (first | apply Kd.R_alloc | apply Kd.R_drewN | apply Kd.R_drew)); exact HO425.out) hb)
         have n1_ := Aside0.mk (blk_below (g := gb419) (o := .cells #[.int .u64 a0_0, .int .u64 a0_1, .int .u64 a0_2, .string a0_3, .string a0_4] 26 (0, 0)) (by (with_reducible repeat (first | refine blk_drewN ?_ _ | refine blk_drew ?_ | refine blk_alloc ?_ _)); exact BK419.out) hb)
         have n2_ := Aside0.mk (blk_below (g := gb420) (o := .cells #[.int .u64 a1_0, .int .u64 a1_1, .int .u64 a1_2, .string a1_3, .string a1_4] 26 (0, 0)) (by (with_reducible repeat (first | refine blk_drewN ?_ _ | refine blk_drew ?_ | refine blk_alloc ?_ _)); exact BK420.out) hb)
         have n3_ := Aside0.mk (below_step (by repeat (first | (with_reducible first | exact HB.out | apply below_alloc | apply pw_below_drewN | apply below_drew1 | refine below_set ?_ GE419.out | refine below_set ?_ GE420.out) | exact HB.out)) hb)
         clear HO425
         clear BK419
         clear BK420
         clear HB
         have HO425 := n0_
         have BK419 := n1_
         have BK420 := n2_
         have HB := n3_
         clear n0_ n1_ n2_ n3_
         (try clear hb)
         (try clear hb2)
         (try clear hk)
         (try clear hi)
         refine hK.out _ _ ⟨(blk_cell BK419.out 0).trans rfl, (blk_cell BK419.out 1).trans rfl, (blk_cell BK419.out 2).trans rfl, (blk_cell BK419.out 3).trans rfl, (blk_cell BK419.out 4).trans rfl, (blk_cell BK420.out 0).trans rfl, (blk_cell BK420.out 1).trans rfl, (blk_cell BK420.out 2).trans rfl, (blk_cell BK420.out 3).trans rfl, (blk_cell BK420.out 4).trans rfl⟩ (fun hHeld => ?_)
         clear hK K
         refine norm_ (a' := ?_) ?_ ?_
         rotate_left
         ·
          show Act.put _ (some 21) _ = _
          simp only [Act.put, List.setIfInBounds_toArray, List.set_cons_zero, List.set_cons_succ, i64_w, i32_w]
          rfl
         refine two_ (i := 5) (j := 7) (Ni := some 24) (Nj := some 5) #[true, true, true, true, true, true, false, false, false, false] #[true, true, true, true, true, false, false, true, false, false] rfl rfl rfl rfl (two_of HT_.out (by kernel_rfl)) (by decide) (by decide) (fun K hK => ?_) (fun K hK => ?_)
         ·
          skip
          refine goes_ Tryd.func39 (by kernel_rfl) rfl #[.agg #[.int .u64 a1_0, .int .u64 a1_1, .int .u64 a1_2, .string a1_3, .string a1_4], .agg #[.int .u64 a0_0, .int .u64 a0_1, .int .u64 a0_2, .string a0_3, .string a0_4], .int .i64 3] (by rfl) rfl rfl (by (try simp only [List.map_toArray, List.map_cons, List.map_nil]); first | done | rfl | (simp only [List.length_drop, List.length_take]; rfl)) ?_
          with_reducible refine (spec_CompareNumbers.calls a1_0 a1_1 a1_2 a1_3 a1_4 a0_0 a0_1 a0_2 a0_3 a0_4 3 t438 _ A22.out).mono ?_
          rintro e w35 ⟨rfl, hb⟩
          refine ⟨_, rfl, ?_⟩
          have n0_ := Aside0.mk (Kd.R_below (by (with_reducible repeat (first | apply Kd.R_alloc | apply Kd.R_drewN | apply Kd.R_drew)); exact HO425.out) hb)
          have n1_ := Aside0.mk (blk_below (g := gb419) (o := .cells #[.int .u64 a0_0, .int .u64 a0_1, .int .u64 a0_2, .string a0_3, .string a0_4] 26 (0, 0)) (by (with_reducible repeat (first | refine blk_drewN ?_ _ | refine blk_drew ?_ | refine blk_alloc ?_ _)); exact BK419.out) hb)
          have n2_ := Aside0.mk (blk_below (g := gb420) (o := .cells #[.int .u64 a1_0, .int .u64 a1_1, .int .u64 a1_2, .string a1_3, .string a1_4] 26 (0, 0)) (by (with_reducible repeat (first | refine blk_drewN ?_ _ | refine blk_drew ?_ | refine blk_alloc ?_ _)); exact BK420.out) hb)
          have n3_ := Aside0.mk (below_step (by repeat (first | (with_reducible first | exact HB.out | apply below_alloc | apply pw_below_drewN | apply below_drew1 | refine below_set ?_ GE419.out | refine below_set ?_ GE420.out) | exact HB.out)) hb)
          clear HO425
          clear BK419
          clear BK420
          clear HB
          have HO425 := n0_
          have BK419 := n1_
          have BK420 := n2_
          have HB := n3_
          clear n0_ n1_ n2_ n3_
          (try clear hb)
          (try clear hb2)
          (try clear hk)
          (try clear hi)
          refine hK.out _ _ ⟨(blk_cell BK419.out 0).trans rfl, (blk_cell BK419.out 1).trans rfl, (blk_cell BK419.out 2).trans rfl, (blk_cell BK419.out 3).trans rfl, (blk_cell BK419.out 4).trans rfl, (blk_cell BK420.out 0).trans rfl, (blk_cell BK420.out 1).trans rfl, (blk_cell BK420.out 2).trans rfl, (blk_cell BK420.out 3).trans rfl, (blk_cell BK420.out 4).trans rfl⟩ (fun hHeld => ?_)
          clear hK K
          refine norm_ (a' := ?_) ?_ ?_
          rotate_left
          ·
           show Act.put _ (some 24) _ = _
           simp only [Act.put, List.setIfInBounds_toArray, List.set_cons_zero, List.set_cons_succ, i64_w, i32_w]
           rfl
          refine pure_ (i := 6) (N := some 25) (v := ?_) (a' := ?_) #[true, true, true, true, true, true, true, false, false, false] rfl rfl (any_of HT_.out (by kernel_rfl)) (fun _ _ _ h => h) (Or.inl ⟨by rfl, ?_⟩) ?_ ?_
          rotate_left
          ·
           intro w'
           go_simp
           with_reducible rfl
          rotate_left
          ·
           simp only [Act.put, List.setIfInBounds_toArray, List.set_cons_zero, List.set_cons_succ, i64_w, i32_w]
           rfl
          refine one_ (i := 7) (N := some 5) #[true, true, true, true, true, true, true, true, false, false] rfl rfl (one_of HT_.out (by kernel_rfl)) (by decide) (fun K hK => ?_)
          refine box_step ?hg (N := 5) ?hd (cs := #[.int .i64 0, .int .i64 0, .int .u64 0, .int .u64 0, .int .u64 0, .string (⟨#[]⟩ : ByteArray)]) (t := 24) ?hr ?_; (case hd => rfl); (case hg => rfl); (case hr => first | (go_simp; done) | (go_simp; rfl) | (go_simp; simp [u8w]; done))
          intro gb439 hg w36 hbox hb
          have n0_ := Aside0.mk (Kd.R_below (by (with_reducible repeat (first | apply Kd.R_alloc | apply Kd.R_drewN | apply Kd.R_drew)); exact HO425.out) hb)
          have n1_ := Aside0.mk (blk_below (g := gb419) (o := .cells #[.int .u64 a0_0, .int .u64 a0_1, .int .u64 a0_2, .string a0_3, .string a0_4] 26 (0, 0)) (by (with_reducible repeat (first | refine blk_drewN ?_ _ | refine blk_drew ?_ | refine blk_alloc ?_ _)); exact BK419.out) hb)
          have n2_ := Aside0.mk (blk_below (g := gb420) (o := .cells #[.int .u64 a1_0, .int .u64 a1_1, .int .u64 a1_2, .string a1_3, .string a1_4] 26 (0, 0)) (by (with_reducible repeat (first | refine blk_drewN ?_ _ | refine blk_drew ?_ | refine blk_alloc ?_ _)); exact BK420.out) hb)
          have n3_ := Aside0.mk (below_step (by repeat (first | (with_reducible first | exact HB.out | apply below_alloc | apply pw_below_drewN | apply below_drew1 | refine below_set ?_ GE419.out | refine below_set ?_ GE420.out) | exact HB.out)) hb)
          have n4_ := Aside0.mk (hbox)
          have n5_ := Aside0.mk ((by rw [hg]; exact (below_size (by repeat (first | (with_reducible first | exact HB.out | apply below_alloc | apply pw_below_drewN | apply below_drew1 | refine below_set ?_ GE419.out | refine below_set ?_ GE420.out) | exact HB.out))) : w.heap.size ≤ gb439))
          have n6_ := Aside0.mk ((by rw [hg]; exact (below_size (by repeat (first | (with_reducible first | exact HB.out | apply below_alloc | apply pw_below_drewN | apply below_drew1 | refine below_set ?_ GE419.out | refine below_set ?_ GE420.out) | exact HB.out))) : w.heap.size ≤ gb439))
          have n7_ := Aside0.mk ((by rw [hg]; exact Nat.ne_of_lt (blk_lt (g := gb419) (o := .cells #[.int .u64 a0_0, .int .u64 a0_1, .int .u64 a0_2, .string a0_3, .string a0_4] 26 (0, 0)) (by (with_reducible repeat (first | refine blk_drewN ?_ _ | refine blk_drew ?_ | refine blk_alloc ?_ _)); exact BK419.out)) : gb419 ≠ gb439))
          have n8_ := Aside0.mk ((by rw [hg]; exact Nat.ne_of_gt (blk_lt (g := gb419) (o := .cells #[.int .u64 a0_0, .int .u64 a0_1, .int .u64 a0_2, .string a0_3, .string a0_4] 26 (0, 0)) (by (with_reducible repeat (first | refine blk_drewN ?_ _ | refine blk_drew ?_ | refine blk_alloc ?_ _)); exact BK419.out)) : gb439 ≠ gb419))
          have n9_ := Aside0.mk ((by rw [hg]; exact Nat.ne_of_lt (blk_lt (g := gb420) (o := .cells #[.int .u64 a1_0, .int .u64 a1_1, .int .u64 a1_2, .string a1_3, .string a1_4] 26 (0, 0)) (by (with_reducible repeat (first | refine blk_drewN ?_ _ | refine blk_drew ?_ | refine blk_alloc ?_ _)); exact BK420.out)) : gb420 ≠ gb439))
          have n10_ := Aside0.mk ((by rw [hg]; exact Nat.ne_of_gt (blk_lt (g := gb420) (o := .cells #[.int .u64 a1_0, .int .u64 a1_1, .int .u64 a1_2, .string a1_3, .string a1_4] 26 (0, 0)) (by (with_reducible repeat (first | refine blk_drewN ?_ _ | refine blk_drew ?_ | refine blk_alloc ?_ _)); exact BK420.out)) : gb439 ≠ gb420))
          clear HO425
          clear BK419
          clear BK420
          clear HB
          have HO425 := n0_
          have BK419 := n1_
          have BK420 := n2_
          have HB := n3_
          have BK439 := n4_
          have GW439 := n5_
          have GE439 := n6_
          have NB419_439 := n7_
          have NB439_419 := n8_
          have NB420_439 := n9_
          have NB439_420 := n10_
          clear n0_ n1_ n2_ n3_ n4_ n5_ n6_ n7_ n8_ n9_ n10_
          clear hb hbox hg
          refine hK.out _ _ ⟨(blk_cell BK419.out 0).trans rfl, (blk_cell BK419.out 1).trans rfl, (blk_cell BK419.out 2).trans rfl, (blk_cell BK419.out 3).trans rfl, (blk_cell BK419.out 4).trans rfl, (blk_cell BK420.out 0).trans rfl, (blk_cell BK420.out 1).trans rfl, (blk_cell BK420.out 2).trans rfl, (blk_cell BK420.out 3).trans rfl, (blk_cell BK420.out 4).trans rfl⟩ (fun hHeld => ?_)
          clear hK K
          refine norm_ (a' := ?_) ?_ ?_
          rotate_left
          ·
           show Act.put _ (some 5) _ = _
           simp only [Act.put, List.setIfInBounds_toArray, List.set_cons_zero, List.set_cons_succ, i64_w, i32_w]
           rfl
          exact norm_ (by simp only [putAll, Act.put, List.setIfInBounds_toArray, List.set_cons_zero, List.set_cons_succ]) (hCont (gb439) _ ⟨hHeld, (by (with_reducible repeat (first | apply Kd.R_alloc | apply Kd.R_drewN | apply Kd.R_drew)); exact Kd.R_mono HO425.out (fun _ hk => ⟨hk.1.2, hk.2⟩)), (by (with_reducible repeat (first | refine blk_drewN ?_ _ | refine blk_drew ?_ | refine blk_alloc ?_ _)); exact BK419.out), (by (with_reducible repeat (first | refine blk_drewN ?_ _ | refine blk_drew ?_ | refine blk_alloc ?_ _)); exact BK420.out), (by (with_reducible repeat (first | refine blk_drewN ?_ _ | refine blk_drew ?_ | refine blk_alloc ?_ _)); exact BK439.out), GW439.out, GE439.out, NB419_439.out, NB439_419.out, NB420_439.out, NB439_420.out, (by repeat (first | (with_reducible first | exact HB.out | apply below_alloc | apply pw_below_drewN | apply below_drew1 | refine below_set ?_ GE419.out | refine below_set ?_ GE420.out | refine below_set ?_ GE439.out) | exact HB.out))⟩)
         ·
          skip
          refine box_step ?hg (N := 5) ?hd (cs := #[.int .i64 0, .int .i64 0, .int .u64 0, .int .u64 0, .int .u64 0, .string (⟨#[]⟩ : ByteArray)]) (t := 24) ?hr ?_; (case hd => rfl); (case hg => rfl); (case hr => first | (go_simp; done) | (go_simp; rfl) | (go_simp; simp [u8w]; done))
          intro gb439 hg w35 hbox hb
          have n0_ := Aside0.mk (Kd.R_below (by (with_reducible repeat (first | apply Kd.R_alloc | apply Kd.R_drewN | apply Kd.R_drew)); exact HO425.out) hb)
          have n1_ := Aside0.mk (blk_below (g := gb419) (o := .cells #[.int .u64 a0_0, .int .u64 a0_1, .int .u64 a0_2, .string a0_3, .string a0_4] 26 (0, 0)) (by (with_reducible repeat (first | refine blk_drewN ?_ _ | refine blk_drew ?_ | refine blk_alloc ?_ _)); exact BK419.out) hb)
          have n2_ := Aside0.mk (blk_below (g := gb420) (o := .cells #[.int .u64 a1_0, .int .u64 a1_1, .int .u64 a1_2, .string a1_3, .string a1_4] 26 (0, 0)) (by (with_reducible repeat (first | refine blk_drewN ?_ _ | refine blk_drew ?_ | refine blk_alloc ?_ _)); exact BK420.out) hb)
          have n3_ := Aside0.mk (below_step (by repeat (first | (with_reducible first | exact HB.out | apply below_alloc | apply pw_below_drewN | apply below_drew1 | refine below_set ?_ GE419.out | refine below_set ?_ GE420.out) | exact HB.out)) hb)
          have n4_ := Aside0.mk (hbox)
          have n5_ := Aside0.mk ((by rw [hg]; exact (below_size (by repeat (first | (with_reducible first | exact HB.out | apply below_alloc | apply pw_below_drewN | apply below_drew1 | refine below_set ?_ GE419.out | refine below_set ?_ GE420.out) | exact HB.out))) : w.heap.size ≤ gb439))
          have n6_ := Aside0.mk ((by rw [hg]; exact (below_size (by repeat (first | (with_reducible first | exact HB.out | apply below_alloc | apply pw_below_drewN | apply below_drew1 | refine below_set ?_ GE419.out | refine below_set ?_ GE420.out) | exact HB.out))) : w.heap.size ≤ gb439))
          have n7_ := Aside0.mk ((by rw [hg]; exact Nat.ne_of_lt (blk_lt (g := gb419) (o := .cells #[.int .u64 a0_0, .int .u64 a0_1, .int .u64 a0_2, .string a0_3, .string a0_4] 26 (0, 0)) (by (with_reducible repeat (first | refine blk_drewN ?_ _ | refine blk_drew ?_ | refine blk_alloc ?_ _)); exact BK419.out)) : gb419 ≠ gb439))
          have n8_ := Aside0.mk ((by rw [hg]; exact Nat.ne_of_gt (blk_lt (g := gb419) (o := .cells #[.int .u64 a0_0, .int .u64 a0_1, .int .u64 a0_2, .string a0_3, .string a0_4] 26 (0, 0)) (by (with_reducible repeat (first | refine blk_drewN ?_ _ | refine blk_drew ?_ | refine blk_alloc ?_ _)); exact BK419.out)) : gb439 ≠ gb419))
          have n9_ := Aside0.mk ((by rw [hg]; exact Nat.ne_of_lt (blk_lt (g := gb420) (o := .cells #[.int .u64 a1_0, .int .u64 a1_1, .int .u64 a1_2, .string a1_3, .string a1_4] 26 (0, 0)) (by (with_reducible repeat (first | refine blk_drewN ?_ _ | refine blk_drew ?_ | refine blk_alloc ?_ _)); exact BK420.out)) : gb420 ≠ gb439))
          have n10_ := Aside0.mk ((by rw [hg]; exact Nat.ne_of_gt (blk_lt (g := gb420) (o := .cells #[.int .u64 a1_0, .int .u64 a1_1, .int .u64 a1_2, .string a1_3, .string a1_4] 26 (0, 0)) (by (with_reducible repeat (first | refine blk_drewN ?_ _ | refine blk_drew ?_ | refine blk_alloc ?_ _)); exact BK420.out)) : gb439 ≠ gb420))
          clear HO425
          clear BK419
          clear BK420
          clear HB
          have HO425 := n0_
          have BK419 := n1_
          have BK420 := n2_
          have HB := n3_
          have BK439 := n4_
          have GW439 := n5_
          have GE439 := n6_
          have NB419_439 := n7_
          have NB439_419 := n8_
          have NB420_439 := n9_
          have NB439_420 := n10_
          clear n0_ n1_ n2_ n3_ n4_ n5_ n6_ n7_ n8_ n9_ n10_
          clear hb hbox hg
          refine hK.out _ _ ⟨(blk_cell BK419.out 0).trans rfl, (blk_cell BK419.out 1).trans rfl, (blk_cell BK419.out 2).trans rfl, (blk_cell BK419.out 3).trans rfl, (blk_cell BK419.out 4).trans rfl, (blk_cell BK420.out 0).trans rfl, (blk_cell BK420.out 1).trans rfl, (blk_cell BK420.out 2).trans rfl, (blk_cell BK420.out 3).trans rfl, (blk_cell BK420.out 4).trans rfl⟩ (fun hHeld => ?_)
          clear hK K
          refine norm_ (a' := ?_) ?_ ?_
          rotate_left
          ·
           show Act.put _ (some 5) _ = _
           simp only [Act.put, List.setIfInBounds_toArray, List.set_cons_zero, List.set_cons_succ, i64_w, i32_w]
           rfl
          refine one_ (i := 5) (N := some 24) #[true, true, true, true, true, true, false, true, false, false] rfl rfl (one_of HT_.out (by kernel_rfl)) (by decide) (fun K hK => ?_)
          refine goes_ Tryd.func39 (by kernel_rfl) rfl #[.agg #[.int .u64 a1_0, .int .u64 a1_1, .int .u64 a1_2, .string a1_3, .string a1_4], .agg #[.int .u64 a0_0, .int .u64 a0_1, .int .u64 a0_2, .string a0_3, .string a0_4], .int .i64 3] (by rfl) rfl rfl (by (try simp only [List.map_toArray, List.map_cons, List.map_nil]); first | done | rfl | (simp only [List.length_drop, List.length_take]; rfl)) ?_
          with_reducible refine (spec_CompareNumbers.calls a1_0 a1_1 a1_2 a1_3 a1_4 a0_0 a0_1 a0_2 a0_3 a0_4 3 t438 _ A22.out).mono ?_
          rintro e w36 ⟨rfl, hb⟩
          refine ⟨_, rfl, ?_⟩
          have n0_ := Aside0.mk (Kd.R_below (by (with_reducible repeat (first | apply Kd.R_alloc | apply Kd.R_drewN | apply Kd.R_drew)); exact HO425.out) hb)
          have n1_ := Aside0.mk (blk_below (g := gb419) (o := .cells #[.int .u64 a0_0, .int .u64 a0_1, .int .u64 a0_2, .string a0_3, .string a0_4] 26 (0, 0)) (by (with_reducible repeat (first | refine blk_drewN ?_ _ | refine blk_drew ?_ | refine blk_alloc ?_ _)); exact BK419.out) hb)
          have n2_ := Aside0.mk (blk_below (g := gb420) (o := .cells #[.int .u64 a1_0, .int .u64 a1_1, .int .u64 a1_2, .string a1_3, .string a1_4] 26 (0, 0)) (by (with_reducible repeat (first | refine blk_drewN ?_ _ | refine blk_drew ?_ | refine blk_alloc ?_ _)); exact BK420.out) hb)
          have n3_ := Aside0.mk (blk_below (g := gb439) (o := .cells #[.int .i64 0, .int .i64 0, .int .u64 0, .int .u64 0, .int .u64 0, .string (⟨#[]⟩ : ByteArray)] 24 (0, 0)) (by (with_reducible repeat (first | refine blk_drewN ?_ _ | refine blk_drew ?_ | refine blk_alloc ?_ _)); exact BK439.out) hb)
          have n4_ := Aside0.mk (below_step (by repeat (first | (with_reducible first | exact HB.out | apply below_alloc | apply pw_below_drewN | apply below_drew1 | refine below_set ?_ GE419.out | refine below_set ?_ GE420.out | refine below_set ?_ GE439.out) | exact HB.out)) hb)
          clear HO425
          clear BK419
          clear BK420
          clear BK439
          clear HB
          have HO425 := n0_
          have BK419 := n1_
          have BK420 := n2_
          have BK439 := n3_
          have HB := n4_
          clear n0_ n1_ n2_ n3_ n4_
          (try clear hb)
          (try clear hb2)
          (try clear hk)
          (try clear hi)
          refine hK.out _ _ ⟨(blk_cell BK419.out 0).trans rfl, (blk_cell BK419.out 1).trans rfl, (blk_cell BK419.out 2).trans rfl, (blk_cell BK419.out 3).trans rfl, (blk_cell BK419.out 4).trans rfl, (blk_cell BK420.out 0).trans rfl, (blk_cell BK420.out 1).trans rfl, (blk_cell BK420.out 2).trans rfl, (blk_cell BK420.out 3).trans rfl, (blk_cell BK420.out 4).trans rfl⟩ (fun hHeld => ?_)
          clear hK K
          refine norm_ (a' := ?_) ?_ ?_
          rotate_left
          ·
           show Act.put _ (some 24) _ = _
           simp only [Act.put, List.setIfInBounds_toArray, List.set_cons_zero, List.set_cons_succ, i64_w, i32_w]
           rfl
          refine pure_ (i := 6) (N := some 25) (v := ?_) (a' := ?_) #[true, true, true, true, true, true, true, true, false, false] rfl rfl (any_of HT_.out (by kernel_rfl)) (fun _ _ _ h => h) (Or.inl ⟨by rfl, ?_⟩) ?_ ?_
          rotate_left
          ·
           intro w'
           go_simp
           with_reducible rfl
          rotate_left
          ·
           simp only [Act.put, List.setIfInBounds_toArray, List.set_cons_zero, List.set_cons_succ, i64_w, i32_w]
           rfl
          exact norm_ (by simp only [putAll, Act.put, List.setIfInBounds_toArray, List.set_cons_zero, List.set_cons_succ]) (hCont (gb439) _ ⟨hHeld, (by (with_reducible repeat (first | apply Kd.R_alloc | apply Kd.R_drewN | apply Kd.R_drew)); exact Kd.R_mono HO425.out (fun _ hk => ⟨hk.1.2, hk.2⟩)), (by (with_reducible repeat (first | refine blk_drewN ?_ _ | refine blk_drew ?_ | refine blk_alloc ?_ _)); exact BK419.out), (by (with_reducible repeat (first | refine blk_drewN ?_ _ | refine blk_drew ?_ | refine blk_alloc ?_ _)); exact BK420.out), (by (with_reducible repeat (first | refine blk_drewN ?_ _ | refine blk_drew ?_ | refine blk_alloc ?_ _)); exact BK439.out), GW439.out, GE439.out, NB419_439.out, NB439_419.out, NB420_439.out, NB439_420.out, (by repeat (first | (with_reducible first | exact HB.out | apply below_alloc | apply pw_below_drewN | apply below_drew1 | refine below_set ?_ GE419.out | refine below_set ?_ GE420.out | refine below_set ?_ GE439.out) | exact HB.out))⟩)
        ·
         skip
         refine box_step ?hg (N := 5) ?hd (cs := #[.int .i64 0, .int .i64 0, .int .u64 0, .int .u64 0, .int .u64 0, .string (⟨#[]⟩ : ByteArray)]) (t := 24) ?hr ?_; (case hd => rfl); (case hg => rfl); (case hr => first | (go_simp; done) | (go_simp; rfl) | (go_simp; simp [u8w]; done))
         intro gb439 hg w34 hbox hb
         have n0_ := Aside0.mk (Kd.R_below (by (with_reducible repeat (first | apply Kd.R_alloc | apply Kd.R_drewN | apply Kd.R_drew)); exact HO425.out) hb)
         have n1_ := Aside0.mk (blk_below (g := gb419) (o := .cells #[.int .u64 a0_0, .int .u64 a0_1, .int .u64 a0_2, .string a0_3, .string a0_4] 26 (0, 0)) (by (with_reducible repeat (first | refine blk_drewN ?_ _ | refine blk_drew ?_ | refine blk_alloc ?_ _)); exact BK419.out) hb)
         have n2_ := Aside0.mk (blk_below (g := gb420) (o := .cells #[.int .u64 a1_0, .int .u64 a1_1, .int .u64 a1_2, .string a1_3, .string a1_4] 26 (0, 0)) (by (with_reducible repeat (first | refine blk_drewN ?_ _ | refine blk_drew ?_ | refine blk_alloc ?_ _)); exact BK420.out) hb)
         have n3_ := Aside0.mk (below_step (by repeat (first | (with_reducible first | exact HB.out | apply below_alloc | apply pw_below_drewN | apply below_drew1 | refine below_set ?_ GE419.out | refine below_set ?_ GE420.out) | exact HB.out)) hb)
         have n4_ := Aside0.mk (hbox)
         have n5_ := Aside0.mk ((by rw [hg]; exact (below_size (by repeat (first | (with_reducible first | exact HB.out | apply below_alloc | apply pw_below_drewN | apply below_drew1 | refine below_set ?_ GE419.out | refine below_set ?_ GE420.out) | exact HB.out))) : w.heap.size ≤ gb439))
         have n6_ := Aside0.mk ((by rw [hg]; exact (below_size (by repeat (first | (with_reducible first | exact HB.out | apply below_alloc | apply pw_below_drewN | apply below_drew1 | refine below_set ?_ GE419.out | refine below_set ?_ GE420.out) | exact HB.out))) : w.heap.size ≤ gb439))
         have n7_ := Aside0.mk ((by rw [hg]; exact Nat.ne_of_lt (blk_lt (g := gb419) (o := .cells #[.int .u64 a0_0, .int .u64 a0_1, .int .u64 a0_2, .string a0_3, .string a0_4] 26 (0, 0)) (by (with_reducible repeat (first | refine blk_drewN ?_ _ | refine blk_drew ?_ | refine blk_alloc ?_ _)); exact BK419.out)) : gb419 ≠ gb439))
         have n8_ := Aside0.mk ((by rw [hg]; exact Nat.ne_of_gt (blk_lt (g := gb419) (o := .cells #[.int .u64 a0_0, .int .u64 a0_1, .int .u64 a0_2, .string a0_3, .string a0_4] 26 (0, 0)) (by (with_reducible repeat (first | refine blk_drewN ?_ _ | refine blk_drew ?_ | refine blk_alloc ?_ _)); exact BK419.out)) : gb439 ≠ gb419))
         have n9_ := Aside0.mk ((by rw [hg]; exact Nat.ne_of_lt (blk_lt (g := gb420) (o := .cells #[.int .u64 a1_0, .int .u64 a1_1, .int .u64 a1_2, .string a1_3, .string a1_4] 26 (0, 0)) (by (with_reducible repeat (first | refine blk_drewN ?_ _ | refine blk_drew ?_ | refine blk_alloc ?_ _)); exact BK420.out)) : gb420 ≠ gb439))
         have n10_ := Aside0.mk ((by rw [hg]; exact Nat.ne_of_gt (blk_lt (g := gb420) (o := .cells #[.int .u64 a1_0, .int .u64 a1_1, .int .u64 a1_2, .string a1_3, .string a1_4] 26 (0, 0)) (by (with_reducible repeat (first | refine blk_drewN ?_ _ | refine blk_drew ?_ | refine blk_alloc ?_ _)); exact BK420.out)) : gb439 ≠ gb420))
         clear HO425
         clear BK419
         clear BK420
         clear HB
         have HO425 := n0_
         have BK419 := n1_
         have BK420 := n2_
         have HB := n3_
         have BK439 := n4_
         have GW439 := n5_
         have GE439 := n6_
         have NB419_439 := n7_
         have NB439_419 := n8_
         have NB420_439 := n9_
         have NB439_420 := n10_
         clear n0_ n1_ n2_ n3_ n4_ n5_ n6_ n7_ n8_ n9_ n10_
         clear hb hbox hg
         refine hK.out _ _ ⟨(blk_cell BK419.out 0).trans rfl, (blk_cell BK419.out 1).trans rfl, (blk_cell BK419.out 2).trans rfl, (blk_cell BK419.out 3).trans rfl, (blk_cell BK419.out 4).trans rfl, (blk_cell BK420.out 0).trans rfl, (blk_cell BK420.out 1).trans rfl, (blk_cell BK420.out 2).trans rfl, (blk_cell BK420.out 3).trans rfl, (blk_cell BK420.out 4).trans rfl⟩ (fun hHeld => ?_)
         clear hK K
         refine norm_ (a' := ?_) ?_ ?_
         rotate_left
         ·
          show Act.put _ (some 5) _ = _
          simp only [Act.put, List.setIfInBounds_toArray, List.set_cons_zero, List.set_cons_succ, i64_w, i32_w]
          rfl
         refine one_ (i := 2) (N := some 21) #[true, true, true, true, true, false, false, true, false, false] rfl rfl (one_of HT_.out (by kernel_rfl)) (by decide) (fun K hK => ?_)
         refine goes_ Tryd.func28 (by kernel_rfl) rfl #[.int .i64 4, .agg #[.int .u64 t427, .int .u64 t428, .int .u64 t429, .string t430, .string t431], .int .i64 3] (by rfl) rfl rfl (by (try simp only [List.map_toArray, List.map_cons, List.map_nil]); first | done | rfl | (simp only [List.length_drop, List.length_take]; rfl)) ?_
         with_reducible refine (laws_stTerm.calls 4 t427 t428 t429 t430 t431 3 t432 t433 t434 t435 t436 t437 _ A21.out).mono ?_
         rintro e w35 ⟨rfl, hb⟩
         refine ⟨_, rfl, ?_⟩
         have n0_ := Aside0.mk (Kd.R_below (by (with_reducible repeat (first | apply Kd.R_alloc | apply Kd.R_drewN | apply Kd.R_drew)); exact HO425.out) hb)
         have n1_ := Aside0.mk (blk_below (g := gb419) (o := .cells #[.int .u64 a0_0, .int .u64 a0_1, .int .u64 a0_2, .string a0_3, .string a0_4] 26 (0, 0)) (by (with_reducible repeat (first | refine blk_drewN ?_ _ | refine blk_drew ?_ | refine blk_alloc ?_ _)); exact BK419.out) hb)
         have n2_ := Aside0.mk (blk_below (g := gb420) (o := .cells #[.int .u64 a1_0, .int .u64 a1_1, .int .u64 a1_2, .string a1_3, .string a1_4] 26 (0, 0)) (by (with_reducible repeat (first | refine blk_drewN ?_ _ | refine blk_drew ?_ | refine blk_alloc ?_ _)); exact BK420.out) hb)
         have n3_ := Aside0.mk (blk_below (g := gb439) (o := .cells #[.int .i64 0, .int .i64 0, .int .u64 0, .int .u64 0, .int .u64 0, .string (⟨#[]⟩ : ByteArray)] 24 (0, 0)) (by (with_reducible repeat (first | refine blk_drewN ?_ _ | refine blk_drew ?_ | refine blk_alloc ?_ _)); exact BK439.out) hb)
         have n4_ := Aside0.mk (below_step (by repeat (first | (with_reducible first | exact HB.out | apply below_alloc | apply pw_below_drewN | apply below_drew1 | refine below_set ?_ GE419.out | refine below_set ?_ GE420.out | refine below_set ?_ GE439.out) | exact HB.out)) hb)
         clear HO425
         clear BK419
         clear BK420
         clear BK439
         clear HB
         have HO425 := n0_
         have BK419 := n1_
         have BK420 := n2_
         have BK439 := n3_
         have HB := n4_
         clear n0_ n1_ n2_ n3_ n4_
         (try clear hb)
         (try clear hb2)
         (try clear hk)
         (try clear hi)
         refine hK.out _ _ ⟨(blk_cell BK419.out 0).trans rfl, (blk_cell BK419.out 1).trans rfl, (blk_cell BK419.out 2).trans rfl, (blk_cell BK419.out 3).trans rfl, (blk_cell BK419.out 4).trans rfl, (blk_cell BK420.out 0).trans rfl, (blk_cell BK420.out 1).trans rfl, (blk_cell BK420.out 2).trans rfl, (blk_cell BK420.out 3).trans rfl, (blk_cell BK420.out 4).trans rfl⟩ (fun hHeld => ?_)
         clear hK K
         refine norm_ (a' := ?_) ?_ ?_
         rotate_left
         ·
          show Act.put _ (some 21) _ = _
          simp only [Act.put, List.setIfInBounds_toArray, List.set_cons_zero, List.set_cons_succ, i64_w, i32_w]
          rfl
         refine one_ (i := 5) (N := some 24) #[true, true, true, true, true, true, false, true, false, false] rfl rfl (one_of HT_.out (by kernel_rfl)) (by decide) (fun K hK => ?_)
         refine goes_ Tryd.func39 (by kernel_rfl) rfl #[.agg #[.int .u64 a1_0, .int .u64 a1_1, .int .u64 a1_2, .string a1_3, .string a1_4], .agg #[.int .u64 a0_0, .int .u64 a0_1, .int .u64 a0_2, .string a0_3, .string a0_4], .int .i64 3] (by rfl) rfl rfl (by (try simp only [List.map_toArray, List.map_cons, List.map_nil]); first | done | rfl | (simp only [List.length_drop, List.length_take]; rfl)) ?_
         with_reducible refine (spec_CompareNumbers.calls a1_0 a1_1 a1_2 a1_3 a1_4 a0_0 a0_1 a0_2 a0_3 a0_4 3 t438 _ A22.out).mono ?_
         rintro e w36 ⟨rfl, hb⟩
         refine ⟨_, rfl, ?_⟩
         have n0_ := Aside0.mk (Kd.R_below (by (with_reducible repeat (first | apply Kd.R_alloc | apply Kd.R_drewN | apply Kd.R_drew)); exact HO425.out) hb)
         have n1_ := Aside0.mk (blk_below (g := gb419) (o := .cells #[.int .u64 a0_0, .int .u64 a0_1, .int .u64 a0_2, .string a0_3, .string a0_4] 26 (0, 0)) (by (with_reducible repeat (first | refine blk_drewN ?_ _ | refine blk_drew ?_ | refine blk_alloc ?_ _)); exact BK419.out) hb)
         have n2_ := Aside0.mk (blk_below (g := gb420) (o := .cells #[.int .u64 a1_0, .int .u64 a1_1, .int .u64 a1_2, .string a1_3, .string a1_4] 26 (0, 0)) (by (with_reducible repeat (first | refine blk_drewN ?_ _ | refine blk_drew ?_ | refine blk_alloc ?_ _)); exact BK420.out) hb)
         have n3_ := Aside0.mk (blk_below (g := gb439) (o := .cells #[.int .i64 0, .int .i64 0, .int .u64 0, .int .u64 0, .int .u64 0, .string (⟨#[]⟩ : ByteArray)] 24 (0, 0)) (by (with_reducible repeat (first | refine blk_drewN ?_ _ | refine blk_drew ?_ | refine blk_alloc ?_ _)); exact BK439.out) hb)
         have n4_ := Aside0.mk (below_step (by repeat (first | (with_reducible first | exact HB.out | apply below_alloc | apply pw_below_drewN | apply below_drew1 | refine below_set ?_ GE419.out | refine below_set ?_ GE420.out | refine below_set ?_ GE439.out) | exact HB.out)) hb)
         clear HO425
         clear BK419
         clear BK420
         clear BK439
         clear HB
         have HO425 := n0_
         have BK419 := n1_
         have BK420 := n2_
         have BK439 := n3_
         have HB := n4_
         clear n0_ n1_ n2_ n3_ n4_
         (try clear hb)
         (try clear hb2)
         (try clear hk)
         (try clear hi)
         refine hK.out _ _ ⟨(blk_cell BK419.out 0).trans rfl, (blk_cell BK419.out 1).trans rfl, (blk_cell BK419.out 2).trans rfl, (blk_cell BK419.out 3).trans rfl, (blk_cell BK419.out 4).trans rfl, (blk_cell BK420.out 0).trans rfl, (blk_cell BK420.out 1).trans rfl, (blk_cell BK420.out 2).trans rfl, (blk_cell BK420.out 3).trans rfl, (blk_cell BK420.out 4).trans rfl⟩ (fun hHeld => ?_)
         clear hK K
         refine norm_ (a' := ?_) ?_ ?_
         rotate_left
         ·
          show Act.put _ (some 24) _ = _
          simp only [Act.put, List.setIfInBounds_toArray, List.set_cons_zero, List.set_cons_succ, i64_w, i32_w]
          rfl
         refine pure_ (i := 6) (N := some 25) (v := ?_) (a' := ?_) #[true, true, true, true, true, true, true, true, false, false] rfl rfl (any_of HT_.out (by kernel_rfl)) (fun _ _ _ h => h) (Or.inl ⟨by rfl, ?_⟩) ?_ ?_
         rotate_left
         ·
          intro w'
          go_simp
          with_reducible rfl
         rotate_left
         ·
          simp only [Act.put, List.setIfInBounds_toArray, List.set_cons_zero, List.set_cons_succ, i64_w, i32_w]
          rfl
         exact norm_ (by simp only [putAll, Act.put, List.setIfInBounds_toArray, List.set_cons_zero, List.set_cons_succ]) (hCont (gb439) _ ⟨hHeld, (by (with_reducible repeat (first | apply Kd.R_alloc | apply Kd.R_drewN | apply Kd.R_drew)); exact Kd.R_mono HO425.out (fun _ hk => ⟨hk.1.2, hk.2⟩)), (by (with_reducible repeat (first | refine blk_drewN ?_ _ | refine blk_drew ?_ | refine blk_alloc ?_ _)); exact BK419.out), (by (with_reducible repeat (first | refine blk_drewN ?_ _ | refine blk_drew ?_ | refine blk_alloc ?_ _)); exact BK420.out), (by (with_reducible repeat (first | refine blk_drewN ?_ _ | refine blk_drew ?_ | refine blk_alloc ?_ _)); exact BK439.out), GW439.out, GE439.out, NB419_439.out, NB439_419.out, NB420_439.out, NB439_420.out, (by repeat (first | (with_reducible first | exact HB.out | apply below_alloc | apply pw_below_drewN | apply below_drew1 | refine below_set ?_ GE419.out | refine below_set ?_ GE420.out | refine below_set ?_ GE439.out) | exact HB.out))⟩)
       ·
        skip
        refine box_step ?hg (N := 5) ?hd (cs := #[.int .i64 0, .int .i64 0, .int .u64 0, .int .u64 0, .int .u64 0, .string (⟨#[]⟩ : ByteArray)]) (t := 24) ?hr ?_; (case hd => rfl); (case hg => rfl); (case hr => first | (go_simp; done) | (go_simp; rfl) | (go_simp; simp [u8w]; done))
        intro gb439 hg w33 hbox hb
        have n0_ := Aside0.mk (Kd.R_below (by (with_reducible repeat (first | apply Kd.R_alloc | apply Kd.R_drewN | apply Kd.R_drew)); exact HO425.out) hb)
        have n1_ := Aside0.mk (blk_below (g := gb419) (o := .cells #[.int .u64 a0_0, .int .u64 a0_1, .int .u64 a0_2, .string a0_3, .string a0_4] 26 (0, 0)) (by (with_reducible repeat (first | refine blk_drewN ?_ _ | refine blk_drew ?_ | refine blk_alloc ?_ _)); exact BK419.out) hb)
        have n2_ := Aside0.mk (blk_below (g := gb420) (o := .cells #[.int .u64 a1_0, .int .u64 a1_1, .int .u64 a1_2, .string a1_3, .string a1_4] 26 (0, 0)) (by (with_reducible repeat (first | refine blk_drewN ?_ _ | refine blk_drew ?_ | refine blk_alloc ?_ _)); exact BK420.out) hb)
        have n3_ := Aside0.mk (below_step (by repeat (first | (with_reducible first | exact HB.out | apply below_alloc | apply pw_below_drewN | apply below_drew1 | refine below_set ?_ GE419.out | refine below_set ?_ GE420.out) | exact HB.out)) hb)
        have n4_ := Aside0.mk (hbox)
        have n5_ := Aside0.mk ((by rw [hg]; exact (below_size (by repeat (first | (with_reducible first | exact HB.out | apply below_alloc | apply pw_below_drewN | apply below_drew1 | refine below_set ?_ GE419.out | refine below_set ?_ GE420.out) | exact HB.out))) : w.heap.size ≤ gb439))
        have n6_ := Aside0.mk ((by rw [hg]; exact (below_size (by repeat (first | (with_reducible first | exact HB.out | apply below_alloc | apply pw_below_drewN | apply below_drew1 | refine below_set ?_ GE419.out | refine below_set ?_ GE420.out) | exact HB.out))) : w.heap.size ≤ gb439))
        have n7_ := Aside0.mk ((by rw [hg]; exact Nat.ne_of_lt (blk_lt (g := gb419) (o := .cells #[.int .u64 a0_0, .int .u64 a0_1, .int .u64 a0_2, .string a0_3, .string a0_4] 26 (0, 0)) (by (with_reducible repeat (first | refine blk_drewN ?_ _ | refine blk_drew ?_ | refine blk_alloc ?_ _)); exact BK419.out)) : gb419 ≠ gb439))
        have n8_ := Aside0.mk ((by rw [hg]; exact Nat.ne_of_gt (blk_lt (g := gb419) (o := .cells #[.int .u64 a0_0, .int .u64 a0_1, .int .u64 a0_2, .string a0_3, .string a0_4] 26 (0, 0)) (by (with_reducible repeat (first | refine blk_drewN ?_ _ | refine blk_drew ?_ | refine blk_alloc ?_ _)); exact BK419.out)) : gb439 ≠ gb419))
        have n9_ := Aside0.mk ((by rw [hg]; exact Nat.ne_of_lt (blk_lt (g := gb420) (o := .cells #[.int .u64 a1_0, .int .u64 a1_1, .int .u64 a1_2, .string a1_3, .string a1_4] 26 (0, 0)) (by (with_reducible repeat (first | refine blk_drewN ?_ _ | refine blk_drew ?_ | refine blk_alloc ?_ _)); exact BK420.out)) : gb420 ≠ gb439))
        have n10_ := Aside0.mk ((by rw [hg]; exact Nat.ne_of_gt (blk_lt (g := gb420) (o := .cells #[.int .u64 a1_0, .int .u64 a1_1, .int .u64 a1_2, .string a1_3, .string a1_4] 26 (0, 0)) (by (with_reducible repeat (first | refine blk_drewN ?_ _ | refine blk_drew ?_ | refine blk_alloc ?_ _)); exact BK420.out)) : gb439 ≠ gb420))
        clear HO425
        clear BK419
        clear BK420
        clear HB
        have HO425 := n0_
        have BK419 := n1_
        have BK420 := n2_
        have HB := n3_
        have BK439 := n4_
        have GW439 := n5_
        have GE439 := n6_
        have NB419_439 := n7_
        have NB439_419 := n8_
        have NB420_439 := n9_
        have NB439_420 := n10_
        clear n0_ n1_ n2_ n3_ n4_ n5_ n6_ n7_ n8_ n9_ n10_
        clear hb hbox hg
        refine hK.out _ _ ⟨(blk_cell BK419.out 0).trans rfl, (blk_cell BK419.out 1).trans rfl, (blk_cell BK419.out 2).trans rfl, (blk_cell BK419.out 3).trans rfl, (blk_cell BK419.out 4).trans rfl, (blk_cell BK420.out 0).trans rfl, (blk_cell BK420.out 1).trans rfl, (blk_cell BK420.out 2).trans rfl, (blk_cell BK420.out 3).trans rfl, (blk_cell BK420.out 4).trans rfl⟩ (fun hHeld => ?_)
        clear hK K
        refine norm_ (a' := ?_) ?_ ?_
        rotate_left
        ·
         show Act.put _ (some 5) _ = _
         simp only [Act.put, List.setIfInBounds_toArray, List.set_cons_zero, List.set_cons_succ, i64_w, i32_w]
         rfl
        refine one_ (i := 1) (N := some 20) #[true, true, false, true, true, false, false, true, false, false] rfl rfl (one_of HT_.out (by kernel_rfl)) (by decide) (fun K hK => ?_)
        refine goes_ Tryd.func38 (by kernel_rfl) rfl #[.agg #[.int .u64 a0_0, .int .u64 a0_1, .int .u64 a0_2, .string a0_3, .string a0_4], .string (⟨#[48]⟩ : ByteArray)] (by rfl) rfl rfl (by (try simp only [List.map_toArray, List.map_cons, List.map_nil]); first | done | rfl | (simp only [List.length_drop, List.length_take]; rfl)) ?_
        with_reducible refine (laws_svPre.calls a0_0 a0_1 a0_2 a0_3 a0_4 (⟨#[48]⟩ : ByteArray) t427 t428 t429 t430 t431 _ A20.out).mono ?_
        rintro e w34 ⟨rfl, hb⟩
        refine ⟨_, rfl, ?_⟩
        have n0_ := Aside0.mk (Kd.R_below (by (with_reducible repeat (first | apply Kd.R_alloc | apply Kd.R_drewN | apply Kd.R_drew)); exact HO425.out) hb)
        have n1_ := Aside0.mk (blk_below (g := gb419) (o := .cells #[.int .u64 a0_0, .int .u64 a0_1, .int .u64 a0_2, .string a0_3, .string a0_4] 26 (0, 0)) (by (with_reducible repeat (first | refine blk_drewN ?_ _ | refine blk_drew ?_ | refine blk_alloc ?_ _)); exact BK419.out) hb)
        have n2_ := Aside0.mk (blk_below (g := gb420) (o := .cells #[.int .u64 a1_0, .int .u64 a1_1, .int .u64 a1_2, .string a1_3, .string a1_4] 26 (0, 0)) (by (with_reducible repeat (first | refine blk_drewN ?_ _ | refine blk_drew ?_ | refine blk_alloc ?_ _)); exact BK420.out) hb)
        have n3_ := Aside0.mk (blk_below (g := gb439) (o := .cells #[.int .i64 0, .int .i64 0, .int .u64 0, .int .u64 0, .int .u64 0, .string (⟨#[]⟩ : ByteArray)] 24 (0, 0)) (by (with_reducible repeat (first | refine blk_drewN ?_ _ | refine blk_drew ?_ | refine blk_alloc ?_ _)); exact BK439.out) hb)
        have n4_ := Aside0.mk (below_step (by repeat (first | (with_reducible first | exact HB.out | apply below_alloc | apply pw_below_drewN | apply below_drew1 | refine below_set ?_ GE419.out | refine below_set ?_ GE420.out | refine below_set ?_ GE439.out) | exact HB.out)) hb)
        clear HO425
        clear BK419
        clear BK420
        clear BK439
        clear HB
        have HO425 := n0_
        have BK419 := n1_
        have BK420 := n2_
        have BK439 := n3_
        have HB := n4_
        clear n0_ n1_ n2_ n3_ n4_
        (try clear hb)
        (try clear hb2)
        (try clear hk)
        (try clear hi)
        refine hK.out _ _ ⟨(blk_cell BK419.out 0).trans rfl, (blk_cell BK419.out 1).trans rfl, (blk_cell BK419.out 2).trans rfl, (blk_cell BK419.out 3).trans rfl, (blk_cell BK419.out 4).trans rfl, (blk_cell BK420.out 0).trans rfl, (blk_cell BK420.out 1).trans rfl, (blk_cell BK420.out 2).trans rfl, (blk_cell BK420.out 3).trans rfl, (blk_cell BK420.out 4).trans rfl⟩ (fun hHeld => ?_)
        clear hK K
        refine norm_ (a' := ?_) ?_ ?_
        rotate_left
        ·
         show Act.put _ (some 20) _ = _
         simp only [Act.put, List.setIfInBounds_toArray, List.set_cons_zero, List.set_cons_succ, i64_w, i32_w]
         rfl
        refine one_ (i := 2) (N := some 21) #[true, true, true, true, true, false, false, true, false, false] rfl rfl (one_of HT_.out (by kernel_rfl)) (by decide) (fun K hK => ?_)
        refine goes_ Tryd.func28 (by kernel_rfl) rfl #[.int .i64 4, .agg #[.int .u64 t427, .int .u64 t428, .int .u64 t429, .string t430, .string t431], .int .i64 3] (by rfl) rfl rfl (by (try simp only [List.map_toArray, List.map_cons, List.map_nil]); first | done | rfl | (simp only [List.length_drop, List.length_take]; rfl)) ?_
        with_reducible refine (laws_stTerm.calls 4 t427 t428 t429 t430 t431 3 t432 t433 t434 t435 t436 t437 _ A21.out).mono ?_
        rintro e w35 ⟨rfl, hb⟩
        refine ⟨_, rfl, ?_⟩
        have n0_ := Aside0.mk (Kd.R_below (by (with_reducible repeat (first | apply Kd.R_alloc | apply Kd.R_drewN | apply Kd.R_drew)); exact HO425.out) hb)
        have n1_ := Aside0.mk (blk_below (g := gb419) (o := .cells #[.int .u64 a0_0, .int .u64 a0_1, .int .u64 a0_2, .string a0_3, .string a0_4] 26 (0, 0)) (by (with_reducible repeat (first | refine blk_drewN ?_ _ | refine blk_drew ?_ | refine blk_alloc ?_ _)); exact BK419.out) hb)
        have n2_ := Aside0.mk (blk_below (g := gb420) (o := .cells #[.int .u64 a1_0, .int .u64 a1_1, .int .u64 a1_2, .string a1_3, .string a1_4] 26 (0, 0)) (by (with_reducible repeat (first | refine blk_drewN ?_ _ | refine blk_drew ?_ | refine blk_alloc ?_ _)); exact BK420.out) hb)
        have n3_ := Aside0.mk (blk_below (g := gb439) (o := .cells #[.int .i64 0, .int .i64 0, .int .u64 0, .int .u64 0, .int .u64 0, .string (⟨#[]⟩ : ByteArray)] 24 (0, 0)) (by (with_reducible repeat (first | refine blk_drewN ?_ _ | refine blk_drew ?_ | refine blk_alloc ?_ _)); exact BK439.out) hb)
        have n4_ := Aside0.mk (below_step (by repeat (first | (with_reducible first | exact HB.out | apply below_alloc | apply pw_below_drewN | apply below_drew1 | refine below_set ?_ GE419.out | refine below_set ?_ GE420.out | refine below_set ?_ GE439.out) | exact HB.out)) hb)
        clear HO425
        clear BK419
        clear BK420
        clear BK439
        clear HB
        have HO425 := n0_
        have BK419 := n1_
        have BK420 := n2_
        have BK439 := n3_
        have HB := n4_
        clear n0_ n1_ n2_ n3_ n4_
        (try clear hb)
        (try clear hb2)
        (try clear hk)
        (try clear hi)
        refine hK.out _ _ ⟨(blk_cell BK419.out 0).trans rfl, (blk_cell BK419.out 1).trans rfl, (blk_cell BK419.out 2).trans rfl, (blk_cell BK419.out 3).trans rfl, (blk_cell BK419.out 4).trans rfl, (blk_cell BK420.out 0).trans rfl, (blk_cell BK420.out 1).trans rfl, (blk_cell BK420.out 2).trans rfl, (blk_cell BK420.out 3).trans rfl, (blk_cell BK420.out 4).trans rfl⟩ (fun hHeld => ?_)
        clear hK K
        refine norm_ (a' := ?_) ?_ ?_
        rotate_left
        ·
         show Act.put _ (some 21) _ = _
         simp only [Act.put, List.setIfInBounds_toArray, List.set_cons_zero, List.set_cons_succ, i64_w, i32_w]
         rfl
        refine one_ (i := 5) (N := some 24) #[true, true, true, true, true, true, false, true, false, false] rfl rfl (one_of HT_.out (by kernel_rfl)) (by decide) (fun K hK => ?_)
        refine goes_ Tryd.func39 (by kernel_rfl) rfl #[.agg #[.int .u64 a1_0, .int .u64 a1_1, .int .u64 a1_2, .string a1_3, .string a1_4], .agg #[.int .u64 a0_0, .int .u64 a0_1, .int .u64 a0_2, .string a0_3, .string a0_4], .int .i64 3] (by rfl) rfl rfl (by (try simp only [List.map_toArray, List.map_cons, List.map_nil]); first | done | rfl | (simp only [List.length_drop, List.length_take]; rfl)) ?_
        with_reducible refine (spec_CompareNumbers.calls a1_0 a1_1 a1_2 a1_3 a1_4 a0_0 a0_1 a0_2 a0_3 a0_4 3 t438 _ A22.out).mono ?_
        rintro e w36 ⟨rfl, hb⟩
        refine ⟨_, rfl, ?_⟩
        have n0_ := Aside0.mk (Kd.R_below (by (with_reducible repeat (first | apply Kd.R_alloc | apply Kd.R_drewN | apply Kd.R_drew)); exact HO425.out) hb)
        have n1_ := Aside0.mk (blk_below (g := gb419) (o := .cells #[.int .u64 a0_0, .int .u64 a0_1, .int .u64 a0_2, .string a0_3, .string a0_4] 26 (0, 0)) (by (with_reducible repeat (first | refine blk_drewN ?_ _ | refine blk_drew ?_ | refine blk_alloc ?_ _)); exact BK419.out) hb)
        have n2_ := Aside0.mk (blk_below (g := gb420) (o := .cells #[.int .u64 a1_0, .int .u64 a1_1, .int .u64 a1_2, .string a1_3, .string a1_4] 26 (0, 0)) (by (with_reducible repeat (first | refine blk_drewN ?_ _ | refine blk_drew ?_ | refine blk_alloc ?_ _)); exact BK420.out) hb)
        have n3_ := Aside0.mk (blk_below (g := gb439) (o := .cells #[.int .i64 0, .int .i64 0, .int .u64 0, .int .u64 0, .int .u64 0, .string (⟨#[]⟩ : ByteArray)] 24 (0, 0)) (by (with_reducible repeat (first | refine blk_drewN ?_ _ | refine blk_drew ?_ | refine blk_alloc ?_ _)); exact BK439.out) hb)
        have n4_ := Aside0.mk (below_step (by repeat (first | (with_reducible first | exact HB.out | apply below_alloc | apply pw_below_drewN | apply below_drew1 | refine below_set ?_ GE419.out | refine below_set ?_ GE420.out | refine below_set ?_ GE439.out) | exact HB.out)) hb)
        clear HO425
        clear BK419
        clear BK420
        clear BK439
        clear HB
        have HO425 := n0_
        have BK419 := n1_
        have BK420 := n2_
        have BK439 := n3_
        have HB := n4_
        clear n0_ n1_ n2_ n3_ n4_
        (try clear hb)
        (try clear hb2)
        (try clear hk)
        (try clear hi)
        refine hK.out _ _ ⟨(blk_cell BK419.out 0).trans rfl, (blk_cell BK419.out 1).trans rfl, (blk_cell BK419.out 2).trans rfl, (blk_cell BK419.out 3).trans rfl, (blk_cell BK419.out 4).trans rfl, (blk_cell BK420.out 0).trans rfl, (blk_cell BK420.out 1).trans rfl, (blk_cell BK420.out 2).trans rfl, (blk_cell BK420.out 3).trans rfl, (blk_cell BK420.out 4).trans rfl⟩ (fun hHeld => ?_)
        clear hK K
        refine norm_ (a' := ?_) ?_ ?_
        rotate_left
        ·
         show Act.put _ (some 24) _ = _
         simp only [Act.put, List.setIfInBounds_toArray, List.set_cons_zero, List.set_cons_succ, i64_w, i32_w]
         rfl
        refine pure_ (i := 6) (N := some 25) (v := ?_) (a' := ?_) #[true, true, true, true, true, true, true, true, false, false] rfl rfl (any_of HT_.out (by kernel_rfl)) (fun _ _ _ h => h) (Or.inl ⟨by rfl, ?_⟩) ?_ ?_
        rotate_left
        ·
         intro w'
         go_simp
         with_reducible rfl
        rotate_left
        ·
         simp only [Act.put, List.setIfInBounds_toArray, List.set_cons_zero, List.set_cons_succ, i64_w, i32_w]
         rfl
        exact norm_ (by simp only [putAll, Act.put, List.setIfInBounds_toArray, List.set_cons_zero, List.set_cons_succ]) (hCont (gb439) _ ⟨hHeld, (by (with_reducible repeat (first | apply Kd.R_alloc | apply Kd.R_drewN | apply Kd.R_drew)); exact Kd.R_mono HO425.out (fun _ hk => ⟨hk.1.2, hk.2⟩)), (by (with_reducible repeat (first | refine blk_drewN ?_ _ | refine blk_drew ?_ | refine blk_alloc ?_ _)); exact BK419.out), (by (with_reducible repeat (first | refine blk_drewN ?_ _ | refine blk_drew ?_ | refine blk_alloc ?_ _)); exact BK420.out), (by (with_reducible repeat (first | refine blk_drewN ?_ _ | refine blk_drew ?_ | refine blk_alloc ?_ _)); exact BK439.out), GW439.out, GE439.out, NB419_439.out, NB439_419.out, NB420_439.out, NB439_420.out, (by repeat (first | (with_reducible first | exact HB.out | apply below_alloc | apply pw_below_drewN | apply below_drew1 | refine below_set ?_ GE419.out | refine below_set ?_ GE420.out | refine below_set ?_ GE439.out) | exact HB.out))⟩)
      rintro gb439 w37 ⟨hS_, h0_, h1_, h2_, h3_, h4_, h5_, h6_, h7_, h8_, h9_, h10_⟩
      have n0_ : Aside0 (Kd.R k26 26 w37 w.heap.size (fun k_ => k_ ≠ gb419 ∧ k_ ≠ gb420) (.slice Ao30 y423.length co30) y423) := ⟨h0_⟩
      have n1_ : Aside0 (w37.heap[gb419]? = some (.cells #[.int .u64 a0_0, .int .u64 a0_1, .int .u64 a0_2, .string a0_3, .string a0_4] 26 (0, 0))) := ⟨h1_⟩
      have n2_ : Aside0 (w37.heap[gb420]? = some (.cells #[.int .u64 a1_0, .int .u64 a1_1, .int .u64 a1_2, .string a1_3, .string a1_4] 26 (0, 0))) := ⟨h2_⟩
      have n3_ : Aside0 (w37.heap[gb439]? = some (.cells #[.int .i64 0, .int .i64 0, .int .u64 0, .int .u64 0, .int .u64 0, .string (⟨#[]⟩ : ByteArray)] 24 (0, 0))) := ⟨h3_⟩
      have n4_ : Aside0 (w.heap.size ≤ gb439) := ⟨h4_⟩
      have n5_ : Aside0 (w.heap.size ≤ gb439) := ⟨h5_⟩
      have n6_ : Aside0 (gb419 ≠ gb439) := ⟨h6_⟩
      have n7_ : Aside0 (gb439 ≠ gb419) := ⟨h7_⟩
      have n8_ : Aside0 (gb420 ≠ gb439) := ⟨h8_⟩
      have n9_ : Aside0 (gb439 ≠ gb420) := ⟨h9_⟩
      have n10_ : Aside0 (Below w.heap.size w w37) := ⟨h10_⟩
      clear HO425
      clear BK419
      clear BK420
      clear HB
      clear h0_ h1_ h2_ h3_ h4_ h5_ h6_ h7_ h8_ h9_ h10_
      have HO425 := n0_
      have BK419 := n1_
      have BK420 := n2_
      have BK439 := n3_
      have GW439 := n4_
      have GE439 := n5_
      have NB419_439 := n6_
      have NB439_419 := n7_
      have NB420_439 := n8_
      have NB439_420 := n9_
      have HB := n10_
      clear n0_ n1_ n2_ n3_ n4_ n5_ n6_ n7_ n8_ n9_ n10_
      have hHeld : w37.cell? ⟨gb419, 0, none⟩ = some (.int .u64 a0_0) ∧ w37.cell? ⟨gb419, 1, none⟩ = some (.int .u64 a0_1) ∧ w37.cell? ⟨gb419, 2, none⟩ = some (.int .u64 a0_2) ∧ w37.cell? ⟨gb419, 3, none⟩ = some (.string a0_3) ∧ w37.cell? ⟨gb419, 4, none⟩ = some (.string a0_4) ∧ w37.cell? ⟨gb420, 0, none⟩ = some (.int .u64 a1_0) ∧ w37.cell? ⟨gb420, 1, none⟩ = some (.int .u64 a1_1) ∧ w37.cell? ⟨gb420, 2, none⟩ = some (.int .u64 a1_2) ∧ w37.cell? ⟨gb420, 3, none⟩ = some (.string a1_3) ∧ w37.cell? ⟨gb420, 4, none⟩ = some (.string a1_4) := hS_
      refine norm_ (a' := ?_) ?_ ?_
      rotate_left
      ·
       simp only [putAll, Act.put, List.setIfInBounds_toArray, List.set_cons_zero, List.set_cons_succ]
       rfl
      refine one_ (i := 8) (N := none) #[true, true, true, true, true, true, true, true, true, false] rfl rfl (one_of HT_.out (by kernel_rfl)) (by decide) (fun K hK => ?_)
      have hs38 : w37.cell? ⟨gb439, 0, none⟩ = some (.int .i64 0) := (blk_cell BK439.out 0).trans rfl
      have hfs38 := blk_frozen BK439.out 0
      have hns38_0 := NB419_439.out
      have hns38_1 := NB420_439.out
      have hms38_0 := NB439_419.out
      have hms38_1 := NB439_420.out
      have hs39 : w37.cell? ⟨gb439, 1, none⟩ = some (.int .i64 0) := (blk_cell BK439.out 1).trans rfl
      have hfs39 := blk_frozen BK439.out 1
      have hns39_0 := NB419_439.out
      have hns39_1 := NB420_439.out
      have hms39_0 := NB439_419.out
      have hms39_1 := NB439_420.out
      have hs40 : w37.cell? ⟨gb439, 2, none⟩ = some (.int .u64 0) := (blk_cell BK439.out 2).trans rfl
      have hfs40 := blk_frozen BK439.out 2
      have hns40_0 := NB419_439.out
      have hns40_1 := NB420_439.out
      have hms40_0 := NB439_419.out
      have hms40_1 := NB439_420.out
      have hs41 : w37.cell? ⟨gb439, 3, none⟩ = some (.int .u64 0) := (blk_cell BK439.out 3).trans rfl
      have hfs41 := blk_frozen BK439.out 3
      have hns41_0 := NB419_439.out
      have hns41_1 := NB420_439.out
      have hms41_0 := NB439_419.out
      have hms41_1 := NB439_420.out
      have hs42 : w37.cell? ⟨gb439, 4, none⟩ = some (.int .u64 0) := (blk_cell BK439.out 4).trans rfl
      have hfs42 := blk_frozen BK439.out 4
      have hns42_0 := NB419_439.out
      have hns42_1 := NB420_439.out
      have hms42_0 := NB439_419.out
      have hms42_1 := NB439_420.out
      have hs43 : w37.cell? ⟨gb439, 5, none⟩ = some (.string (⟨#[]⟩ : ByteArray)) := (blk_cell BK439.out 5).trans rfl
      have hfs43 := blk_frozen BK439.out 5
      have hns43_0 := NB419_439.out
      have hns43_1 := NB420_439.out
      have hms43_0 := NB439_419.out
      have hms43_1 := NB439_420.out
      refine skip_ (w1 := ?_) (by rfl) rfl ?_ ?_
      rotate_left
      ·
       go_simp
       rfl
      refine hK.out _ _ ⟨((cell_far (p := ⟨gb439, _, none⟩) NB419_439.out _).trans (((cell_far (p := ⟨gb439, _, none⟩) NB419_439.out _).trans (((cell_far (p := ⟨gb439, _, none⟩) NB419_439.out _).trans (((cell_far (p := ⟨gb439, _, none⟩) NB419_439.out _).trans (((cell_far (p := ⟨gb439, _, none⟩) NB419_439.out _).trans (((cell_far (p := ⟨gb439, _, none⟩) NB419_439.out _).trans (hHeld.1)))))))))))), ((cell_far (p := ⟨gb439, _, none⟩) NB419_439.out _).trans (((cell_far (p := ⟨gb439, _, none⟩) NB419_439.out _).trans (((cell_far (p := ⟨gb439, _, none⟩) NB419_439.out _).trans (((cell_far (p := ⟨gb439, _, none⟩) NB419_439.out _).trans (((cell_far (p := ⟨gb439, _, none⟩) NB419_439.out _).trans (((cell_far (p := ⟨gb439, _, none⟩) NB419_439.out _).trans (hHeld.2.1)))))))))))), ((cell_far (p := ⟨gb439, _, none⟩) NB419_439.out _).trans (((cell_far (p := ⟨gb439, _, none⟩) NB419_439.out _).trans (((cell_far (p := ⟨gb439, _, none⟩) NB419_439.out _).trans (((cell_far (p := ⟨gb439, _, none⟩) NB419_439.out _).trans (((cell_far (p := ⟨gb439, _, none⟩) NB419_439.out _).trans (((cell_far (p := ⟨gb439, _, none⟩) NB419_439.out _).trans (hHeld.2.2.1)))))))))))), ((cell_far (p := ⟨gb439, _, none⟩) NB419_439.out _).trans (((cell_far (p := ⟨gb439, _, none⟩) NB419_439.out _).trans (((cell_far (p := ⟨gb439, _, none⟩) NB419_439.out _).trans (((cell_far (p := ⟨gb439, _, none⟩) NB419_439.out _).trans (((cell_far (p := ⟨gb439, _, none⟩) NB419_439.out _).trans (((cell_far (p := ⟨gb439, _, none⟩) NB419_439.out _).trans (hHeld.2.2.2.1)))))))))))), ((cell_far (p := ⟨gb439, _, none⟩) NB419_439.out _).trans (((cell_far (p := ⟨gb439, _, none⟩) NB419_439.out _).trans (((cell_far (p := ⟨gb439, _, none⟩) NB419_439.out _).trans (((cell_far (p := ⟨gb439, _, none⟩) NB419_439.out _).trans (((cell_far (p := ⟨gb439, _, none⟩) NB419_439.out _).trans (((cell_far (p := ⟨gb439, _, none⟩) NB419_439.out _).trans (hHeld.2.2.2.2.1)))))))))))), ((cell_far (p := ⟨gb439, _, none⟩) NB420_439.out _).trans (((cell_far (p := ⟨gb439, _, none⟩) NB420_439.out _).trans (((cell_far (p := ⟨gb439, _, none⟩) NB420_439.out _).trans (((cell_far (p := ⟨gb439, _, none⟩) NB420_439.out _).trans (((cell_far (p := ⟨gb439, _, none⟩) NB420_439.out _).trans (((cell_far (p := ⟨gb439, _, none⟩) NB420_439.out _).trans (hHeld.2.2.2.2.2.1)))))))))))), ((cell_far (p := ⟨gb439, _, none⟩) NB420_439.out _).trans (((cell_far (p := ⟨gb439, _, none⟩) NB420_439.out _).trans (((cell_far (p := ⟨gb439, _, none⟩) NB420_439.out _).trans (((cell_far (p := ⟨gb439, _, none⟩) NB420_439.out _).trans (((cell_far (p := ⟨gb439, _, none⟩) NB420_439.out _).trans (((cell_far (p := ⟨gb439, _, none⟩) NB420_439.out _).trans (hHeld.2.2.2.2.2.2.1)))))))))))), ((cell_far (p := ⟨gb439, _, none⟩) NB420_439.out _).trans (((cell_far (p := ⟨gb439, _, none⟩) NB420_439.out _).trans (((cell_far (p := ⟨gb439, _, none⟩) NB420_439.out _).trans (((cell_far (p := ⟨gb439, _, none⟩) NB420_439.out _).trans (((cell_far (p := ⟨gb439, _, none⟩) NB420_439.out _).trans (((cell_far (p := ⟨gb439, _, none⟩) NB420_439.out _).trans (hHeld.2.2.2.2.2.2.2.1)))))))))))), ((cell_far (p := ⟨gb439, _, none⟩) NB420_439.out _).trans (((cell_far (p := ⟨gb439, _, none⟩) NB420_439.out _).trans (((cell_far (p := ⟨gb439, _, none⟩) NB420_439.out _).trans (((cell_far (p := ⟨gb439, _, none⟩) NB420_439.out _).trans (((cell_far (p := ⟨gb439, _, none⟩) NB420_439.out _).trans (((cell_far (p := ⟨gb439, _, none⟩) NB420_439.out _).trans (hHeld.2.2.2.2.2.2.2.2.1)))))))))))), ((cell_far (p := ⟨gb439, _, none⟩) NB420_439.out _).trans (((cell_far (p := ⟨gb439, _, none⟩) NB420_439.out _).trans (((cell_far (p := ⟨gb439, _, none⟩) NB420_439.out _).trans (((cell_far (p := ⟨gb439, _, none⟩) NB420_439.out _).trans (((cell_far (p := ⟨gb439, _, none⟩) NB420_439.out _).trans (((cell_far (p := ⟨gb439, _, none⟩) NB420_439.out _).trans (hHeld.2.2.2.2.2.2.2.2.2))))))))))))⟩ (fun hHeld => ?_)
      clear hK K
      refine pure_ (i := 9) (N := some 6) (v := ?_) (a' := ?_) #[true, true, true, true, true, true, true, true, true, true] rfl rfl (any_of HT_.out (by kernel_rfl)) (fun _ _ _ h => h) (Or.inl ⟨by rfl, ?_⟩) ?_ ?_
      rotate_left
      ·
       intro w'
       go_simp
       with_reducible rfl
      rotate_left
      ·
       simp only [Act.put, List.setIfInBounds_toArray, List.set_cons_zero, List.set_cons_succ, i64_w, i32_w]
       rfl
      refine done_ (done_of HT_.out (by kernel_rfl)) ?_
      have hnb44 := NB439_419.out
      have hnc44 := NB419_439.out
      have hnb45 := NB439_420.out
      have hnc45 := NB420_439.out
      have hcz46_0 : w37.cell? ⟨gb439, 0, none⟩ = some (.int .i64 0) := (blk_cell BK439.out 0).trans rfl
      have hcz46_1 : w37.cell? ⟨gb439, 1, none⟩ = some (.int .i64 0) := (blk_cell BK439.out 1).trans rfl
      have hcz46_2 : w37.cell? ⟨gb439, 2, none⟩ = some (.int .u64 0) := (blk_cell BK439.out 2).trans rfl
      have hcz46_3 : w37.cell? ⟨gb439, 3, none⟩ = some (.int .u64 0) := (blk_cell BK439.out 3).trans rfl
      have hcz46_4 : w37.cell? ⟨gb439, 4, none⟩ = some (.int .u64 0) := (blk_cell BK439.out 4).trans rfl
      have hcz46_5 : w37.cell? ⟨gb439, 5, none⟩ = some (.string (⟨#[]⟩ : ByteArray)) := (blk_cell BK439.out 5).trans rfl
      have hfz46_0 := blk_frozen BK439.out 0
      have hfz46_1 := blk_frozen BK439.out 1
      have hfz46_2 := blk_frozen BK439.out 2
      have hfz46_3 := blk_frozen BK439.out 3
      have hfz46_4 := blk_frozen BK439.out 4
      have hfz46_5 := blk_frozen BK439.out 5
      have hcz47_0 : w37.cell? ⟨gb420, 0, none⟩ = some (.int .u64 a1_0) := (blk_cell BK420.out 0).trans rfl
      have hcz47_1 : w37.cell? ⟨gb420, 1, none⟩ = some (.int .u64 a1_1) := (blk_cell BK420.out 1).trans rfl
      have hcz47_2 : w37.cell? ⟨gb420, 2, none⟩ = some (.int .u64 a1_2) := (blk_cell BK420.out 2).trans rfl
      have hcz47_3 : w37.cell? ⟨gb420, 3, none⟩ = some (.string a1_3) := (blk_cell BK420.out 3).trans rfl
      have hcz47_4 : w37.cell? ⟨gb420, 4, none⟩ = some (.string a1_4) := (blk_cell BK420.out 4).trans rfl
      have hfz47_0 := blk_frozen BK420.out 0
      have hfz47_1 := blk_frozen BK420.out 1
      have hfz47_2 := blk_frozen BK420.out 2
      have hfz47_3 := blk_frozen BK420.out 3
      have hfz47_4 := blk_frozen BK420.out 4
      try go_wp2_with (first | ((with_reducible refine gate_callee (f := 18) rfl ?_); refine goesL_ (some 28) rfl rfl Tryd.func18 (by kernel_rfl) rfl #[.agg #[.int .i64 t432, .int .i64 t433, .int .u64 t434, .int .u64 t435, .int .u64 t436, .string t437], .agg #[.int .u64 a1_0, .int .u64 a1_1, .int .u64 a1_2, .string a1_3, .string a1_4], .bool true] rfl (by (try simp only [List.map_toArray, List.map_cons, List.map_nil]); first | done | rfl | (simp only [List.length_drop, List.length_take]; rfl)) ?_; (with_reducible refine (impl_TermHolds.calls t432 t433 t434 t435 t436 t437 a1_0 a1_1 a1_2 a1_3 a1_4 true t440 _ ?side1 A23.out).mono ?_); (case side1 => exact HStd.out.below (by repeat (first | (with_reducible first | exact HB.out | apply below_alloc | apply pw_below_drewN | apply below_drew1 | refine below_set ?_ GE419.out | refine below_set ?_ GE420.out | refine below_set ?_ GE439.out) | exact HB.out))); rintro e w48 ⟨rfl, hb⟩; refine ⟨_, rfl, ?_⟩; have n0_ := Aside0.mk (Kd.R_below (by (with_reducible repeat (first | apply Kd.R_alloc | apply Kd.R_drewN | apply Kd.R_drew)); exact (Kd.R_mono (Kd.R_far (p := ⟨gb439, 5, none⟩) (Kd.R_far (p := ⟨gb439, 4, none⟩) (Kd.R_far (p := ⟨gb439, 3, none⟩) (Kd.R_far (p := ⟨gb439, 2, none⟩) (Kd.R_far (p := ⟨gb439, 1, none⟩) (Kd.R_far (p := ⟨gb439, 0, none⟩) (Kd.R_types HO425.out BK439.out (by decide)) (fun _ hk => hk.2) (.int .i64 t432)) (fun _ hk => hk.2) (.int .i64 t433)) (fun _ hk => hk.2) (.int .u64 t434)) (fun _ hk => hk.2) (.int .u64 t435)) (fun _ hk => hk.2) (.int .u64 t436)) (fun _ hk => hk.2) (.string t437)) (fun _ h_ => h_.1))) hb); have n1_ := Aside0.mk (blk_below (g := gb419) (o := .cells #[.int .u64 a0_0, .int .u64 a0_1, .int .u64 a0_2, .string a0_3, .string a0_4] 26 (0, 0)) (by (with_reducible repeat (first | refine blk_drewN ?_ _ | refine blk_drew ?_ | refine blk_alloc ?_ _)); refine blk_far ?_ NB419_439.out _; (with_reducible repeat (first | refine blk_drewN ?_ _ | refine blk_drew ?_ | refine blk_alloc ?_ _)); refine blk_far ?_ NB419_439.out _; (with_reducible repeat (first | refine blk_drewN ?_ _ | refine blk_drew ?_ | refine blk_alloc ?_ _)); refine blk_far ?_ NB419_439.out _; (with_reducible repeat (first | refine blk_drewN ?_ _ | refine blk_drew ?_ | refine blk_alloc ?_ _)); refine blk_far ?_ NB419_439.out _; (with_reducible repeat (first | refine blk_drewN ?_ _ | refine blk_drew ?_ | refine blk_alloc ?_ _)); refine blk_far ?_ NB419_439.out _; (with_reducible repeat (first | refine blk_drewN ?_ _ | refine blk_drew ?_ | refine blk_alloc ?_ _)); refine blk_far ?_ NB419_439.out _; (with_reducible repeat (first | refine blk_drewN ?_ _ | refine blk_drew ?_ | refine blk_alloc ?_ _)); exact BK419.out) hb); have n2_ := Aside0.mk (blk_below (g := gb420) (o := .cells #[.int .u64 a1_0, .int .u64 a1_1, .int .u64 a1_2, .string a1_3, .string a1_4] 26 (0, 0)) (by (with_reducible repeat (first | refine blk_drewN ?_ _ | refine blk_drew ?_ | refine blk_alloc ?_ _)); refine blk_far ?_ NB420_439.out _; (with_reducible repeat (first | refine blk_drewN ?_ _ | refine blk_drew ?_ | refine blk_alloc ?_ _)); refine blk_far ?_ NB420_439.out _; (with_reducible repeat (first | refine blk_drewN ?_ _ | refine blk_drew ?_ | refine blk_alloc ?_ _)); refine blk_far ?_ NB420_439.out _; (with_reducible repeat (first | refine blk_drewN ?_ _ | refine blk_drew ?_ | refine blk_alloc ?_ _)); refine blk_far ?_ NB420_439.out _; (with_reducible repeat (first | refine blk_drewN ?_ _ | refine blk_drew ?_ | refine blk_alloc ?_ _)); refine blk_far ?_ NB420_439.out _; (with_reducible repeat (first | refine blk_drewN ?_ _ | refine blk_drew ?_ | refine blk_alloc ?_ _)); refine blk_far ?_ NB420_439.out _; (with_reducible repeat (first | refine blk_drewN ?_ _ | refine blk_drew ?_ | refine blk_alloc ?_ _)); exact BK420.out) hb); have n3_ := Aside0.mk (blk_below (g := gb439) (o := .cells #[.int .i64 t432, .int .i64 t433, .int .u64 t434, .int .u64 t435, .int .u64 t436, .string t437] 24 (0, 0)) (by (with_reducible repeat (first | refine blk_drewN ?_ _ | refine blk_drew ?_ | refine blk_alloc ?_ _)); refine blk_put (cs := #[.int .i64 t432, .int .i64 t433, .int .u64 t434, .int .u64 t435, .int .u64 t436, .string (⟨#[]⟩ : ByteArray)]) ?_ 5 _ rfl; (with_reducible repeat (first | refine blk_drewN ?_ _ | refine blk_drew ?_ | refine blk_alloc ?_ _)); refine blk_put (cs := #[.int .i64 t432, .int .i64 t433, .int .u64 t434, .int .u64 t435, .int .u64 0, .string (⟨#[]⟩ : ByteArray)]) ?_ 4 _ rfl; (with_reducible repeat (first | refine blk_drewN ?_ _ | refine blk_drew ?_ | refine blk_alloc ?_ _)); refine blk_put (cs := #[.int .i64 t432, .int .i64 t433, .int .u64 t434, .int .u64 0, .int .u64 0, .string (⟨#[]⟩ : ByteArray)]) ?_ 3 _ rfl; (with_reducible repeat (first | refine blk_drewN ?_ _ | refine blk_drew ?_ | refine blk_alloc ?_ _)); refine blk_put (cs := #[.int .i64 t432, .int .i64 t433, .int .u64 0, .int .u64 0, .int .u64 0, .string (⟨#[]⟩ : ByteArray)]) ?_ 2 _ rfl; (with_reducible repeat (first | refine blk_drewN ?_ _ | refine blk_drew ?_ | refine blk_alloc ?_ _)); refine blk_put (cs := #[.int .i64 t432, .int .i64 0, .int .u64 0, .int .u64 0, .int .u64 0, .string (⟨#[]⟩ : ByteArray)]) ?_ 1 _ rfl; (with_reducible repeat (first | refine blk_drewN ?_ _ | refine blk_drew ?_ | refine blk_alloc ?_ _)); refine blk_put (cs := #[.int .i64 0, .int .i64 0, .int .u64 0, .int .u64 0, .int .u64 0, .string (⟨#[]⟩ : ByteArray)]) ?_ 0 _ rfl; (with_reducible repeat (first | refine blk_drewN ?_ _ | refine blk_drew ?_ | refine blk_alloc ?_ _)); exact BK439.out) hb); have n4_ := Aside0.mk (below_step (by repeat (first | (with_reducible first | exact HB.out | apply below_alloc | apply pw_below_drewN | apply below_drew1 | refine below_set ?_ GE419.out | refine below_set ?_ GE420.out | refine below_set ?_ GE439.out) | exact HB.out)) hb); clear HO425; clear BK419; clear BK420; clear BK439; clear HB; have HO425 := n0_; have BK419 := n1_; have BK420 := n2_; have BK439 := n3_; have HB := n4_; clear n0_ n1_ n2_ n3_ n4_; (try clear hb); (try clear hb2); (try clear hk); (try clear hi); have hcz49_0 : w48.cell? ⟨gb439, 0, none⟩ = some (.int .i64 t432) := (blk_cell BK439.out 0).trans rfl; have hcz49_1 : w48.cell? ⟨gb439, 1, none⟩ = some (.int .i64 t433) := (blk_cell BK439.out 1).trans rfl; have hcz49_2 : w48.cell? ⟨gb439, 2, none⟩ = some (.int .u64 t434) := (blk_cell BK439.out 2).trans rfl; have hcz49_3 : w48.cell? ⟨gb439, 3, none⟩ = some (.int .u64 t435) := (blk_cell BK439.out 3).trans rfl; have hcz49_4 : w48.cell? ⟨gb439, 4, none⟩ = some (.int .u64 t436) := (blk_cell BK439.out 4).trans rfl; have hcz49_5 : w48.cell? ⟨gb439, 5, none⟩ = some (.string t437) := (blk_cell BK439.out 5).trans rfl; have hfz49_0 := blk_frozen BK439.out 0; have hfz49_1 := blk_frozen BK439.out 1; have hfz49_2 := blk_frozen BK439.out 2; have hfz49_3 := blk_frozen BK439.out 3; have hfz49_4 := blk_frozen BK439.out 4; have hfz49_5 := blk_frozen BK439.out 5) | ((with_reducible refine gate_dst (N := 33) rfl ?_); (try (refine gate_guard (by rfl) ?_; dsimp only)); refine Kd.R_lit k24 _ 24 ?hg (N := 33) ?hd (xs := ([(⟨t432, t433, t434, t435, t436, t437⟩ : S24)] : List (S24))) (inner := [.int .i64 t432, .int .i64 t433, .int .u64 t434, .int .u64 t435, .int .u64 t436, .string t437]) (ok := fun _ => True) (okp := fun _ => True) ?hr ?hp (fun _ hk => hk) trivial (Below.refl _ _) (Nat.le_refl _) (by simp) ?_; (case hd => rfl); (case hg => rfl); (case hr => first | (go_simp; done) | (go_simp; rfl) | (go_simp; simp [u8w]; done)); (case hp => exact (Reps.c6 (show Kd.M k24 _ _ _ (⟨t432, t433, t434, t435, t436, t437⟩ : S24) [.int .i64 t432, .int .i64 t433, .int .u64 t434, .int .u64 t435, .int .u64 t436, .string t437] from (k24_mkM _ _ _ (⟨t432, t433, t434, t435, t436, t437⟩ : S24) )) (Reps.none _ _))); intro v442 w50 ho51 hb hg_ hnew_; clear hg_ hnew_; (first | rw [← Ny441.out] at ho51 | (simp only [Int.reduceToNat] at ho51; rw [← Ny441.out] at ho51)); have n0_ := Aside0.mk (Kd.R_below (by (with_reducible repeat (first | apply Kd.R_alloc | apply Kd.R_drewN | apply Kd.R_drew)); exact HO425.out) hb); have n1_ := Aside0.mk (Kd.R_lower (Kd.R_newB ho51 (g := gb439) (o := .cells #[.int .i64 t432, .int .i64 t433, .int .u64 t434, .int .u64 t435, .int .u64 t436, .string t437] 24 (0, 0)) (by (with_reducible repeat (first | refine blk_drewN ?_ _ | refine blk_drew ?_ | refine blk_alloc ?_ _)); exact BK439.out)) (below_size (by repeat (first | (with_reducible first | exact HB.out | apply below_alloc | apply pw_below_drewN | apply below_drew1 | refine below_set ?_ GE419.out | refine below_set ?_ GE420.out | refine below_set ?_ GE439.out) | exact HB.out)))); have n2_ := Aside0.mk (blk_below (g := gb419) (o := .cells #[.int .u64 a0_0, .int .u64 a0_1, .int .u64 a0_2, .string a0_3, .string a0_4] 26 (0, 0)) (by (with_reducible repeat (first | refine blk_drewN ?_ _ | refine blk_drew ?_ | refine blk_alloc ?_ _)); exact BK419.out) hb); have n3_ := Aside0.mk (blk_below (g := gb420) (o := .cells #[.int .u64 a1_0, .int .u64 a1_1, .int .u64 a1_2, .string a1_3, .string a1_4] 26 (0, 0)) (by (with_reducible repeat (first | refine blk_drewN ?_ _ | refine blk_drew ?_ | refine blk_alloc ?_ _)); exact BK420.out) hb); have n4_ := Aside0.mk (blk_below (g := gb439) (o := .cells #[.int .i64 t432, .int .i64 t433, .int .u64 t434, .int .u64 t435, .int .u64 t436, .string t437] 24 (0, 0)) (by (with_reducible repeat (first | refine blk_drewN ?_ _ | refine blk_drew ?_ | refine blk_alloc ?_ _)); exact BK439.out) hb); have n5_ := Aside0.mk (below_step (by repeat (first | (with_reducible first | exact HB.out | apply below_alloc | apply pw_below_drewN | apply below_drew1 | refine below_set ?_ GE419.out | refine below_set ?_ GE420.out | refine below_set ?_ GE439.out) | exact HB.out)) hb); clear HO425; clear BK419; clear BK420; clear BK439; clear HB; have HO425 := n0_; have HO443 := n1_; have BK419 := n2_; have BK420 := n3_; have BK439 := n4_; have HB := n5_; clear n0_ n1_ n2_ n3_ n4_ n5_; clear hb ho51; obtain ⟨Ao52, co52, eo52⟩ := Kd.R_slice HO443.out; subst eo52) | ((with_reducible refine gate_dst (N := 34) rfl ?_); (try (refine gate_guard (by rfl) ?_; dsimp only)); refine Kd.N_lit (Kd.slice 24 k24) _ 42 ?hg (N' := 34) ?hd (xs := ([y441] : List (List (S24)))) (inner := [.slice Ao52 y441.length co52]) (ok := (fun k_ => some k_ ≠ (.slice Ao30 y423.length co30 : Value).ownBlock ∧ k_ ≠ gb419 ∧ k_ ≠ gb420 ∧ k_ ≠ gb439)) (okp := (fun k_ => some k_ ≠ (.slice Ao30 y423.length co30 : Value).ownBlock ∧ k_ ≠ gb419 ∧ k_ ≠ gb420 ∧ k_ ≠ gb439)) ?hr ?hp (fun _ hk => hk) ((show ∀ k_, w50.heap.size ≤ k_ → (fun k_ => some k_ ≠ (.slice Ao30 y423.length co30 : Value).ownBlock ∧ k_ ≠ gb419 ∧ k_ ≠ gb420 ∧ k_ ≠ gb439) k_ from fun k_ hk => ⟨Kd.fresh' (Kd.R_lt (by (with_reducible repeat (first | apply Kd.R_alloc | apply Kd.R_drewN | apply Kd.R_drew)); exact HO425.out)) k_ hk, Kd.freshB (g := gb419) (o := .cells #[.int .u64 a0_0, .int .u64 a0_1, .int .u64 a0_2, .string a0_3, .string a0_4] 26 (0, 0)) (by (with_reducible repeat (first | refine blk_drewN ?_ _ | refine blk_drew ?_ | refine blk_alloc ?_ _)); exact BK419.out) k_ hk, Kd.freshB (g := gb420) (o := .cells #[.int .u64 a1_0, .int .u64 a1_1, .int .u64 a1_2, .string a1_3, .string a1_4] 26 (0, 0)) (by (with_reducible repeat (first | refine blk_drewN ?_ _ | refine blk_drew ?_ | refine blk_alloc ?_ _)); exact BK420.out) k_ hk, Kd.freshB (g := gb439) (o := .cells #[.int .i64 t432, .int .i64 t433, .int .u64 t434, .int .u64 t435, .int .u64 t436, .string t437] 24 (0, 0)) (by (with_reducible repeat (first | refine blk_drewN ?_ _ | refine blk_drew ?_ | refine blk_alloc ?_ _)); exact BK439.out) k_ hk⟩) _ (Nat.le_refl _)) (Below.refl _ _) (Nat.le_refl _) (by simp) ?_; (case hd => rfl); (case hg => rfl); (case hr => first | (go_simp; done) | (go_simp; rfl) | (go_simp; simp [u8w]; done)); (case hp => exact (Reps.one (show Kd.FK (Kd.slice 24 k24) _ _ y441 [.slice Ao52 y441.length co52] from (Kd.FK_slice_mk (Kd.R_reads' (Kd.R_mono (ok' := (fun k_ => some k_ ≠ (.slice Ao30 y423.length co30 : Value).ownBlock ∧ k_ ≠ gb419 ∧ k_ ≠ gb420 ∧ k_ ≠ gb439)) (Kd.R_types (Kd.R_types (Kd.R_apart' (HO443.out) (Kd.R_typed HO425.out) (by decide)) BK419.out (by decide)) BK420.out (by decide)) (fun k_ hk => ⟨hk.1.1.2, ⟨hk.1.2, ⟨hk.2, hk.1.1.1.2⟩⟩⟩))).2.1 (Kd.R_F (Kd.R_mono (ok' := (fun k_ => some k_ ≠ (.slice Ao30 y423.length co30 : Value).ownBlock ∧ k_ ≠ gb419 ∧ k_ ≠ gb420 ∧ k_ ≠ gb439)) (Kd.R_types (Kd.R_types (Kd.R_apart' (HO443.out) (Kd.R_typed HO425.out) (by decide)) BK419.out (by decide)) BK420.out (by decide)) (fun k_ hk => ⟨hk.1.1.2, ⟨hk.1.2, ⟨hk.2, hk.1.1.1.2⟩⟩⟩))))) (Reps.none _ _))); intro v445 w53 ho54 hb hg_ hnew_; clear hg_ hnew_; (first | rw [← Ny444.out] at ho54 | (simp only [Int.reduceToNat] at ho54; rw [← Ny444.out] at ho54)); have n0_ := Aside0.mk (Kd.R_below (by (with_reducible repeat (first | apply Kd.R_alloc | apply Kd.R_drewN | apply Kd.R_drew)); exact HO425.out) hb); have n1_ := Aside0.mk (Kd.N_lower ho54 (below_size (by repeat (first | (with_reducible first | exact HB.out | apply below_alloc | apply pw_below_drewN | apply below_drew1 | refine below_set ?_ GE419.out | refine below_set ?_ GE420.out | refine below_set ?_ GE439.out) | exact HB.out)))); have n2_ := Aside0.mk (blk_below (g := gb419) (o := .cells #[.int .u64 a0_0, .int .u64 a0_1, .int .u64 a0_2, .string a0_3, .string a0_4] 26 (0, 0)) (by (with_reducible repeat (first | refine blk_drewN ?_ _ | refine blk_drew ?_ | refine blk_alloc ?_ _)); exact BK419.out) hb); have n3_ := Aside0.mk (blk_below (g := gb420) (o := .cells #[.int .u64 a1_0, .int .u64 a1_1, .int .u64 a1_2, .string a1_3, .string a1_4] 26 (0, 0)) (by (with_reducible repeat (first | refine blk_drewN ?_ _ | refine blk_drew ?_ | refine blk_alloc ?_ _)); exact BK420.out) hb); have n4_ := Aside0.mk (blk_below (g := gb439) (o := .cells #[.int .i64 t432, .int .i64 t433, .int .u64 t434, .int .u64 t435, .int .u64 t436, .string t437] 24 (0, 0)) (by (with_reducible repeat (first | refine blk_drewN ?_ _ | refine blk_drew ?_ | refine blk_alloc ?_ _)); exact BK439.out) hb); have n5_ := Aside0.mk (below_step (by repeat (first | (with_reducible first | exact HB.out | apply below_alloc | apply pw_below_drewN | apply below_drew1 | refine below_set ?_ GE419.out | refine below_set ?_ GE420.out | refine below_set ?_ GE439.out) | exact HB.out)) hb); clear HO425; clear BK419; clear BK420; clear BK439; clear HB; clear HO443; have HO425 := n0_; have HO446 := n1_; have BK419 := n2_; have BK420 := n3_; have BK439 := n4_; have HB := n5_; clear n0_ n1_ n2_ n3_ n4_ n5_; clear hb ho54; have hcz55_0 : w53.cell? ⟨gb420, 0, none⟩ = some (.int .u64 a1_0) := (blk_cell BK420.out 0).trans rfl; have hcz55_1 : w53.cell? ⟨gb420, 1, none⟩ = some (.int .u64 a1_1) := (blk_cell BK420.out 1).trans rfl; have hcz55_2 : w53.cell? ⟨gb420, 2, none⟩ = some (.int .u64 a1_2) := (blk_cell BK420.out 2).trans rfl; have hcz55_3 : w53.cell? ⟨gb420, 3, none⟩ = some (.string a1_3) := (blk_cell BK420.out 3).trans rfl; have hcz55_4 : w53.cell? ⟨gb420, 4, none⟩ = some (.string a1_4) := (blk_cell BK420.out 4).trans rfl; have hfz55_0 := blk_frozen BK420.out 0; have hfz55_1 := blk_frozen BK420.out 1; have hfz55_2 := blk_frozen BK420.out 2; have hfz55_3 := blk_frozen BK420.out 3; have hfz55_4 := blk_frozen BK420.out 4; obtain ⟨Ao56, co56, eo56⟩ := Kd.N_slice HO446.out; subst eo56) | (go_at_call 37; (with_reducible refine (impl_TermsHold.calls _ _ y444 a1_0 a1_1 a1_2 a1_3 a1_4 false t447 _ ?side1 ?side2 ?side3 A25.out).mono ?_); (case side1 => repeat (first | exact (Kd.N_reads' HO446.out).2.2 | (with_reducible refine Kd.C_alloc ?_ _) | (with_reducible refine Kd.C_drewN ?_ _) | (with_reducible refine Kd.C_drew ?_))); (case side2 => exact (Kd.N_reads' HO446.out).2.1); (case side3 => exact HStd.out.below (by repeat (first | (with_reducible first | exact HB.out | apply below_alloc | apply pw_below_drewN | apply below_drew1 | refine below_set ?_ GE419.out | refine below_set ?_ GE420.out | refine below_set ?_ GE439.out) | exact HB.out))); rintro e w57 ⟨rfl, hb⟩; have n0_ := Aside0.mk (Kd.R_below (by (with_reducible repeat (first | apply Kd.R_alloc | apply Kd.R_drewN | apply Kd.R_drew)); exact HO425.out) hb); have n1_ := Aside0.mk (Kd.N_below (by (with_reducible repeat (first | apply Kd.N_alloc | apply Kd.N_drewN | apply Kd.N_drew)); exact HO446.out) hb); have n2_ := Aside0.mk (blk_below (g := gb419) (o := .cells #[.int .u64 a0_0, .int .u64 a0_1, .int .u64 a0_2, .string a0_3, .string a0_4] 26 (0, 0)) (by (with_reducible repeat (first | refine blk_drewN ?_ _ | refine blk_drew ?_ | refine blk_alloc ?_ _)); exact BK419.out) hb); have n3_ := Aside0.mk (blk_below (g := gb420) (o := .cells #[.int .u64 a1_0, .int .u64 a1_1, .int .u64 a1_2, .string a1_3, .string a1_4] 26 (0, 0)) (by (with_reducible repeat (first | refine blk_drewN ?_ _ | refine blk_drew ?_ | refine blk_alloc ?_ _)); exact BK420.out) hb); have n4_ := Aside0.mk (blk_below (g := gb439) (o := .cells #[.int .i64 t432, .int .i64 t433, .int .u64 t434, .int .u64 t435, .int .u64 t436, .string t437] 24 (0, 0)) (by (with_reducible repeat (first | refine blk_drewN ?_ _ | refine blk_drew ?_ | refine blk_alloc ?_ _)); exact BK439.out) hb); have n5_ := Aside0.mk (below_step (by repeat (first | (with_reducible first | exact HB.out | apply below_alloc | apply pw_below_drewN | apply below_drew1 | refine below_set ?_ GE419.out | refine below_set ?_ GE420.out | refine below_set ?_ GE439.out) | exact HB.out)) hb); clear HO425; clear HO446; clear BK419; clear BK420; clear BK439; clear HB; have HO425 := n0_; have HO446 := n1_; have BK419 := n2_; have BK420 := n3_; have BK439 := n4_; have HB := n5_; clear n0_ n1_ n2_ n3_ n4_ n5_; (try clear hb); (try clear hb2); (try clear hk); (try clear hi)))
      go_ret
      exact ⟨by first | rfl | (simp [errW_none, errW_some] <;> rfl) | (simp [*, errW_none, errW_some] <;> rfl) | (simp [bneNil]; done), by repeat (first | (with_reducible first | exact HB.out | apply below_alloc | apply pw_below_drewN | apply below_drew1 | refine below_set ?_ GE419.out | refine below_set ?_ GE420.out | refine below_set ?_ GE439.out) | exact HB.out)⟩
     ·
      rw [if_neg c24] at H
      have c24b0 : (t440 == (decide (t438 ≥ 0))) = false := by simpa using c24
      (try (have c24b1 : decide (t440 = (decide (t438 ≥ 0))) = false := by simpa using c24))
      (try (have c24b2 : (t440 == (decide (t438 ≥ 0))) = false := by simpa using c24))
      (try (have c24b3 : ¬ (t440 = (decide (t438 ≥ 0))) := by simpa using c24))
      clear c24
      obtain rfl := Option.some.inj H
      have hnb58 := NB420_419.out
      have hnc58 := NB419_420.out
      have hcz59_0 : wc.cell? ⟨gb420, 0, none⟩ = some (.int .u64 a1_0) := (blk_cell BK420.out 0).trans rfl
      have hcz59_1 : wc.cell? ⟨gb420, 1, none⟩ = some (.int .u64 a1_1) := (blk_cell BK420.out 1).trans rfl
      have hcz59_2 : wc.cell? ⟨gb420, 2, none⟩ = some (.int .u64 a1_2) := (blk_cell BK420.out 2).trans rfl
      have hcz59_3 : wc.cell? ⟨gb420, 3, none⟩ = some (.string a1_3) := (blk_cell BK420.out 3).trans rfl
      have hcz59_4 : wc.cell? ⟨gb420, 4, none⟩ = some (.string a1_4) := (blk_cell BK420.out 4).trans rfl
      have hfz59_0 := blk_frozen BK420.out 0
      have hfz59_1 := blk_frozen BK420.out 1
      have hfz59_2 := blk_frozen BK420.out 2
      have hfz59_3 := blk_frozen BK420.out 3
      have hfz59_4 := blk_frozen BK420.out 4
      try go_wp2_with (first | ((with_reducible refine gate_dst (N := 16) rfl ?_); (try (refine gate_guard (by rfl) ?_; dsimp only)); refine Kd.R_lit k26 _ 26 ?hg (N := 16) ?hd (xs := ([(⟨a1_0, a1_1, a1_2, a1_3, a1_4⟩ : S26)] : List (S26))) (inner := [.int .u64 a1_0, .int .u64 a1_1, .int .u64 a1_2, .string a1_3, .string a1_4]) (ok := fun _ => True) (okp := fun _ => True) ?hr ?hp (fun _ hk => hk) trivial (Below.refl _ _) (Nat.le_refl _) (by simp) ?_; (case hd => rfl); (case hg => rfl); (case hr => first | (go_simp; done) | (go_simp; rfl) | (go_simp; simp [u8w]; done)); (case hp => exact (Reps.c5 (show Kd.M k26 _ _ _ (⟨a1_0, a1_1, a1_2, a1_3, a1_4⟩ : S26) [.int .u64 a1_0, .int .u64 a1_1, .int .u64 a1_2, .string a1_3, .string a1_4] from (k26_mkM _ _ _ (⟨a1_0, a1_1, a1_2, a1_3, a1_4⟩ : S26) )) (Reps.none _ _))); intro v424 w60 ho61 hb hg_ hnew_; clear hg_ hnew_; (first | rw [← Ny423.out] at ho61 | (simp only [Int.reduceToNat] at ho61; rw [← Ny423.out] at ho61)); have n0_ := Aside0.mk (Kd.R_lower (Kd.R_newB (Kd.R_newB ho61 (g := gb419) (o := .cells #[.int .u64 a0_0, .int .u64 a0_1, .int .u64 a0_2, .string a0_3, .string a0_4] 26 (0, 0)) (by (with_reducible repeat (first | refine blk_drewN ?_ _ | refine blk_drew ?_ | refine blk_alloc ?_ _)); exact BK419.out)) (g := gb420) (o := .cells #[.int .u64 a1_0, .int .u64 a1_1, .int .u64 a1_2, .string a1_3, .string a1_4] 26 (0, 0)) (by (with_reducible repeat (first | refine blk_drewN ?_ _ | refine blk_drew ?_ | refine blk_alloc ?_ _)); exact BK420.out)) (below_size (by repeat (first | (with_reducible first | exact HB.out | apply below_alloc | apply pw_below_drewN | apply below_drew1 | refine below_set ?_ GE419.out | refine below_set ?_ GE420.out) | exact HB.out)))); have n1_ := Aside0.mk (blk_below (g := gb419) (o := .cells #[.int .u64 a0_0, .int .u64 a0_1, .int .u64 a0_2, .string a0_3, .string a0_4] 26 (0, 0)) (by (with_reducible repeat (first | refine blk_drewN ?_ _ | refine blk_drew ?_ | refine blk_alloc ?_ _)); exact BK419.out) hb); have n2_ := Aside0.mk (blk_below (g := gb420) (o := .cells #[.int .u64 a1_0, .int .u64 a1_1, .int .u64 a1_2, .string a1_3, .string a1_4] 26 (0, 0)) (by (with_reducible repeat (first | refine blk_drewN ?_ _ | refine blk_drew ?_ | refine blk_alloc ?_ _)); exact BK420.out) hb); have n3_ := Aside0.mk (below_step (by repeat (first | (with_reducible first | exact HB.out | apply below_alloc | apply pw_below_drewN | apply below_drew1 | refine below_set ?_ GE419.out | refine below_set ?_ GE420.out) | exact HB.out)) hb); clear BK419; clear BK420; clear HB; have HO425 := n0_; have BK419 := n1_; have BK420 := n2_; have HB := n3_; clear n0_ n1_ n2_ n3_; clear hb ho61; obtain ⟨Ao62, co62, eo62⟩ := Kd.R_slice HO425.out; subst eo62) | ((with_reducible refine gate_callee (f := 16) rfl ?_); refine goesL_ (some 17) rfl rfl Tryd.func16 (by kernel_rfl) rfl #[.slice Ao62 y423.length co62] rfl (by (try simp only [List.map_toArray, List.map_cons, List.map_nil]); first | done | rfl | (simp only [List.length_drop, List.length_take]; rfl)) ?_; (with_reducible refine (laws_svGood.calls kj2 _ _ y423 true _ ?side1 ?side2 A18.out).mono ?_); (case side1 => repeat (first | exact (Kd.R_reads' HO425.out).2.2 | (with_reducible refine Kd.C_alloc ?_ _) | (with_reducible refine Kd.C_drewN ?_ _) | (with_reducible refine Kd.C_drew ?_))); (case side2 => exact (Kd.R_reads' HO425.out).2.1); rintro e w63 ⟨rfl, hb⟩; refine ⟨_, rfl, ?_⟩; have n0_ := Aside0.mk (Kd.R_below (by (with_reducible repeat (first | apply Kd.R_alloc | apply Kd.R_drewN | apply Kd.R_drew)); exact HO425.out) hb); have n1_ := Aside0.mk (blk_below (g := gb419) (o := .cells #[.int .u64 a0_0, .int .u64 a0_1, .int .u64 a0_2, .string a0_3, .string a0_4] 26 (0, 0)) (by (with_reducible repeat (first | refine blk_drewN ?_ _ | refine blk_drew ?_ | refine blk_alloc ?_ _)); exact BK419.out) hb); have n2_ := Aside0.mk (blk_below (g := gb420) (o := .cells #[.int .u64 a1_0, .int .u64 a1_1, .int .u64 a1_2, .string a1_3, .string a1_4] 26 (0, 0)) (by (with_reducible repeat (first | refine blk_drewN ?_ _ | refine blk_drew ?_ | refine blk_alloc ?_ _)); exact BK420.out) hb); have n3_ := Aside0.mk (below_step (by repeat (first | (with_reducible first | exact HB.out | apply below_alloc | apply pw_below_drewN | apply below_drew1 | refine below_set ?_ GE419.out | refine below_set ?_ GE420.out) | exact HB.out)) hb); clear HO425; clear BK419; clear BK420; clear HB; have HO425 := n0_; have BK419 := n1_; have BK420 := n2_; have HB := n3_; clear n0_ n1_ n2_ n3_; (try clear hb); (try clear hb2); (try clear hk); (try clear hi)))
      have n0_ := Aside0.mk (Kd.R_drew HO425.out)
      have n1_ := Aside0.mk (blk_drew BK419.out)
      have n2_ := Aside0.mk (blk_drew BK420.out)
      have n3_ := Aside0.mk (below_drew1 HB.out)
      clear HO425
      clear BK419
      clear BK420
      clear HB
      have HO425 := n0_
      have BK419 := n1_
      have BK420 := n2_
      have HB := n3_
      clear n0_ n1_ n2_ n3_
      refine start_ (n := 10) (S := fun w' => w'.cell? ⟨gb419, 0, none⟩ = some (.int .u64 a0_0) ∧ w'.cell? ⟨gb419, 1, none⟩ = some (.int .u64 a0_1) ∧ w'.cell? ⟨gb419, 2, none⟩ = some (.int .u64 a0_2) ∧ w'.cell? ⟨gb419, 3, none⟩ = some (.string a0_3) ∧ w'.cell? ⟨gb419, 4, none⟩ = some (.string a0_4) ∧ w'.cell? ⟨gb420, 0, none⟩ = some (.int .u64 a1_0) ∧ w'.cell? ⟨gb420, 1, none⟩ = some (.int .u64 a1_1) ∧ w'.cell? ⟨gb420, 2, none⟩ = some (.int .u64 a1_2) ∧ w'.cell? ⟨gb420, 3, none⟩ = some (.string a1_3) ∧ w'.cell? ⟨gb420, 4, none⟩ = some (.string a1_4)) (ds := []) #[false, false, false, false, false, false, false, false, false, false] (by kernel_rfl) rfl rfl ⟨(blk_cell BK419.out 0).trans rfl, (blk_cell BK419.out 1).trans rfl, (blk_cell BK419.out 2).trans rfl, (blk_cell BK419.out 3).trans rfl, (blk_cell BK419.out 4).trans rfl, (blk_cell BK420.out 0).trans rfl, (blk_cell BK420.out 1).trans rfl, (blk_cell BK420.out 2).trans rfl, (blk_cell BK420.out 3).trans rfl, (blk_cell BK420.out 4).trans rfl⟩ (fun hHeld => ?_); refine with_tabW laws_FnSemverTermFromZero.tab5 laws_FnSemverTermFromZero.bits5 (fun HT_ HW_ => ?_)
      generalize w63.drew = w64 at HO425 BK419 BK420 HB hHeld ⊢
      refine take_ (i := 0) (N := some 19) (v := ?_) (a' := ?_) #[true, false, false, false, false, false, false, false, false, false] rfl rfl (take_ofW HT_.out HW_.out (by kernel_rfl)) (fun _ _ _ h => h) (Or.inl ⟨by rfl, ?_⟩) hHeld ?_ ?_
      rotate_left
      ·
       rintro w' ⟨s0, s1, s2, s3, s4, s5, s6, s7, s8, s9⟩
       go_simp
       with_reducible rfl
      rotate_left
      ·
       simp only [Act.put, List.setIfInBounds_toArray, List.set_cons_zero, List.set_cons_succ, i64_w, i32_w]
       rfl
      refine take_ (i := 3) (N := some 22) (v := ?_) (a' := ?_) #[true, false, false, true, false, false, false, false, false, false] rfl rfl (take_ofW HT_.out HW_.out (by kernel_rfl)) (fun _ _ _ h => h) (Or.inl ⟨by rfl, ?_⟩) hHeld ?_ ?_
      rotate_left
      ·
       rintro w' ⟨s0, s1, s2, s3, s4, s5, s6, s7, s8, s9⟩
       go_simp
       with_reducible rfl
      rotate_left
      ·
       simp only [Act.put, List.setIfInBounds_toArray, List.set_cons_zero, List.set_cons_succ, i64_w, i32_w]
       rfl
      refine take_ (i := 4) (N := some 23) (v := ?_) (a' := ?_) #[true, false, false, true, true, false, false, false, false, false] rfl rfl (take_ofW HT_.out HW_.out (by kernel_rfl)) (fun _ _ _ h => h) (Or.inl ⟨by rfl, ?_⟩) hHeld ?_ ?_
      rotate_left
      ·
       rintro w' ⟨s0, s1, s2, s3, s4, s5, s6, s7, s8, s9⟩
       go_simp
       with_reducible rfl
      rotate_left
      ·
       simp only [Act.put, List.setIfInBounds_toArray, List.set_cons_zero, List.set_cons_succ, i64_w, i32_w]
       rfl
      refine join_ (σ := Nat) 2 #[true, true, true, true, true, true, true, true, false, false] (fun s_ => [(20, .agg #[.int .u64 t427, .int .u64 t428, .int .u64 t429, .string t430, .string t431]), (21, .agg #[.int .i64 t432, .int .i64 t433, .int .u64 t434, .int .u64 t435, .int .u64 t436, .string t437]), (24, .int .i64 t438), (5, .pointer (some ⟨s_, 0, none⟩)), (25, .bool (decide (t438 ≥ 0)))]) (fun s_ w' => (w'.cell? ⟨gb419, 0, none⟩ = some (.int .u64 a0_0) ∧ w'.cell? ⟨gb419, 1, none⟩ = some (.int .u64 a0_1) ∧ w'.cell? ⟨gb419, 2, none⟩ = some (.int .u64 a0_2) ∧ w'.cell? ⟨gb419, 3, none⟩ = some (.string a0_3) ∧ w'.cell? ⟨gb419, 4, none⟩ = some (.string a0_4) ∧ w'.cell? ⟨gb420, 0, none⟩ = some (.int .u64 a1_0) ∧ w'.cell? ⟨gb420, 1, none⟩ = some (.int .u64 a1_1) ∧ w'.cell? ⟨gb420, 2, none⟩ = some (.int .u64 a1_2) ∧ w'.cell? ⟨gb420, 3, none⟩ = some (.string a1_3) ∧ w'.cell? ⟨gb420, 4, none⟩ = some (.string a1_4)) ∧ (Kd.R k26 26 w' w.heap.size (fun k_ => k_ ≠ gb419 ∧ k_ ≠ gb420) (.slice Ao62 y423.length co62) y423) ∧ (w'.heap[gb419]? = some (.cells #[.int .u64 a0_0, .int .u64 a0_1, .int .u64 a0_2, .string a0_3, .string a0_4] 26 (0, 0))) ∧ (w'.heap[gb420]? = some (.cells #[.int .u64 a1_0, .int .u64 a1_1, .int .u64 a1_2, .string a1_3, .string a1_4] 26 (0, 0))) ∧ (w'.heap[s_]? = some (.cells #[.int .i64 0, .int .i64 0, .int .u64 0, .int .u64 0, .int .u64 0, .string (⟨#[]⟩ : ByteArray)] 24 (0, 0))) ∧ (w.heap.size ≤ s_) ∧ (w.heap.size ≤ s_) ∧ (gb419 ≠ s_) ∧ (s_ ≠ gb419) ∧ (gb420 ≠ s_) ∧ (s_ ≠ gb420) ∧ (Below w.heap.size w w')) ?_ ?_
      rotate_left
      ·
       intro hCont
       refine two_ (i := 1) (j := 7) (Ni := some 20) (Nj := some 5) #[true, true, false, true, true, false, false, false, false, false] #[true, false, false, true, true, false, false, true, false, false] rfl rfl rfl rfl (two_of HT_.out (by kernel_rfl)) (by decide) (by decide) (fun K hK => ?_) (fun K hK => ?_)
       ·
        skip
        refine goes_ Tryd.func38 (by kernel_rfl) rfl #[.agg #[.int .u64 a0_0, .int .u64 a0_1, .int .u64 a0_2, .string a0_3, .string a0_4], .string (⟨#[48]⟩ : ByteArray)] (by rfl) rfl rfl (by (try simp only [List.map_toArray, List.map_cons, List.map_nil]); first | done | rfl | (simp only [List.length_drop, List.length_take]; rfl)) ?_
        with_reducible refine (laws_svPre.calls a0_0 a0_1 a0_2 a0_3 a0_4 (⟨#[48]⟩ : ByteArray) t427 t428 t429 t430 t431 _ A20.out).mono ?_
        rintro e w65 ⟨rfl, hb⟩
        refine ⟨_, rfl, ?_⟩
        have n0_ := Aside0.mk (Kd.R_below (by (with_reducible repeat (first | apply Kd.R_alloc | apply Kd.R_drewN | apply Kd.R_drew)); exact HO425.out) hb)
        have n1_ := Aside0.mk (blk_below (g := gb419) (o := .cells #[.int .u64 a0_0, .int .u64 a0_1, .int .u64 a0_2, .string a0_3, .string a0_4] 26 (0, 0)) (by (with_reducible repeat (first | refine blk_drewN ?_ _ | refine blk_drew ?_ | refine blk_alloc ?_ _)); exact BK419.out) hb)
        have n2_ := Aside0.mk (blk_below (g := gb420) (o := .cells #[.int .u64 a1_0, .int .u64 a1_1, .int .u64 a1_2, .string a1_3, .string a1_4] 26 (0, 0)) (by (with_reducible repeat (first | refine blk_drewN ?_ _ | refine blk_drew ?_ | refine blk_alloc ?_ _)); exact BK420.out) hb)
        have n3_ := Aside0.mk (below_step (by repeat (first | (with_reducible first | exact HB.out | apply below_alloc | apply pw_below_drewN | apply below_drew1 | refine below_set ?_ GE419.out | refine below_set ?_ GE420.out) | exact HB.out)) hb)
        clear HO425
        clear BK419
        clear BK420
        clear HB
        have HO425 := n0_
        have BK419 := n1_
        have BK420 := n2_
        have HB := n3_
        clear n0_ n1_ n2_ n3_
        (try clear hb)
        (try clear hb2)
        (try clear hk)
        (try clear hi)
        refine hK.out _ _ ⟨(blk_cell BK419.out 0).trans rfl, (blk_cell BK419.out 1).trans rfl, (blk_cell BK419.out 2).trans rfl, (blk_cell BK419.out 3).trans rfl, (blk_cell BK419.out 4).trans rfl, (blk_cell BK420.out 0).trans rfl, (blk_cell BK420.out 1).trans rfl, (blk_cell BK420.out 2).trans rfl, (blk_cell BK420.out 3).trans rfl, (blk_cell BK420.out 4).trans rfl⟩ (fun hHeld => ?_)
        clear hK K
        refine norm_ (a' := ?_) ?_ ?_
        rotate_left
        ·
         show Act.put _ (some 20) _ = _
         simp only [Act.put, List.setIfInBounds_toArray, List.set_cons_zero, List.set_cons_succ, i64_w, i32_w]
         rfl
        refine two_ (i := 2) (j := 7) (Ni := some 21) (Nj := some 5) #[true, true, true, true, true, false, false, false, false, false] #[true, true, false, true, true, false, false, true, false, false] rfl rfl rfl rfl (two_of HT_.out (by kernel_rfl)) (by decide) (by decide) (fun K hK => ?_) (fun K hK => ?_)
        ·
         skip
         refine goes_ Tryd.func28 (by kernel_rfl) rfl #[.int .i64 4, .agg #[.int .u64 t427, .int .u64 t428, .int .u64 t429, .string t430, .string t431], .int .i64 3] (by rfl) rfl rfl (by (try simp only [List.map_toArray, List.map_cons, List.map_nil]); first | done | rfl | (simp only [List.length_drop, List.length_take]; rfl)) ?_
         with_reducible refine (laws_stTerm.calls 4 t427 t428 t429 t430 t431 3 t432 t433 t434 t435 t436 t437 _ A21.out).mono ?_
         rintro e w66 ⟨rfl, hb⟩
         refine ⟨_, rfl, ?_⟩
         have n0_ := Aside0.mk (Kd.R_below (by (with_reducible repeat (first | apply Kd.R_alloc | apply Kd.R_drewN | apply Kd.R_drew)); exact HO425.out) hb)
         have n1_ := Aside0.mk (blk_below (g := gb419) (o := .cells #[.int .u64 a0_0, .int .u64 a0_1, .int .u64 a0_2, .string a0_3, .string a0_4] 26 (0, 0)) (by (with_reducible repeat (first | refine blk_drewN ?_ _ | refine blk_drew ?_ | refine blk_alloc ?_ _)); exact BK419.out) hb)
         have n2_ := Aside0.mk (blk_below (g := gb420) (o := .cells #[.int .u64 a1_0, .int .u64 a1_1, .int .u64 a1_2, .string a1_3, .string a1_4] 26 (0, 0)) (by (with_reducible repeat (first | refine blk_drewN ?_ _ | refine blk_drew ?_ | refine blk_alloc ?_ _)); exact BK420.out) hb)
         have n3_ := Aside0.mk (below_step (by repeat (first | (with_reducible first | exact HB.out | apply below_alloc | apply pw_below_drewN | apply below_drew1 | refine below_set ?_ GE419.out | refine below_set ?_ GE420.out) | exact HB.out)) hb)
         clear HO425
         clear BK419
         clear BK420
         clear HB
         have HO425 := n0_
         have BK419 := n1_
         have BK420 := n2_
         have HB := n3_
         clear n0_ n1_ n2_ n3_
         (try clear hb)
         (try clear hb2)
         (try clear hk)
         (try clear hi)
         refine hK.out _ _ ⟨(blk_cell BK419.out 0).trans rfl, (blk_cell BK419.out 1).trans rfl, (blk_cell BK419.out 2).trans rfl, (blk_cell BK419.out 3).trans rfl, (blk_cell BK419.out 4).trans rfl, (blk_cell BK420.out 0).trans rfl, (blk_cell BK420.out 1).trans rfl, (blk_cell BK420.out 2).trans rfl, (blk_cell BK420.out 3).trans rfl, (blk_cell BK420.out 4).trans rfl⟩ (fun hHeld => ?_)
         clear hK K
         refine norm_ (a' := ?_) ?_ ?_
         rotate_left
         ·
          show Act.put _ (some 21) _ = _
          simp only [Act.put, List.setIfInBounds_toArray, List.set_cons_zero, List.set_cons_succ, i64_w, i32_w]
          rfl
         refine two_ (i := 5) (j := 7) (Ni := some 24) (Nj := some 5) #[true, true, true, true, true, true, false, false, false, false] #[true, true, true, true, true, false, false, true, false, false] rfl rfl rfl rfl (two_of HT_.out (by kernel_rfl)) (by decide) (by decide) (fun K hK => ?_) (fun K hK => ?_)
         ·
          skip
          refine goes_ Tryd.func39 (by kernel_rfl) rfl #[.agg #[.int .u64 a1_0, .int .u64 a1_1, .int .u64 a1_2, .string a1_3, .string a1_4], .agg #[.int .u64 a0_0, .int .u64 a0_1, .int .u64 a0_2, .string a0_3, .string a0_4], .int .i64 3] (by rfl) rfl rfl (by (try simp only [List.map_toArray, List.map_cons, List.map_nil]); first | done | rfl | (simp only [List.length_drop, List.length_take]; rfl)) ?_
          with_reducible refine (spec_CompareNumbers.calls a1_0 a1_1 a1_2 a1_3 a1_4 a0_0 a0_1 a0_2 a0_3 a0_4 3 t438 _ A22.out).mono ?_
          rintro e w67 ⟨rfl, hb⟩
          refine ⟨_, rfl, ?_⟩
          have n0_ := Aside0.mk (Kd.R_below (by (with_reducible repeat (first | apply Kd.R_alloc | apply Kd.R_drewN | apply Kd.R_drew)); exact HO425.out) hb)
          have n1_ := Aside0.mk (blk_below (g := gb419) (o := .cells #[.int .u64 a0_0, .int .u64 a0_1, .int .u64 a0_2, .string a0_3, .string a0_4] 26 (0, 0)) (by (with_reducible repeat (first | refine blk_drewN ?_ _ | refine blk_drew ?_ | refine blk_alloc ?_ _)); exact BK419.out) hb)
          have n2_ := Aside0.mk (blk_below (g := gb420) (o := .cells #[.int .u64 a1_0, .int .u64 a1_1, .int .u64 a1_2, .string a1_3, .string a1_4] 26 (0, 0)) (by (with_reducible repeat (first | refine blk_drewN ?_ _ | refine blk_drew ?_ | refine blk_alloc ?_ _)); exact BK420.out) hb)
          have n3_ := Aside0.mk (below_step (by repeat (first | (with_reducible first | exact HB.out | apply below_alloc | apply pw_below_drewN | apply below_drew1 | refine below_set ?_ GE419.out | refine below_set ?_ GE420.out) | exact HB.out)) hb)
          clear HO425
          clear BK419
          clear BK420
          clear HB
          have HO425 := n0_
          have BK419 := n1_
          have BK420 := n2_
          have HB := n3_
          clear n0_ n1_ n2_ n3_
          (try clear hb)
          (try clear hb2)
          (try clear hk)
          (try clear hi)
          refine hK.out _ _ ⟨(blk_cell BK419.out 0).trans rfl, (blk_cell BK419.out 1).trans rfl, (blk_cell BK419.out 2).trans rfl, (blk_cell BK419.out 3).trans rfl, (blk_cell BK419.out 4).trans rfl, (blk_cell BK420.out 0).trans rfl, (blk_cell BK420.out 1).trans rfl, (blk_cell BK420.out 2).trans rfl, (blk_cell BK420.out 3).trans rfl, (blk_cell BK420.out 4).trans rfl⟩ (fun hHeld => ?_)
          clear hK K
          refine norm_ (a' := ?_) ?_ ?_
          rotate_left
          ·
           show Act.put _ (some 24) _ = _
           simp only [Act.put, List.setIfInBounds_toArray, List.set_cons_zero, List.set_cons_succ, i64_w, i32_w]
           rfl
          refine pure_ (i := 6) (N := some 25) (v := ?_) (a' := ?_) #[true, true, true, true, true, true, true, false, false, false] rfl rfl (any_of HT_.out (by kernel_rfl)) (fun _ _ _ h => h) (Or.inl ⟨by rfl, ?_⟩) ?_ ?_
          rotate_left
          ·
           intro w'
           go_simp
           with_reducible rfl
          rotate_left
          ·
           simp only [Act.put, List.setIfInBounds_toArray, List.set_cons_zero, List.set_cons_succ, i64_w, i32_w]
           rfl
          refine one_ (i := 7) (N := some 5) #[true, true, true, true, true, true, true, true, false, false] rfl rfl (one_of HT_.out (by kernel_rfl)) (by decide) (fun K hK => ?_)
          refine box_step ?hg (N := 5) ?hd (cs := #[.int .i64 0, .int .i64 0, .int .u64 0, .int .u64 0, .int .u64 0, .string (⟨#[]⟩ : ByteArray)]) (t := 24) ?hr ?_; (case hd => rfl); (case hg => rfl); (case hr => first | (go_simp; done) | (go_simp; rfl) | (go_simp; simp [u8w]; done))
          intro gb439 hg w68 hbox hb
          have n0_ := Aside0.mk (Kd.R_below (by (with_reducible repeat (first | apply Kd.R_alloc | apply Kd.R_drewN | apply Kd.R_drew)); exact HO425.out) hb)
          have n1_ := Aside0.mk (blk_below (g := gb419) (o := .cells #[.int .u64 a0_0, .int .u64 a0_1, .int .u64 a0_2, .string a0_3, .string a0_4] 26 (0, 0)) (by (with_reducible repeat (first | refine blk_drewN ?_ _ | refine blk_drew ?_ | refine blk_alloc ?_ _)); exact BK419.out) hb)
          have n2_ := Aside0.mk (blk_below (g := gb420) (o := .cells #[.int .u64 a1_0, .int .u64 a1_1, .int .u64 a1_2, .string a1_3, .string a1_4] 26 (0, 0)) (by (with_reducible repeat (first | refine blk_drewN ?_ _ | refine blk_drew ?_ | refine blk_alloc ?_ _)); exact BK420.out) hb)
          have n3_ := Aside0.mk (below_step (by repeat (first | (with_reducible first | exact HB.out | apply below_alloc | apply pw_below_drewN | apply below_drew1 | refine below_set ?_ GE419.out | refine below_set ?_ GE420.out) | exact HB.out)) hb)
          have n4_ := Aside0.mk (hbox)
          have n5_ := Aside0.mk ((by rw [hg]; exact (below_size (by repeat (first | (with_reducible first | exact HB.out | apply below_alloc | apply pw_below_drewN | apply below_drew1 | refine below_set ?_ GE419.out | refine below_set ?_ GE420.out) | exact HB.out))) : w.heap.size ≤ gb439))
          have n6_ := Aside0.mk ((by rw [hg]; exact (below_size (by repeat (first | (with_reducible first | exact HB.out | apply below_alloc | apply pw_below_drewN | apply below_drew1 | refine below_set ?_ GE419.out | refine below_set ?_ GE420.out) | exact HB.out))) : w.heap.size ≤ gb439))
          have n7_ := Aside0.mk ((by rw [hg]; exact Nat.ne_of_lt (blk_lt (g := gb419) (o := .cells #[.int .u64 a0_0, .int .u64 a0_1, .int .u64 a0_2, .string a0_3, .string a0_4] 26 (0, 0)) (by (with_reducible repeat (first | refine blk_drewN ?_ _ | refine blk_drew ?_ | refine blk_alloc ?_ _)); exact BK419.out)) : gb419 ≠ gb439))
          have n8_ := Aside0.mk ((by rw [hg]; exact Nat.ne_of_gt (blk_lt (g := gb419) (o := .cells #[.int .u64 a0_0, .int .u64 a0_1, .int .u64 a0_2, .string a0_3, .string a0_4] 26 (0, 0)) (by (with_reducible repeat (first | refine blk_drewN ?_ _ | refine blk_drew ?_ | refine blk_alloc ?_ _)); exact BK419.out)) : gb439 ≠ gb419))
          have n9_ := Aside0.mk ((by rw [hg]; exact Nat.ne_of_lt (blk_lt (g := gb420) (o := .cells #[.int .u64 a1_0, .int .u64 a1_1, .int .u64 a1_2, .string a1_3, .string a1_4] 26 (0, 0)) (by (with_reducible repeat (first | refine blk_drewN ?_ _ | refine blk_drew ?_ | refine blk_alloc ?_ _)); exact BK420.out)) : gb420 ≠ gb439))
          have n10_ := Aside0.mk ((by rw [hg]; exact Nat.ne_of_gt (blk_lt (g := gb420) (o := .cells #[.int .u64 a1_0, .int .u64 a1_1, .int .u64 a1_2, .string a1_3, .string a1_4] 26 (0, 0)) (by (with_reducible repeat (first | refine blk_drewN ?_ _ | refine blk_drew ?_ | refine blk_alloc ?_ _)); exact BK420.out)) : gb439 ≠ gb420))
          clear HO425
          clear BK419
          clear BK420
          clear HB
          have HO425 := n0_
          have BK419 := n1_
          have BK420 := n2_
          have HB := n3_
          have BK439 := n4_
          have GW439 := n5_
          have GE439 := n6_
          have NB419_439 := n7_
          have NB439_419 := n8_
          have NB420_439 := n9_
          have NB439_420 := n10_
          clear n0_ n1_ n2_ n3_ n4_ n5_ n6_ n7_ n8_ n9_ n10_
          clear hb hbox hg
          refine hK.out _ _ ⟨(blk_cell BK419.out 0).trans rfl, (blk_cell BK419.out 1).trans rfl, (blk_cell BK419.out 2).trans rfl, (blk_cell BK419.out 3).trans rfl, (blk_cell BK419.out 4).trans rfl, (blk_cell BK420.out 0).trans rfl, (blk_cell BK420.out 1).trans rfl, (blk_cell BK420.out 2).trans rfl, (blk_cell BK420.out 3).trans rfl, (blk_cell BK420.out 4).trans rfl⟩ (fun hHeld => ?_)
          clear hK K
          refine norm_ (a' := ?_) ?_ ?_
          rotate_left
          ·
           show Act.put _ (some 5) _ = _
           simp only [Act.put, List.setIfInBounds_toArray, List.set_cons_zero, List.set_cons_succ, i64_w, i32_w]
           rfl
          exact norm_ (by simp only [putAll, Act.put, List.setIfInBounds_toArray, List.set_cons_zero, List.set_cons_succ]) (hCont (gb439) _ ⟨hHeld, (by (with_reducible repeat (first | apply Kd.R_alloc | apply Kd.R_drewN | apply Kd.R_drew)); exact Kd.R_mono HO425.out (fun _ hk => ⟨hk.1.2, hk.2⟩)), (by (with_reducible repeat (first | refine blk_drewN ?_ _ | refine blk_drew ?_ | refine blk_alloc ?_ _)); exact BK419.out), (by (with_reducible repeat (first | refine blk_drewN ?_ _ | refine blk_drew ?_ | refine blk_alloc ?_ _)); exact BK420.out), (by (with_reducible repeat (first | refine blk_drewN ?_ _ | refine blk_drew ?_ | refine blk_alloc ?_ _)); exact BK439.out), GW439.out, GE439.out, NB419_439.out, NB439_419.out, NB420_439.out, NB439_420.out, (by repeat (first | (with_reducible first | exact HB.out | apply below_alloc | apply pw_below_drewN | apply below_drew1 | refine below_set ?_ GE419.out | refine below_set ?_ GE420.out | refine below_set ?_ GE439.out) | exact HB.out))⟩)
         ·
          skip
          refine box_step ?hg (N := 5) ?hd (cs := #[.int .i64 0, .int .i64 0, .int .u64 0, .int .u64 0, .int .u64 0, .string (⟨#[]⟩ : ByteArray)]) (t := 24) ?hr ?_; (case hd => rfl); (case hg => rfl); (case hr => first | (go_simp; done) | (go_simp; rfl) | (go_simp; simp [u8w]; done))
          intro gb439 hg w67 hbox hb
          have n0_ := Aside0.mk (Kd.R_below (by (with_reducible repeat (first | apply Kd.R_alloc | apply Kd.R_drewN | apply Kd.R_drew)); exact HO425.out) hb)
          have n1_ := Aside0.mk (blk_below (g := gb419) (o := .cells #[.int .u64 a0_0, .int .u64 a0_1, .int .u64 a0_2, .string a0_3, .string a0_4] 26 (0, 0)) (by (with_reducible repeat (first | refine blk_drewN ?_ _ | refine blk_drew ?_ | refine blk_alloc ?_ _)); exact BK419.out) hb)
          have n2_ := Aside0.mk (blk_below (g := gb420) (o := .cells #[.int .u64 a1_0, .int .u64 a1_1, .int .u64 a1_2, .string a1_3, .string a1_4] 26 (0, 0)) (by (with_reducible repeat (first | refine blk_drewN ?_ _ | refine blk_drew ?_ | refine blk_alloc ?_ _)); exact BK420.out) hb)
          have n3_ := Aside0.mk (below_step (by repeat (first | (with_reducible first | exact HB.out | apply below_alloc | apply pw_below_drewN | apply below_drew1 | refine below_set ?_ GE419.out | refine below_set ?_ GE420.out) | exact HB.out)) hb)
          have n4_ := Aside0.mk (hbox)
          have n5_ := Aside0.mk ((by rw [hg]; exact (below_size (by repeat (first | (with_reducible first | exact HB.out | apply below_alloc | apply pw_below_drewN | apply below_drew1 | refine below_set ?_ GE419.out | refine below_set ?_ GE420.out) | exact HB.out))) : w.heap.size ≤ gb439))
          have n6_ := Aside0.mk ((by rw [hg]; exact (below_size (by repeat (first | (with_reducible first | exact HB.out | apply below_alloc | apply pw_below_drewN | apply below_drew1 | refine below_set ?_ GE419.out | refine below_set ?_ GE420.out) | exact HB.out))) : w.heap.size ≤ gb439))
          have n7_ := Aside0.mk ((by rw [hg]; exact Nat.ne_of_lt (blk_lt (g := gb419) (o := .cells #[.int .u64 a0_0, .int .u64 a0_1, .int .u64 a0_2, .string a0_3, .string a0_4] 26 (0, 0)) (by (with_reducible repeat (first | refine blk_drewN ?_ _ | refine blk_drew ?_ | refine blk_alloc ?_ _)); exact BK419.out)) : gb419 ≠ gb439))
          have n8_ := Aside0.mk ((by rw [hg]; exact Nat.ne_of_gt (blk_lt (g := gb419) (o := .cells #[.int .u64 a0_0, .int .u64 a0_1, .int .u64 a0_2, .string a0_3, .string a0_4] 26 (0, 0)) (by (with_reducible repeat (first | refine blk_drewN ?_ _ | refine blk_drew ?_ | refine blk_alloc ?_ _)); exact BK419.out)) : gb439 ≠ gb419))
          have n9_ := Aside0.mk ((by rw [hg]; exact Nat.ne_of_lt (blk_lt (g := gb420) (o := .cells #[.int .u64 a1_0, .int .u64 a1_1, .int .u64 a1_2, .string a1_3, .string a1_4] 26 (0, 0)) (by (with_reducible repeat (first | refine blk_drewN ?_ _ | refine blk_drew ?_ | refine blk_alloc ?_ _)); exact BK420.out)) : gb420 ≠ gb439))
          have n10_ := Aside0.mk ((by rw [hg]; exact Nat.ne_of_gt (blk_lt (g := gb420) (o := .cells #[.int .u64 a1_0, .int .u64 a1_1, .int .u64 a1_2, .string a1_3, .string a1_4] 26 (0, 0)) (by (with_reducible repeat (first | refine blk_drewN ?_ _ | refine blk_drew ?_ | refine blk_alloc ?_ _)); exact BK420.out)) : gb439 ≠ gb420))
          clear HO425
          clear BK419
          clear BK420
          clear HB
          have HO425 := n0_
          have BK419 := n1_
          have BK420 := n2_
          have HB := n3_
          have BK439 := n4_
          have GW439 := n5_
          have GE439 := n6_
          have NB419_439 := n7_
          have NB439_419 := n8_
          have NB420_439 := n9_
          have NB439_420 := n10_
          clear n0_ n1_ n2_ n3_ n4_ n5_ n6_ n7_ n8_ n9_ n10_
          clear hb hbox hg
          refine hK.out _ _ ⟨(blk_cell BK419.out 0).trans rfl, (blk_cell BK419.out 1).trans rfl, (blk_cell BK419.out 2).trans rfl, (blk_cell BK419.out 3).trans rfl, (blk_cell BK419.out 4).trans rfl, (blk_cell BK420.out 0).trans rfl, (blk_cell BK420.out 1).trans rfl, (blk_cell BK420.out 2).trans rfl, (blk_cell BK420.out 3).trans rfl, (blk_cell BK420.out 4).trans rfl⟩ (fun hHeld => ?_)
          clear hK K
          refine norm_ (a' := ?_) ?_ ?_
          rotate_left
          ·
           show Act.put _ (some 5) _ = _
           simp only [Act.put, List.setIfInBounds_toArray, List.set_cons_zero, List.set_cons_succ, i64_w, i32_w]
           rfl
          refine one_ (i := 5) (N := some 24) #[true, true, true, true, true, true, false, true, false, false] rfl rfl (one_of HT_.out (by kernel_rfl)) (by decide) (fun K hK => ?_)
          refine goes_ Tryd.func39 (by kernel_rfl) rfl #[.agg #[.int .u64 a1_0, .int .u64 a1_1, .int .u64 a1_2, .string a1_3, .string a1_4], .agg #[.int .u64 a0_0, .int .u64 a0_1, .int .u64 a0_2, .string a0_3, .string a0_4], .int .i64 3] (by rfl) rfl rfl (by (try simp only [List.map_toArray, List.map_cons, List.map_nil]); first | done | rfl | (simp only [List.length_drop, List.length_take]; rfl)) ?_
          with_reducible refine (spec_CompareNumbers.calls a1_0 a1_1 a1_2 a1_3 a1_4 a0_0 a0_1 a0_2 a0_3 a0_4 3 t438 _ A22.out).mono ?_
          rintro e w68 ⟨rfl, hb⟩
          refine ⟨_, rfl, ?_⟩
          have n0_ := Aside0.mk (Kd.R_below (by (with_reducible repeat (first | apply Kd.R_alloc | apply Kd.R_drewN | apply Kd.R_drew)); exact HO425.out) hb)
          have n1_ := Aside0.mk (blk_below (g := gb419) (o := .cells #[.int .u64 a0_0, .int .u64 a0_1, .int .u64 a0_2, .string a0_3, .string a0_4] 26 (0, 0)) (by (with_reducible repeat (first | refine blk_drewN ?_ _ | refine blk_drew ?_ | refine blk_alloc ?_ _)); exact BK419.out) hb)
          have n2_ := Aside0.mk (blk_below (g := gb420) (o := .cells #[.int .u64 a1_0, .int .u64 a1_1, .int .u64 a1_2, .string a1_3, .string a1_4] 26 (0, 0)) (by (with_reducible repeat (first | refine blk_drewN ?_ _ | refine blk_drew ?_ | refine blk_alloc ?_ _)); exact BK420.out) hb)
          have n3_ := Aside0.mk (blk_below (g := gb439) (o := .cells #[.int .i64 0, .int .i64 0, .int .u64 0, .int .u64 0, .int .u64 0, .string (⟨#[]⟩ : ByteArray)] 24 (0, 0)) (by (with_reducible repeat (first | refine blk_drewN ?_ _ | refine blk_drew ?_ | refine blk_alloc ?_ _)); exact BK439.out) hb)
          have n4_ := Aside0.mk (below_step (by repeat (first | (with_reducible first | exact HB.out | apply below_alloc | apply pw_below_drewN | apply below_drew1 | refine below_set ?_ GE419.out | refine below_set ?_ GE420.out | refine below_set ?_ GE439.out) | exact HB.out)) hb)
          clear HO425
          clear BK419
          clear BK420
          clear BK439
          clear HB
          have HO425 := n0_
          have BK419 := n1_
          have BK420 := n2_
          have BK439 := n3_
          have HB := n4_
          clear n0_ n1_ n2_ n3_ n4_
          (try clear hb)
          (try clear hb2)
          (try clear hk)
          (try clear hi)
          refine hK.out _ _ ⟨(blk_cell BK419.out 0).trans rfl, (blk_cell BK419.out 1).trans rfl, (blk_cell BK419.out 2).trans rfl, (blk_cell BK419.out 3).trans rfl, (blk_cell BK419.out 4).trans rfl, (blk_cell BK420.out 0).trans rfl, (blk_cell BK420.out 1).trans rfl, (blk_cell BK420.out 2).trans rfl, (blk_cell BK420.out 3).trans rfl, (blk_cell BK420.out 4).trans rfl⟩ (fun hHeld => ?_)
          clear hK K
          refine norm_ (a' := ?_) ?_ ?_
          rotate_left
          ·
           show Act.put _ (some 24) _ = _
           simp only [Act.put, List.setIfInBounds_toArray, List.set_cons_zero, List.set_cons_succ, i64_w, i32_w]
           rfl
          refine pure_ (i := 6) (N := some 25) (v := ?_) (a' := ?_) #[true, true, true, true, true, true, true, true, false, false] rfl rfl (any_of HT_.out (by kernel_rfl)) (fun _ _ _ h => h) (Or.inl ⟨by rfl, ?_⟩) ?_ ?_
          rotate_left
          ·
           intro w'
           go_simp
           with_reducible rfl
          rotate_left
          ·
           simp only [Act.put, List.setIfInBounds_toArray, List.set_cons_zero, List.set_cons_succ, i64_w, i32_w]
           rfl
          exact norm_ (by simp only [putAll, Act.put, List.setIfInBounds_toArray, List.set_cons_zero, List.set_cons_succ]) (hCont (gb439) _ ⟨hHeld, (by (with_reducible repeat (first | apply Kd.R_alloc | apply Kd.R_drewN | apply Kd.R_drew)); exact Kd.R_mono HO425.out (fun _ hk => ⟨hk.1.2, hk.2⟩)), (by (with_reducible repeat (first | refine blk_drewN ?_ _ | refine blk_drew ?_ | refine blk_alloc ?_ _)); exact BK419.out), (by (with_reducible repeat (first | refine blk_drewN ?_ _ | refine blk_drew ?_ | refine blk_alloc ?_ _)); exact BK420.out), (by (with_reducible repeat (first | refine blk_drewN ?_ _ | refine blk_drew ?_ | refine blk_alloc ?_ _)); exact BK439.out), GW439.out, GE439.out, NB419_439.out, NB439_419.out, NB420_439.out, NB439_420.out, (by repeat (first | (with_reducible first | exact HB.out | apply below_alloc | apply pw_below_drewN | apply below_drew1 | refine below_set ?_ GE419.out | refine below_set ?_ GE420.out | refine below_set ?_ GE439.out) | exact HB.out))⟩)
        ·
         skip
         refine box_step ?hg (N := 5) ?hd (cs := #[.int .i64 0, .int .i64 0, .int .u64 0, .int .u64 0, .int .u64 0, .string (⟨#[]⟩ : ByteArray)]) (t := 24) ?hr ?_; (case hd => rfl); (case hg => rfl); (case hr => first | (go_simp; done) | (go_simp; rfl) | (go_simp; simp [u8w]; done))
         intro gb439 hg w66 hbox hb
         have n0_ := Aside0.mk (Kd.R_below (by (with_reducible repeat (first | apply Kd.R_alloc | apply Kd.R_drewN | apply Kd.R_drew)); exact HO425.out) hb)
         have n1_ := Aside0.mk (blk_below (g := gb419) (o := .cells #[.int .u64 a0_0, .int .u64 a0_1, .int .u64 a0_2, .string a0_3, .string a0_4] 26 (0, 0)) (by (with_reducible repeat (first | refine blk_drewN ?_ _ | refine blk_drew ?_ | refine blk_alloc ?_ _)); exact BK419.out) hb)
         have n2_ := Aside0.mk (blk_below (g := gb420) (o := .cells #[.int .u64 a1_0, .int .u64 a1_1, .int .u64 a1_2, .string a1_3, .string a1_4] 26 (0, 0)) (by (with_reducible repeat (first | refine blk_drewN ?_ _ | refine blk_drew ?_ | refine blk_alloc ?_ _)); exact BK420.out) hb)
         have n3_ := Aside0.mk (below_step (by repeat (first | (with_reducible first | exact HB.out | apply below_alloc | apply pw_below_drewN | apply below_drew1 | refine below_set ?_ GE419.out | refine below_set ?_ GE420.out) | exact HB.out)) hb)
         have n4_ := Aside0.mk (hbox)
         have n5_ := Aside0.mk ((by rw [hg]; exact (below_size (by repeat (first | (with_reducible first | exact HB.out | apply below_alloc | apply pw_below_drewN | apply below_drew1 | refine below_set ?_ GE419.out | refine below_set ?_ GE420.out) | exact HB.out))) : w.heap.size ≤ gb439))
         have n6_ := Aside0.mk ((by rw [hg]; exact (below_size (by repeat (first | (with_reducible first | exact HB.out | apply below_alloc | apply pw_below_drewN | apply below_drew1 | refine below_set ?_ GE419.out | refine below_set ?_ GE420.out) | exact HB.out))) : w.heap.size ≤ gb439))
         have n7_ := Aside0.mk ((by rw [hg]; exact Nat.ne_of_lt (blk_lt (g := gb419) (o := .cells #[.int .u64 a0_0, .int .u64 a0_1, .int .u64 a0_2, .string a0_3, .string a0_4] 26 (0, 0)) (by (with_reducible repeat (first | refine blk_drewN ?_ _ | refine blk_drew ?_ | refine blk_alloc ?_ _)); exact BK419.out)) : gb419 ≠ gb439))
         have n8_ := Aside0.mk ((by rw [hg]; exact Nat.ne_of_gt (blk_lt (g := gb419) (o := .cells #[.int .u64 a0_0, .int .u64 a0_1, .int .u64 a0_2, .string a0_3, .string a0_4] 26 (0, 0)) (by (with_reducible repeat (first | refine blk_drewN ?_ _ | refine blk_drew ?_ | refine blk_alloc ?_ _)); exact BK419.out)) : gb439 ≠ gb419))
         have n9_ := Aside0.mk ((by rw [hg]; exact Nat.ne_of_lt (blk_lt (g := gb420) (o := .cells #[.int .u64 a1_0, .int .u64 a1_1, .int .u64 a1_2, .string a1_3, .string a1_4] 26 (0, 0)) (by (with_reducible repeat (first | refine blk_drewN ?_ _ | refine blk_drew ?_ | refine blk_alloc ?_ _)); exact BK420.out)) : gb420 ≠ gb439))
         have n10_ := Aside0.mk ((by rw [hg]; exact Nat.ne_of_gt (blk_lt (g := gb420) (o := .cells #[.int .u64 a1_0, .int .u64 a1_1, .int .u64 a1_2, .string a1_3, .string a1_4] 26 (0, 0)) (by (with_reducible repeat (first | refine blk_drewN ?_ _ | refine blk_drew ?_ | refine blk_alloc ?_ _)); exact BK420.out)) : gb439 ≠ gb420))
         clear HO425
         clear BK419
         clear BK420
         clear HB
         have HO425 := n0_
         have BK419 := n1_
         have BK420 := n2_
         have HB := n3_
         have BK439 := n4_
         have GW439 := n5_
         have GE439 := n6_
         have NB419_439 := n7_
         have NB439_419 := n8_
         have NB420_439 := n9_
         have NB439_420 := n10_
         clear n0_ n1_ n2_ n3_ n4_ n5_ n6_ n7_ n8_ n9_ n10_
         clear hb hbox hg
         refine hK.out _ _ ⟨(blk_cell BK419.out 0).trans rfl, (blk_cell BK419.out 1).trans rfl, (blk_cell BK419.out 2).trans rfl, (blk_cell BK419.out 3).trans rfl, (blk_cell BK419.out 4).trans rfl, (blk_cell BK420.out 0).trans rfl, (blk_cell BK420.out 1).trans rfl, (blk_cell BK420.out 2).trans rfl, (blk_cell BK420.out 3).trans rfl, (blk_cell BK420.out 4).trans rfl⟩ (fun hHeld => ?_)
         clear hK K
         refine norm_ (a' := ?_) ?_ ?_
         rotate_left
         ·
          show Act.put _ (some 5) _ = _
          simp only [Act.put, List.setIfInBounds_toArray, List.set_cons_zero, List.set_cons_succ, i64_w, i32_w]
          rfl
         refine one_ (i := 2) (N := some 21) #[true, true, true, true, true, false, false, true, false, false] rfl rfl (one_of HT_.out (by kernel_rfl)) (by decide) (fun K hK => ?_)
         refine goes_ Tryd.func28 (by kernel_rfl) rfl #[.int .i64 4, .agg #[.int .u64 t427, .int .u64 t428, .int .u64 t429, .string t430, .string t431], .int .i64 3] (by rfl) rfl rfl (by (try simp only [List.map_toArray, List.map_cons, List.map_nil]); first | done | rfl | (simp only [List.length_drop, List.length_take]; rfl)) ?_
         with_reducible refine (laws_stTerm.calls 4 t427 t428 t429 t430 t431 3 t432 t433 t434 t435 t436 t437 _ A21.out).mono ?_
         rintro e w67 ⟨rfl, hb⟩
         refine ⟨_, rfl, ?_⟩
         have n0_ := Aside0.mk (Kd.R_below (by (with_reducible repeat (first | apply Kd.R_alloc | apply Kd.R_drewN | apply Kd.R_drew)); exact HO425.out) hb)
         have n1_ := Aside0.mk (blk_below (g := gb419) (o := .cells #[.int .u64 a0_0, .int .u64 a0_1, .int .u64 a0_2, .string a0_3, .string a0_4] 26 (0, 0)) (by (with_reducible repeat (first | refine blk_drewN ?_ _ | refine blk_drew ?_ | refine blk_alloc ?_ _)); exact BK419.out) hb)
         have n2_ := Aside0.mk (blk_below (g := gb420) (o := .cells #[.int .u64 a1_0, .int .u64 a1_1, .int .u64 a1_2, .string a1_3, .string a1_4] 26 (0, 0)) (by (with_reducible repeat (first | refine blk_drewN ?_ _ | refine blk_drew ?_ | refine blk_alloc ?_ _)); exact BK420.out) hb)
         have n3_ := Aside0.mk (blk_below (g := gb439) (o := .cells #[.int .i64 0, .int .i64 0, .int .u64 0, .int .u64 0, .int .u64 0, .string (⟨#[]⟩ : ByteArray)] 24 (0, 0)) (by (with_reducible repeat (first | refine blk_drewN ?_ _ | refine blk_drew ?_ | refine blk_alloc ?_ _)); exact BK439.out) hb)
         have n4_ := Aside0.mk (below_step (by repeat (first | (with_reducible first | exact HB.out | apply below_alloc | apply pw_below_drewN | apply below_drew1 | refine below_set ?_ GE419.out | refine below_set ?_ GE420.out | refine below_set ?_ GE439.out) | exact HB.out)) hb)
         clear HO425
         clear BK419
         clear BK420
         clear BK439
         clear HB
         have HO425 := n0_
         have BK419 := n1_
         have BK420 := n2_
         have BK439 := n3_
         have HB := n4_
         clear n0_ n1_ n2_ n3_ n4_
         (try clear hb)
         (try clear hb2)
         (try clear hk)
         (try clear hi)
         refine hK.out _ _ ⟨(blk_cell BK419.out 0).trans rfl, (blk_cell BK419.out 1).trans rfl, (blk_cell BK419.out 2).trans rfl, (blk_cell BK419.out 3).trans rfl, (blk_cell BK419.out 4).trans rfl, (blk_cell BK420.out 0).trans rfl, (blk_cell BK420.out 1).trans rfl, (blk_cell BK420.out 2).trans rfl, (blk_cell BK420.out 3).trans rfl, (blk_cell BK420.out 4).trans rfl⟩ (fun hHeld => ?_)
         clear hK K
         refine norm_ (a' := ?_) ?_ ?_
         rotate_left
         ·
          show Act.put _ (some 21) _ = _
          simp only [Act.put, List.setIfInBounds_toArray, List.set_cons_zero, List.set_cons_succ, i64_w, i32_w]
          rfl
         refine one_ (i := 5) (N := some 24) #[true, true, true, true, true, true, false, true, false, false] rfl rfl (one_of HT_.out (by kernel_rfl)) (by decide) (fun K hK => ?_)
         refine goes_ Tryd.func39 (by kernel_rfl) rfl #[.agg #[.int .u64 a1_0, .int .u64 a1_1, .int .u64 a1_2, .string a1_3, .string a1_4], .agg #[.int .u64 a0_0, .int .u64 a0_1, .int .u64 a0_2, .string a0_3, .string a0_4], .int .i64 3] (by rfl) rfl rfl (by (try simp only [List.map_toArray, List.map_cons, List.map_nil]); first | done | rfl | (simp only [List.length_drop, List.length_take]; rfl)) ?_
         with_reducible refine (spec_CompareNumbers.calls a1_0 a1_1 a1_2 a1_3 a1_4 a0_0 a0_1 a0_2 a0_3 a0_4 3 t438 _ A22.out).mono ?_
         rintro e w68 ⟨rfl, hb⟩
         refine ⟨_, rfl, ?_⟩
         have n0_ := Aside0.mk (Kd.R_below (by (with_reducible repeat (first | apply Kd.R_alloc | apply Kd.R_drewN | apply Kd.R_drew)); exact HO425.out) hb)
         have n1_ := Aside0.mk (blk_below (g := gb419) (o := .cells #[.int .u64 a0_0, .int .u64 a0_1, .int .u64 a0_2, .string a0_3, .string a0_4] 26 (0, 0)) (by (with_reducible repeat (first | refine blk_drewN ?_ _ | refine blk_drew ?_ | refine blk_alloc ?_ _)); exact BK419.out) hb)
         have n2_ := Aside0.mk (blk_below (g := gb420) (o := .cells #[.int .u64 a1_0, .int .u64 a1_1, .int .u64 a1_2, .string a1_3, .string a1_4] 26 (0, 0)) (by (with_reducible repeat (first | refine blk_drewN ?_ _ | refine blk_drew ?_ | refine blk_alloc ?_ _)); exact BK420.out) hb)
         have n3_ := Aside0.mk (blk_below (g := gb439) (o := .cells #[.int .i64 0, .int .i64 0, .int .u64 0, .int .u64 0, .int .u64 0, .string (⟨#[]⟩ : ByteArray)] 24 (0, 0)) (by (with_reducible repeat (first | refine blk_drewN ?_ _ | refine blk_drew ?_ | refine blk_alloc ?_ _)); exact BK439.out) hb)
         have n4_ := Aside0.mk (below_step (by repeat (first | (with_reducible first | exact HB.out | apply below_alloc | apply pw_below_drewN | apply below_drew1 | refine below_set ?_ GE419.out | refine below_set ?_ GE420.out | refine below_set ?_ GE439.out) | exact HB.out)) hb)
         clear HO425
         clear BK419
         clear BK420
         clear BK439
         clear HB
         have HO425 := n0_
         have BK419 := n1_
         have BK420 := n2_
         have BK439 := n3_
         have HB := n4_
         clear n0_ n1_ n2_ n3_ n4_
         (try clear hb)
         (try clear hb2)
         (try clear hk)
         (try clear hi)
         refine hK.out _ _ ⟨(blk_cell BK419.out 0).trans rfl, (blk_cell BK419.out 1).trans rfl, (blk_cell BK419.out 2).trans rfl, (blk_cell BK419.out 3).trans rfl, (blk_cell BK419.out 4).trans rfl, (blk_cell BK420.out 0).trans rfl, (blk_cell BK420.out 1).trans rfl, (blk_cell BK420.out 2).trans rfl, (blk_cell BK420.out 3).trans rfl, (blk_cell BK420.out 4).trans rfl⟩ (fun hHeld => ?_)
         clear hK K
         refine norm_ (a' := ?_) ?_ ?_
         rotate_left
         ·
          show Act.put _ (some 24) _ = _
          simp only [Act.put, List.setIfInBounds_toArray, List.set_cons_zero, List.set_cons_succ, i64_w, i32_w]
          rfl
         refine pure_ (i := 6) (N := some 25) (v := ?_) (a' := ?_) #[true, true, true, true, true, true, true, true, false, false] rfl rfl (any_of HT_.out (by kernel_rfl)) (fun _ _ _ h => h) (Or.inl ⟨by rfl, ?_⟩) ?_ ?_
         rotate_left
         ·
          intro w'
          go_simp
          with_reducible rfl
         rotate_left
         ·
          simp only [Act.put, List.setIfInBounds_toArray, List.set_cons_zero, List.set_cons_succ, i64_w, i32_w]
          rfl
         exact norm_ (by simp only [putAll, Act.put, List.setIfInBounds_toArray, List.set_cons_zero, List.set_cons_succ]) (hCont (gb439) _ ⟨hHeld, (by (with_reducible repeat (first | apply Kd.R_alloc | apply Kd.R_drewN | apply Kd.R_drew)); exact Kd.R_mono HO425.out (fun _ hk => ⟨hk.1.2, hk.2⟩)), (by (with_reducible repeat (first | refine blk_drewN ?_ _ | refine blk_drew ?_ | refine blk_alloc ?_ _)); exact BK419.out), (by (with_reducible repeat (first | refine blk_drewN ?_ _ | refine blk_drew ?_ | refine blk_alloc ?_ _)); exact BK420.out), (by (with_reducible repeat (first | refine blk_drewN ?_ _ | refine blk_drew ?_ | refine blk_alloc ?_ _)); exact BK439.out), GW439.out, GE439.out, NB419_439.out, NB439_419.out, NB420_439.out, NB439_420.out, (by repeat (first | (with_reducible first | exact HB.out | apply below_alloc | apply pw_below_drewN | apply below_drew1 | refine below_set ?_ GE419.out | refine below_set ?_ GE420.out | refine below_set ?_ GE439.out) | exact HB.out))⟩)
       ·
        skip
        refine box_step ?hg (N := 5) ?hd (cs := #[.int .i64 0, .int .i64 0, .int .u64 0, .int .u64 0, .int .u64 0, .string (⟨#[]⟩ : ByteArray)]) (t := 24) ?hr ?_; (case hd => rfl); (case hg => rfl); (case hr => first | (go_simp; done) | (go_simp; rfl) | (go_simp; simp [u8w]; done))
        intro gb439 hg w65 hbox hb
        have n0_ := Aside0.mk (Kd.R_below (by (with_reducible repeat (first | apply Kd.R_alloc | apply Kd.R_drewN | apply Kd.R_drew)); exact HO425.out) hb)
        have n1_ := Aside0.mk (blk_below (g := gb419) (o := .cells #[.int .u64 a0_0, .int .u64 a0_1, .int .u64 a0_2, .string a0_3, .string a0_4] 26 (0, 0)) (by (with_reducible repeat (first | refine blk_drewN ?_ _ | refine blk_drew ?_ | refine blk_alloc ?_ _)); exact BK419.out) hb)
        have n2_ := Aside0.mk (blk_below (g := gb420) (o := .cells #[.int .u64 a1_0, .int .u64 a1_1, .int .u64 a1_2, .string a1_3, .string a1_4] 26 (0, 0)) (by (with_reducible repeat (first | refine blk_drewN ?_ _ | refine blk_drew ?_ | refine blk_alloc ?_ _)); exact BK420.out) hb)
        have n3_ := Aside0.mk (below_step (by repeat (first | (with_reducible first | exact HB.out | apply below_alloc | apply pw_below_drewN | apply below_drew1 | refine below_set ?_ GE419.out | refine below_set ?_ GE420.out) | exact HB.out)) hb)
        have n4_ := Aside0.mk (hbox)
        have n5_ := Aside0.mk ((by rw [hg]; exact (below_size (by repeat (first | (with_reducible first | exact HB.out | apply below_alloc | apply pw_below_drewN | apply below_drew1 | refine below_set ?_ GE419.out | refine below_set ?_ GE420.out) | exact HB.out))) : w.heap.size ≤ gb439))
        have n6_ := Aside0.mk ((by rw [hg]; exact (below_size (by repeat (first | (with_reducible first | exact HB.out | apply below_alloc | apply pw_below_drewN | apply below_drew1 | refine below_set ?_ GE419.out | refine below_set ?_ GE420.out) | exact HB.out))) : w.heap.size ≤ gb439))
        have n7_ := Aside0.mk ((by rw [hg]; exact Nat.ne_of_lt (blk_lt (g := gb419) (o := .cells #[.int .u64 a0_0, .int .u64 a0_1, .int .u64 a0_2, .string a0_3, .string a0_4] 26 (0, 0)) (by (with_reducible repeat (first | refine blk_drewN ?_ _ | refine blk_drew ?_ | refine blk_alloc ?_ _)); exact BK419.out)) : gb419 ≠ gb439))
        have n8_ := Aside0.mk ((by rw [hg]; exact Nat.ne_of_gt (blk_lt (g := gb419) (o := .cells #[.int .u64 a0_0, .int .u64 a0_1, .int .u64 a0_2, .string a0_3, .string a0_4] 26 (0, 0)) (by (with_reducible repeat (first | refine blk_drewN ?_ _ | refine blk_drew ?_ | refine blk_alloc ?_ _)); exact BK419.out)) : gb439 ≠ gb419))
        have n9_ := Aside0.mk ((by rw [hg]; exact Nat.ne_of_lt (blk_lt (g := gb420) (o := .cells #[.int .u64 a1_0, .int .u64 a1_1, .int .u64 a1_2, .string a1_3, .string a1_4] 26 (0, 0)) (by (with_reducible repeat (first | refine blk_drewN ?_ _ | refine blk_drew ?_ | refine blk_alloc ?_ _)); exact BK420.out)) : gb420 ≠ gb439))
        have n10_ := Aside0.mk ((by rw [hg]; exact Nat.ne_of_gt (blk_lt (g := gb420) (o := .cells #[.int .u64 a1_0, .int .u64 a1_1, .int .u64 a1_2, .string a1_3, .string a1_4] 26 (0, 0)) (by (with_reducible repeat (first | refine blk_drewN ?_ _ | refine blk_drew ?_ | refine blk_alloc ?_ _)); exact BK420.out)) : gb439 ≠ gb420))
        clear HO425
        clear BK419
        clear BK420
        clear HB
        have HO425 := n0_
        have BK419 := n1_
        have BK420 := n2_
        have HB := n3_
        have BK439 := n4_
        have GW439 := n5_
        have GE439 := n6_
        have NB419_439 := n7_
        have NB439_419 := n8_
        have NB420_439 := n9_
        have NB439_420 := n10_
        clear n0_ n1_ n2_ n3_ n4_ n5_ n6_ n7_ n8_ n9_ n10_
        clear hb hbox hg
        refine hK.out _ _ ⟨(blk_cell BK419.out 0).trans rfl, (blk_cell BK419.out 1).trans rfl, (blk_cell BK419.out 2).trans rfl, (blk_cell BK419.out 3).trans rfl, (blk_cell BK419.out 4).trans rfl, (blk_cell BK420.out 0).trans rfl, (blk_cell BK420.out 1).trans rfl, (blk_cell BK420.out 2).trans rfl, (blk_cell BK420.out 3).trans rfl, (blk_cell BK420.out 4).trans rfl⟩ (fun hHeld => ?_)
        clear hK K
        refine norm_ (a' := ?_) ?_ ?_
        rotate_left
        ·
         show Act.put _ (some 5) _ = _
         simp only [Act.put, List.setIfInBounds_toArray, List.set_cons_zero, List.set_cons_succ, i64_w, i32_w]
         rfl
        refine one_ (i := 1) (N := some 20) #[true, true, false, true, true, false, false, true, false, false] rfl rfl (one_of HT_.out (by kernel_rfl)) (by decide) (fun K hK => ?_)
        refine goes_ Tryd.func38 (by kernel_rfl) rfl #[.agg #[.int .u64 a0_0, .int .u64 a0_1, .int .u64 a0_2, .string a0_3, .string a0_4], .string (⟨#[48]⟩ : ByteArray)] (by rfl) rfl rfl (by (try simp only [List.map_toArray, List.map_cons, List.map_nil]); first | done | rfl | (simp only [List.length_drop, List.length_take]; rfl)) ?_
        with_reducible refine (laws_svPre.calls a0_0 a0_1 a0_2 a0_3 a0_4 (⟨#[48]⟩ : ByteArray) t427 t428 t429 t430 t431 _ A20.out).mono ?_
        rintro e w66 ⟨rfl, hb⟩
        refine ⟨_, rfl, ?_⟩
        have n0_ := Aside0.mk (Kd.R_below (by (with_reducible repeat (first | apply Kd.R_alloc | apply Kd.R_drewN | apply Kd.R_drew)); exact HO425.out) hb)
        have n1_ := Aside0.mk (blk_below (g := gb419) (o := .cells #[.int .u64 a0_0, .int .u64 a0_1, .int .u64 a0_2, .string a0_3, .string a0_4] 26 (0, 0)) (by (with_reducible repeat (first | refine blk_drewN ?_ _ | refine blk_drew ?_ | refine blk_alloc ?_ _)); exact BK419.out) hb)
        have n2_ := Aside0.mk (blk_below (g := gb420) (o := .cells #[.int .u64 a1_0, .int .u64 a1_1, .int .u64 a1_2, .string a1_3, .string a1_4] 26 (0, 0)) (by (with_reducible repeat (first | refine blk_drewN ?_ _ | refine blk_drew ?_ | refine blk_alloc ?_ _)); exact BK420.out) hb)
        have n3_ := Aside0.mk (blk_below (g := gb439) (o := .cells #[.int .i64 0, .int .i64 0, .int .u64 0, .int .u64 0, .int .u64 0, .string (⟨#[]⟩ : ByteArray)] 24 (0, 0)) (by (with_reducible repeat (first | refine blk_drewN ?_ _ | refine blk_drew ?_ | refine blk_alloc ?_ _)); exact BK439.out) hb)
        have n4_ := Aside0.mk (below_step (by repeat (first | (with_reducible first | exact HB.out | apply below_alloc | apply pw_below_drewN | apply below_drew1 | refine below_set ?_ GE419.out | refine below_set ?_ GE420.out | refine below_set ?_ GE439.out) | exact HB.out)) hb)
        clear HO425
        clear BK419
        clear BK420
        clear BK439
        clear HB
        have HO425 := n0_
        have BK419 := n1_
        have BK420 := n2_
        have BK439 := n3_
        have HB := n4_
        clear n0_ n1_ n2_ n3_ n4_
        (try clear hb)
        (try clear hb2)
        (try clear hk)
        (try clear hi)
        refine hK.out _ _ ⟨(blk_cell BK419.out 0).trans rfl, (blk_cell BK419.out 1).trans rfl, (blk_cell BK419.out 2).trans rfl, (blk_cell BK419.out 3).trans rfl, (blk_cell BK419.out 4).trans rfl, (blk_cell BK420.out 0).trans rfl, (blk_cell BK420.out 1).trans rfl, (blk_cell BK420.out 2).trans rfl, (blk_cell BK420.out 3).trans rfl, (blk_cell BK420.out 4).trans rfl⟩ (fun hHeld => ?_)
        clear hK K
        refine norm_ (a' := ?_) ?_ ?_
        rotate_left
        ·
         show Act.put _ (some 20) _ = _
         simp only [Act.put, List.setIfInBounds_toArray, List.set_cons_zero, List.set_cons_succ, i64_w, i32_w]
         rfl
        refine one_ (i := 2) (N := some 21) #[true, true, true, true, true, false, false, true, false, false] rfl rfl (one_of HT_.out (by kernel_rfl)) (by decide) (fun K hK => ?_)
        refine goes_ Tryd.func28 (by kernel_rfl) rfl #[.int .i64 4, .agg #[.int .u64 t427, .int .u64 t428, .int .u64 t429, .string t430, .string t431], .int .i64 3] (by rfl) rfl rfl (by (try simp only [List.map_toArray, List.map_cons, List.map_nil]); first | done | rfl | (simp only [List.length_drop, List.length_take]; rfl)) ?_
        with_reducible refine (laws_stTerm.calls 4 t427 t428 t429 t430 t431 3 t432 t433 t434 t435 t436 t437 _ A21.out).mono ?_
        rintro e w67 ⟨rfl, hb⟩
        refine ⟨_, rfl, ?_⟩
        have n0_ := Aside0.mk (Kd.R_below (by (with_reducible repeat (first | apply Kd.R_alloc | apply Kd.R_drewN | apply Kd.R_drew)); exact HO425.out) hb)
        have n1_ := Aside0.mk (blk_below (g := gb419) (o := .cells #[.int .u64 a0_0, .int .u64 a0_1, .int .u64 a0_2, .string a0_3, .string a0_4] 26 (0, 0)) (by (with_reducible repeat (first | refine blk_drewN ?_ _ | refine blk_drew ?_ | refine blk_alloc ?_ _)); exact BK419.out) hb)
        have n2_ := Aside0.mk (blk_below (g := gb420) (o := .cells #[.int .u64 a1_0, .int .u64 a1_1, .int .u64 a1_2, .string a1_3, .string a1_4] 26 (0, 0)) (by (with_reducible repeat (first | refine blk_drewN ?_ _ | refine blk_drew ?_ | refine blk_alloc ?_ _)); exact BK420.out) hb)
        have n3_ := Aside0.mk (blk_below (g := gb439) (o := .cells #[.int .i64 0, .int .i64 0, .int .u64 0, .int .u64 0, .int .u64 0, .string (⟨#[]⟩ : ByteArray)] 24 (0, 0)) (by (with_reducible repeat (first | refine blk_drewN ?_ _ | refine blk_drew ?_ | refine blk_alloc ?_ _)); exact BK439.out) hb)
        have n4_ := Aside0.mk (below_step (by repeat (first | (with_reducible first | exact HB.out | apply below_alloc | apply pw_below_drewN | apply below_drew1 | refine below_set ?_ GE419.out | refine below_set ?_ GE420.out | refine below_set ?_ GE439.out) | exact HB.out)) hb)
        clear HO425
        clear BK419
        clear BK420
        clear BK439
        clear HB
        have HO425 := n0_
        have BK419 := n1_
        have BK420 := n2_
        have BK439 := n3_
        have HB := n4_
        clear n0_ n1_ n2_ n3_ n4_
        (try clear hb)
        (try clear hb2)
        (try clear hk)
        (try clear hi)
        refine hK.out _ _ ⟨(blk_cell BK419.out 0).trans rfl, (blk_cell BK419.out 1).trans rfl, (blk_cell BK419.out 2).trans rfl, (blk_cell BK419.out 3).trans rfl, (blk_cell BK419.out 4).trans rfl, (blk_cell BK420.out 0).trans rfl, (blk_cell BK420.out 1).trans rfl, (blk_cell BK420.out 2).trans rfl, (blk_cell BK420.out 3).trans rfl, (blk_cell BK420.out 4).trans rfl⟩ (fun hHeld => ?_)
        clear hK K
        refine norm_ (a' := ?_) ?_ ?_
        rotate_left
        ·
         show Act.put _ (some 21) _ = _
         simp only [Act.put, List.setIfInBounds_toArray, List.set_cons_zero, List.set_cons_succ, i64_w, i32_w]
         rfl
        refine one_ (i := 5) (N := some 24) #[true, true, true, true, true, true, false, true, false, false] rfl rfl (one_of HT_.out (by kernel_rfl)) (by decide) (fun K hK => ?_)
        refine goes_ Tryd.func39 (by kernel_rfl) rfl #[.agg #[.int .u64 a1_0, .int .u64 a1_1, .int .u64 a1_2, .string a1_3, .string a1_4], .agg #[.int .u64 a0_0, .int .u64 a0_1, .int .u64 a0_2, .string a0_3, .string a0_4], .int .i64 3] (by rfl) rfl rfl (by (try simp only [List.map_toArray, List.map_cons, List.map_nil]); first | done | rfl | (simp only [List.length_drop, List.length_take]; rfl)) ?_
        with_reducible refine (spec_CompareNumbers.calls a1_0 a1_1 a1_2 a1_3 a1_4 a0_0 a0_1 a0_2 a0_3 a0_4 3 t438 _ A22.out).mono ?_
        rintro e w68 ⟨rfl, hb⟩
        refine ⟨_, rfl, ?_⟩
        have n0_ := Aside0.mk (Kd.R_below (by (with_reducible repeat (first | apply Kd.R_alloc | apply Kd.R_drewN | apply Kd.R_drew)); exact HO425.out) hb)
        have n1_ := Aside0.mk (blk_below (g := gb419) (o := .cells #[.int .u64 a0_0, .int .u64 a0_1, .int .u64 a0_2, .string a0_3, .string a0_4] 26 (0, 0)) (by (with_reducible repeat (first | refine blk_drewN ?_ _ | refine blk_drew ?_ | refine blk_alloc ?_ _)); exact BK419.out) hb)
        have n2_ := Aside0.mk (blk_below (g := gb420) (o := .cells #[.int .u64 a1_0, .int .u64 a1_1, .int .u64 a1_2, .string a1_3, .string a1_4] 26 (0, 0)) (by (with_reducible repeat (first | refine blk_drewN ?_ _ | refine blk_drew ?_ | refine blk_alloc ?_ _)); exact BK420.out) hb)
        have n3_ := Aside0.mk (blk_below (g := gb439) (o := .cells #[.int .i64 0, .int .i64 0, .int .u64 0, .int .u64 0, .int .u64 0, .string (⟨#[]⟩ : ByteArray)] 24 (0, 0)) (by (with_reducible repeat (first | refine blk_drewN ?_ _ | refine blk_drew ?_ | refine blk_alloc ?_ _)); exact BK439.out) hb)
        have n4_ := Aside0.mk (below_step (by repeat (first | (with_reducible first | exact HB.out | apply below_alloc | apply pw_below_drewN | apply below_drew1 | refine below_set ?_ GE419.out | refine below_set ?_ GE420.out | refine below_set ?_ GE439.out) | exact HB.out)) hb)
        clear HO425
        clear BK419
        clear BK420
        clear BK439
        clear HB
        have HO425 := n0_
        have BK419 := n1_
        have BK420 := n2_
        have BK439 := n3_
        have HB := n4_
        clear n0_ n1_ n2_ n3_ n4_
        (try clear hb)
        (try clear hb2)
        (try clear hk)
        (try clear hi)
        refine hK.out _ _ ⟨(blk_cell BK419.out 0).trans rfl, (blk_cell BK419.out 1).trans rfl, (blk_cell BK419.out 2).trans rfl, (blk_cell BK419.out 3).trans rfl, (blk_cell BK419.out 4).trans rfl, (blk_cell BK420.out 0).trans rfl, (blk_cell BK420.out 1).trans rfl, (blk_cell BK420.out 2).trans rfl, (blk_cell BK420.out 3).trans rfl, (blk_cell BK420.out 4).trans rfl⟩ (fun hHeld => ?_)
        clear hK K
        refine norm_ (a' := ?_) ?_ ?_
        rotate_left
        ·
         show Act.put _ (some 24) _ = _
         simp only [Act.put, List.setIfInBounds_toArray, List.set_cons_zero, List.set_cons_succ, i64_w, i32_w]
         rfl
        refine pure_ (i := 6) (N := some 25) (v := ?_) (a' := ?_) #[true, true, true, true, true, true, true, true, false, false] rfl rfl (any_of HT_.out (by kernel_rfl)) (fun _ _ _ h => h) (Or.inl ⟨by rfl, ?_⟩) ?_ ?_
        rotate_left
        ·
         intro w'
         go_simp
         with_reducible rfl
        rotate_left
        ·
         simp only [Act.put, List.setIfInBounds_toArray, List.set_cons_zero, List.set_cons_succ, i64_w, i32_w]
         rfl
        exact norm_ (by simp only [putAll, Act.put, List.setIfInBounds_toArray, List.set_cons_zero, List.set_cons_succ]) (hCont (gb439) _ ⟨hHeld, (by (with_reducible repeat (first | apply Kd.R_alloc | apply Kd.R_drewN | apply Kd.R_drew)); exact Kd.R_mono HO425.out (fun _ hk => ⟨hk.1.2, hk.2⟩)), (by (with_reducible repeat (first | refine blk_drewN ?_ _ | refine blk_drew ?_ | refine blk_alloc ?_ _)); exact BK419.out), (by (with_reducible repeat (first | refine blk_drewN ?_ _ | refine blk_drew ?_ | refine blk_alloc ?_ _)); exact BK420.out), (by (with_reducible repeat (first | refine blk_drewN ?_ _ | refine blk_drew ?_ | refine blk_alloc ?_ _)); exact BK439.out), GW439.out, GE439.out, NB419_439.out, NB439_419.out, NB420_439.out, NB439_420.out, (by repeat (first | (with_reducible first | exact HB.out | apply below_alloc | apply pw_below_drewN | apply below_drew1 | refine below_set ?_ GE419.out | refine below_set ?_ GE420.out | refine below_set ?_ GE439.out) | exact HB.out))⟩)
      rintro gb439 w69 ⟨hS_, h0_, h1_, h2_, h3_, h4_, h5_, h6_, h7_, h8_, h9_, h10_⟩
      have n0_ : Aside0 (Kd.R k26 26 w69 w.heap.size (fun k_ => k_ ≠ gb419 ∧ k_ ≠ gb420) (.slice Ao62 y423.length co62) y423) := ⟨h0_⟩
      have n1_ : Aside0 (w69.heap[gb419]? = some (.cells #[.int .u64 a0_0, .int .u64 a0_1, .int .u64 a0_2, .string a0_3, .string a0_4] 26 (0, 0))) := ⟨h1_⟩
      have n2_ : Aside0 (w69.heap[gb420]? = some (.cells #[.int .u64 a1_0, .int .u64 a1_1, .int .u64 a1_2, .string a1_3, .string a1_4] 26 (0, 0))) := ⟨h2_⟩
      have n3_ : Aside0 (w69.heap[gb439]? = some (.cells #[.int .i64 0, .int .i64 0, .int .u64 0, .int .u64 0, .int .u64 0, .string (⟨#[]⟩ : ByteArray)] 24 (0, 0))) := ⟨h3_⟩
      have n4_ : Aside0 (w.heap.size ≤ gb439) := ⟨h4_⟩
      have n5_ : Aside0 (w.heap.size ≤ gb439) := ⟨h5_⟩
      have n6_ : Aside0 (gb419 ≠ gb439) := ⟨h6_⟩
      have n7_ : Aside0 (gb439 ≠ gb419) := ⟨h7_⟩
      have n8_ : Aside0 (gb420 ≠ gb439) := ⟨h8_⟩
      have n9_ : Aside0 (gb439 ≠ gb420) := ⟨h9_⟩
      have n10_ : Aside0 (Below w.heap.size w w69) := ⟨h10_⟩
      clear HO425
      clear BK419
      clear BK420
      clear HB
      clear h0_ h1_ h2_ h3_ h4_ h5_ h6_ h7_ h8_ h9_ h10_
      have HO425 := n0_
      have BK419 := n1_
      have BK420 := n2_
      have BK439 := n3_
      have GW439 := n4_
      have GE439 := n5_
      have NB419_439 := n6_
      have NB439_419 := n7_
      have NB420_439 := n8_
      have NB439_420 := n9_
      have HB := n10_
      clear n0_ n1_ n2_ n3_ n4_ n5_ n6_ n7_ n8_ n9_ n10_
      have hHeld : w69.cell? ⟨gb419, 0, none⟩ = some (.int .u64 a0_0) ∧ w69.cell? ⟨gb419, 1, none⟩ = some (.int .u64 a0_1) ∧ w69.cell? ⟨gb419, 2, none⟩ = some (.int .u64 a0_2) ∧ w69.cell? ⟨gb419, 3, none⟩ = some (.string a0_3) ∧ w69.cell? ⟨gb419, 4, none⟩ = some (.string a0_4) ∧ w69.cell? ⟨gb420, 0, none⟩ = some (.int .u64 a1_0) ∧ w69.cell? ⟨gb420, 1, none⟩ = some (.int .u64 a1_1) ∧ w69.cell? ⟨gb420, 2, none⟩ = some (.int .u64 a1_2) ∧ w69.cell? ⟨gb420, 3, none⟩ = some (.string a1_3) ∧ w69.cell? ⟨gb420, 4, none⟩ = some (.string a1_4) := hS_
      refine norm_ (a' := ?_) ?_ ?_
      rotate_left
      ·
       simp only [putAll, Act.put, List.setIfInBounds_toArray, List.set_cons_zero, List.set_cons_succ]
       rfl
      refine one_ (i := 8) (N := none) #[true, true, true, true, true, true, true, true, true, false] rfl rfl (one_of HT_.out (by kernel_rfl)) (by decide) (fun K hK => ?_)
      have hs70 : w69.cell? ⟨gb439, 0, none⟩ = some (.int .i64 0) := (blk_cell BK439.out 0).trans rfl
      have hfs70 := blk_frozen BK439.out 0
      have hns70_0 := NB419_439.out
      have hns70_1 := NB420_439.out
      have hms70_0 := NB439_419.out
      have hms70_1 := NB439_420.out
      have hs71 : w69.cell? ⟨gb439, 1, none⟩ = some (.int .i64 0) := (blk_cell BK439.out 1).trans rfl
      have hfs71 := blk_frozen BK439.out 1
      have hns71_0 := NB419_439.out
      have hns71_1 := NB420_439.out
      have hms71_0 := NB439_419.out
      have hms71_1 := NB439_420.out
      have hs72 : w69.cell? ⟨gb439, 2, none⟩ = some (.int .u64 0) := (blk_cell BK439.out 2).trans rfl
      have hfs72 := blk_frozen BK439.out 2
      have hns72_0 := NB419_439.out
      have hns72_1 := NB420_439.out
      have hms72_0 := NB439_419.out
      have hms72_1 := NB439_420.out
      have hs73 : w69.cell? ⟨gb439, 3, none⟩ = some (.int .u64 0) := (blk_cell BK439.out 3).trans rfl
      have hfs73 := blk_frozen BK439.out 3
      have hns73_0 := NB419_439.out
      have hns73_1 := NB420_439.out
      have hms73_0 := NB439_419.out
      have hms73_1 := NB439_420.out
      have hs74 : w69.cell? ⟨gb439, 4, none⟩ = some (.int .u64 0) := (blk_cell BK439.out 4).trans rfl
      have hfs74 := blk_frozen BK439.out 4
      have hns74_0 := NB419_439.out
      have hns74_1 := NB420_439.out
      have hms74_0 := NB439_419.out
      have hms74_1 := NB439_420.out
      have hs75 : w69.cell? ⟨gb439, 5, none⟩ = some (.string (⟨#[]⟩ : ByteArray)) := (blk_cell BK439.out 5).trans rfl
      have hfs75 := blk_frozen BK439.out 5
      have hns75_0 := NB419_439.out
      have hns75_1 := NB420_439.out
      have hms75_0 := NB439_419.out
      have hms75_1 := NB439_420.out
      refine skip_ (w1 := ?_) (by rfl) rfl ?_ ?_
      rotate_left
      ·
       go_simp
       rfl
      refine hK.out _ _ ⟨((cell_far (p := ⟨gb439, _, none⟩) NB419_439.out _).trans (((cell_far (p := ⟨gb439, _, none⟩) NB419_439.out _).trans (((cell_far (p := ⟨gb439, _, none⟩) NB419_439.out _).trans (((cell_far (p := ⟨gb439, _, none⟩) NB419_439.out _).trans (((cell_far (p := ⟨gb439, _, none⟩) NB419_439.out _).trans (((cell_far (p := ⟨gb439, _, none⟩) NB419_439.out _).trans (hHeld.1)))))))))))), ((cell_far (p := ⟨gb439, _, none⟩) NB419_439.out _).trans (((cell_far (p := ⟨gb439, _, none⟩) NB419_439.out _).trans (((cell_far (p := ⟨gb439, _, none⟩) NB419_439.out _).trans (((cell_far (p := ⟨gb439, _, none⟩) NB419_439.out _).trans (((cell_far (p := ⟨gb439, _, none⟩) NB419_439.out _).trans (((cell_far (p := ⟨gb439, _, none⟩) NB419_439.out _).trans (hHeld.2.1)))))))))))), ((cell_far (p := ⟨gb439, _, none⟩) NB419_439.out _).trans (((cell_far (p := ⟨gb439, _, none⟩) NB419_439.out _).trans (((cell_far (p := ⟨gb439, _, none⟩) NB419_439.out _).trans (((cell_far (p := ⟨gb439, _, none⟩) NB419_439.out _).trans (((cell_far (p := ⟨gb439, _, none⟩) NB419_439.out _).trans (((cell_far (p := ⟨gb439, _, none⟩) NB419_439.out _).trans (hHeld.2.2.1)))))))))))), ((cell_far (p := ⟨gb439, _, none⟩) NB419_439.out _).trans (((cell_far (p := ⟨gb439, _, none⟩) NB419_439.out _).trans (((cell_far (p := ⟨gb439, _, none⟩) NB419_439.out _).trans (((cell_far (p := ⟨gb439, _, none⟩) NB419_439.out _).trans (((cell_far (p := ⟨gb439, _, none⟩) NB419_439.out _).trans (((cell_far (p := ⟨gb439, _, none⟩) NB419_439.out _).trans (hHeld.2.2.2.1)))))))))))), ((cell_far (p := ⟨gb439, _, none⟩) NB419_439.out _).trans (((cell_far (p := ⟨gb439, _, none⟩) NB419_439.out _).trans (((cell_far (p := ⟨gb439, _, none⟩) NB419_439.out _).trans (((cell_far (p := ⟨gb439, _, none⟩) NB419_439.out _).trans (((cell_far (p := ⟨gb439, _, none⟩) NB419_439.out _).trans (((cell_far (p := ⟨gb439, _, none⟩) NB419_439.out _).trans (hHeld.2.2.2.2.1)))))))))))), ((cell_far (p := ⟨gb439, _, none⟩) NB420_439.out _).trans (((cell_far (p := ⟨gb439, _, none⟩) NB420_439.out _).trans (((cell_far (p := ⟨gb439, _, none⟩) NB420_439.out _).trans (((cell_far (p := ⟨gb439, _, none⟩) NB420_439.out _).trans (((cell_far (p := ⟨gb439, _, none⟩) NB420_439.out _).trans (((cell_far (p := ⟨gb439, _, none⟩) NB420_439.out _).trans (hHeld.2.2.2.2.2.1)))))))))))), ((cell_far (p := ⟨gb439, _, none⟩) NB420_439.out _).trans (((cell_far (p := ⟨gb439, _, none⟩) NB420_439.out _).trans (((cell_far (p := ⟨gb439, _, none⟩) NB420_439.out _).trans (((cell_far (p := ⟨gb439, _, none⟩) NB420_439.out _).trans (((cell_far (p := ⟨gb439, _, none⟩) NB420_439.out _).trans (((cell_far (p := ⟨gb439, _, none⟩) NB420_439.out _).trans (hHeld.2.2.2.2.2.2.1)))))))))))), ((cell_far (p := ⟨gb439, _, none⟩) NB420_439.out _).trans (((cell_far (p := ⟨gb439, _, none⟩) NB420_439.out _).trans (((cell_far (p := ⟨gb439, _, none⟩) NB420_439.out _).trans (((cell_far (p := ⟨gb439, _, none⟩) NB420_439.out _).trans (((cell_far (p := ⟨gb439, _, none⟩) NB420_439.out _).trans (((cell_far (p := ⟨gb439, _, none⟩) NB420_439.out _).trans (hHeld.2.2.2.2.2.2.2.1)))))))))))), ((cell_far (p := ⟨gb439, _, none⟩) NB420_439.out _).trans (((cell_far (p := ⟨gb439, _, none⟩) NB420_439.out _).trans (((cell_far (p := ⟨gb439, _, none⟩) NB420_439.out _).trans (((cell_far (p := ⟨gb439, _, none⟩) NB420_439.out _).trans (((cell_far (p := ⟨gb439, _, none⟩) NB420_439.out _).trans (((cell_far (p := ⟨gb439, _, none⟩) NB420_439.out _).trans (hHeld.2.2.2.2.2.2.2.2.1)))))))))))), ((cell_far (p := ⟨gb439, _, none⟩) NB420_439.out _).trans (((cell_far (p := ⟨gb439, _, none⟩) NB420_439.out _).trans (((cell_far (p := ⟨gb439, _, none⟩) NB420_439.out _).trans (((cell_far (p := ⟨gb439, _, none⟩) NB420_439.out _).trans (((cell_far (p := ⟨gb439, _, none⟩) NB420_439.out _).trans (((cell_far (p := ⟨gb439, _, none⟩) NB420_439.out _).trans (hHeld.2.2.2.2.2.2.2.2.2))))))))))))⟩ (fun hHeld => ?_)
      clear hK K
      refine pure_ (i := 9) (N := some 6) (v := ?_) (a' := ?_) #[true, true, true, true, true, true, true, true, true, true] rfl rfl (any_of HT_.out (by kernel_rfl)) (fun _ _ _ h => h) (Or.inl ⟨by rfl, ?_⟩) ?_ ?_
      rotate_left
      ·
       intro w'
       go_simp
       with_reducible rfl
      rotate_left
      ·
       simp only [Act.put, List.setIfInBounds_toArray, List.set_cons_zero, List.set_cons_succ, i64_w, i32_w]
       rfl
      refine done_ (done_of HT_.out (by kernel_rfl)) ?_
      have hnb76 := NB439_419.out
      have hnc76 := NB419_439.out
      have hnb77 := NB439_420.out
      have hnc77 := NB420_439.out
      have hcz78_0 : w69.cell? ⟨gb439, 0, none⟩ = some (.int .i64 0) := (blk_cell BK439.out 0).trans rfl
      have hcz78_1 : w69.cell? ⟨gb439, 1, none⟩ = some (.int .i64 0) := (blk_cell BK439.out 1).trans rfl
      have hcz78_2 : w69.cell? ⟨gb439, 2, none⟩ = some (.int .u64 0) := (blk_cell BK439.out 2).trans rfl
      have hcz78_3 : w69.cell? ⟨gb439, 3, none⟩ = some (.int .u64 0) := (blk_cell BK439.out 3).trans rfl
      have hcz78_4 : w69.cell? ⟨gb439, 4, none⟩ = some (.int .u64 0) := (blk_cell BK439.out 4).trans rfl
      have hcz78_5 : w69.cell? ⟨gb439, 5, none⟩ = some (.string (⟨#[]⟩ : ByteArray)) := (blk_cell BK439.out 5).trans rfl
      have hfz78_0 := blk_frozen BK439.out 0
      have hfz78_1 := blk_frozen BK439.out 1
      have hfz78_2 := blk_frozen BK439.out 2
      have hfz78_3 := blk_frozen BK439.out 3
      have hfz78_4 := blk_frozen BK439.out 4
      have hfz78_5 := blk_frozen BK439.out 5
      have hcz79_0 : w69.cell? ⟨gb420, 0, none⟩ = some (.int .u64 a1_0) := (blk_cell BK420.out 0).trans rfl
      have hcz79_1 : w69.cell? ⟨gb420, 1, none⟩ = some (.int .u64 a1_1) := (blk_cell BK420.out 1).trans rfl
      have hcz79_2 : w69.cell? ⟨gb420, 2, none⟩ = some (.int .u64 a1_2) := (blk_cell BK420.out 2).trans rfl
      have hcz79_3 : w69.cell? ⟨gb420, 3, none⟩ = some (.string a1_3) := (blk_cell BK420.out 3).trans rfl
      have hcz79_4 : w69.cell? ⟨gb420, 4, none⟩ = some (.string a1_4) := (blk_cell BK420.out 4).trans rfl
      have hfz79_0 := blk_frozen BK420.out 0
      have hfz79_1 := blk_frozen BK420.out 1
      have hfz79_2 := blk_frozen BK420.out 2
      have hfz79_3 := blk_frozen BK420.out 3
      have hfz79_4 := blk_frozen BK420.out 4
      try go_wp2_with (first | ((with_reducible refine gate_callee (f := 18) rfl ?_); refine goesL_ (some 28) rfl rfl Tryd.func18 (by kernel_rfl) rfl #[.agg #[.int .i64 t432, .int .i64 t433, .int .u64 t434, .int .u64 t435, .int .u64 t436, .string t437], .agg #[.int .u64 a1_0, .int .u64 a1_1, .int .u64 a1_2, .string a1_3, .string a1_4], .bool true] rfl (by (try simp only [List.map_toArray, List.map_cons, List.map_nil]); first | done | rfl | (simp only [List.length_drop, List.length_take]; rfl)) ?_; (with_reducible refine (impl_TermHolds.calls t432 t433 t434 t435 t436 t437 a1_0 a1_1 a1_2 a1_3 a1_4 true t440 _ ?side1 A23.out).mono ?_); (case side1 => exact HStd.out.below (by repeat (first | (with_reducible first | exact HB.out | apply below_alloc | apply pw_below_drewN | apply below_drew1 | refine below_set ?_ GE419.out | refine below_set ?_ GE420.out | refine below_set ?_ GE439.out) | exact HB.out))); rintro e w80 ⟨rfl, hb⟩; refine ⟨_, rfl, ?_⟩; have n0_ := Aside0.mk (Kd.R_below (by (with_reducible repeat (first | apply Kd.R_alloc | apply Kd.R_drewN | apply Kd.R_drew)); exact (Kd.R_mono (Kd.R_far (p := ⟨gb439, 5, none⟩) (Kd.R_far (p := ⟨gb439, 4, none⟩) (Kd.R_far (p := ⟨gb439, 3, none⟩) (Kd.R_far (p := ⟨gb439, 2, none⟩) (Kd.R_far (p := ⟨gb439, 1, none⟩) (Kd.R_far (p := ⟨gb439, 0, none⟩) (Kd.R_types HO425.out BK439.out (by decide)) (fun _ hk => hk.2) (.int .i64 t432)) (fun _ hk => hk.2) (.int .i64 t433)) (fun _ hk => hk.2) (.int .u64 t434)) (fun _ hk => hk.2) (.int .u64 t435)) (fun _ hk => hk.2) (.int .u64 t436)) (fun _ hk => hk.2) (.string t437)) (fun _ h_ => h_.1))) hb); have n1_ := Aside0.mk (blk_below (g := gb419) (o := .cells #[.int .u64 a0_0, .int .u64 a0_1, .int .u64 a0_2, .string a0_3, .string a0_4] 26 (0, 0)) (by (with_reducible repeat (first | refine blk_drewN ?_ _ | refine blk_drew ?_ | refine blk_alloc ?_ _)); refine blk_far ?_ NB419_439.out _; (with_reducible repeat (first | refine blk_drewN ?_ _ | refine blk_drew ?_ | refine blk_alloc ?_ _)); refine blk_far ?_ NB419_439.out _; (with_reducible repeat (first | refine blk_drewN ?_ _ | refine blk_drew ?_ | refine blk_alloc ?_ _)); refine blk_far ?_ NB419_439.out _; (with_reducible repeat (first | refine blk_drewN ?_ _ | refine blk_drew ?_ | refine blk_alloc ?_ _)); refine blk_far ?_ NB419_439.out _; (with_reducible repeat (first | refine blk_drewN ?_ _ | refine blk_drew ?_ | refine blk_alloc ?_ _)); refine blk_far ?_ NB419_439.out _; (with_reducible repeat (first | refine blk_drewN ?_ _ | refine blk_drew ?_ | refine blk_alloc ?_ _)); refine blk_far ?_ NB419_439.out _; (with_reducible repeat (first | refine blk_drewN ?_ _ | refine blk_drew ?_ | refine blk_alloc ?_ _)); exact BK419.out) hb); have n2_ := Aside0.mk (blk_below (g := gb420) (o := .cells #[.int .u64 a1_0, .int .u64 a1_1, .int .u64 a1_2, .string a1_3, .string a1_4] 26 (0, 0)) (by (with_reducible repeat (first | refine blk_drewN ?_ _ | refine blk_drew ?_ | refine blk_alloc ?_ _)); refine blk_far ?_ NB420_439.out _; (with_reducible repeat (first | refine blk_drewN ?_ _ | refine blk_drew ?_ | refine blk_alloc ?_ _)); refine blk_far ?_ NB420_439.out _; (with_reducible repeat (first | refine blk_drewN ?_ _ | refine blk_drew ?_ | refine blk_alloc ?_ _)); refine blk_far ?_ NB420_439.out _; (with_reducible repeat (first | refine blk_drewN ?_ _ | refine blk_drew ?_ | refine blk_alloc ?_ _)); refine blk_far ?_ NB420_439.out _; (with_reducible repeat (first | refine blk_drewN ?_ _ | refine blk_drew ?_ | refine blk_alloc ?_ _)); refine blk_far ?_ NB420_439.out _; (with_reducible repeat (first | refine blk_drewN ?_ _ | refine blk_drew ?_ | refine blk_alloc ?_ _)); refine blk_far ?_ NB420_439.out _; (with_reducible repeat (first | refine blk_drewN ?_ _ | refine blk_drew ?_ | refine blk_alloc ?_ _)); exact BK420.out) hb); have n3_ := Aside0.mk (blk_below (g := gb439) (o := .cells #[.int .i64 t432, .int .i64 t433, .int .u64 t434, .int .u64 t435, .int .u64 t436, .string t437] 24 (0, 0)) (by (with_reducible repeat (first | refine blk_drewN ?_ _ | refine blk_drew ?_ | refine blk_alloc ?_ _)); refine blk_put (cs := #[.int .i64 t432, .int .i64 t433, .int .u64 t434, .int .u64 t435, .int .u64 t436, .string (⟨#[]⟩ : ByteArray)]) ?_ 5 _ rfl; (with_reducible repeat (first | refine blk_drewN ?_ _ | refine blk_drew ?_ | refine blk_alloc ?_ _)); refine blk_put (cs := #[.int .i64 t432, .int .i64 t433, .int .u64 t434, .int .u64 t435, .int .u64 0, .string (⟨#[]⟩ : ByteArray)]) ?_ 4 _ rfl; (with_reducible repeat (first | refine blk_drewN ?_ _ | refine blk_drew ?_ | refine blk_alloc ?_ _)); refine blk_put (cs := #[.int .i64 t432, .int .i64 t433, .int .u64 t434, .int .u64 0, .int .u64 0, .string (⟨#[]⟩ : ByteArray)]) ?_ 3 _ rfl; (with_reducible repeat (first | refine blk_drewN ?_ _ | refine blk_drew ?_ | refine blk_alloc ?_ _)); refine blk_put (cs := #[.int .i64 t432, .int .i64 t433, .int .u64 0, .int .u64 0, .int .u64 0, .string (⟨#[]⟩ : ByteArray)]) ?_ 2 _ rfl; (with_reducible repeat (first | refine blk_drewN ?_ _ | refine blk_drew ?_ | refine blk_alloc ?_ _)); refine blk_put (cs := #[.int .i64 t432, .int .i64 0, .int .u64 0, .int .u64 0, .int .u64 0, .string (⟨#[]⟩ : ByteArray)]) ?_ 1 _ rfl; (with_reducible repeat (first | refine blk_drewN ?_ _ | refine blk_drew ?_ | refine blk_alloc ?_ _)); refine blk_put (cs := #[.int .i64 0, .int .i64 0, .int .u64 0, .int .u64 0, .int .u64 0, .string (⟨#[]⟩ : ByteArray)]) ?_ 0 _ rfl; (with_reducible repeat (first | refine blk_drewN ?_ _ | refine blk_drew ?_ | refine blk_alloc ?_ _)); exact BK439.out) hb); have n4_ := Aside0.mk (below_step (by repeat (first | (with_reducible first | exact HB.out | apply below_alloc | apply pw_below_drewN | apply below_drew1 | refine below_set ?_ GE419.out | refine below_set ?_ GE420.out | refine below_set ?_ GE439.out) | exact HB.out)) hb); clear HO425; clear BK419; clear BK420; clear BK439; clear HB; have HO425 := n0_; have BK419 := n1_; have BK420 := n2_; have BK439 := n3_; have HB := n4_; clear n0_ n1_ n2_ n3_ n4_; (try clear hb); (try clear hb2); (try clear hk); (try clear hi)))
      go_ret
      exact ⟨by first | rfl | (simp [errW_none, errW_some] <;> rfl) | (simp [*, errW_none, errW_some] <;> rfl) | (simp [bneNil]; done), by repeat (first | (with_reducible first | exact HB.out | apply below_alloc | apply pw_below_drewN | apply below_drew1 | refine below_set ?_ GE419.out | refine below_set ?_ GE420.out | refine below_set ?_ GE439.out) | exact HB.out)⟩
    ·
     replace c19 := Bool.eq_false_iff.mpr c19
     subst c19
     have H1 : (some true) = some r := by rw [if_neg (show ¬ (false = true) by decide)] at H; exact H
     clear H
     have H := H1
     clear H1
     obtain rfl := Option.some.inj H
     have hnb81 := NB420_419.out
     have hnc81 := NB419_420.out
     have hcz82_0 : wc.cell? ⟨gb420, 0, none⟩ = some (.int .u64 a1_0) := (blk_cell BK420.out 0).trans rfl
     have hcz82_1 : wc.cell? ⟨gb420, 1, none⟩ = some (.int .u64 a1_1) := (blk_cell BK420.out 1).trans rfl
     have hcz82_2 : wc.cell? ⟨gb420, 2, none⟩ = some (.int .u64 a1_2) := (blk_cell BK420.out 2).trans rfl
     have hcz82_3 : wc.cell? ⟨gb420, 3, none⟩ = some (.string a1_3) := (blk_cell BK420.out 3).trans rfl
     have hcz82_4 : wc.cell? ⟨gb420, 4, none⟩ = some (.string a1_4) := (blk_cell BK420.out 4).trans rfl
     have hfz82_0 := blk_frozen BK420.out 0
     have hfz82_1 := blk_frozen BK420.out 1
     have hfz82_2 := blk_frozen BK420.out 2
     have hfz82_3 := blk_frozen BK420.out 3
     have hfz82_4 := blk_frozen BK420.out 4
     go_wp2_with (first | ((with_reducible refine gate_dst (N := 16) rfl ?_); (try (refine gate_guard (by rfl) ?_; dsimp only)); refine Kd.R_lit k26 _ 26 ?hg (N := 16) ?hd (xs := ([(⟨a1_0, a1_1, a1_2, a1_3, a1_4⟩ : S26)] : List (S26))) (inner := [.int .u64 a1_0, .int .u64 a1_1, .int .u64 a1_2, .string a1_3, .string a1_4]) (ok := fun _ => True) (okp := fun _ => True) ?hr ?hp (fun _ hk => hk) trivial (Below.refl _ _) (Nat.le_refl _) (by simp) ?_; (case hd => rfl); (case hg => rfl); (case hr => first | (go_simp; done) | (go_simp; rfl) | (go_simp; simp [u8w]; done)); (case hp => exact (Reps.c5 (show Kd.M k26 _ _ _ (⟨a1_0, a1_1, a1_2, a1_3, a1_4⟩ : S26) [.int .u64 a1_0, .int .u64 a1_1, .int .u64 a1_2, .string a1_3, .string a1_4] from (k26_mkM _ _ _ (⟨a1_0, a1_1, a1_2, a1_3, a1_4⟩ : S26) )) (Reps.none _ _))); intro v424 w83 ho84 hb hg_ hnew_; clear hg_ hnew_; (first | rw [← Ny423.out] at ho84 | (simp only [Int.reduceToNat] at ho84; rw [← Ny423.out] at ho84)); have n0_ := Aside0.mk (Kd.R_lower (Kd.R_newB (Kd.R_newB ho84 (g := gb419) (o := .cells #[.int .u64 a0_0, .int .u64 a0_1, .int .u64 a0_2, .string a0_3, .string a0_4] 26 (0, 0)) (by (with_reducible repeat (first | refine blk_drewN ?_ _ | refine blk_drew ?_ | refine blk_alloc ?_ _)); exact BK419.out)) (g := gb420) (o := .cells #[.int .u64 a1_0, .int .u64 a1_1, .int .u64 a1_2, .string a1_3, .string a1_4] 26 (0, 0)) (by (with_reducible repeat (first | refine blk_drewN ?_ _ | refine blk_drew ?_ | refine blk_alloc ?_ _)); exact BK420.out)) (below_size (by repeat (first | (with_reducible first | exact HB.out | apply below_alloc | apply pw_below_drewN | apply below_drew1 | refine below_set ?_ GE419.out | refine below_set ?_ GE420.out) | exact HB.out)))); have n1_ := Aside0.mk (blk_below (g := gb419) (o := .cells #[.int .u64 a0_0, .int .u64 a0_1, .int .u64 a0_2, .string a0_3, .string a0_4] 26 (0, 0)) (by (with_reducible repeat (first | refine blk_drewN ?_ _ | refine blk_drew ?_ | refine blk_alloc ?_ _)); exact BK419.out) hb); have n2_ := Aside0.mk (blk_below (g := gb420) (o := .cells #[.int .u64 a1_0, .int .u64 a1_1, .int .u64 a1_2, .string a1_3, .string a1_4] 26 (0, 0)) (by (with_reducible repeat (first | refine blk_drewN ?_ _ | refine blk_drew ?_ | refine blk_alloc ?_ _)); exact BK420.out) hb); have n3_ := Aside0.mk (below_step (by repeat (first | (with_reducible first | exact HB.out | apply below_alloc | apply pw_below_drewN | apply below_drew1 | refine below_set ?_ GE419.out | refine below_set ?_ GE420.out) | exact HB.out)) hb); clear BK419; clear BK420; clear HB; have HO425 := n0_; have BK419 := n1_; have BK420 := n2_; have HB := n3_; clear n0_ n1_ n2_ n3_; clear hb ho84; obtain ⟨Ao85, co85, eo85⟩ := Kd.R_slice HO425.out; subst eo85) | ((with_reducible refine gate_callee (f := 16) rfl ?_); refine goesL_ (some 17) rfl rfl Tryd.func16 (by kernel_rfl) rfl #[.slice Ao85 y423.length co85] rfl (by (try simp only [List.map_toArray, List.map_cons, List.map_nil]); first | done | rfl | (simp only [List.length_drop, List.length_take]; rfl)) ?_; (with_reducible refine (laws_svGood.calls kj2 _ _ y423 false _ ?side1 ?side2 A18.out).mono ?_); (case side1 => repeat (first | exact (Kd.R_reads' HO425.out).2.2 | (with_reducible refine Kd.C_alloc ?_ _) | (with_reducible refine Kd.C_drewN ?_ _) | (with_reducible refine Kd.C_drew ?_))); (case side2 => exact (Kd.R_reads' HO425.out).2.1); rintro e w86 ⟨rfl, hb⟩; refine ⟨_, rfl, ?_⟩; have n0_ := Aside0.mk (Kd.R_below (by (with_reducible repeat (first | apply Kd.R_alloc | apply Kd.R_drewN | apply Kd.R_drew)); exact HO425.out) hb); have n1_ := Aside0.mk (blk_below (g := gb419) (o := .cells #[.int .u64 a0_0, .int .u64 a0_1, .int .u64 a0_2, .string a0_3, .string a0_4] 26 (0, 0)) (by (with_reducible repeat (first | refine blk_drewN ?_ _ | refine blk_drew ?_ | refine blk_alloc ?_ _)); exact BK419.out) hb); have n2_ := Aside0.mk (blk_below (g := gb420) (o := .cells #[.int .u64 a1_0, .int .u64 a1_1, .int .u64 a1_2, .string a1_3, .string a1_4] 26 (0, 0)) (by (with_reducible repeat (first | refine blk_drewN ?_ _ | refine blk_drew ?_ | refine blk_alloc ?_ _)); exact BK420.out) hb); have n3_ := Aside0.mk (below_step (by repeat (first | (with_reducible first | exact HB.out | apply below_alloc | apply pw_below_drewN | apply below_drew1 | refine below_set ?_ GE419.out | refine below_set ?_ GE420.out) | exact HB.out)) hb); clear HO425; clear BK419; clear BK420; clear HB; have HO425 := n0_; have BK419 := n1_; have BK420 := n2_; have HB := n3_; clear n0_ n1_ n2_ n3_; (try clear hb); (try clear hb2); (try clear hk); (try clear hi)))
     go_ret
     exact ⟨by first | rfl | (simp [errW_none, errW_some] <;> rfl) | (simp [*, errW_none, errW_some] <;> rfl) | (simp [bneNil]; done), by repeat (first | (with_reducible first | exact HB.out | apply below_alloc | apply pw_below_drewN | apply below_drew1 | refine below_set ?_ GE419.out | refine below_set ?_ GE420.out) | exact HB.out)⟩

end Go.Proofs.YtllkoadcpobdaaaDoor.PX
