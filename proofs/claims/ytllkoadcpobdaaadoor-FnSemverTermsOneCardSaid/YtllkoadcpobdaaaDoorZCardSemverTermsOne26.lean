/- The row and the tied card of FnSemverTermsOne, out of its printed walk and its plain law. For every input that the statement lets in. -/
import Derived.Test.YtllkoadcpobdaaaDoorZCardSemverTermsOne6
import Derived.Test.YtllkoadcpobdaaaDoorZCardSemverTermsOne9
import Derived.Test.YtllkoadcpobdaaaDoorZCardSemverTermsOne22
import Derived.Test.YtllkoadcpobdaaaDoorZCardSemverTermsOne23
namespace Go.Proofs.YtllkoadcpobdaaaDoor.PX

open Go.RowKit Go.Proofs.YtllkoadcpobdaaaDoorW.PrintWords Go.Proofs.YtllkoadcpobdaaaDoorW.PrintLast Go.Proofs.YtllkoadcpobdaaaDoorW.PrintMore

attribute [local go_sem] max2_int min2_int max_two min_two max_three min_three max_four min_four   -- for this text's walks alone

set_option linter.unusedVariables false

set_option linter.unusedSimpArgs false

mutual
def laws_FnSemverTermsOne.j0 : Nat → Bool → Bool → Int → Int → Int → Int → Int → ByteArray → Int → Int → Int → ByteArray → ByteArray → Option (Bool)
  | 0, _, _, _, _, _, _, _, _, _, _, _, _, _ => none
  | k + 1, x2, x15, x449000, x449001, x449002, x449003, x449004, x449005, x450000, x450001, x450002, x450003, x450004 => if x15 = true then (some true) else ((spec_GoodTerm.f k x449000 x449001 x449002 x449003 x449004 x449005).bind fun t452 => (if t452 = true then ((laws_svGood.f k (([(⟨x450000, x450001, x450002, x450003, x450004⟩ : S26)] : List (S26)))).bind fun t456 => (laws_FnSemverTermsOne.j1 k x2 (!t456) x449000 x449001 x449002 x449003 x449004 x449005 x450000 x450001 x450002 x450003 x450004)) else (laws_FnSemverTermsOne.j1 k x2 true x449000 x449001 x449002 x449003 x449004 x449005 x450000 x450001 x450002 x450003 x450004)))
def laws_FnSemverTermsOne.j1 : Nat → Bool → Bool → Int → Int → Int → Int → Int → ByteArray → Int → Int → Int → ByteArray → ByteArray → Option (Bool)
  | 0, _, _, _, _, _, _, _, _, _, _, _, _, _ => none
  | k + 1, x2, x24, x449000, x449001, x449002, x449003, x449004, x449005, x450000, x450001, x450002, x450003, x450004 => if x24 = true then (some true) else ((laws_stTerm.f 0 x450000 x450001 x450002 x450003 x450004 3).bind fun bt457 => ((impl_TermsHold.f (([(([(⟨x449000, x449001, x449002, x449003, x449004, x449005⟩ : S24)] : List (S24)))] : List (List (S24)))) x450000 x450001 x450002 x450003 x450004 x2).bind fun t470 => (if x2 = true then ((impl_TermHolds.f x449000 x449001 x449002 x449003 x449004 x449005 x450000 x450001 x450002 x450003 x450004 true).bind fun t471 => (if (t470 == t471) = true then ((impl_TermsHold.f (([(([(⟨bt457.1, bt457.2.1, bt457.2.2.1, bt457.2.2.2.1, bt457.2.2.2.2.1, bt457.2.2.2.2.2⟩ : S24)] : List (S24)))] : List (List (S24)))) x450000 x450001 x450002 x450003 x450004 x2).bind fun t478 => (some t478)) else (some false))) else ((impl_TermHolds.f x449000 x449001 x449002 x449003 x449004 x449005 x450000 x450001 x450002 x450003 x450004 (x449005.toList != ([] : List UInt8))).bind fun t479 => (if (t470 == t479) = true then ((impl_TermsHold.f (([(([(⟨bt457.1, bt457.2.1, bt457.2.2.1, bt457.2.2.2.1, bt457.2.2.2.2.1, bt457.2.2.2.2.2⟩ : S24)] : List (S24)))] : List (List (S24)))) x450000 x450001 x450002 x450003 x450004 x2).bind fun t486 => (some t486)) else (some false))))))
end

def laws_FnSemverTermsOne.f (k : Nat) (a0_0 : Int) (a0_1 : Int) (a0_2 : Int) (a0_3 : Int) (a0_4 : Int) (a0_5 : ByteArray) (a1_0 : Int) (a1_1 : Int) (a1_2 : Int) (a1_3 : ByteArray) (a1_4 : ByteArray) (a2 : Bool) : Option (Bool) := (laws_zzFits13.f a0_0 a0_1 a0_2 a0_3 a0_4 a0_5).bind fun t450 => (if t450 = true then ((laws_zzFits14.f a1_0 a1_1 a1_2 a1_3 a1_4).bind fun t451 => (laws_FnSemverTermsOne.j0 k a2 (!t451) a0_0 a0_1 a0_2 a0_3 a0_4 a0_5 a1_0 a1_1 a1_2 a1_3 a1_4)) else (laws_FnSemverTermsOne.j0 k a2 true a0_0 a0_1 a0_2 a0_3 a0_4 a0_5 a1_0 a1_1 a1_2 a1_3 a1_4))

def laws_FnSemverTermsOne.T6 : Bool × List (List Nat × List Nat) := (true, [([], []), ([0], [0]), ([1], [1]), ([], []), ([], []), ([2, 3, 4], [2, 3, 4]), ([], []), ([], []), ([], []), ([8, 5], [8]), ([9], [9]), ([10, 9], [9, 10]), ([11, 9], [9, 11]), ([9, 12], [9, 12]), ([6, 7, 13, 9], [6, 7, 13]), ([5, 14], [5, 14]), ([15, 14], [15]), ([16], [16]), ([17, 16], [16, 17]), ([18, 16], [16, 18]), ([16], [16]), ([16], [16]), ([19, 20, 21, 16, 16], [16, 19, 20, 21]), ([16, 22], [16, 22]), ([23, 22, 0, 1, 2, 3, 4, 5, 6, 7, 8, 9, 10, 11, 12, 13, 14, 15, 16, 17, 18, 19, 20, 21, 22, 23], [23])])

def laws_FnSemverTermsOne.B6 : List Nat := [0, 1, 3, 0, 0, 31, 0, 0, 0, 319, 831, 1855, 3903, 7999, 16383, 32767, 65535, 131071, 262143, 524287, 131071, 131071, 4194303, 8388607, 16777215]

theorem laws_FnSemverTermsOne.tab6 : rtab .any (opsOf Tryd.f10 6) = laws_FnSemverTermsOne.T6 := by kernel_rfl

theorem laws_FnSemverTermsOne.bits6 : waitsOk laws_FnSemverTermsOne.T6.2 laws_FnSemverTermsOne.B6 = true := by kernel_rfl

set_option maxHeartbeats 80000000 in
set_option maxRecDepth 100000 in
theorem laws_FnSemverTermsOne.calls (k : Nat) (a0_0 : Int) (a0_1 : Int) (a0_2 : Int) (a0_3 : Int) (a0_4 : Int) (a0_5 : ByteArray) (a1_0 : Int) (a1_1 : Int) (a1_2 : Int) (a1_3 : ByteArray) (a1_4 : ByteArray) (a2 : Bool) (r : Bool) (w : World) (hStd : Std w) (h : laws_FnSemverTermsOne.f k a0_0 a0_1 a0_2 a0_3 a0_4 a0_5 a1_0 a1_1 a1_2 a1_3 a1_4 a2 = some r) :
  Calls Tryd.prog 10 #[.agg #[.int .i64 a0_0, .int .i64 a0_1, .int .u64 a0_2, .int .u64 a0_3, .int .u64 a0_4, .string a0_5], .agg #[.int .u64 a1_0, .int .u64 a1_1, .int .u64 a1_2, .string a1_3, .string a1_4], .bool a2] w fun e w' => e = .returned (.bool r) ∧ Below w.heap.size w w' := by
 have hu24 := Tryd.underlying24
 have hu26 := Tryd.underlying26
 have HStd := Aside0.mk hStd
 clear hStd
 have HB := Aside0.mk (Below.refl w.heap.size w)
 have H : ((laws_zzFits13.f a0_0 a0_1 a0_2 a0_3 a0_4 a0_5).bind fun t450 => (if t450 = true then ((laws_zzFits14.f a1_0 a1_1 a1_2 a1_3 a1_4).bind fun t451 => (laws_FnSemverTermsOne.j0 k a2 (!t451) a0_0 a0_1 a0_2 a0_3 a0_4 a0_5 a1_0 a1_1 a1_2 a1_3 a1_4)) else (laws_FnSemverTermsOne.j0 k a2 true a0_0 a0_1 a0_2 a0_3 a0_4 a0_5 a1_0 a1_1 a1_2 a1_3 a1_4))) = some r := h
 clear h
 have HC4 := Aside0.mk H
 clear H
 go_enter Tryd.func10, Tryd.ntmps10
 go_upto_region 1 with (first | ((with_reducible refine gate_dst (N := 3) rfl ?_); (try (refine gate_guard (by rfl) ?_; dsimp only)); refine box_event ?hg (N := 3) ?hd (cs := #[.int .i64 a0_0, .int .i64 a0_1, .int .u64 a0_2, .int .u64 a0_3, .int .u64 a0_4, .string a0_5]) (t := 24) ?hr ?_; (case hd => rfl); (case hg => rfl); (case hr => first | (go_simp; done) | (go_simp; rfl) | (go_simp; simp [u8w]; done)); intro gb448 hg w5 hbox hb; have n0_ := Aside0.mk (below_step (by repeat (first | (with_reducible first | exact HB.out | apply below_alloc | apply pw_below_drewN | apply below_drew1) | exact HB.out)) hb); have n1_ := Aside0.mk (hbox); have n2_ := Aside0.mk ((by rw [hg]; exact (below_size (by repeat (first | (with_reducible first | exact HB.out | apply below_alloc | apply pw_below_drewN | apply below_drew1) | exact HB.out))) : w.heap.size ≤ gb448)); have n3_ := Aside0.mk ((by rw [hg]; exact (below_size (by repeat (first | (with_reducible first | exact HB.out | apply below_alloc | apply pw_below_drewN | apply below_drew1) | exact HB.out))) : w.heap.size ≤ gb448)); clear HB; have HB := n0_; have BK448 := n1_; have GW448 := n2_; have GE448 := n3_; clear n0_ n1_ n2_ n3_; clear hb hbox hg) | ((with_reducible refine gate_dst (N := 4) rfl ?_); (try (refine gate_guard (by rfl) ?_; dsimp only)); refine box_event ?hg (N := 4) ?hd (cs := #[.int .u64 a1_0, .int .u64 a1_1, .int .u64 a1_2, .string a1_3, .string a1_4]) (t := 26) ?hr ?_; (case hd => rfl); (case hg => rfl); (case hr => first | (go_simp; done) | (go_simp; rfl) | (go_simp; simp [u8w]; done)); intro gb449 hg w6 hbox hb; have n0_ := Aside0.mk (blk_below (g := gb448) (o := .cells #[.int .i64 a0_0, .int .i64 a0_1, .int .u64 a0_2, .int .u64 a0_3, .int .u64 a0_4, .string a0_5] 24 (0, 0)) (by (with_reducible repeat (first | refine blk_drewN ?_ _ | refine blk_drew ?_ | refine blk_alloc ?_ _)); exact BK448.out) hb); have n1_ := Aside0.mk (below_step (by repeat (first | (with_reducible first | exact HB.out | apply below_alloc | apply pw_below_drewN | apply below_drew1 | refine below_set ?_ GE448.out) | exact HB.out)) hb); have n2_ := Aside0.mk (hbox); have n3_ := Aside0.mk ((by rw [hg]; exact (below_size (by repeat (first | (with_reducible first | exact HB.out | apply below_alloc | apply pw_below_drewN | apply below_drew1 | refine below_set ?_ GE448.out) | exact HB.out))) : w.heap.size ≤ gb449)); have n4_ := Aside0.mk ((by rw [hg]; exact (below_size (by repeat (first | (with_reducible first | exact HB.out | apply below_alloc | apply pw_below_drewN | apply below_drew1 | refine below_set ?_ GE448.out) | exact HB.out))) : w.heap.size ≤ gb449)); have n5_ := Aside0.mk ((by rw [hg]; exact Nat.ne_of_lt (blk_lt (g := gb448) (o := .cells #[.int .i64 a0_0, .int .i64 a0_1, .int .u64 a0_2, .int .u64 a0_3, .int .u64 a0_4, .string a0_5] 24 (0, 0)) (by (with_reducible repeat (first | refine blk_drewN ?_ _ | refine blk_drew ?_ | refine blk_alloc ?_ _)); exact BK448.out)) : gb448 ≠ gb449)); have n6_ := Aside0.mk ((by rw [hg]; exact Nat.ne_of_gt (blk_lt (g := gb448) (o := .cells #[.int .i64 a0_0, .int .i64 a0_1, .int .u64 a0_2, .int .u64 a0_3, .int .u64 a0_4, .string a0_5] 24 (0, 0)) (by (with_reducible repeat (first | refine blk_drewN ?_ _ | refine blk_drew ?_ | refine blk_alloc ?_ _)); exact BK448.out)) : gb449 ≠ gb448)); clear BK448; clear HB; have BK448 := n0_; have HB := n1_; have BK449 := n2_; have GW449 := n3_; have GE449 := n4_; have NB448_449 := n5_; have NB449_448 := n6_; clear n0_ n1_ n2_ n3_ n4_ n5_ n6_; clear hb hbox hg))
 (try simp only [Act.put, List.setIfInBounds_toArray, List.set_cons_zero, List.set_cons_succ])
 go_cut [15] (fun v15 wc => ∃ (kq : Nat) (x15_3 : Bool), v15 = .bool x15_3 ∧ Aside0 (laws_FnSemverTermsOne.j0 kq a2 x15_3 a0_0 a0_1 a0_2 a0_3 a0_4 a0_5 a1_0 a1_1 a1_2 a1_3 a1_4 = some r) ∧ Aside0 (kq ≤ k) ∧ Aside0 (wc.heap[gb448]? = some (.cells #[.int .i64 a0_0, .int .i64 a0_1, .int .u64 a0_2, .int .u64 a0_3, .int .u64 a0_4, .string a0_5] 24 (0, 0))) ∧ Aside0 (wc.heap[gb449]? = some (.cells #[.int .u64 a1_0, .int .u64 a1_1, .int .u64 a1_2, .string a1_3, .string a1_4] 26 (0, 0))) ∧ Aside0 (Below w.heap.size w wc))
 case first =>
  have H := HC4.out
  clear HC4
  replace H := Option.bind_eq_some_iff.mp H
  obtain ⟨t450, A70, H⟩ := H
  replace H : (if t450 = true then ((laws_zzFits14.f a1_0 a1_1 a1_2 a1_3 a1_4).bind fun t451 => (laws_FnSemverTermsOne.j0 k a2 (!t451) a0_0 a0_1 a0_2 a0_3 a0_4 a0_5 a1_0 a1_1 a1_2 a1_3 a1_4)) else (laws_FnSemverTermsOne.j0 k a2 true a0_0 a0_1 a0_2 a0_3 a0_4 a0_5 a1_0 a1_1 a1_2 a1_3 a1_4)) = some r := H
  have A7 := Aside0.mk A70
  clear A70
  by_cases c8 : t450 = true
  ·
   subst c8
   have H1 : ((laws_zzFits14.f a1_0 a1_1 a1_2 a1_3 a1_4).bind fun t451 => (laws_FnSemverTermsOne.j0 k a2 (!t451) a0_0 a0_1 a0_2 a0_3 a0_4 a0_5 a1_0 a1_1 a1_2 a1_3 a1_4)) = some r := by rw [if_pos rfl] at H; exact H
   clear H
   have H := H1
   clear H1
   replace H := Option.bind_eq_some_iff.mp H
   obtain ⟨t451, A90, H⟩ := H
   replace H : (laws_FnSemverTermsOne.j0 k a2 (!t451) a0_0 a0_1 a0_2 a0_3 a0_4 a0_5 a1_0 a1_1 a1_2 a1_3 a1_4) = some r := H
   have A9 := Aside0.mk A90
   clear A90
   have H' := Aside0.mk H
   clear H
   have hnb10 := NB448_449.out
   have hnc10 := NB449_448.out
   have hcz11_0 : w6.cell? ⟨gb448, 0, none⟩ = some (.int .i64 a0_0) := (blk_cell BK448.out 0).trans rfl
   have hcz11_1 : w6.cell? ⟨gb448, 1, none⟩ = some (.int .i64 a0_1) := (blk_cell BK448.out 1).trans rfl
   have hcz11_2 : w6.cell? ⟨gb448, 2, none⟩ = some (.int .u64 a0_2) := (blk_cell BK448.out 2).trans rfl
   have hcz11_3 : w6.cell? ⟨gb448, 3, none⟩ = some (.int .u64 a0_3) := (blk_cell BK448.out 3).trans rfl
   have hcz11_4 : w6.cell? ⟨gb448, 4, none⟩ = some (.int .u64 a0_4) := (blk_cell BK448.out 4).trans rfl
   have hcz11_5 : w6.cell? ⟨gb448, 5, none⟩ = some (.string a0_5) := (blk_cell BK448.out 5).trans rfl
   have hfz11_0 := blk_frozen BK448.out 0
   have hfz11_1 := blk_frozen BK448.out 1
   have hfz11_2 := blk_frozen BK448.out 2
   have hfz11_3 := blk_frozen BK448.out 3
   have hfz11_4 := blk_frozen BK448.out 4
   have hfz11_5 := blk_frozen BK448.out 5
   go_wp2_with (first | ((with_reducible refine gate_callee (f := 13) rfl ?_); refine goesL_ (some 9) rfl rfl Tryd.func13 (by kernel_rfl) rfl #[.agg #[.int .i64 a0_0, .int .i64 a0_1, .int .u64 a0_2, .int .u64 a0_3, .int .u64 a0_4, .string a0_5]] rfl (by (try simp only [List.map_toArray, List.map_cons, List.map_nil]); first | done | rfl | (simp only [List.length_drop, List.length_take]; rfl)) ?_; (with_reducible refine (laws_zzFits13.calls a0_0 a0_1 a0_2 a0_3 a0_4 a0_5 true _ A7.out).mono ?_); rintro e w12 ⟨rfl, hb⟩; refine ⟨_, rfl, ?_⟩; have n0_ := Aside0.mk (blk_below (g := gb448) (o := .cells #[.int .i64 a0_0, .int .i64 a0_1, .int .u64 a0_2, .int .u64 a0_3, .int .u64 a0_4, .string a0_5] 24 (0, 0)) (by (with_reducible repeat (first | refine blk_drewN ?_ _ | refine blk_drew ?_ | refine blk_alloc ?_ _)); exact BK448.out) hb); have n1_ := Aside0.mk (blk_below (g := gb449) (o := .cells #[.int .u64 a1_0, .int .u64 a1_1, .int .u64 a1_2, .string a1_3, .string a1_4] 26 (0, 0)) (by (with_reducible repeat (first | refine blk_drewN ?_ _ | refine blk_drew ?_ | refine blk_alloc ?_ _)); exact BK449.out) hb); have n2_ := Aside0.mk (below_step (by repeat (first | (with_reducible first | exact HB.out | apply below_alloc | apply pw_below_drewN | apply below_drew1 | refine below_set ?_ GE448.out | refine below_set ?_ GE449.out) | exact HB.out)) hb); clear BK448; clear BK449; clear HB; have BK448 := n0_; have BK449 := n1_; have HB := n2_; clear n0_ n1_ n2_; (try clear hb); (try clear hb2); (try clear hk); (try clear hi); have hcz13_0 : w12.cell? ⟨gb449, 0, none⟩ = some (.int .u64 a1_0) := (blk_cell BK449.out 0).trans rfl; have hcz13_1 : w12.cell? ⟨gb449, 1, none⟩ = some (.int .u64 a1_1) := (blk_cell BK449.out 1).trans rfl; have hcz13_2 : w12.cell? ⟨gb449, 2, none⟩ = some (.int .u64 a1_2) := (blk_cell BK449.out 2).trans rfl; have hcz13_3 : w12.cell? ⟨gb449, 3, none⟩ = some (.string a1_3) := (blk_cell BK449.out 3).trans rfl; have hcz13_4 : w12.cell? ⟨gb449, 4, none⟩ = some (.string a1_4) := (blk_cell BK449.out 4).trans rfl; have hfz13_0 := blk_frozen BK449.out 0; have hfz13_1 := blk_frozen BK449.out 1; have hfz13_2 := blk_frozen BK449.out 2; have hfz13_3 := blk_frozen BK449.out 3; have hfz13_4 := blk_frozen BK449.out 4) | (go_at_call 14; (with_reducible refine (laws_zzFits14.calls a1_0 a1_1 a1_2 a1_3 a1_4 t451 _ A9.out).mono ?_); rintro e w14 ⟨rfl, hb⟩; have n0_ := Aside0.mk (blk_below (g := gb448) (o := .cells #[.int .i64 a0_0, .int .i64 a0_1, .int .u64 a0_2, .int .u64 a0_3, .int .u64 a0_4, .string a0_5] 24 (0, 0)) (by (with_reducible repeat (first | refine blk_drewN ?_ _ | refine blk_drew ?_ | refine blk_alloc ?_ _)); exact BK448.out) hb); have n1_ := Aside0.mk (blk_below (g := gb449) (o := .cells #[.int .u64 a1_0, .int .u64 a1_1, .int .u64 a1_2, .string a1_3, .string a1_4] 26 (0, 0)) (by (with_reducible repeat (first | refine blk_drewN ?_ _ | refine blk_drew ?_ | refine blk_alloc ?_ _)); exact BK449.out) hb); have n2_ := Aside0.mk (below_step (by repeat (first | (with_reducible first | exact HB.out | apply below_alloc | apply pw_below_drewN | apply below_drew1 | refine below_set ?_ GE448.out | refine below_set ?_ GE449.out) | exact HB.out)) hb); clear BK448; clear BK449; clear HB; have BK448 := n0_; have BK449 := n1_; have HB := n2_; clear n0_ n1_ n2_; (try clear hb); (try clear hb2); (try clear hk); (try clear hi)))
   go_meet
   case rel => exact ⟨_, (!t451), (by first | rfl | (simp; done) | (simp [*]; done)), H', ⟨by first | omega | exact Nat.le_refl _⟩, ⟨by (with_reducible repeat (first | refine blk_drewN ?_ _ | refine blk_drew ?_ | refine blk_alloc ?_ _)); exact BK448.out⟩, ⟨by (with_reducible repeat (first | refine blk_drewN ?_ _ | refine blk_drew ?_ | refine blk_alloc ?_ _)); exact BK449.out⟩, ⟨by repeat (first | (with_reducible first | exact HB.out | apply below_alloc | apply pw_below_drewN | apply below_drew1 | refine below_set ?_ GE448.out | refine below_set ?_ GE449.out) | exact HB.out)⟩⟩
  ·
   replace c8 := Bool.eq_false_iff.mpr c8
   subst c8
   have H1 : (laws_FnSemverTermsOne.j0 k a2 true a0_0 a0_1 a0_2 a0_3 a0_4 a0_5 a1_0 a1_1 a1_2 a1_3 a1_4) = some r := by rw [if_neg (show ¬ (false = true) by decide)] at H; exact H
   clear H
   have H := H1
   clear H1
   have H' := Aside0.mk H
   clear H
   have hnb15 := NB448_449.out
   have hnc15 := NB449_448.out
   have hcz16_0 : w6.cell? ⟨gb448, 0, none⟩ = some (.int .i64 a0_0) := (blk_cell BK448.out 0).trans rfl
   have hcz16_1 : w6.cell? ⟨gb448, 1, none⟩ = some (.int .i64 a0_1) := (blk_cell BK448.out 1).trans rfl
   have hcz16_2 : w6.cell? ⟨gb448, 2, none⟩ = some (.int .u64 a0_2) := (blk_cell BK448.out 2).trans rfl
   have hcz16_3 : w6.cell? ⟨gb448, 3, none⟩ = some (.int .u64 a0_3) := (blk_cell BK448.out 3).trans rfl
   have hcz16_4 : w6.cell? ⟨gb448, 4, none⟩ = some (.int .u64 a0_4) := (blk_cell BK448.out 4).trans rfl
   have hcz16_5 : w6.cell? ⟨gb448, 5, none⟩ = some (.string a0_5) := (blk_cell BK448.out 5).trans rfl
   have hfz16_0 := blk_frozen BK448.out 0
   have hfz16_1 := blk_frozen BK448.out 1
   have hfz16_2 := blk_frozen BK448.out 2
   have hfz16_3 := blk_frozen BK448.out 3
   have hfz16_4 := blk_frozen BK448.out 4
   have hfz16_5 := blk_frozen BK448.out 5
   go_wp2_with (first | ((with_reducible refine gate_callee (f := 13) rfl ?_); refine goesL_ (some 9) rfl rfl Tryd.func13 (by kernel_rfl) rfl #[.agg #[.int .i64 a0_0, .int .i64 a0_1, .int .u64 a0_2, .int .u64 a0_3, .int .u64 a0_4, .string a0_5]] rfl (by (try simp only [List.map_toArray, List.map_cons, List.map_nil]); first | done | rfl | (simp only [List.length_drop, List.length_take]; rfl)) ?_; (with_reducible refine (laws_zzFits13.calls a0_0 a0_1 a0_2 a0_3 a0_4 a0_5 false _ A7.out).mono ?_); rintro e w17 ⟨rfl, hb⟩; refine ⟨_, rfl, ?_⟩; have n0_ := Aside0.mk (blk_below (g := gb448) (o := .cells #[.int .i64 a0_0, .int .i64 a0_1, .int .u64 a0_2, .int .u64 a0_3, .int .u64 a0_4, .string a0_5] 24 (0, 0)) (by (with_reducible repeat (first | refine blk_drewN ?_ _ | refine blk_drew ?_ | refine blk_alloc ?_ _)); exact BK448.out) hb); have n1_ := Aside0.mk (blk_below (g := gb449) (o := .cells #[.int .u64 a1_0, .int .u64 a1_1, .int .u64 a1_2, .string a1_3, .string a1_4] 26 (0, 0)) (by (with_reducible repeat (first | refine blk_drewN ?_ _ | refine blk_drew ?_ | refine blk_alloc ?_ _)); exact BK449.out) hb); have n2_ := Aside0.mk (below_step (by repeat (first | (with_reducible first | exact HB.out | apply below_alloc | apply pw_below_drewN | apply below_drew1 | refine below_set ?_ GE448.out | refine below_set ?_ GE449.out) | exact HB.out)) hb); clear BK448; clear BK449; clear HB; have BK448 := n0_; have BK449 := n1_; have HB := n2_; clear n0_ n1_ n2_; (try clear hb); (try clear hb2); (try clear hk); (try clear hi)))
   go_meet
   case rel => exact ⟨_, (true), (by first | rfl | (simp; done) | (simp [*]; done)), H', ⟨by first | omega | exact Nat.le_refl _⟩, ⟨by (with_reducible repeat (first | refine blk_drewN ?_ _ | refine blk_drew ?_ | refine blk_alloc ?_ _)); exact BK448.out⟩, ⟨by (with_reducible repeat (first | refine blk_drewN ?_ _ | refine blk_drew ?_ | refine blk_alloc ?_ _)); exact BK449.out⟩, ⟨by repeat (first | (with_reducible first | exact HB.out | apply below_alloc | apply pw_below_drewN | apply below_drew1 | refine below_set ?_ GE448.out | refine below_set ?_ GE449.out) | exact HB.out)⟩⟩
 case rest =>
  clear HC4
  try clear c1
  try clear p2
  try clear c8
  try clear c10
  try clear c13
  try clear c15
  try clear hcz11_0
  try clear hcz11_1
  try clear hcz11_2
  try clear hcz11_3
  try clear hcz11_4
  try clear hcz11_5
  try clear hcz13_0
  try clear hcz13_1
  try clear hcz13_2
  try clear hcz13_3
  try clear hcz13_4
  try clear hcz16_0
  try clear hcz16_1
  try clear hcz16_2
  try clear hcz16_3
  try clear hcz16_4
  try clear hcz16_5
  try clear hfz11_0
  try clear hfz11_1
  try clear hfz11_2
  try clear hfz11_3
  try clear hfz11_4
  try clear hfz11_5
  try clear hfz13_0
  try clear hfz13_1
  try clear hfz13_2
  try clear hfz13_3
  try clear hfz13_4
  try clear hfz16_0
  try clear hfz16_1
  try clear hfz16_2
  try clear hfz16_3
  try clear hfz16_4
  try clear hfz16_5
  obtain ⟨kq, x15_3, rfl, HA, HJ3, BK448, BK449, HB⟩ := hcut
  cases kq with
  | zero => exact absurd HA.out (by simp [laws_FnSemverTermsOne.j0])
  | succ kj3 =>
   have H := HA.out
   clear HA
   simp only [laws_FnSemverTermsOne.j0] at H
   by_cases c18 : x15_3 = true
   ·
    subst c18
    have H1 : (some true) = some r := by rw [if_pos rfl] at H; exact H
    clear H
    have H := H1
    clear H1
    obtain rfl := Option.some.inj H
    go_wp2
    go_ret
    exact ⟨by first | rfl | (simp [errW_none, errW_some] <;> rfl) | (simp [*, errW_none, errW_some] <;> rfl) | (simp [bneNil]; done), by repeat (first | (with_reducible first | exact HB.out | apply below_alloc | apply pw_below_drewN | apply below_drew1 | refine below_set ?_ GE448.out | refine below_set ?_ GE449.out) | exact HB.out)⟩
   ·
    replace c18 := Bool.eq_false_iff.mpr c18
    subst c18
    have H1 : ((spec_GoodTerm.f kj3 a0_0 a0_1 a0_2 a0_3 a0_4 a0_5).bind fun t452 => (if t452 = true then ((laws_svGood.f kj3 (([(⟨a1_0, a1_1, a1_2, a1_3, a1_4⟩ : S26)] : List (S26)))).bind fun t456 => (laws_FnSemverTermsOne.j1 kj3 a2 (!t456) a0_0 a0_1 a0_2 a0_3 a0_4 a0_5 a1_0 a1_1 a1_2 a1_3 a1_4)) else (laws_FnSemverTermsOne.j1 kj3 a2 true a0_0 a0_1 a0_2 a0_3 a0_4 a0_5 a1_0 a1_1 a1_2 a1_3 a1_4))) = some r := by rw [if_neg (show ¬ (false = true) by decide)] at H; exact H
    clear H
    have H := H1
    clear H1
    have HC19 := Aside0.mk H
    clear H
    go_upto_region 3 with (fail)
    go_cut [24] (fun v24 wc => ∃ (kq : Nat) (x24_18 : Bool), v24 = .bool x24_18 ∧ Aside0 (laws_FnSemverTermsOne.j1 kq a2 x24_18 a0_0 a0_1 a0_2 a0_3 a0_4 a0_5 a1_0 a1_1 a1_2 a1_3 a1_4 = some r) ∧ Aside0 (kq ≤ kj3) ∧ Aside0 (wc.heap[gb448]? = some (.cells #[.int .i64 a0_0, .int .i64 a0_1, .int .u64 a0_2, .int .u64 a0_3, .int .u64 a0_4, .string a0_5] 24 (0, 0))) ∧ Aside0 (wc.heap[gb449]? = some (.cells #[.int .u64 a1_0, .int .u64 a1_1, .int .u64 a1_2, .string a1_3, .string a1_4] 26 (0, 0))) ∧ Aside0 (Below w.heap.size w wc))
    case first =>
     have H := HC19.out
     clear HC19
     replace H := Option.bind_eq_some_iff.mp H
     obtain ⟨t452, A200, H⟩ := H
     replace H : (if t452 = true then ((laws_svGood.f kj3 (([(⟨a1_0, a1_1, a1_2, a1_3, a1_4⟩ : S26)] : List (S26)))).bind fun t456 => (laws_FnSemverTermsOne.j1 kj3 a2 (!t456) a0_0 a0_1 a0_2 a0_3 a0_4 a0_5 a1_0 a1_1 a1_2 a1_3 a1_4)) else (laws_FnSemverTermsOne.j1 kj3 a2 true a0_0 a0_1 a0_2 a0_3 a0_4 a0_5 a1_0 a1_1 a1_2 a1_3 a1_4)) = some r := H
     have A20 := Aside0.mk A200
     clear A200
     by_cases c21 : t452 = true
     ·
      subst c21
      have H1 : ((laws_svGood.f kj3 (([(⟨a1_0, a1_1, a1_2, a1_3, a1_4⟩ : S26)] : List (S26)))).bind fun t456 => (laws_FnSemverTermsOne.j1 kj3 a2 (!t456) a0_0 a0_1 a0_2 a0_3 a0_4 a0_5 a1_0 a1_1 a1_2 a1_3 a1_4)) = some r := by rw [if_pos rfl] at H; exact H
      clear H
      have H := H1
      clear H1
      obtain ⟨y453, hy453⟩ : ∃ y_ : List (S26), y_ = (([(⟨a1_0, a1_1, a1_2, a1_3, a1_4⟩ : S26)] : List (S26))) := ⟨_, rfl⟩
      replace H : ((laws_svGood.f kj3 y453).bind fun t456 => (laws_FnSemverTermsOne.j1 kj3 a2 (!t456) a0_0 a0_1 a0_2 a0_3 a0_4 a0_5 a1_0 a1_1 a1_2 a1_3 a1_4)) = some r := by first | (rw [hy453]; with_reducible exact H) | (have H2_ := (Option.bind_some _ _).symm.trans H; rw [hy453]; with_reducible exact H2_) | (have H2_ := (Option.bind_some _ _).symm.trans H; with_reducible exact H2_) | with_reducible exact H | (rw [hy453]; exact H) | exact H
      have Ny453 := Aside0.mk hy453
      clear hy453
      replace H := Option.bind_eq_some_iff.mp H
      obtain ⟨t456, A220, H⟩ := H
      replace H : (laws_FnSemverTermsOne.j1 kj3 a2 (!t456) a0_0 a0_1 a0_2 a0_3 a0_4 a0_5 a1_0 a1_1 a1_2 a1_3 a1_4) = some r := H
      have A22 := Aside0.mk A220
      clear A220
      have H' := Aside0.mk H
      clear H
      have hnb23 := NB448_449.out
      have hnc23 := NB449_448.out
      have hcz24_0 : wc.cell? ⟨gb448, 0, none⟩ = some (.int .i64 a0_0) := (blk_cell BK448.out 0).trans rfl
      have hcz24_1 : wc.cell? ⟨gb448, 1, none⟩ = some (.int .i64 a0_1) := (blk_cell BK448.out 1).trans rfl
      have hcz24_2 : wc.cell? ⟨gb448, 2, none⟩ = some (.int .u64 a0_2) := (blk_cell BK448.out 2).trans rfl
      have hcz24_3 : wc.cell? ⟨gb448, 3, none⟩ = some (.int .u64 a0_3) := (blk_cell BK448.out 3).trans rfl
      have hcz24_4 : wc.cell? ⟨gb448, 4, none⟩ = some (.int .u64 a0_4) := (blk_cell BK448.out 4).trans rfl
      have hcz24_5 : wc.cell? ⟨gb448, 5, none⟩ = some (.string a0_5) := (blk_cell BK448.out 5).trans rfl
      have hfz24_0 := blk_frozen BK448.out 0
      have hfz24_1 := blk_frozen BK448.out 1
      have hfz24_2 := blk_frozen BK448.out 2
      have hfz24_3 := blk_frozen BK448.out 3
      have hfz24_4 := blk_frozen BK448.out 4
      have hfz24_5 := blk_frozen BK448.out 5
      go_wp2_with (first | ((with_reducible refine gate_callee (f := 15) rfl ?_); refine goesL_ (some 17) rfl rfl Tryd.func15 (by kernel_rfl) rfl #[.agg #[.int .i64 a0_0, .int .i64 a0_1, .int .u64 a0_2, .int .u64 a0_3, .int .u64 a0_4, .string a0_5]] rfl (by (try simp only [List.map_toArray, List.map_cons, List.map_nil]); first | done | rfl | (simp only [List.length_drop, List.length_take]; rfl)) ?_; (with_reducible refine (spec_GoodTerm.calls kj3 a0_0 a0_1 a0_2 a0_3 a0_4 a0_5 true _ A20.out).mono ?_); rintro e w25 ⟨rfl, hb⟩; refine ⟨_, rfl, ?_⟩; have n0_ := Aside0.mk (blk_below (g := gb448) (o := .cells #[.int .i64 a0_0, .int .i64 a0_1, .int .u64 a0_2, .int .u64 a0_3, .int .u64 a0_4, .string a0_5] 24 (0, 0)) (by (with_reducible repeat (first | refine blk_drewN ?_ _ | refine blk_drew ?_ | refine blk_alloc ?_ _)); exact BK448.out) hb); have n1_ := Aside0.mk (blk_below (g := gb449) (o := .cells #[.int .u64 a1_0, .int .u64 a1_1, .int .u64 a1_2, .string a1_3, .string a1_4] 26 (0, 0)) (by (with_reducible repeat (first | refine blk_drewN ?_ _ | refine blk_drew ?_ | refine blk_alloc ?_ _)); exact BK449.out) hb); have n2_ := Aside0.mk (below_step (by repeat (first | (with_reducible first | exact HB.out | apply below_alloc | apply pw_below_drewN | apply below_drew1 | refine below_set ?_ GE448.out | refine below_set ?_ GE449.out) | exact HB.out)) hb); clear BK448; clear BK449; clear HB; have BK448 := n0_; have BK449 := n1_; have HB := n2_; clear n0_ n1_ n2_; (try clear hb); (try clear hb2); (try clear hk); (try clear hi); have hcz26_0 : w25.cell? ⟨gb449, 0, none⟩ = some (.int .u64 a1_0) := (blk_cell BK449.out 0).trans rfl; have hcz26_1 : w25.cell? ⟨gb449, 1, none⟩ = some (.int .u64 a1_1) := (blk_cell BK449.out 1).trans rfl; have hcz26_2 : w25.cell? ⟨gb449, 2, none⟩ = some (.int .u64 a1_2) := (blk_cell BK449.out 2).trans rfl; have hcz26_3 : w25.cell? ⟨gb449, 3, none⟩ = some (.string a1_3) := (blk_cell BK449.out 3).trans rfl; have hcz26_4 : w25.cell? ⟨gb449, 4, none⟩ = some (.string a1_4) := (blk_cell BK449.out 4).trans rfl; have hfz26_0 := blk_frozen BK449.out 0; have hfz26_1 := blk_frozen BK449.out 1; have hfz26_2 := blk_frozen BK449.out 2; have hfz26_3 := blk_frozen BK449.out 3; have hfz26_4 := blk_frozen BK449.out 4) | ((with_reducible refine gate_dst (N := 21) rfl ?_); (try (refine gate_guard (by rfl) ?_; dsimp only)); refine Kd.R_lit k26 _ 26 ?hg (N := 21) ?hd (xs := ([(⟨a1_0, a1_1, a1_2, a1_3, a1_4⟩ : S26)] : List (S26))) (inner := [.int .u64 a1_0, .int .u64 a1_1, .int .u64 a1_2, .string a1_3, .string a1_4]) (ok := fun _ => True) (okp := fun _ => True) ?hr ?hp (fun _ hk => hk) trivial (Below.refl _ _) (Nat.le_refl _) (by simp) ?_; (case hd => rfl); (case hg => rfl); (case hr => first | (go_simp; done) | (go_simp; rfl) | (go_simp; simp [u8w]; done)); (case hp => exact (Reps.c5 (show Kd.M k26 _ _ _ (⟨a1_0, a1_1, a1_2, a1_3, a1_4⟩ : S26) [.int .u64 a1_0, .int .u64 a1_1, .int .u64 a1_2, .string a1_3, .string a1_4] from (k26_mkM _ _ _ (⟨a1_0, a1_1, a1_2, a1_3, a1_4⟩ : S26) )) (Reps.none _ _))); intro v454 w27 ho28 hb hg_ hnew_; clear hg_ hnew_; (first | rw [← Ny453.out] at ho28 | (simp only [Int.reduceToNat] at ho28; rw [← Ny453.out] at ho28)); have n0_ := Aside0.mk (Kd.R_lower (Kd.R_newB ho28 (g := gb449) (o := .cells #[.int .u64 a1_0, .int .u64 a1_1, .int .u64 a1_2, .string a1_3, .string a1_4] 26 (0, 0)) (by (with_reducible repeat (first | refine blk_drewN ?_ _ | refine blk_drew ?_ | refine blk_alloc ?_ _)); exact BK449.out)) (below_size (by repeat (first | (with_reducible first | exact HB.out | apply below_alloc | apply pw_below_drewN | apply below_drew1 | refine below_set ?_ GE448.out | refine below_set ?_ GE449.out) | exact HB.out)))); have n1_ := Aside0.mk (blk_below (g := gb448) (o := .cells #[.int .i64 a0_0, .int .i64 a0_1, .int .u64 a0_2, .int .u64 a0_3, .int .u64 a0_4, .string a0_5] 24 (0, 0)) (by (with_reducible repeat (first | refine blk_drewN ?_ _ | refine blk_drew ?_ | refine blk_alloc ?_ _)); exact BK448.out) hb); have n2_ := Aside0.mk (blk_below (g := gb449) (o := .cells #[.int .u64 a1_0, .int .u64 a1_1, .int .u64 a1_2, .string a1_3, .string a1_4] 26 (0, 0)) (by (with_reducible repeat (first | refine blk_drewN ?_ _ | refine blk_drew ?_ | refine blk_alloc ?_ _)); exact BK449.out) hb); have n3_ := Aside0.mk (below_step (by repeat (first | (with_reducible first | exact HB.out | apply below_alloc | apply pw_below_drewN | apply below_drew1 | refine below_set ?_ GE448.out | refine below_set ?_ GE449.out) | exact HB.out)) hb); clear BK448; clear BK449; clear HB; have HO455 := n0_; have BK448 := n1_; have BK449 := n2_; have HB := n3_; clear n0_ n1_ n2_ n3_; clear hb ho28; obtain ⟨Ao29, co29, eo29⟩ := Kd.R_slice HO455.out; subst eo29) | (go_at_call 16; (with_reducible refine (laws_svGood.calls kj3 _ _ y453 t456 _ ?side1 ?side2 A22.out).mono ?_); (case side1 => repeat (first | exact (Kd.R_reads' HO455.out).2.2 | (with_reducible refine Kd.C_alloc ?_ _) | (with_reducible refine Kd.C_drewN ?_ _) | (with_reducible refine Kd.C_drew ?_))); (case side2 => exact (Kd.R_reads' HO455.out).2.1); rintro e w30 ⟨rfl, hb⟩; have n0_ := Aside0.mk (Kd.R_below (by (with_reducible repeat (first | apply Kd.R_alloc | apply Kd.R_drewN | apply Kd.R_drew)); exact HO455.out) hb); have n1_ := Aside0.mk (blk_below (g := gb448) (o := .cells #[.int .i64 a0_0, .int .i64 a0_1, .int .u64 a0_2, .int .u64 a0_3, .int .u64 a0_4, .string a0_5] 24 (0, 0)) (by (with_reducible repeat (first | refine blk_drewN ?_ _ | refine blk_drew ?_ | refine blk_alloc ?_ _)); exact BK448.out) hb); have n2_ := Aside0.mk (blk_below (g := gb449) (o := .cells #[.int .u64 a1_0, .int .u64 a1_1, .int .u64 a1_2, .string a1_3, .string a1_4] 26 (0, 0)) (by (with_reducible repeat (first | refine blk_drewN ?_ _ | refine blk_drew ?_ | refine blk_alloc ?_ _)); exact BK449.out) hb); have n3_ := Aside0.mk (below_step (by repeat (first | (with_reducible first | exact HB.out | apply below_alloc | apply pw_below_drewN | apply below_drew1 | refine below_set ?_ GE448.out | refine below_set ?_ GE449.out) | exact HB.out)) hb); clear HO455; clear BK448; clear BK449; clear HB; have HO455 := n0_; have BK448 := n1_; have BK449 := n2_; have HB := n3_; clear n0_ n1_ n2_ n3_; (try clear hb); (try clear hb2); (try clear hk); (try clear hi)))
      go_meet
      case rel => exact ⟨_, (!t456), (by first | rfl | (simp; done) | (simp [*]; done)), H', ⟨by have := HJ3.out; first | omega | exact Nat.le_refl _⟩, ⟨by (with_reducible repeat (first | refine blk_drewN ?_ _ | refine blk_drew ?_ | refine blk_alloc ?_ _)); exact BK448.out⟩, ⟨by (with_reducible repeat (first | refine blk_drewN ?_ _ | refine blk_drew ?_ | refine blk_alloc ?_ _)); exact BK449.out⟩, ⟨by repeat (first | (with_reducible first | exact HB.out | apply below_alloc | apply pw_below_drewN | apply below_drew1 | refine below_set ?_ GE448.out | refine below_set ?_ GE449.out) | exact HB.out)⟩⟩
     ·
      replace c21 := Bool.eq_false_iff.mpr c21
      subst c21
      have H1 : (laws_FnSemverTermsOne.j1 kj3 a2 true a0_0 a0_1 a0_2 a0_3 a0_4 a0_5 a1_0 a1_1 a1_2 a1_3 a1_4) = some r := by rw [if_neg (show ¬ (false = true) by decide)] at H; exact H
      clear H
      have H := H1
      clear H1
      have H' := Aside0.mk H
      clear H
      have hnb31 := NB448_449.out
      have hnc31 := NB449_448.out
      have hcz32_0 : wc.cell? ⟨gb448, 0, none⟩ = some (.int .i64 a0_0) := (blk_cell BK448.out 0).trans rfl
      have hcz32_1 : wc.cell? ⟨gb448, 1, none⟩ = some (.int .i64 a0_1) := (blk_cell BK448.out 1).trans rfl
      have hcz32_2 : wc.cell? ⟨gb448, 2, none⟩ = some (.int .u64 a0_2) := (blk_cell BK448.out 2).trans rfl
      have hcz32_3 : wc.cell? ⟨gb448, 3, none⟩ = some (.int .u64 a0_3) := (blk_cell BK448.out 3).trans rfl
      have hcz32_4 : wc.cell? ⟨gb448, 4, none⟩ = some (.int .u64 a0_4) := (blk_cell BK448.out 4).trans rfl
      have hcz32_5 : wc.cell? ⟨gb448, 5, none⟩ = some (.string a0_5) := (blk_cell BK448.out 5).trans rfl
      have hfz32_0 := blk_frozen BK448.out 0
      have hfz32_1 := blk_frozen BK448.out 1
      have hfz32_2 := blk_frozen BK448.out 2
      have hfz32_3 := blk_frozen BK448.out 3
      have hfz32_4 := blk_frozen BK448.out 4
      have hfz32_5 := blk_frozen BK448.out 5
      go_wp2_with (first | ((with_reducible refine gate_callee (f := 15) rfl ?_); refine goesL_ (some 17) rfl rfl Tryd.func15 (by kernel_rfl) rfl #[.agg #[.int .i64 a0_0, .int .i64 a0_1, .int .u64 a0_2, .int .u64 a0_3, .int .u64 a0_4, .string a0_5]] rfl (by (try simp only [List.map_toArray, List.map_cons, List.map_nil]); first | done | rfl | (simp only [List.length_drop, List.length_take]; rfl)) ?_; (with_reducible refine (spec_GoodTerm.calls kj3 a0_0 a0_1 a0_2 a0_3 a0_4 a0_5 false _ A20.out).mono ?_); rintro e w33 ⟨rfl, hb⟩; refine ⟨_, rfl, ?_⟩; have n0_ := Aside0.mk (blk_below (g := gb448) (o := .cells #[.int .i64 a0_0, .int .i64 a0_1, .int .u64 a0_2, .int .u64 a0_3, .int .u64 a0_4, .string a0_5] 24 (0, 0)) (by (with_reducible repeat (first | refine blk_drewN ?_ _ | refine blk_drew ?_ | refine blk_alloc ?_ _)); exact BK448.out) hb); have n1_ := Aside0.mk (blk_below (g := gb449) (o := .cells #[.int .u64 a1_0, .int .u64 a1_1, .int .u64 a1_2, .string a1_3, .string a1_4] 26 (0, 0)) (by (with_reducible repeat (first | refine blk_drewN ?_ _ | refine blk_drew ?_ | refine blk_alloc ?_ _)); exact BK449.out) hb); have n2_ := Aside0.mk (below_step (by repeat (first | (with_reducible first | exact HB.out | apply below_alloc | apply pw_below_drewN | apply below_drew1 | refine below_set ?_ GE448.out | refine below_set ?_ GE449.out) | exact HB.out)) hb); clear BK448; clear BK449; clear HB; have BK448 := n0_; have BK449 := n1_; have HB := n2_; clear n0_ n1_ n2_; (try clear hb); (try clear hb2); (try clear hk); (try clear hi)))
      go_meet
      case rel => exact ⟨_, (true), (by first | rfl | (simp; done) | (simp [*]; done)), H', ⟨by have := HJ3.out; first | omega | exact Nat.le_refl _⟩, ⟨by (with_reducible repeat (first | refine blk_drewN ?_ _ | refine blk_drew ?_ | refine blk_alloc ?_ _)); exact BK448.out⟩, ⟨by (with_reducible repeat (first | refine blk_drewN ?_ _ | refine blk_drew ?_ | refine blk_alloc ?_ _)); exact BK449.out⟩, ⟨by repeat (first | (with_reducible first | exact HB.out | apply below_alloc | apply pw_below_drewN | apply below_drew1 | refine below_set ?_ GE448.out | refine below_set ?_ GE449.out) | exact HB.out)⟩⟩
    case rest =>
     clear HC19
     try clear c1
     try clear c2
     try clear p2
     try clear c3
     try clear c5
     try clear c8
     try clear c10
     try clear c13
     try clear c15
     try clear c18
     try clear c21
     try clear c23
     try clear c31
     try clear hcz11_0
     try clear hcz11_1
     try clear hcz11_2
     try clear hcz11_3
     try clear hcz11_4
     try clear hcz11_5
     try clear hcz13_0
     try clear hcz13_1
     try clear hcz13_2
     try clear hcz13_3
     try clear hcz13_4
     try clear hcz16_0
     try clear hcz16_1
     try clear hcz16_2
     try clear hcz16_3
     try clear hcz16_4
     try clear hcz16_5
     try clear hcz24_0
     try clear hcz24_1
     try clear hcz24_2
     try clear hcz24_3
     try clear hcz24_4
     try clear hcz24_5
     try clear hcz26_0
     try clear hcz26_1
     try clear hcz26_2
     try clear hcz26_3
     try clear hcz26_4
     try clear hcz32_0
     try clear hcz32_1
     try clear hcz32_2
     try clear hcz32_3
     try clear hcz32_4
     try clear hcz32_5
     try clear hfz11_0
     try clear hfz11_1
     try clear hfz11_2
     try clear hfz11_3
     try clear hfz11_4
     try clear hfz11_5
     try clear hfz13_0
     try clear hfz13_1
     try clear hfz13_2
     try clear hfz13_3
     try clear hfz13_4
     try clear hfz16_0
     try clear hfz16_1
     try clear hfz16_2
     try clear hfz16_3
     try clear hfz16_4
     try clear hfz16_5
     try clear hfz24_0
     try clear hfz24_1
     try clear hfz24_2
     try clear hfz24_3
     try clear hfz24_4
     try clear hfz24_5
     try clear hfz26_0
     try clear hfz26_1
     try clear hfz26_2
     try clear hfz26_3
     try clear hfz26_4
     try clear hfz32_0
     try clear hfz32_1
     try clear hfz32_2
     try clear hfz32_3
     try clear hfz32_4
     try clear hfz32_5
     try clear p2
     obtain ⟨kq, x24_18, rfl, HA, HJ18, BK448, BK449, HB⟩ := hcut
     cases kq with
     | zero => exact absurd HA.out (by simp [laws_FnSemverTermsOne.j1])
     | succ kj18 =>
      have H := HA.out
      clear HA
      simp only [laws_FnSemverTermsOne.j1] at H
      by_cases c34 : x24_18 = true
      ·
       subst c34
       have H1 : (some true) = some r := by rw [if_pos rfl] at H; exact H
       clear H
       have H := H1
       clear H1
       obtain rfl := Option.some.inj H
       go_wp2
       go_ret
       exact ⟨by first | rfl | (simp [errW_none, errW_some] <;> rfl) | (simp [*, errW_none, errW_some] <;> rfl) | (simp [bneNil]; done), by repeat (first | (with_reducible first | exact HB.out | apply below_alloc | apply pw_below_drewN | apply below_drew1 | refine below_set ?_ GE448.out | refine below_set ?_ GE449.out) | exact HB.out)⟩
      ·
       replace c34 := Bool.eq_false_iff.mpr c34
       subst c34
       have H1 : ((laws_stTerm.f 0 a1_0 a1_1 a1_2 a1_3 a1_4 3).bind fun bt457 => ((impl_TermsHold.f (([(([(⟨a0_0, a0_1, a0_2, a0_3, a0_4, a0_5⟩ : S24)] : List (S24)))] : List (List (S24)))) a1_0 a1_1 a1_2 a1_3 a1_4 a2).bind fun t470 => (if a2 = true then ((impl_TermHolds.f a0_0 a0_1 a0_2 a0_3 a0_4 a0_5 a1_0 a1_1 a1_2 a1_3 a1_4 true).bind fun t471 => (if (t470 == t471) = true then ((impl_TermsHold.f (([(([(⟨bt457.1, bt457.2.1, bt457.2.2.1, bt457.2.2.2.1, bt457.2.2.2.2.1, bt457.2.2.2.2.2⟩ : S24)] : List (S24)))] : List (List (S24)))) a1_0 a1_1 a1_2 a1_3 a1_4 a2).bind fun t478 => (some t478)) else (some false))) else ((impl_TermHolds.f a0_0 a0_1 a0_2 a0_3 a0_4 a0_5 a1_0 a1_1 a1_2 a1_3 a1_4 (a0_5.toList != ([] : List UInt8))).bind fun t479 => (if (t470 == t479) = true then ((impl_TermsHold.f (([(([(⟨bt457.1, bt457.2.1, bt457.2.2.1, bt457.2.2.2.1, bt457.2.2.2.2.1, bt457.2.2.2.2.2⟩ : S24)] : List (S24)))] : List (List (S24)))) a1_0 a1_1 a1_2 a1_3 a1_4 a2).bind fun t486 => (some t486)) else (some false)))))) = some r := by rw [if_neg (show ¬ (false = true) by decide)] at H; exact H
       clear H
       have H := H1
       clear H1
       replace H := Option.bind_eq_some_iff.mp H
       obtain ⟨⟨t457, t458, t459, t460, t461, t462⟩, A350, H⟩ := H
       replace H : ((impl_TermsHold.f (([(([(⟨a0_0, a0_1, a0_2, a0_3, a0_4, a0_5⟩ : S24)] : List (S24)))] : List (List (S24)))) a1_0 a1_1 a1_2 a1_3 a1_4 a2).bind fun t470 => (if a2 = true then ((impl_TermHolds.f a0_0 a0_1 a0_2 a0_3 a0_4 a0_5 a1_0 a1_1 a1_2 a1_3 a1_4 true).bind fun t471 => (if (t470 == t471) = true then ((impl_TermsHold.f (([(([(⟨t457, t458, t459, t460, t461, t462⟩ : S24)] : List (S24)))] : List (List (S24)))) a1_0 a1_1 a1_2 a1_3 a1_4 a2).bind fun t478 => (some t478)) else (some false))) else ((impl_TermHolds.f a0_0 a0_1 a0_2 a0_3 a0_4 a0_5 a1_0 a1_1 a1_2 a1_3 a1_4 (a0_5.toList != ([] : List UInt8))).bind fun t479 => (if (t470 == t479) = true then ((impl_TermsHold.f (([(([(⟨t457, t458, t459, t460, t461, t462⟩ : S24)] : List (S24)))] : List (List (S24)))) a1_0 a1_1 a1_2 a1_3 a1_4 a2).bind fun t486 => (some t486)) else (some false))))) = some r := H
       have A35 := Aside0.mk A350
       clear A350
       obtain ⟨y464, hy464⟩ : ∃ y_ : List (S24), y_ = (([(⟨a0_0, a0_1, a0_2, a0_3, a0_4, a0_5⟩ : S24)] : List (S24))) := ⟨_, rfl⟩
       replace H : ((impl_TermsHold.f (([y464] : List (List (S24)))) a1_0 a1_1 a1_2 a1_3 a1_4 a2).bind fun t470 => (if a2 = true then ((impl_TermHolds.f a0_0 a0_1 a0_2 a0_3 a0_4 a0_5 a1_0 a1_1 a1_2 a1_3 a1_4 true).bind fun t471 => (if (t470 == t471) = true then ((impl_TermsHold.f (([(([(⟨t457, t458, t459, t460, t461, t462⟩ : S24)] : List (S24)))] : List (List (S24)))) a1_0 a1_1 a1_2 a1_3 a1_4 a2).bind fun t478 => (some t478)) else (some false))) else ((impl_TermHolds.f a0_0 a0_1 a0_2 a0_3 a0_4 a0_5 a1_0 a1_1 a1_2 a1_3 a1_4 (a0_5.toList != ([] : List UInt8))).bind fun t479 => (if (t470 == t479) = true then ((impl_TermsHold.f (([(([(⟨t457, t458, t459, t460, t461, t462⟩ : S24)] : List (S24)))] : List (List (S24)))) a1_0 a1_1 a1_2 a1_3 a1_4 a2).bind fun t486 => (some t486)) else (some false))))) = some r := by first | (rw [hy464]; with_reducible exact H) | (have H2_ := (Option.bind_some _ _).symm.trans H; rw [hy464]; with_reducible exact H2_) | (have H2_ := (Option.bind_some _ _).symm.trans H; with_reducible exact H2_) | with_reducible exact H | (rw [hy464]; exact H) | exact H
       have Ny464 := Aside0.mk hy464
       clear hy464
       obtain ⟨y467, hy467⟩ : ∃ y_ : List (List (S24)), y_ = (([y464] : List (List (S24)))) := ⟨_, rfl⟩
       replace H : ((impl_TermsHold.f y467 a1_0 a1_1 a1_2 a1_3 a1_4 a2).bind fun t470 => (if a2 = true then ((impl_TermHolds.f a0_0 a0_1 a0_2 a0_3 a0_4 a0_5 a1_0 a1_1 a1_2 a1_3 a1_4 true).bind fun t471 => (if (t470 == t471) = true then ((impl_TermsHold.f (([(([(⟨t457, t458, t459, t460, t461, t462⟩ : S24)] : List (S24)))] : List (List (S24)))) a1_0 a1_1 a1_2 a1_3 a1_4 a2).bind fun t478 => (some t478)) else (some false))) else ((impl_TermHolds.f a0_0 a0_1 a0_2 a0_3 a0_4 a0_5 a1_0 a1_1 a1_2 a1_3 a1_4 (a0_5.toList != ([] : List UInt8))).bind fun t479 => (if (t470 == t479) = true then ((impl_TermsHold.f (([(([(⟨t457, t458, t459, t460, t461, t462⟩ : S24)] : List (S24)))] : List (List (S24)))) a1_0 a1_1 a1_2 a1_3 a1_4 a2).bind fun t486 => (some t486)) else (some false))))) = some r := by first | (rw [hy467]; with_reducible exact H) | (have H2_ := (Option.bind_some _ _).symm.trans H; rw [hy467]; with_reducible exact H2_) | (have H2_ := (Option.bind_some _ _).symm.trans H; with_reducible exact H2_) | with_reducible exact H | (rw [hy467]; exact H) | exact H
       have Ny467 := Aside0.mk hy467
       clear hy467
       replace H := Option.bind_eq_some_iff.mp H
       obtain ⟨t470, A360, H⟩ := H
       replace H : (if a2 = true then ((impl_TermHolds.f a0_0 a0_1 a0_2 a0_3 a0_4 a0_5 a1_0 a1_1 a1_2 a1_3 a1_4 true).bind fun t471 => (if (t470 == t471) = true then ((impl_TermsHold.f (([(([(⟨t457, t458, t459, t460, t461, t462⟩ : S24)] : List (S24)))] : List (List (S24)))) a1_0 a1_1 a1_2 a1_3 a1_4 a2).bind fun t478 => (some t478)) else (some false))) else ((impl_TermHolds.f a0_0 a0_1 a0_2 a0_3 a0_4 a0_5 a1_0 a1_1 a1_2 a1_3 a1_4 (a0_5.toList != ([] : List UInt8))).bind fun t479 => (if (t470 == t479) = true then ((impl_TermsHold.f (([(([(⟨t457, t458, t459, t460, t461, t462⟩ : S24)] : List (S24)))] : List (List (S24)))) a1_0 a1_1 a1_2 a1_3 a1_4 a2).bind fun t486 => (some t486)) else (some false)))) = some r := H
       have A36 := Aside0.mk A360
       clear A360
       by_cases c37 : a2 = true
       ·
        subst c37
        have H1 : ((impl_TermHolds.f a0_0 a0_1 a0_2 a0_3 a0_4 a0_5 a1_0 a1_1 a1_2 a1_3 a1_4 true).bind fun t471 => (if (t470 == t471) = true then ((impl_TermsHold.f (([(([(⟨t457, t458, t459, t460, t461, t462⟩ : S24)] : List (S24)))] : List (List (S24)))) a1_0 a1_1 a1_2 a1_3 a1_4 true).bind fun t478 => (some t478)) else (some false))) = some r := by rw [if_pos rfl] at H; exact H
        clear H
        have H := H1
        clear H1
        replace H := Option.bind_eq_some_iff.mp H
        obtain ⟨t471, A380, H⟩ := H
        replace H : (if (t470 == t471) = true then ((impl_TermsHold.f (([(([(⟨t457, t458, t459, t460, t461, t462⟩ : S24)] : List (S24)))] : List (List (S24)))) a1_0 a1_1 a1_2 a1_3 a1_4 true).bind fun t478 => (some t478)) else (some false)) = some r := H
        have A38 := Aside0.mk A380
        clear A380
        by_cases c39 : (t470 == t471) = true
        ·
         rw [if_pos c39] at H
         have c39b0 : (t470 == t471) = true := c39
         (try (have c39b1 : decide (t470 = t471) = true := by simpa using c39))
         (try (have c39b2 : (t470 == t471) = true := by simpa using c39))
         clear c39
         obtain ⟨y472, hy472⟩ : ∃ y_ : List (S24), y_ = (([(⟨t457, t458, t459, t460, t461, t462⟩ : S24)] : List (S24))) := ⟨_, rfl⟩
         replace H : ((impl_TermsHold.f (([y472] : List (List (S24)))) a1_0 a1_1 a1_2 a1_3 a1_4 true).bind fun t478 => (some t478)) = some r := by first | (rw [hy472]; with_reducible exact H) | (have H2_ := (Option.bind_some _ _).symm.trans H; rw [hy472]; with_reducible exact H2_) | (have H2_ := (Option.bind_some _ _).symm.trans H; with_reducible exact H2_) | with_reducible exact H | (rw [hy472]; exact H) | exact H
         have Ny472 := Aside0.mk hy472
         clear hy472
         obtain ⟨y475, hy475⟩ : ∃ y_ : List (List (S24)), y_ = (([y472] : List (List (S24)))) := ⟨_, rfl⟩
         replace H : ((impl_TermsHold.f y475 a1_0 a1_1 a1_2 a1_3 a1_4 true).bind fun t478 => (some t478)) = some r := by first | (rw [hy475]; with_reducible exact H) | (have H2_ := (Option.bind_some _ _).symm.trans H; rw [hy475]; with_reducible exact H2_) | (have H2_ := (Option.bind_some _ _).symm.trans H; with_reducible exact H2_) | with_reducible exact H | (rw [hy475]; exact H) | exact H
         have Ny475 := Aside0.mk hy475
         clear hy475
         replace H := Option.bind_eq_some_iff.mp H
         obtain ⟨t478, A400, H⟩ := H
         replace H : (some t478) = some r := H
         have A40 := Aside0.mk A400
         clear A400
         obtain rfl := Option.some.inj H
         have hnb41 := NB449_448.out
         have hnc41 := NB448_449.out
         have hcz42_0 : wc.cell? ⟨gb449, 0, none⟩ = some (.int .u64 a1_0) := (blk_cell BK449.out 0).trans rfl
         have hcz42_1 : wc.cell? ⟨gb449, 1, none⟩ = some (.int .u64 a1_1) := (blk_cell BK449.out 1).trans rfl
         have hcz42_2 : wc.cell? ⟨gb449, 2, none⟩ = some (.int .u64 a1_2) := (blk_cell BK449.out 2).trans rfl
         have hcz42_3 : wc.cell? ⟨gb449, 3, none⟩ = some (.string a1_3) := (blk_cell BK449.out 3).trans rfl
         have hcz42_4 : wc.cell? ⟨gb449, 4, none⟩ = some (.string a1_4) := (blk_cell BK449.out 4).trans rfl
         have hfz42_0 := blk_frozen BK449.out 0
         have hfz42_1 := blk_frozen BK449.out 1
         have hfz42_2 := blk_frozen BK449.out 2
         have hfz42_3 := blk_frozen BK449.out 3
         have hfz42_4 := blk_frozen BK449.out 4
         try go_wp2_with (first | ((with_reducible refine gate_callee (f := 28) rfl ?_); refine goesL_ (some 26) rfl rfl Tryd.func28 (by kernel_rfl) rfl #[.int .i64 0, .agg #[.int .u64 a1_0, .int .u64 a1_1, .int .u64 a1_2, .string a1_3, .string a1_4], .int .i64 3] rfl (by (try simp only [List.map_toArray, List.map_cons, List.map_nil]); first | done | rfl | (simp only [List.length_drop, List.length_take]; rfl)) ?_; (with_reducible refine (laws_stTerm.calls 0 a1_0 a1_1 a1_2 a1_3 a1_4 3 t457 t458 t459 t460 t461 t462 _ A35.out).mono ?_); rintro e w43 ⟨rfl, hb⟩; refine ⟨_, rfl, ?_⟩; have n0_ := Aside0.mk (blk_below (g := gb448) (o := .cells #[.int .i64 a0_0, .int .i64 a0_1, .int .u64 a0_2, .int .u64 a0_3, .int .u64 a0_4, .string a0_5] 24 (0, 0)) (by (with_reducible repeat (first | refine blk_drewN ?_ _ | refine blk_drew ?_ | refine blk_alloc ?_ _)); exact BK448.out) hb); have n1_ := Aside0.mk (blk_below (g := gb449) (o := .cells #[.int .u64 a1_0, .int .u64 a1_1, .int .u64 a1_2, .string a1_3, .string a1_4] 26 (0, 0)) (by (with_reducible repeat (first | refine blk_drewN ?_ _ | refine blk_drew ?_ | refine blk_alloc ?_ _)); exact BK449.out) hb); have n2_ := Aside0.mk (below_step (by repeat (first | (with_reducible first | exact HB.out | apply below_alloc | apply pw_below_drewN | apply below_drew1 | refine below_set ?_ GE448.out | refine below_set ?_ GE449.out) | exact HB.out)) hb); clear BK448; clear BK449; clear HB; have BK448 := n0_; have BK449 := n1_; have HB := n2_; clear n0_ n1_ n2_; (try clear hb); (try clear hb2); (try clear hk); (try clear hi)) | ((with_reducible refine gate_dst (N := 7) rfl ?_); (try (refine gate_guard (by rfl) ?_; dsimp only)); refine box_event ?hg (N := 7) ?hd (cs := #[.int .i64 0, .int .i64 0, .int .u64 0, .int .u64 0, .int .u64 0, .string (⟨#[]⟩ : ByteArray)]) (t := 24) ?hr ?_; (case hd => rfl); (case hg => rfl); (case hr => first | (go_simp; done) | (go_simp; rfl) | (go_simp; simp [u8w]; done)); intro gb463 hg w44 hbox hb; have n0_ := Aside0.mk (blk_below (g := gb448) (o := .cells #[.int .i64 a0_0, .int .i64 a0_1, .int .u64 a0_2, .int .u64 a0_3, .int .u64 a0_4, .string a0_5] 24 (0, 0)) (by (with_reducible repeat (first | refine blk_drewN ?_ _ | refine blk_drew ?_ | refine blk_alloc ?_ _)); exact BK448.out) hb); have n1_ := Aside0.mk (blk_below (g := gb449) (o := .cells #[.int .u64 a1_0, .int .u64 a1_1, .int .u64 a1_2, .string a1_3, .string a1_4] 26 (0, 0)) (by (with_reducible repeat (first | refine blk_drewN ?_ _ | refine blk_drew ?_ | refine blk_alloc ?_ _)); exact BK449.out) hb); have n2_ := Aside0.mk (below_step (by repeat (first | (with_reducible first | exact HB.out | apply below_alloc | apply pw_below_drewN | apply below_drew1 | refine below_set ?_ GE448.out | refine below_set ?_ GE449.out) | exact HB.out)) hb); have n3_ := Aside0.mk (hbox); have n4_ := Aside0.mk ((by rw [hg]; exact (below_size (by repeat (first | (with_reducible first | exact HB.out | apply below_alloc | apply pw_below_drewN | apply below_drew1 | refine below_set ?_ GE448.out | refine below_set ?_ GE449.out) | exact HB.out))) : w.heap.size ≤ gb463)); have n5_ := Aside0.mk ((by rw [hg]; exact (below_size (by repeat (first | (with_reducible first | exact HB.out | apply below_alloc | apply pw_below_drewN | apply below_drew1 | refine below_set ?_ GE448.out | refine below_set ?_ GE449.out) | exact HB.out))) : w.heap.size ≤ gb463)); have n6_ := Aside0.mk ((by rw [hg]; exact Nat.ne_of_lt (blk_lt (g := gb448) (o := .cells #[.int .i64 a0_0, .int .i64 a0_1, .int .u64 a0_2, .int .u64 a0_3, .int .u64 a0_4, .string a0_5] 24 (0, 0)) (by (with_reducible repeat (first | refine blk_drewN ?_ _ | refine blk_drew ?_ | refine blk_alloc ?_ _)); exact BK448.out)) : gb448 ≠ gb463)); have n7_ := Aside0.mk ((by rw [hg]; exact Nat.ne_of_gt (blk_lt (g := gb448) (o := .cells #[.int .i64 a0_0, .int .i64 a0_1, .int .u64 a0_2, .int .u64 a0_3, .int .u64 a0_4, .string a0_5] 24 (0, 0)) (by (with_reducible repeat (first | refine blk_drewN ?_ _ | refine blk_drew ?_ | refine blk_alloc ?_ _)); exact BK448.out)) : gb463 ≠ gb448)); have n8_ := Aside0.mk ((by rw [hg]; exact Nat.ne_of_lt (blk_lt (g := gb449) (o := .cells #[.int .u64 a1_0, .int .u64 a1_1, .int .u64 a1_2, .string a1_3, .string a1_4] 26 (0, 0)) (by (with_reducible repeat (first | refine blk_drewN ?_ _ | refine blk_drew ?_ | refine blk_alloc ?_ _)); exact BK449.out)) : gb449 ≠ gb463)); have n9_ := Aside0.mk ((by rw [hg]; exact Nat.ne_of_gt (blk_lt (g := gb449) (o := .cells #[.int .u64 a1_0, .int .u64 a1_1, .int .u64 a1_2, .string a1_3, .string a1_4] 26 (0, 0)) (by (with_reducible repeat (first | refine blk_drewN ?_ _ | refine blk_drew ?_ | refine blk_alloc ?_ _)); exact BK449.out)) : gb463 ≠ gb449)); clear BK448; clear BK449; clear HB; have BK448 := n0_; have BK449 := n1_; have HB := n2_; have BK463 := n3_; have GW463 := n4_; have GE463 := n5_; have NB448_463 := n6_; have NB463_448 := n7_; have NB449_463 := n8_; have NB463_449 := n9_; clear n0_ n1_ n2_ n3_ n4_ n5_ n6_ n7_ n8_ n9_; clear hb hbox hg; have hnb45 := NB463_448.out; have hnc45 := NB448_463.out; have hnb46 := NB463_449.out; have hnc46 := NB449_463.out; have hcz47_0 : w44.cell? ⟨gb463, 0, none⟩ = some (.int .i64 0) := (blk_cell BK463.out 0).trans rfl; have hcz47_1 : w44.cell? ⟨gb463, 1, none⟩ = some (.int .i64 0) := (blk_cell BK463.out 1).trans rfl; have hcz47_2 : w44.cell? ⟨gb463, 2, none⟩ = some (.int .u64 0) := (blk_cell BK463.out 2).trans rfl; have hcz47_3 : w44.cell? ⟨gb463, 3, none⟩ = some (.int .u64 0) := (blk_cell BK463.out 3).trans rfl; have hcz47_4 : w44.cell? ⟨gb463, 4, none⟩ = some (.int .u64 0) := (blk_cell BK463.out 4).trans rfl; have hcz47_5 : w44.cell? ⟨gb463, 5, none⟩ = some (.string (⟨#[]⟩ : ByteArray)) := (blk_cell BK463.out 5).trans rfl; have hfz47_0 := blk_frozen BK463.out 0; have hfz47_1 := blk_frozen BK463.out 1; have hfz47_2 := blk_frozen BK463.out 2; have hfz47_3 := blk_frozen BK463.out 3; have hfz47_4 := blk_frozen BK463.out 4; have hfz47_5 := blk_frozen BK463.out 5))
         have n0_ : Aside0 (((((((w44.setCell ⟨gb463, 0, none⟩ (.int .i64 t457)).setCell ⟨gb463, 1, none⟩ (.int .i64 t458)).setCell ⟨gb463, 2, none⟩ (.int .u64 t459)).setCell ⟨gb463, 3, none⟩ (.int .u64 t460)).setCell ⟨gb463, 4, none⟩ (.int .u64 t461)).setCell ⟨gb463, 5, none⟩ (.string t462)).heap[gb448]? = some (.cells #[.int .i64 a0_0, .int .i64 a0_1, .int .u64 a0_2, .int .u64 a0_3, .int .u64 a0_4, .string a0_5] 24 (0, 0))) := ⟨by (with_reducible repeat (first | refine blk_drewN ?_ _ | refine blk_drew ?_ | refine blk_alloc ?_ _)); refine blk_far ?_ NB448_463.out _; (with_reducible repeat (first | refine blk_drewN ?_ _ | refine blk_drew ?_ | refine blk_alloc ?_ _)); refine blk_far ?_ NB448_463.out _; (with_reducible repeat (first | refine blk_drewN ?_ _ | refine blk_drew ?_ | refine blk_alloc ?_ _)); refine blk_far ?_ NB448_463.out _; (with_reducible repeat (first | refine blk_drewN ?_ _ | refine blk_drew ?_ | refine blk_alloc ?_ _)); refine blk_far ?_ NB448_463.out _; (with_reducible repeat (first | refine blk_drewN ?_ _ | refine blk_drew ?_ | refine blk_alloc ?_ _)); refine blk_far ?_ NB448_463.out _; (with_reducible repeat (first | refine blk_drewN ?_ _ | refine blk_drew ?_ | refine blk_alloc ?_ _)); refine blk_far ?_ NB448_463.out _; (with_reducible repeat (first | refine blk_drewN ?_ _ | refine blk_drew ?_ | refine blk_alloc ?_ _)); exact BK448.out⟩
         have n1_ : Aside0 (((((((w44.setCell ⟨gb463, 0, none⟩ (.int .i64 t457)).setCell ⟨gb463, 1, none⟩ (.int .i64 t458)).setCell ⟨gb463, 2, none⟩ (.int .u64 t459)).setCell ⟨gb463, 3, none⟩ (.int .u64 t460)).setCell ⟨gb463, 4, none⟩ (.int .u64 t461)).setCell ⟨gb463, 5, none⟩ (.string t462)).heap[gb449]? = some (.cells #[.int .u64 a1_0, .int .u64 a1_1, .int .u64 a1_2, .string a1_3, .string a1_4] 26 (0, 0))) := ⟨by (with_reducible repeat (first | refine blk_drewN ?_ _ | refine blk_drew ?_ | refine blk_alloc ?_ _)); refine blk_far ?_ NB449_463.out _; (with_reducible repeat (first | refine blk_drewN ?_ _ | refine blk_drew ?_ | refine blk_alloc ?_ _)); refine blk_far ?_ NB449_463.out _; (with_reducible repeat (first | refine blk_drewN ?_ _ | refine blk_drew ?_ | refine blk_alloc ?_ _)); refine blk_far ?_ NB449_463.out _; (with_reducible repeat (first | refine blk_drewN ?_ _ | refine blk_drew ?_ | refine blk_alloc ?_ _)); refine blk_far ?_ NB449_463.out _; (with_reducible repeat (first | refine blk_drewN ?_ _ | refine blk_drew ?_ | refine blk_alloc ?_ _)); refine blk_far ?_ NB449_463.out _; (with_reducible repeat (first | refine blk_drewN ?_ _ | refine blk_drew ?_ | refine blk_alloc ?_ _)); refine blk_far ?_ NB449_463.out _; (with_reducible repeat (first | refine blk_drewN ?_ _ | refine blk_drew ?_ | refine blk_alloc ?_ _)); exact BK449.out⟩
         have n2_ : Aside0 (((((((w44.setCell ⟨gb463, 0, none⟩ (.int .i64 t457)).setCell ⟨gb463, 1, none⟩ (.int .i64 t458)).setCell ⟨gb463, 2, none⟩ (.int .u64 t459)).setCell ⟨gb463, 3, none⟩ (.int .u64 t460)).setCell ⟨gb463, 4, none⟩ (.int .u64 t461)).setCell ⟨gb463, 5, none⟩ (.string t462)).heap[gb463]? = some (.cells #[.int .i64 t457, .int .i64 t458, .int .u64 t459, .int .u64 t460, .int .u64 t461, .string t462] 24 (0, 0))) := ⟨by (with_reducible repeat (first | refine blk_drewN ?_ _ | refine blk_drew ?_ | refine blk_alloc ?_ _)); refine blk_put (cs := #[.int .i64 t457, .int .i64 t458, .int .u64 t459, .int .u64 t460, .int .u64 t461, .string (⟨#[]⟩ : ByteArray)]) ?_ 5 _ rfl; (with_reducible repeat (first | refine blk_drewN ?_ _ | refine blk_drew ?_ | refine blk_alloc ?_ _)); refine blk_put (cs := #[.int .i64 t457, .int .i64 t458, .int .u64 t459, .int .u64 t460, .int .u64 0, .string (⟨#[]⟩ : ByteArray)]) ?_ 4 _ rfl; (with_reducible repeat (first | refine blk_drewN ?_ _ | refine blk_drew ?_ | refine blk_alloc ?_ _)); refine blk_put (cs := #[.int .i64 t457, .int .i64 t458, .int .u64 t459, .int .u64 0, .int .u64 0, .string (⟨#[]⟩ : ByteArray)]) ?_ 3 _ rfl; (with_reducible repeat (first | refine blk_drewN ?_ _ | refine blk_drew ?_ | refine blk_alloc ?_ _)); refine blk_put (cs := #[.int .i64 t457, .int .i64 t458, .int .u64 0, .int .u64 0, .int .u64 0, .string (⟨#[]⟩ : ByteArray)]) ?_ 2 _ rfl; (with_reducible repeat (first | refine blk_drewN ?_ _ | refine blk_drew ?_ | refine blk_alloc ?_ _)); refine blk_put (cs := #[.int .i64 t457, .int .i64 0, .int .u64 0, .int .u64 0, .int .u64 0, .string (⟨#[]⟩ : ByteArray)]) ?_ 1 _ rfl; (with_reducible repeat (first | refine blk_drewN ?_ _ | refine blk_drew ?_ | refine blk_alloc ?_ _)); refine blk_put (cs := #[.int .i64 0, .int .i64 0, .int .u64 0, .int .u64 0, .int .u64 0, .string (⟨#[]⟩ : ByteArray)]) ?_ 0 _ rfl; (with_reducible repeat (first | refine blk_drewN ?_ _ | refine blk_drew ?_ | refine blk_alloc ?_ _)); exact BK463.out⟩
         have n3_ : Aside0 (Below w.heap.size w ((((((w44.setCell ⟨gb463, 0, none⟩ (.int .i64 t457)).setCell ⟨gb463, 1, none⟩ (.int .i64 t458)).setCell ⟨gb463, 2, none⟩ (.int .u64 t459)).setCell ⟨gb463, 3, none⟩ (.int .u64 t460)).setCell ⟨gb463, 4, none⟩ (.int .u64 t461)).setCell ⟨gb463, 5, none⟩ (.string t462))) := ⟨by repeat (first | (with_reducible first | exact HB.out | apply below_alloc | apply pw_below_drewN | apply below_drew1 | refine below_set ?_ GE448.out | refine below_set ?_ GE449.out | refine below_set ?_ GE463.out) | exact HB.out)⟩
         (try clear BK448)
         (try clear BK449)
         (try clear BK463)
         (try clear HB)
         generalize ((((((w44.setCell ⟨gb463, 0, none⟩ (.int .i64 t457)).setCell ⟨gb463, 1, none⟩ (.int .i64 t458)).setCell ⟨gb463, 2, none⟩ (.int .u64 t459)).setCell ⟨gb463, 3, none⟩ (.int .u64 t460)).setCell ⟨gb463, 4, none⟩ (.int .u64 t461)).setCell ⟨gb463, 5, none⟩ (.string t462)) = w48 at n0_ n1_ n2_ n3_ ⊢
         have BK448 := n0_
         have BK449 := n1_
         have BK463 := n2_
         have HB := n3_
         clear n0_ n1_ n2_ n3_
         have n0_ := Aside0.mk (blk_drew BK448.out)
         have n1_ := Aside0.mk (blk_drew BK449.out)
         have n2_ := Aside0.mk (blk_drew BK463.out)
         have n3_ := Aside0.mk (below_drew1 HB.out)
         clear BK448
         clear BK449
         clear BK463
         clear HB
         have BK448 := n0_
         have BK449 := n1_
         have BK463 := n2_
         have HB := n3_
         clear n0_ n1_ n2_ n3_
         refine start_ (n := 25) (S := fun w' => w'.cell? ⟨gb448, 0, none⟩ = some (.int .i64 a0_0) ∧ w'.cell? ⟨gb448, 1, none⟩ = some (.int .i64 a0_1) ∧ w'.cell? ⟨gb448, 2, none⟩ = some (.int .u64 a0_2) ∧ w'.cell? ⟨gb448, 3, none⟩ = some (.int .u64 a0_3) ∧ w'.cell? ⟨gb448, 4, none⟩ = some (.int .u64 a0_4) ∧ w'.cell? ⟨gb448, 5, none⟩ = some (.string a0_5) ∧ w'.cell? ⟨gb449, 0, none⟩ = some (.int .u64 a1_0) ∧ w'.cell? ⟨gb449, 1, none⟩ = some (.int .u64 a1_1) ∧ w'.cell? ⟨gb449, 2, none⟩ = some (.int .u64 a1_2) ∧ w'.cell? ⟨gb449, 3, none⟩ = some (.string a1_3) ∧ w'.cell? ⟨gb449, 4, none⟩ = some (.string a1_4) ∧ w'.cell? ⟨gb463, 0, none⟩ = some (.int .i64 t457) ∧ w'.cell? ⟨gb463, 1, none⟩ = some (.int .i64 t458) ∧ w'.cell? ⟨gb463, 2, none⟩ = some (.int .u64 t459) ∧ w'.cell? ⟨gb463, 3, none⟩ = some (.int .u64 t460) ∧ w'.cell? ⟨gb463, 4, none⟩ = some (.int .u64 t461) ∧ w'.cell? ⟨gb463, 5, none⟩ = some (.string t462)) (ds := []) #[false, false, false, false, false, false, false, false, false, false, false, false, false, false, false, false, false, false, false, false, false, false, false, false, false] (by kernel_rfl) rfl rfl ⟨(blk_cell BK448.out 0).trans rfl, (blk_cell BK448.out 1).trans rfl, (blk_cell BK448.out 2).trans rfl, (blk_cell BK448.out 3).trans rfl, (blk_cell BK448.out 4).trans rfl, (blk_cell BK448.out 5).trans rfl, (blk_cell BK449.out 0).trans rfl, (blk_cell BK449.out 1).trans rfl, (blk_cell BK449.out 2).trans rfl, (blk_cell BK449.out 3).trans rfl, (blk_cell BK449.out 4).trans rfl, (blk_cell BK463.out 0).trans rfl, (blk_cell BK463.out 1).trans rfl, (blk_cell BK463.out 2).trans rfl, (blk_cell BK463.out 3).trans rfl, (blk_cell BK463.out 4).trans rfl, (blk_cell BK463.out 5).trans rfl⟩ (fun hHeld => ?_); refine with_tabW laws_FnSemverTermsOne.tab6 laws_FnSemverTermsOne.bits6 (fun HT_ HW_ => ?_)
         generalize w48.drew = w49 at BK448 BK449 BK463 HB hHeld ⊢
         refine pure_ (i := 4) (N := some 31) (v := ?_) (a' := ?_) #[false, false, false, false, true, false, false, false, false, false, false, false, false, false, false, false, false, false, false, false, false, false, false, false, false] rfl rfl (any_of HT_.out (by kernel_rfl)) (fun _ _ _ h => h) (Or.inl ⟨by rfl, ?_⟩) ?_ ?_
         rotate_left
         ·
          intro w'
          go_simp
          with_reducible rfl
         rotate_left
         ·
          simp only [Act.put, List.setIfInBounds_toArray, List.set_cons_zero, List.set_cons_succ, i64_w, i32_w]
          rfl
         refine pure_ (i := 8) (N := some 35) (v := ?_) (a' := ?_) #[false, false, false, false, true, false, false, false, true, false, false, false, false, false, false, false, false, false, false, false, false, false, false, false, false] rfl rfl (any_of HT_.out (by kernel_rfl)) (fun _ _ _ h => h) (Or.inl ⟨by rfl, ?_⟩) ?_ ?_
         rotate_left
         ·
          intro w'
          go_simp
          with_reducible rfl
         rotate_left
         ·
          simp only [Act.put, List.setIfInBounds_toArray, List.set_cons_zero, List.set_cons_succ, i64_w, i32_w]
          rfl
         refine take_ (i := 0) (N := some 27) (v := ?_) (a' := ?_) #[true, false, false, false, true, false, false, false, true, false, false, false, false, false, false, false, false, false, false, false, false, false, false, false, false] rfl rfl (take_ofW HT_.out HW_.out (by kernel_rfl)) (fun _ _ _ h => h) (Or.inl ⟨by rfl, ?_⟩) hHeld ?_ ?_
         rotate_left
         ·
          rintro w' ⟨s0, s1, s2, s3, s4, s5, s6, s7, s8, s9, s10, s11, s12, s13, s14, s15, s16⟩
          go_simp
          with_reducible rfl
         rotate_left
         ·
          simp only [Act.put, List.setIfInBounds_toArray, List.set_cons_zero, List.set_cons_succ, i64_w, i32_w]
          rfl
         refine take_ (i := 3) (N := some 30) (v := ?_) (a' := ?_) #[true, false, false, true, true, false, false, false, true, false, false, false, false, false, false, false, false, false, false, false, false, false, false, false, false] rfl rfl (take_ofW HT_.out HW_.out (by kernel_rfl)) (fun _ _ _ h => h) (Or.inl ⟨by rfl, ?_⟩) hHeld ?_ ?_
         rotate_left
         ·
          rintro w' ⟨s0, s1, s2, s3, s4, s5, s6, s7, s8, s9, s10, s11, s12, s13, s14, s15, s16⟩
          go_simp
          with_reducible rfl
         rotate_left
         ·
          simp only [Act.put, List.setIfInBounds_toArray, List.set_cons_zero, List.set_cons_succ, i64_w, i32_w]
          rfl
         refine take_ (i := 6) (N := some 33) (v := ?_) (a' := ?_) #[true, false, false, true, true, false, true, false, true, false, false, false, false, false, false, false, false, false, false, false, false, false, false, false, false] rfl rfl (take_ofW HT_.out HW_.out (by kernel_rfl)) (fun _ _ _ h => h) (Or.inl ⟨by rfl, ?_⟩) hHeld ?_ ?_
         rotate_left
         ·
          rintro w' ⟨s0, s1, s2, s3, s4, s5, s6, s7, s8, s9, s10, s11, s12, s13, s14, s15, s16⟩
          go_simp
          with_reducible rfl
         rotate_left
         ·
          simp only [Act.put, List.setIfInBounds_toArray, List.set_cons_zero, List.set_cons_succ, i64_w, i32_w]
          rfl
         refine take_ (i := 7) (N := some 34) (v := ?_) (a' := ?_) #[true, false, false, true, true, false, true, true, true, false, false, false, false, false, false, false, false, false, false, false, false, false, false, false, false] rfl rfl (take_ofW HT_.out HW_.out (by kernel_rfl)) (fun _ _ _ h => h) (Or.inl ⟨by rfl, ?_⟩) hHeld ?_ ?_
         rotate_left
         ·
          rintro w' ⟨s0, s1, s2, s3, s4, s5, s6, s7, s8, s9, s10, s11, s12, s13, s14, s15, s16⟩
          go_simp
          with_reducible rfl
         rotate_left
         ·
          simp only [Act.put, List.setIfInBounds_toArray, List.set_cons_zero, List.set_cons_succ, i64_w, i32_w]
          rfl
         refine one_ (i := 1) (N := some 28) #[true, true, false, true, true, false, true, true, true, false, false, false, false, false, false, false, false, false, false, false, false, false, false, false, false] rfl rfl (one_of HT_.out (by kernel_rfl)) (by decide) (fun K hK => ?_)
         refine Kd.R_lit_step k24 _ 24 ?hg (N := 28) ?hd (xs := ([(⟨a0_0, a0_1, a0_2, a0_3, a0_4, a0_5⟩ : S24)] : List (S24))) (inner := [.int .i64 a0_0, .int .i64 a0_1, .int .u64 a0_2, .int .u64 a0_3, .int .u64 a0_4, .string a0_5]) (ok := fun _ => True) (okp := fun _ => True) ?hr ?hp (fun _ hk => hk) trivial (Below.refl _ _) (Nat.le_refl _) (by simp) ?_; (case hd => rfl); (case hg => rfl); (case hr => first | (go_simp; done) | (go_simp; rfl) | (go_simp; simp [u8w]; done)); (case hp => exact (Reps.c6 (show Kd.M k24 _ _ _ (⟨a0_0, a0_1, a0_2, a0_3, a0_4, a0_5⟩ : S24) [.int .i64 a0_0, .int .i64 a0_1, .int .u64 a0_2, .int .u64 a0_3, .int .u64 a0_4, .string a0_5] from (k24_mkM _ _ _ (⟨a0_0, a0_1, a0_2, a0_3, a0_4, a0_5⟩ : S24) )) (Reps.none _ _)))
         intro v465 w50 ho51 hb hg_ hnew_
         clear hg_ hnew_
         (first | rw [← Ny464.out] at ho51 | (simp only [Int.reduceToNat] at ho51; rw [← Ny464.out] at ho51))
         have n0_ := Aside0.mk (Kd.R_lower (Kd.R_newB (Kd.R_newB ho51 (g := gb448) (o := .cells #[.int .i64 a0_0, .int .i64 a0_1, .int .u64 a0_2, .int .u64 a0_3, .int .u64 a0_4, .string a0_5] 24 (0, 0)) (by (with_reducible repeat (first | refine blk_drewN ?_ _ | refine blk_drew ?_ | refine blk_alloc ?_ _)); exact BK448.out)) (g := gb463) (o := .cells #[.int .i64 t457, .int .i64 t458, .int .u64 t459, .int .u64 t460, .int .u64 t461, .string t462] 24 (0, 0)) (by (with_reducible repeat (first | refine blk_drewN ?_ _ | refine blk_drew ?_ | refine blk_alloc ?_ _)); exact BK463.out)) (below_size (by repeat (first | (with_reducible first | exact HB.out | apply below_alloc | apply pw_below_drewN | apply below_drew1 | refine below_set ?_ GE448.out | refine below_set ?_ GE449.out | refine below_set ?_ GE463.out) | exact HB.out))))
         have n1_ := Aside0.mk (blk_below (g := gb448) (o := .cells #[.int .i64 a0_0, .int .i64 a0_1, .int .u64 a0_2, .int .u64 a0_3, .int .u64 a0_4, .string a0_5] 24 (0, 0)) (by (with_reducible repeat (first | refine blk_drewN ?_ _ | refine blk_drew ?_ | refine blk_alloc ?_ _)); exact BK448.out) hb)
         have n2_ := Aside0.mk (blk_below (g := gb449) (o := .cells #[.int .u64 a1_0, .int .u64 a1_1, .int .u64 a1_2, .string a1_3, .string a1_4] 26 (0, 0)) (by (with_reducible repeat (first | refine blk_drewN ?_ _ | refine blk_drew ?_ | refine blk_alloc ?_ _)); exact BK449.out) hb)
         have n3_ := Aside0.mk (blk_below (g := gb463) (o := .cells #[.int .i64 t457, .int .i64 t458, .int .u64 t459, .int .u64 t460, .int .u64 t461, .string t462] 24 (0, 0)) (by (with_reducible repeat (first | refine blk_drewN ?_ _ | refine blk_drew ?_ | refine blk_alloc ?_ _)); exact BK463.out) hb)
         have n4_ := Aside0.mk (below_step (by repeat (first | (with_reducible first | exact HB.out | apply below_alloc | apply pw_below_drewN | apply below_drew1 | refine below_set ?_ GE448.out | refine below_set ?_ GE449.out | refine below_set ?_ GE463.out) | exact HB.out)) hb)
         clear BK448
         clear BK449
         clear BK463
         clear HB
         have HO466 := n0_
         have BK448 := n1_
         have BK449 := n2_
         have BK463 := n3_
         have HB := n4_
         clear n0_ n1_ n2_ n3_ n4_
         clear hb ho51
         obtain ⟨Ao52, co52, eo52⟩ := Kd.R_slice HO466.out
         (first | subst eo52 | (injection eo52 with f1_ f2_ f3_; have f4_ := f1_.symm; have f5_ := f3_.symm; clear f1_ f2_ f3_; subst f4_; subst f5_))
         refine hK.out _ _ ⟨(blk_cell BK448.out 0).trans rfl, (blk_cell BK448.out 1).trans rfl, (blk_cell BK448.out 2).trans rfl, (blk_cell BK448.out 3).trans rfl, (blk_cell BK448.out 4).trans rfl, (blk_cell BK448.out 5).trans rfl, (blk_cell BK449.out 0).trans rfl, (blk_cell BK449.out 1).trans rfl, (blk_cell BK449.out 2).trans rfl, (blk_cell BK449.out 3).trans rfl, (blk_cell BK449.out 4).trans rfl, (blk_cell BK463.out 0).trans rfl, (blk_cell BK463.out 1).trans rfl, (blk_cell BK463.out 2).trans rfl, (blk_cell BK463.out 3).trans rfl, (blk_cell BK463.out 4).trans rfl, (blk_cell BK463.out 5).trans rfl⟩ (fun hHeld => ?_)
         clear hK K
         refine norm_ (a' := ?_) ?_ ?_
         rotate_left
         ·
          show Act.put _ (some 28) _ = _
          simp only [Act.put, List.setIfInBounds_toArray, List.set_cons_zero, List.set_cons_succ, i64_w, i32_w]
          rfl
         refine one_ (i := 2) (N := some 29) #[true, true, true, true, true, false, true, true, true, false, false, false, false, false, false, false, false, false, false, false, false, false, false, false, false] rfl rfl (one_of HT_.out (by kernel_rfl)) (by decide) (fun K hK => ?_)
         refine Kd.N_lit_step (Kd.slice 24 k24) _ 42 ?hg (N' := 29) ?hd (xs := ([y464] : List (List (S24)))) (inner := [.slice Ao52 y464.length co52]) (ok := (fun k_ => k_ ≠ gb448 ∧ k_ ≠ gb449 ∧ k_ ≠ gb463)) (okp := (fun k_ => k_ ≠ gb448 ∧ k_ ≠ gb449 ∧ k_ ≠ gb463)) ?hr ?hp (fun _ hk => hk) ((show ∀ k_, w50.heap.size ≤ k_ → (fun k_ => k_ ≠ gb448 ∧ k_ ≠ gb449 ∧ k_ ≠ gb463) k_ from fun k_ hk => ⟨Kd.freshB (g := gb448) (o := .cells #[.int .i64 a0_0, .int .i64 a0_1, .int .u64 a0_2, .int .u64 a0_3, .int .u64 a0_4, .string a0_5] 24 (0, 0)) (by (with_reducible repeat (first | refine blk_drewN ?_ _ | refine blk_drew ?_ | refine blk_alloc ?_ _)); exact BK448.out) k_ hk, Kd.freshB (g := gb449) (o := .cells #[.int .u64 a1_0, .int .u64 a1_1, .int .u64 a1_2, .string a1_3, .string a1_4] 26 (0, 0)) (by (with_reducible repeat (first | refine blk_drewN ?_ _ | refine blk_drew ?_ | refine blk_alloc ?_ _)); exact BK449.out) k_ hk, Kd.freshB (g := gb463) (o := .cells #[.int .i64 t457, .int .i64 t458, .int .u64 t459, .int .u64 t460, .int .u64 t461, .string t462] 24 (0, 0)) (by (with_reducible repeat (first | refine blk_drewN ?_ _ | refine blk_drew ?_ | refine blk_alloc ?_ _)); exact BK463.out) k_ hk⟩) _ (Nat.le_refl _)) (Below.refl _ _) (Nat.le_refl _) (by simp) ?_; (case hd => rfl); (case hg => rfl); (case hr => first | (go_simp; done) | (go_simp; rfl) | (go_simp; simp [u8w]; done)); (case hp => exact (Reps.one (show Kd.FK (Kd.slice 24 k24) _ _ y464 [.slice Ao52 y464.length co52] from (Kd.FK_slice_mk (Kd.R_reads' (Kd.R_mono (ok' := (fun k_ => k_ ≠ gb448 ∧ k_ ≠ gb449 ∧ k_ ≠ gb463)) (Kd.R_types (HO466.out) BK449.out (by decide)) (fun k_ hk => ⟨hk.1.1.2, ⟨hk.2, hk.1.2⟩⟩))).2.1 (Kd.R_F (Kd.R_mono (ok' := (fun k_ => k_ ≠ gb448 ∧ k_ ≠ gb449 ∧ k_ ≠ gb463)) (Kd.R_types (HO466.out) BK449.out (by decide)) (fun k_ hk => ⟨hk.1.1.2, ⟨hk.2, hk.1.2⟩⟩))))) (Reps.none _ _)))
         intro v468 w53 ho54 hb hg_ hnew_
         clear hg_ hnew_
         (first | rw [← Ny467.out] at ho54 | (simp only [Int.reduceToNat] at ho54; rw [← Ny467.out] at ho54))
         have n0_ := Aside0.mk (Kd.N_lower ho54 (below_size (by repeat (first | (with_reducible first | exact HB.out | apply below_alloc | apply pw_below_drewN | apply below_drew1 | refine below_set ?_ GE448.out | refine below_set ?_ GE449.out | refine below_set ?_ GE463.out) | exact HB.out))))
         have n1_ := Aside0.mk (blk_below (g := gb448) (o := .cells #[.int .i64 a0_0, .int .i64 a0_1, .int .u64 a0_2, .int .u64 a0_3, .int .u64 a0_4, .string a0_5] 24 (0, 0)) (by (with_reducible repeat (first | refine blk_drewN ?_ _ | refine blk_drew ?_ | refine blk_alloc ?_ _)); exact BK448.out) hb)
         have n2_ := Aside0.mk (blk_below (g := gb449) (o := .cells #[.int .u64 a1_0, .int .u64 a1_1, .int .u64 a1_2, .string a1_3, .string a1_4] 26 (0, 0)) (by (with_reducible repeat (first | refine blk_drewN ?_ _ | refine blk_drew ?_ | refine blk_alloc ?_ _)); exact BK449.out) hb)
         have n3_ := Aside0.mk (blk_below (g := gb463) (o := .cells #[.int .i64 t457, .int .i64 t458, .int .u64 t459, .int .u64 t460, .int .u64 t461, .string t462] 24 (0, 0)) (by (with_reducible repeat (first | refine blk_drewN ?_ _ | refine blk_drew ?_ | refine blk_alloc ?_ _)); exact BK463.out) hb)
         have n4_ := Aside0.mk (below_step (by repeat (first | (with_reducible first | exact HB.out | apply below_alloc | apply pw_below_drewN | apply below_drew1 | refine below_set ?_ GE448.out | refine below_set ?_ GE449.out | refine below_set ?_ GE463.out) | exact HB.out)) hb)
         clear BK448
         clear BK449
         clear BK463
         clear HB
         clear HO466
         have HO469 := n0_
         have BK448 := n1_
         have BK449 := n2_
         have BK463 := n3_
         have HB := n4_
         clear n0_ n1_ n2_ n3_ n4_
         clear hb ho54
         obtain ⟨Ao55, co55, eo55⟩ := Kd.N_slice HO469.out
         (first | subst eo55 | (injection eo55 with f1_ f2_ f3_; have f4_ := f1_.symm; have f5_ := f3_.symm; clear f1_ f2_ f3_; subst f4_; subst f5_))
         refine hK.out _ _ ⟨(blk_cell BK448.out 0).trans rfl, (blk_cell BK448.out 1).trans rfl, (blk_cell BK448.out 2).trans rfl, (blk_cell BK448.out 3).trans rfl, (blk_cell BK448.out 4).trans rfl, (blk_cell BK448.out 5).trans rfl, (blk_cell BK449.out 0).trans rfl, (blk_cell BK449.out 1).trans rfl, (blk_cell BK449.out 2).trans rfl, (blk_cell BK449.out 3).trans rfl, (blk_cell BK449.out 4).trans rfl, (blk_cell BK463.out 0).trans rfl, (blk_cell BK463.out 1).trans rfl, (blk_cell BK463.out 2).trans rfl, (blk_cell BK463.out 3).trans rfl, (blk_cell BK463.out 4).trans rfl, (blk_cell BK463.out 5).trans rfl⟩ (fun hHeld => ?_)
         clear hK K
         refine norm_ (a' := ?_) ?_ ?_
         rotate_left
         ·
          show Act.put _ (some 29) _ = _
          simp only [Act.put, List.setIfInBounds_toArray, List.set_cons_zero, List.set_cons_succ, i64_w, i32_w]
          rfl
         refine one_ (i := 5) (N := some 32) #[true, true, true, true, true, true, true, true, true, false, false, false, false, false, false, false, false, false, false, false, false, false, false, false, false] rfl rfl (one_of HT_.out (by kernel_rfl)) (by decide) (fun K hK => ?_)
         refine goes_ Tryd.func37 (by kernel_rfl) rfl #[.slice Ao55 y467.length co55, .agg #[.int .u64 a1_0, .int .u64 a1_1, .int .u64 a1_2, .string a1_3, .string a1_4], .bool true] (by rfl) rfl rfl (by (try simp only [List.map_toArray, List.map_cons, List.map_nil]); first | done | rfl | (simp only [List.length_drop, List.length_take]; rfl)) ?_
         with_reducible refine (impl_TermsHold.calls _ _ y467 a1_0 a1_1 a1_2 a1_3 a1_4 true t470 _ ?side1 ?side2 ?side3 A36.out).mono ?_
         (case side1 => repeat (first | exact (Kd.N_reads' HO469.out).2.2 | (with_reducible refine Kd.C_alloc ?_ _) | (with_reducible refine Kd.C_drewN ?_ _) | (with_reducible refine Kd.C_drew ?_)))
         (case side2 => exact (Kd.N_reads' HO469.out).2.1)
         (case side3 => exact HStd.out.below (by repeat (first | (with_reducible first | exact HB.out | apply below_alloc | apply pw_below_drewN | apply below_drew1 | refine below_set ?_ GE448.out | refine below_set ?_ GE449.out | refine below_set ?_ GE463.out) | exact HB.out)))
         rintro e w56 ⟨rfl, hb⟩
         refine ⟨_, rfl, ?_⟩
         have n0_ := Aside0.mk (Kd.N_below (by (with_reducible repeat (first | apply Kd.N_alloc | apply Kd.N_drewN | apply Kd.N_drew)); exact HO469.out) hb)
         have n1_ := Aside0.mk (blk_below (g := gb448) (o := .cells #[.int .i64 a0_0, .int .i64 a0_1, .int .u64 a0_2, .int .u64 a0_3, .int .u64 a0_4, .string a0_5] 24 (0, 0)) (by (with_reducible repeat (first | refine blk_drewN ?_ _ | refine blk_drew ?_ | refine blk_alloc ?_ _)); exact BK448.out) hb)
         have n2_ := Aside0.mk (blk_below (g := gb449) (o := .cells #[.int .u64 a1_0, .int .u64 a1_1, .int .u64 a1_2, .string a1_3, .string a1_4] 26 (0, 0)) (by (with_reducible repeat (first | refine blk_drewN ?_ _ | refine blk_drew ?_ | refine blk_alloc ?_ _)); exact BK449.out) hb)
         have n3_ := Aside0.mk (blk_below (g := gb463) (o := .cells #[.int .i64 t457, .int .i64 t458, .int .u64 t459, .int .u64 t460, .int .u64 t461, .string t462] 24 (0, 0)) (by (with_reducible repeat (first | refine blk_drewN ?_ _ | refine blk_drew ?_ | refine blk_alloc ?_ _)); exact BK463.out) hb)
         have n4_ := Aside0.mk (below_step (by repeat (first | (with_reducible first | exact HB.out | apply below_alloc | apply pw_below_drewN | apply below_drew1 | refine below_set ?_ GE448.out | refine below_set ?_ GE449.out | refine below_set ?_ GE463.out) | exact HB.out)) hb)
         clear HO469
         clear BK448
         clear BK449
         clear BK463
         clear HB
         have HO469 := n0_
         have BK448 := n1_
         have BK449 := n2_
         have BK463 := n3_
         have HB := n4_
         clear n0_ n1_ n2_ n3_ n4_
         (try clear hb)
         (try clear hb2)
         (try clear hk)
         (try clear hi)
         refine hK.out _ _ ⟨(blk_cell BK448.out 0).trans rfl, (blk_cell BK448.out 1).trans rfl, (blk_cell BK448.out 2).trans rfl, (blk_cell BK448.out 3).trans rfl, (blk_cell BK448.out 4).trans rfl, (blk_cell BK448.out 5).trans rfl, (blk_cell BK449.out 0).trans rfl, (blk_cell BK449.out 1).trans rfl, (blk_cell BK449.out 2).trans rfl, (blk_cell BK449.out 3).trans rfl, (blk_cell BK449.out 4).trans rfl, (blk_cell BK463.out 0).trans rfl, (blk_cell BK463.out 1).trans rfl, (blk_cell BK463.out 2).trans rfl, (blk_cell BK463.out 3).trans rfl, (blk_cell BK463.out 4).trans rfl, (blk_cell BK463.out 5).trans rfl⟩ (fun hHeld => ?_)
         clear hK K
         refine norm_ (a' := ?_) ?_ ?_
         rotate_left
         ·
          show Act.put _ (some 32) _ = _
          simp only [Act.put, List.setIfInBounds_toArray, List.set_cons_zero, List.set_cons_succ, i64_w, i32_w]
          rfl
         refine pure_ (i := 9) (N := some 36) (v := ?_) (a' := ?_) #[true, true, true, true, true, true, true, true, true, true, false, false, false, false, false, false, false, false, false, false, false, false, false, false, false] rfl rfl (any_of HT_.out (by kernel_rfl)) (fun _ _ _ h => h) (Or.inl ⟨by rfl, ?_⟩) ?_ ?_
         rotate_left
         ·
          intro w'
          go_simp
          with_reducible rfl
         rotate_left
         ·
          simp only [Act.put, List.setIfInBounds_toArray, List.set_cons_zero, List.set_cons_succ, i64_w, i32_w]
          rfl
         refine pure_ (i := 10) (N := some 37) (v := undef) (a' := ?_) #[true, true, true, true, true, true, true, true, true, true, true, false, false, false, false, false, false, false, false, false, false, false, false, false, false] rfl rfl (any_of HT_.out (by kernel_rfl)) (fun _ _ _ h => h) (Or.inr ⟨by rfl, rfl⟩) ?_ ?_
         rotate_left
         ·
          simp only [Act.put, List.setIfInBounds_toArray, List.set_cons_zero, List.set_cons_succ, i64_w, i32_w]
          rfl
         refine pure_ (i := 11) (N := some 38) (v := undef) (a' := ?_) #[true, true, true, true, true, true, true, true, true, true, true, true, false, false, false, false, false, false, false, false, false, false, false, false, false] rfl rfl (any_of HT_.out (by kernel_rfl)) (fun _ _ _ h => h) (Or.inr ⟨by rfl, rfl⟩) ?_ ?_
         rotate_left
         ·
          simp only [Act.put, List.setIfInBounds_toArray, List.set_cons_zero, List.set_cons_succ, i64_w, i32_w]
          rfl
         refine pure_ (i := 12) (N := some 39) (v := undef) (a' := ?_) #[true, true, true, true, true, true, true, true, true, true, true, true, true, false, false, false, false, false, false, false, false, false, false, false, false] rfl rfl (any_of HT_.out (by kernel_rfl)) (fun _ _ _ h => h) (Or.inr ⟨by rfl, rfl⟩) ?_ ?_
         rotate_left
         ·
          simp only [Act.put, List.setIfInBounds_toArray, List.set_cons_zero, List.set_cons_succ, i64_w, i32_w]
          rfl
         refine pure_ (i := 13) (N := some 40) (v := ?_) (a' := ?_) #[true, true, true, true, true, true, true, true, true, true, true, true, true, true, false, false, false, false, false, false, false, false, false, false, false] rfl rfl (any_of HT_.out (by kernel_rfl)) (fun _ _ _ h => h) (Or.inl ⟨by rfl, ?_⟩) ?_ ?_
         rotate_left
         ·
          intro w'
          go_simp
          with_reducible rfl
         rotate_left
         ·
          simp only [Act.put, List.setIfInBounds_toArray, List.set_cons_zero, List.set_cons_succ, i64_w, i32_w]
          rfl
         refine one_ (i := 14) (N := some 41) #[true, true, true, true, true, true, true, true, true, true, true, true, true, true, true, false, false, false, false, false, false, false, false, false, false] rfl rfl (one_of HT_.out (by kernel_rfl)) (by decide) (fun K hK => ?_)
         refine goes_ Tryd.func18 (by kernel_rfl) rfl #[.agg #[.int .i64 a0_0, .int .i64 a0_1, .int .u64 a0_2, .int .u64 a0_3, .int .u64 a0_4, .string a0_5], .agg #[.int .u64 a1_0, .int .u64 a1_1, .int .u64 a1_2, .string a1_3, .string a1_4], .bool true] (by rfl) rfl rfl (by (try simp only [List.map_toArray, List.map_cons, List.map_nil]); first | done | rfl | (simp only [List.length_drop, List.length_take]; rfl)) ?_
         with_reducible refine (impl_TermHolds.calls a0_0 a0_1 a0_2 a0_3 a0_4 a0_5 a1_0 a1_1 a1_2 a1_3 a1_4 true t471 _ ?side1 A38.out).mono ?_
         (case side1 => exact HStd.out.below (by repeat (first | (with_reducible first | exact HB.out | apply below_alloc | apply pw_below_drewN | apply below_drew1 | refine below_set ?_ GE448.out | refine below_set ?_ GE449.out | refine below_set ?_ GE463.out) | exact HB.out)))
         rintro e w57 ⟨rfl, hb⟩
         refine ⟨_, rfl, ?_⟩
         have n0_ := Aside0.mk (Kd.N_below (by (with_reducible repeat (first | apply Kd.N_alloc | apply Kd.N_drewN | apply Kd.N_drew)); exact HO469.out) hb)
         have n1_ := Aside0.mk (blk_below (g := gb448) (o := .cells #[.int .i64 a0_0, .int .i64 a0_1, .int .u64 a0_2, .int .u64 a0_3, .int .u64 a0_4, .string a0_5] 24 (0, 0)) (by (with_reducible repeat (first | refine blk_drewN ?_ _ | refine blk_drew ?_ | refine blk_alloc ?_ _)); exact BK448.out) hb)
         have n2_ := Aside0.mk (blk_below (g := gb449) (o := .cells #[.int .u64 a1_0, .int .u64 a1_1, .int .u64 a1_2, .string a1_3, .string a1_4] 26 (0, 0)) (by (with_reducible repeat (first | refine blk_drewN ?_ _ | refine blk_drew ?_ | refine blk_alloc ?_ _)); exact BK449.out) hb)
         have n3_ := Aside0.mk (blk_below (g := gb463) (o := .cells #[.int .i64 t457, .int .i64 t458, .int .u64 t459, .int .u64 t460, .int .u64 t461, .string t462] 24 (0, 0)) (by (with_reducible repeat (first | refine blk_drewN ?_ _ | refine blk_drew ?_ | refine blk_alloc ?_ _)); exact BK463.out) hb)
         have n4_ := Aside0.mk (below_step (by repeat (first | (with_reducible first | exact HB.out | apply below_alloc | apply pw_below_drewN | apply below_drew1 | refine below_set ?_ GE448.out | refine below_set ?_ GE449.out | refine below_set ?_ GE463.out) | exact HB.out)) hb)
         clear HO469
         clear BK448
         clear BK449
         clear BK463
         clear HB
         have HO469 := n0_
         have BK448 := n1_
         have BK449 := n2_
         have BK463 := n3_
         have HB := n4_
         clear n0_ n1_ n2_ n3_ n4_
         (try clear hb)
         (try clear hb2)
         (try clear hk)
         (try clear hi)
         refine hK.out _ _ ⟨(blk_cell BK448.out 0).trans rfl, (blk_cell BK448.out 1).trans rfl, (blk_cell BK448.out 2).trans rfl, (blk_cell BK448.out 3).trans rfl, (blk_cell BK448.out 4).trans rfl, (blk_cell BK448.out 5).trans rfl, (blk_cell BK449.out 0).trans rfl, (blk_cell BK449.out 1).trans rfl, (blk_cell BK449.out 2).trans rfl, (blk_cell BK449.out 3).trans rfl, (blk_cell BK449.out 4).trans rfl, (blk_cell BK463.out 0).trans rfl, (blk_cell BK463.out 1).trans rfl, (blk_cell BK463.out 2).trans rfl, (blk_cell BK463.out 3).trans rfl, (blk_cell BK463.out 4).trans rfl, (blk_cell BK463.out 5).trans rfl⟩ (fun hHeld => ?_)
         clear hK K
         refine norm_ (a' := ?_) ?_ ?_
         rotate_left
         ·
          show Act.put _ (some 41) _ = _
          simp only [Act.put, List.setIfInBounds_toArray, List.set_cons_zero, List.set_cons_succ, i64_w, i32_w]
          rfl
         refine pure_ (i := 15) (N := some 42) (v := ?_) (a' := ?_) #[true, true, true, true, true, true, true, true, true, true, true, true, true, true, true, true, false, false, false, false, false, false, false, false, false] rfl rfl (any_of HT_.out (by kernel_rfl)) (fun _ _ _ h => h) (Or.inl ⟨by rfl, ?_⟩) ?_ ?_
         rotate_left
         ·
          intro w'
          go_simp
          with_reducible rfl
         rotate_left
         ·
          simp only [Act.put, List.setIfInBounds_toArray, List.set_cons_zero, List.set_cons_succ, i64_w, i32_w]
          rfl
         refine pure_ (i := 16) (N := some 43) (v := ?_) (a' := ?_) #[true, true, true, true, true, true, true, true, true, true, true, true, true, true, true, true, true, false, false, false, false, false, false, false, false] rfl rfl (any_of HT_.out (by kernel_rfl)) (fun _ _ _ h => h) (Or.inl ⟨by rfl, ?_⟩) ?_ ?_
         rotate_left
         ·
          intro w'
          go_simp
          with_reducible rfl
         rotate_left
         ·
          simp only [Act.put, List.setIfInBounds_toArray, List.set_cons_zero, List.set_cons_succ, i64_w, i32_w]
          rfl
         refine pure_ (i := 21) (N := some 48) (v := ?_) (a' := ?_) #[true, true, true, true, true, true, true, true, true, true, true, true, true, true, true, true, true, false, false, false, false, true, false, false, false] rfl rfl (any_of HT_.out (by kernel_rfl)) (fun _ _ _ h => h) (Or.inl ⟨by rfl, ?_⟩) ?_ ?_
         rotate_left
         ·
          intro w'
          go_simp
          with_reducible rfl
         rotate_left
         ·
          simp only [Act.put, List.setIfInBounds_toArray, List.set_cons_zero, List.set_cons_succ, i64_w, i32_w]
          rfl
         refine take_ (i := 17) (N := some 44) (v := ?_) (a' := ?_) #[true, true, true, true, true, true, true, true, true, true, true, true, true, true, true, true, true, true, false, false, false, true, false, false, false] rfl rfl (take_ofW HT_.out HW_.out (by kernel_rfl)) (fun _ _ _ h => h) (Or.inl ⟨by rfl, ?_⟩) hHeld ?_ ?_
         rotate_left
         ·
          rintro w' ⟨s0, s1, s2, s3, s4, s5, s6, s7, s8, s9, s10, s11, s12, s13, s14, s15, s16⟩
          go_simp
          with_reducible rfl
         rotate_left
         ·
          simp only [Act.put, List.setIfInBounds_toArray, List.set_cons_zero, List.set_cons_succ, i64_w, i32_w]
          rfl
         refine take_ (i := 20) (N := some 47) (v := ?_) (a' := ?_) #[true, true, true, true, true, true, true, true, true, true, true, true, true, true, true, true, true, true, false, false, true, true, false, false, false] rfl rfl (take_ofW HT_.out HW_.out (by kernel_rfl)) (fun _ _ _ h => h) (Or.inl ⟨by rfl, ?_⟩) hHeld ?_ ?_
         rotate_left
         ·
          rintro w' ⟨s0, s1, s2, s3, s4, s5, s6, s7, s8, s9, s10, s11, s12, s13, s14, s15, s16⟩
          go_simp
          with_reducible rfl
         rotate_left
         ·
          simp only [Act.put, List.setIfInBounds_toArray, List.set_cons_zero, List.set_cons_succ, i64_w, i32_w]
          rfl
         refine one_ (i := 18) (N := some 45) #[true, true, true, true, true, true, true, true, true, true, true, true, true, true, true, true, true, true, true, false, true, true, false, false, false] rfl rfl (one_of HT_.out (by kernel_rfl)) (by decide) (fun K hK => ?_)
         refine Kd.R_lit_step k24 _ 24 ?hg (N := 45) ?hd (xs := ([(⟨t457, t458, t459, t460, t461, t462⟩ : S24)] : List (S24))) (inner := [.int .i64 t457, .int .i64 t458, .int .u64 t459, .int .u64 t460, .int .u64 t461, .string t462]) (ok := fun _ => True) (okp := fun _ => True) ?hr ?hp (fun _ hk => hk) trivial (Below.refl _ _) (Nat.le_refl _) (by simp) ?_; (case hd => rfl); (case hg => rfl); (case hr => first | (go_simp; done) | (go_simp; rfl) | (go_simp; simp [u8w]; done)); (case hp => exact (Reps.c6 (show Kd.M k24 _ _ _ (⟨t457, t458, t459, t460, t461, t462⟩ : S24) [.int .i64 t457, .int .i64 t458, .int .u64 t459, .int .u64 t460, .int .u64 t461, .string t462] from (k24_mkM _ _ _ (⟨t457, t458, t459, t460, t461, t462⟩ : S24) )) (Reps.none _ _)))
         intro v473 w58 ho59 hb hg_ hnew_
         clear hg_ hnew_
         (first | rw [← Ny472.out] at ho59 | (simp only [Int.reduceToNat] at ho59; rw [← Ny472.out] at ho59))
         have n0_ := Aside0.mk (Kd.N_elder' (by (with_reducible repeat (first | apply Kd.N_alloc | apply Kd.N_drewN | apply Kd.N_drew)); exact HO469.out) (Kd.R_base ho59) hb)
         have n1_ := Aside0.mk (Kd.R_lower (Kd.R_newB (Kd.R_newB ho59 (g := gb448) (o := .cells #[.int .i64 a0_0, .int .i64 a0_1, .int .u64 a0_2, .int .u64 a0_3, .int .u64 a0_4, .string a0_5] 24 (0, 0)) (by (with_reducible repeat (first | refine blk_drewN ?_ _ | refine blk_drew ?_ | refine blk_alloc ?_ _)); exact BK448.out)) (g := gb463) (o := .cells #[.int .i64 t457, .int .i64 t458, .int .u64 t459, .int .u64 t460, .int .u64 t461, .string t462] 24 (0, 0)) (by (with_reducible repeat (first | refine blk_drewN ?_ _ | refine blk_drew ?_ | refine blk_alloc ?_ _)); exact BK463.out)) (below_size (by repeat (first | (with_reducible first | exact HB.out | apply below_alloc | apply pw_below_drewN | apply below_drew1 | refine below_set ?_ GE448.out | refine below_set ?_ GE449.out | refine below_set ?_ GE463.out) | exact HB.out))))
         have n2_ := Aside0.mk (blk_below (g := gb448) (o := .cells #[.int .i64 a0_0, .int .i64 a0_1, .int .u64 a0_2, .int .u64 a0_3, .int .u64 a0_4, .string a0_5] 24 (0, 0)) (by (with_reducible repeat (first | refine blk_drewN ?_ _ | refine blk_drew ?_ | refine blk_alloc ?_ _)); exact BK448.out) hb)
         have n3_ := Aside0.mk (blk_below (g := gb449) (o := .cells #[.int .u64 a1_0, .int .u64 a1_1, .int .u64 a1_2, .string a1_3, .string a1_4] 26 (0, 0)) (by (with_reducible repeat (first | refine blk_drewN ?_ _ | refine blk_drew ?_ | refine blk_alloc ?_ _)); exact BK449.out) hb)
         have n4_ := Aside0.mk (blk_below (g := gb463) (o := .cells #[.int .i64 t457, .int .i64 t458, .int .u64 t459, .int .u64 t460, .int .u64 t461, .string t462] 24 (0, 0)) (by (with_reducible repeat (first | refine blk_drewN ?_ _ | refine blk_drew ?_ | refine blk_alloc ?_ _)); exact BK463.out) hb)
         have n5_ := Aside0.mk (below_step (by repeat (first | (with_reducible first | exact HB.out | apply below_alloc | apply pw_below_drewN | apply below_drew1 | refine below_set ?_ GE448.out | refine below_set ?_ GE449.out | refine below_set ?_ GE463.out) | exact HB.out)) hb)
         clear HO469
         clear BK448
         clear BK449
         clear BK463
         clear HB
         have HO469 := n0_
         have HO474 := n1_
         have BK448 := n2_
         have BK449 := n3_
         have BK463 := n4_
         have HB := n5_
         clear n0_ n1_ n2_ n3_ n4_ n5_
         clear hb ho59
         obtain ⟨Ao60, co60, eo60⟩ := Kd.R_slice HO474.out
         (first | subst eo60 | (injection eo60 with f1_ f2_ f3_; have f4_ := f1_.symm; have f5_ := f3_.symm; clear f1_ f2_ f3_; subst f4_; subst f5_))
         refine hK.out _ _ ⟨(blk_cell BK448.out 0).trans rfl, (blk_cell BK448.out 1).trans rfl, (blk_cell BK448.out 2).trans rfl, (blk_cell BK448.out 3).trans rfl, (blk_cell BK448.out 4).trans rfl, (blk_cell BK448.out 5).trans rfl, (blk_cell BK449.out 0).trans rfl, (blk_cell BK449.out 1).trans rfl, (blk_cell BK449.out 2).trans rfl, (blk_cell BK449.out 3).trans rfl, (blk_cell BK449.out 4).trans rfl, (blk_cell BK463.out 0).trans rfl, (blk_cell BK463.out 1).trans rfl, (blk_cell BK463.out 2).trans rfl, (blk_cell BK463.out 3).trans rfl, (blk_cell BK463.out 4).trans rfl, (blk_cell BK463.out 5).trans rfl⟩ (fun hHeld => ?_)
         clear hK K
         refine norm_ (a' := ?_) ?_ ?_
         rotate_left
         ·
          show Act.put _ (some 45) _ = _
          simp only [Act.put, List.setIfInBounds_toArray, List.set_cons_zero, List.set_cons_succ, i64_w, i32_w]
          rfl
         refine one_ (i := 19) (N := some 46) #[true, true, true, true, true, true, true, true, true, true, true, true, true, true, true, true, true, true, true, true, true, true, false, false, false] rfl rfl (one_of HT_.out (by kernel_rfl)) (by decide) (fun K hK => ?_)
         refine Kd.N_lit_step (Kd.slice 24 k24) _ 42 ?hg (N' := 46) ?hd (xs := ([y472] : List (List (S24)))) (inner := [.slice Ao60 y472.length co60]) (ok := (fun k_ => some k_ ≠ (.slice Ao55 y467.length co55 : Value).ownBlock ∧ k_ ≠ gb448 ∧ k_ ≠ gb449 ∧ k_ ≠ gb463)) (okp := (fun k_ => some k_ ≠ (.slice Ao55 y467.length co55 : Value).ownBlock ∧ k_ ≠ gb448 ∧ k_ ≠ gb449 ∧ k_ ≠ gb463)) ?hr ?hp (fun _ hk => hk) ((show ∀ k_, w58.heap.size ≤ k_ → (fun k_ => some k_ ≠ (.slice Ao55 y467.length co55 : Value).ownBlock ∧ k_ ≠ gb448 ∧ k_ ≠ gb449 ∧ k_ ≠ gb463) k_ from fun k_ hk => ⟨Kd.fresh' (Kd.N_lt (by (with_reducible repeat (first | apply Kd.N_alloc | apply Kd.N_drewN | apply Kd.N_drew)); exact HO469.out)) k_ hk, Kd.freshB (g := gb448) (o := .cells #[.int .i64 a0_0, .int .i64 a0_1, .int .u64 a0_2, .int .u64 a0_3, .int .u64 a0_4, .string a0_5] 24 (0, 0)) (by (with_reducible repeat (first | refine blk_drewN ?_ _ | refine blk_drew ?_ | refine blk_alloc ?_ _)); exact BK448.out) k_ hk, Kd.freshB (g := gb449) (o := .cells #[.int .u64 a1_0, .int .u64 a1_1, .int .u64 a1_2, .string a1_3, .string a1_4] 26 (0, 0)) (by (with_reducible repeat (first | refine blk_drewN ?_ _ | refine blk_drew ?_ | refine blk_alloc ?_ _)); exact BK449.out) k_ hk, Kd.freshB (g := gb463) (o := .cells #[.int .i64 t457, .int .i64 t458, .int .u64 t459, .int .u64 t460, .int .u64 t461, .string t462] 24 (0, 0)) (by (with_reducible repeat (first | refine blk_drewN ?_ _ | refine blk_drew ?_ | refine blk_alloc ?_ _)); exact BK463.out) k_ hk⟩) _ (Nat.le_refl _)) (Below.refl _ _) (Nat.le_refl _) (by simp) ?_; (case hd => rfl); (case hg => rfl); (case hr => first | (go_simp; done) | (go_simp; rfl) | (go_simp; simp [u8w]; done)); (case hp => exact (Reps.one (show Kd.FK (Kd.slice 24 k24) _ _ y472 [.slice Ao60 y472.length co60] from (Kd.FK_slice_mk (Kd.R_reads' (Kd.R_mono (ok' := (fun k_ => some k_ ≠ (.slice Ao55 y467.length co55 : Value).ownBlock ∧ k_ ≠ gb448 ∧ k_ ≠ gb449 ∧ k_ ≠ gb463)) (Kd.R_types (Kd.R_apart' (HO474.out) (Kd.N_typed HO469.out) (by decide)) BK449.out (by decide)) (fun k_ hk => ⟨hk.1.2, ⟨hk.1.1.1.2, ⟨hk.2, hk.1.1.2⟩⟩⟩))).2.1 (Kd.R_F (Kd.R_mono (ok' := (fun k_ => some k_ ≠ (.slice Ao55 y467.length co55 : Value).ownBlock ∧ k_ ≠ gb448 ∧ k_ ≠ gb449 ∧ k_ ≠ gb463)) (Kd.R_types (Kd.R_apart' (HO474.out) (Kd.N_typed HO469.out) (by decide)) BK449.out (by decide)) (fun k_ hk => ⟨hk.1.2, ⟨hk.1.1.1.2, ⟨hk.2, hk.1.1.2⟩⟩⟩))))) (Reps.none _ _)))
         intro v476 w61 ho62 hb hg_ hnew_
         clear hg_ hnew_
         (first | rw [← Ny475.out] at ho62 | (simp only [Int.reduceToNat] at ho62; rw [← Ny475.out] at ho62))
         have n0_ := Aside0.mk (Kd.N_elder' (by (with_reducible repeat (first | apply Kd.N_alloc | apply Kd.N_drewN | apply Kd.N_drew)); exact HO469.out) (Kd.N_base ho62) hb)
         have n1_ := Aside0.mk (Kd.N_lower ho62 (below_size (by repeat (first | (with_reducible first | exact HB.out | apply below_alloc | apply pw_below_drewN | apply below_drew1 | refine below_set ?_ GE448.out | refine below_set ?_ GE449.out | refine below_set ?_ GE463.out) | exact HB.out))))
         have n2_ := Aside0.mk (blk_below (g := gb448) (o := .cells #[.int .i64 a0_0, .int .i64 a0_1, .int .u64 a0_2, .int .u64 a0_3, .int .u64 a0_4, .string a0_5] 24 (0, 0)) (by (with_reducible repeat (first | refine blk_drewN ?_ _ | refine blk_drew ?_ | refine blk_alloc ?_ _)); exact BK448.out) hb)
         have n3_ := Aside0.mk (blk_below (g := gb449) (o := .cells #[.int .u64 a1_0, .int .u64 a1_1, .int .u64 a1_2, .string a1_3, .string a1_4] 26 (0, 0)) (by (with_reducible repeat (first | refine blk_drewN ?_ _ | refine blk_drew ?_ | refine blk_alloc ?_ _)); exact BK449.out) hb)
         have n4_ := Aside0.mk (blk_below (g := gb463) (o := .cells #[.int .i64 t457, .int .i64 t458, .int .u64 t459, .int .u64 t460, .int .u64 t461, .string t462] 24 (0, 0)) (by (with_reducible repeat (first | refine blk_drewN ?_ _ | refine blk_drew ?_ | refine blk_alloc ?_ _)); exact BK463.out) hb)
         have n5_ := Aside0.mk (below_step (by repeat (first | (with_reducible first | exact HB.out | apply below_alloc | apply pw_below_drewN | apply below_drew1 | refine below_set ?_ GE448.out | refine below_set ?_ GE449.out | refine below_set ?_ GE463.out) | exact HB.out)) hb)
         clear HO469
         clear BK448
         clear BK449
         clear BK463
         clear HB
         clear HO474
         have HO469 := n0_
         have HO477 := n1_
         have BK448 := n2_
         have BK449 := n3_
         have BK463 := n4_
         have HB := n5_
         clear n0_ n1_ n2_ n3_ n4_ n5_
         clear hb ho62
         obtain ⟨Ao63, co63, eo63⟩ := Kd.N_slice HO477.out
         (first | subst eo63 | (injection eo63 with f1_ f2_ f3_; have f4_ := f1_.symm; have f5_ := f3_.symm; clear f1_ f2_ f3_; subst f4_; subst f5_))
         refine hK.out _ _ ⟨(blk_cell BK448.out 0).trans rfl, (blk_cell BK448.out 1).trans rfl, (blk_cell BK448.out 2).trans rfl, (blk_cell BK448.out 3).trans rfl, (blk_cell BK448.out 4).trans rfl, (blk_cell BK448.out 5).trans rfl, (blk_cell BK449.out 0).trans rfl, (blk_cell BK449.out 1).trans rfl, (blk_cell BK449.out 2).trans rfl, (blk_cell BK449.out 3).trans rfl, (blk_cell BK449.out 4).trans rfl, (blk_cell BK463.out 0).trans rfl, (blk_cell BK463.out 1).trans rfl, (blk_cell BK463.out 2).trans rfl, (blk_cell BK463.out 3).trans rfl, (blk_cell BK463.out 4).trans rfl, (blk_cell BK463.out 5).trans rfl⟩ (fun hHeld => ?_)
         clear hK K
         refine norm_ (a' := ?_) ?_ ?_
         rotate_left
         ·
          show Act.put _ (some 46) _ = _
          simp only [Act.put, List.setIfInBounds_toArray, List.set_cons_zero, List.set_cons_succ, i64_w, i32_w]
          rfl
         refine one_ (i := 22) (N := some 49) #[true, true, true, true, true, true, true, true, true, true, true, true, true, true, true, true, true, true, true, true, true, true, true, false, false] rfl rfl (one_of HT_.out (by kernel_rfl)) (by decide) (fun K hK => ?_)
         refine goes_ Tryd.func37 (by kernel_rfl) rfl #[.slice Ao63 y475.length co63, .agg #[.int .u64 a1_0, .int .u64 a1_1, .int .u64 a1_2, .string a1_3, .string a1_4], .bool true] (by rfl) rfl rfl (by (try simp only [List.map_toArray, List.map_cons, List.map_nil]); first | done | rfl | (simp only [List.length_drop, List.length_take]; rfl)) ?_
         with_reducible refine (impl_TermsHold.calls _ _ y475 a1_0 a1_1 a1_2 a1_3 a1_4 true t478 _ ?side1 ?side2 ?side3 A40.out).mono ?_
         (case side1 => repeat (first | exact (Kd.N_reads' HO477.out).2.2 | (with_reducible refine Kd.C_alloc ?_ _) | (with_reducible refine Kd.C_drewN ?_ _) | (with_reducible refine Kd.C_drew ?_)))
         (case side2 => exact (Kd.N_reads' HO477.out).2.1)
         (case side3 => exact HStd.out.below (by repeat (first | (with_reducible first | exact HB.out | apply below_alloc | apply pw_below_drewN | apply below_drew1 | refine below_set ?_ GE448.out | refine below_set ?_ GE449.out | refine below_set ?_ GE463.out) | exact HB.out)))
         rintro e w64 ⟨rfl, hb⟩
         refine ⟨_, rfl, ?_⟩
         have n0_ := Aside0.mk (Kd.N_below (by (with_reducible repeat (first | apply Kd.N_alloc | apply Kd.N_drewN | apply Kd.N_drew)); exact HO469.out) hb)
         have n1_ := Aside0.mk (Kd.N_below (by (with_reducible repeat (first | apply Kd.N_alloc | apply Kd.N_drewN | apply Kd.N_drew)); exact HO477.out) hb)
         have n2_ := Aside0.mk (blk_below (g := gb448) (o := .cells #[.int .i64 a0_0, .int .i64 a0_1, .int .u64 a0_2, .int .u64 a0_3, .int .u64 a0_4, .string a0_5] 24 (0, 0)) (by (with_reducible repeat (first | refine blk_drewN ?_ _ | refine blk_drew ?_ | refine blk_alloc ?_ _)); exact BK448.out) hb)
         have n3_ := Aside0.mk (blk_below (g := gb449) (o := .cells #[.int .u64 a1_0, .int .u64 a1_1, .int .u64 a1_2, .string a1_3, .string a1_4] 26 (0, 0)) (by (with_reducible repeat (first | refine blk_drewN ?_ _ | refine blk_drew ?_ | refine blk_alloc ?_ _)); exact BK449.out) hb)
         have n4_ := Aside0.mk (blk_below (g := gb463) (o := .cells #[.int .i64 t457, .int .i64 t458, .int .u64 t459, .int .u64 t460, .int .u64 t461, .string t462] 24 (0, 0)) (by (with_reducible repeat (first | refine blk_drewN ?_ _ | refine blk_drew ?_ | refine blk_alloc ?_ _)); exact BK463.out) hb)
         have n5_ := Aside0.mk (below_step (by repeat (first | (with_reducible first | exact HB.out | apply below_alloc | apply pw_below_drewN | apply below_drew1 | refine below_set ?_ GE448.out | refine below_set ?_ GE449.out | refine below_set ?_ GE463.out) | exact HB.out)) hb)
         clear HO469
         clear HO477
         clear BK448
         clear BK449
         clear BK463
         clear HB
         have HO469 := n0_
         have HO477 := n1_
         have BK448 := n2_
         have BK449 := n3_
         have BK463 := n4_
         have HB := n5_
         clear n0_ n1_ n2_ n3_ n4_ n5_
         (try clear hb)
         (try clear hb2)
         (try clear hk)
         (try clear hi)
         refine hK.out _ _ ⟨(blk_cell BK448.out 0).trans rfl, (blk_cell BK448.out 1).trans rfl, (blk_cell BK448.out 2).trans rfl, (blk_cell BK448.out 3).trans rfl, (blk_cell BK448.out 4).trans rfl, (blk_cell BK448.out 5).trans rfl, (blk_cell BK449.out 0).trans rfl, (blk_cell BK449.out 1).trans rfl, (blk_cell BK449.out 2).trans rfl, (blk_cell BK449.out 3).trans rfl, (blk_cell BK449.out 4).trans rfl, (blk_cell BK463.out 0).trans rfl, (blk_cell BK463.out 1).trans rfl, (blk_cell BK463.out 2).trans rfl, (blk_cell BK463.out 3).trans rfl, (blk_cell BK463.out 4).trans rfl, (blk_cell BK463.out 5).trans rfl⟩ (fun hHeld => ?_)
         clear hK K
         refine norm_ (a' := ?_) ?_ ?_
         rotate_left
         ·
          show Act.put _ (some 49) _ = _
          simp only [Act.put, List.setIfInBounds_toArray, List.set_cons_zero, List.set_cons_succ, i64_w, i32_w]
          rfl
         refine pure_ (i := 23) (N := some 50) (v := ?_) (a' := ?_) #[true, true, true, true, true, true, true, true, true, true, true, true, true, true, true, true, true, true, true, true, true, true, true, true, false] rfl rfl (any_of HT_.out (by kernel_rfl)) (fun _ _ _ h => h) (Or.inl ⟨by rfl, ?_⟩) ?_ ?_
         rotate_left
         ·
          intro w'
          go_simp
          with_reducible rfl
         rotate_left
         ·
          simp only [Act.put, List.setIfInBounds_toArray, List.set_cons_zero, List.set_cons_succ, i64_w, i32_w]
          rfl
         refine pure_ (i := 24) (N := some 6) (v := ?_) (a' := ?_) #[true, true, true, true, true, true, true, true, true, true, true, true, true, true, true, true, true, true, true, true, true, true, true, true, true] rfl rfl (any_of HT_.out (by kernel_rfl)) (fun _ _ _ h => h) (Or.inl ⟨by rfl, ?_⟩) ?_ ?_
         rotate_left
         ·
          intro w'
          go_simp
          with_reducible rfl
         rotate_left
         ·
          simp only [Act.put, List.setIfInBounds_toArray, List.set_cons_zero, List.set_cons_succ, i64_w, i32_w]
          rfl
         refine done_ (done_of HT_.out (by kernel_rfl)) ?_
         try go_wp2
         go_ret
         exact ⟨by first | rfl | (simp [errW_none, errW_some] <;> rfl) | (simp [*, errW_none, errW_some] <;> rfl) | (simp [bneNil]; done), by repeat (first | (with_reducible first | exact HB.out | apply below_alloc | apply pw_below_drewN | apply below_drew1 | refine below_set ?_ GE448.out | refine below_set ?_ GE449.out | refine below_set ?_ GE463.out) | exact HB.out)⟩
        ·
         rw [if_neg c39] at H
         have c39b0 : (t470 == t471) = false := by simpa using c39
         (try (have c39b1 : decide (t470 = t471) = false := by simpa using c39))
         (try (have c39b2 : (t470 == t471) = false := by simpa using c39))
         (try (have c39b3 : ¬ (t470 = t471) := by simpa using c39))
         clear c39
         obtain rfl := Option.some.inj H
         have hnb65 := NB449_448.out
         have hnc65 := NB448_449.out
         have hcz66_0 : wc.cell? ⟨gb449, 0, none⟩ = some (.int .u64 a1_0) := (blk_cell BK449.out 0).trans rfl
         have hcz66_1 : wc.cell? ⟨gb449, 1, none⟩ = some (.int .u64 a1_1) := (blk_cell BK449.out 1).trans rfl
         have hcz66_2 : wc.cell? ⟨gb449, 2, none⟩ = some (.int .u64 a1_2) := (blk_cell BK449.out 2).trans rfl
         have hcz66_3 : wc.cell? ⟨gb449, 3, none⟩ = some (.string a1_3) := (blk_cell BK449.out 3).trans rfl
         have hcz66_4 : wc.cell? ⟨gb449, 4, none⟩ = some (.string a1_4) := (blk_cell BK449.out 4).trans rfl
         have hfz66_0 := blk_frozen BK449.out 0
         have hfz66_1 := blk_frozen BK449.out 1
         have hfz66_2 := blk_frozen BK449.out 2
         have hfz66_3 := blk_frozen BK449.out 3
         have hfz66_4 := blk_frozen BK449.out 4
         try go_wp2_with (first | ((with_reducible refine gate_callee (f := 28) rfl ?_); refine goesL_ (some 26) rfl rfl Tryd.func28 (by kernel_rfl) rfl #[.int .i64 0, .agg #[.int .u64 a1_0, .int .u64 a1_1, .int .u64 a1_2, .string a1_3, .string a1_4], .int .i64 3] rfl (by (try simp only [List.map_toArray, List.map_cons, List.map_nil]); first | done | rfl | (simp only [List.length_drop, List.length_take]; rfl)) ?_; (with_reducible refine (laws_stTerm.calls 0 a1_0 a1_1 a1_2 a1_3 a1_4 3 t457 t458 t459 t460 t461 t462 _ A35.out).mono ?_); rintro e w67 ⟨rfl, hb⟩; refine ⟨_, rfl, ?_⟩; have n0_ := Aside0.mk (blk_below (g := gb448) (o := .cells #[.int .i64 a0_0, .int .i64 a0_1, .int .u64 a0_2, .int .u64 a0_3, .int .u64 a0_4, .string a0_5] 24 (0, 0)) (by (with_reducible repeat (first | refine blk_drewN ?_ _ | refine blk_drew ?_ | refine blk_alloc ?_ _)); exact BK448.out) hb); have n1_ := Aside0.mk (blk_below (g := gb449) (o := .cells #[.int .u64 a1_0, .int .u64 a1_1, .int .u64 a1_2, .string a1_3, .string a1_4] 26 (0, 0)) (by (with_reducible repeat (first | refine blk_drewN ?_ _ | refine blk_drew ?_ | refine blk_alloc ?_ _)); exact BK449.out) hb); have n2_ := Aside0.mk (below_step (by repeat (first | (with_reducible first | exact HB.out | apply below_alloc | apply pw_below_drewN | apply below_drew1 | refine below_set ?_ GE448.out | refine below_set ?_ GE449.out) | exact HB.out)) hb); clear BK448; clear BK449; clear HB; have BK448 := n0_; have BK449 := n1_; have HB := n2_; clear n0_ n1_ n2_; (try clear hb); (try clear hb2); (try clear hk); (try clear hi)) | ((with_reducible refine gate_dst (N := 7) rfl ?_); (try (refine gate_guard (by rfl) ?_; dsimp only)); refine box_event ?hg (N := 7) ?hd (cs := #[.int .i64 0, .int .i64 0, .int .u64 0, .int .u64 0, .int .u64 0, .string (⟨#[]⟩ : ByteArray)]) (t := 24) ?hr ?_; (case hd => rfl); (case hg => rfl); (case hr => first | (go_simp; done) | (go_simp; rfl) | (go_simp; simp [u8w]; done)); intro gb463 hg w68 hbox hb; have n0_ := Aside0.mk (blk_below (g := gb448) (o := .cells #[.int .i64 a0_0, .int .i64 a0_1, .int .u64 a0_2, .int .u64 a0_3, .int .u64 a0_4, .string a0_5] 24 (0, 0)) (by (with_reducible repeat (first | refine blk_drewN ?_ _ | refine blk_drew ?_ | refine blk_alloc ?_ _)); exact BK448.out) hb); have n1_ := Aside0.mk (blk_below (g := gb449) (o := .cells #[.int .u64 a1_0, .int .u64 a1_1, .int .u64 a1_2, .string a1_3, .string a1_4] 26 (0, 0)) (by (with_reducible repeat (first | refine blk_drewN ?_ _ | refine blk_drew ?_ | refine blk_alloc ?_ _)); exact BK449.out) hb); have n2_ := Aside0.mk (below_step (by repeat (first | (with_reducible first | exact HB.out | apply below_alloc | apply pw_below_drewN | apply below_drew1 | refine below_set ?_ GE448.out | refine below_set ?_ GE449.out) | exact HB.out)) hb); have n3_ := Aside0.mk (hbox); have n4_ := Aside0.mk ((by rw [hg]; exact (below_size (by repeat (first | (with_reducible first | exact HB.out | apply below_alloc | apply pw_below_drewN | apply below_drew1 | refine below_set ?_ GE448.out | refine below_set ?_ GE449.out) | exact HB.out))) : w.heap.size ≤ gb463)); have n5_ := Aside0.mk ((by rw [hg]; exact (below_size (by repeat (first | (with_reducible first | exact HB.out | apply below_alloc | apply pw_below_drewN | apply below_drew1 | refine below_set ?_ GE448.out | refine below_set ?_ GE449.out) | exact HB.out))) : w.heap.size ≤ gb463)); have n6_ := Aside0.mk ((by rw [hg]; exact Nat.ne_of_lt (blk_lt (g := gb448) (o := .cells #[.int .i64 a0_0, .int .i64 a0_1, .int .u64 a0_2, .int .u64 a0_3, .int .u64 a0_4, .string a0_5] 24 (0, 0)) (by (with_reducible repeat (first | refine blk_drewN ?_ _ | refine blk_drew ?_ | refine blk_alloc ?_ _)); exact BK448.out)) : gb448 ≠ gb463)); have n7_ := Aside0.mk ((by rw [hg]; exact Nat.ne_of_gt (blk_lt (g := gb448) (o := .cells #[.int .i64 a0_0, .int .i64 a0_1, .int .u64 a0_2, .int .u64 a0_3, .int .u64 a0_4, .string a0_5] 24 (0, 0)) (by (with_reducible repeat (first | refine blk_drewN ?_ _ | refine blk_drew ?_ | refine blk_alloc ?_ _)); exact BK448.out)) : gb463 ≠ gb448)); have n8_ := Aside0.mk ((by rw [hg]; exact Nat.ne_of_lt (blk_lt (g := gb449) (o := .cells #[.int .u64 a1_0, .int .u64 a1_1, .int .u64 a1_2, .string a1_3, .string a1_4] 26 (0, 0)) (by (with_reducible repeat (first | refine blk_drewN ?_ _ | refine blk_drew ?_ | refine blk_alloc ?_ _)); exact BK449.out)) : gb449 ≠ gb463)); have n9_ := Aside0.mk ((by rw [hg]; exact Nat.ne_of_gt (blk_lt (g := gb449) (o := .cells #[.int .u64 a1_0, .int .u64 a1_1, .int .u64 a1_2, .string a1_3, .string a1_4] 26 (0, 0)) (by (with_reducible repeat (first | refine blk_drewN ?_ _ | refine blk_drew ?_ | refine blk_alloc ?_ _)); exact BK449.out)) : gb463 ≠ gb449)); clear BK448; clear BK449; clear HB; have BK448 := n0_; have BK449 := n1_; have HB := n2_; have BK463 := n3_; have GW463 := n4_; have GE463 := n5_; have NB448_463 := n6_; have NB463_448 := n7_; have NB449_463 := n8_; have NB463_449 := n9_; clear n0_ n1_ n2_ n3_ n4_ n5_ n6_ n7_ n8_ n9_; clear hb hbox hg; have hnb69 := NB463_448.out; have hnc69 := NB448_463.out; have hnb70 := NB463_449.out; have hnc70 := NB449_463.out; have hcz71_0 : w68.cell? ⟨gb463, 0, none⟩ = some (.int .i64 0) := (blk_cell BK463.out 0).trans rfl; have hcz71_1 : w68.cell? ⟨gb463, 1, none⟩ = some (.int .i64 0) := (blk_cell BK463.out 1).trans rfl; have hcz71_2 : w68.cell? ⟨gb463, 2, none⟩ = some (.int .u64 0) := (blk_cell BK463.out 2).trans rfl; have hcz71_3 : w68.cell? ⟨gb463, 3, none⟩ = some (.int .u64 0) := (blk_cell BK463.out 3).trans rfl; have hcz71_4 : w68.cell? ⟨gb463, 4, none⟩ = some (.int .u64 0) := (blk_cell BK463.out 4).trans rfl; have hcz71_5 : w68.cell? ⟨gb463, 5, none⟩ = some (.string (⟨#[]⟩ : ByteArray)) := (blk_cell BK463.out 5).trans rfl; have hfz71_0 := blk_frozen BK463.out 0; have hfz71_1 := blk_frozen BK463.out 1; have hfz71_2 := blk_frozen BK463.out 2; have hfz71_3 := blk_frozen BK463.out 3; have hfz71_4 := blk_frozen BK463.out 4; have hfz71_5 := blk_frozen BK463.out 5))
         have n0_ : Aside0 (((((((w68.setCell ⟨gb463, 0, none⟩ (.int .i64 t457)).setCell ⟨gb463, 1, none⟩ (.int .i64 t458)).setCell ⟨gb463, 2, none⟩ (.int .u64 t459)).setCell ⟨gb463, 3, none⟩ (.int .u64 t460)).setCell ⟨gb463, 4, none⟩ (.int .u64 t461)).setCell ⟨gb463, 5, none⟩ (.string t462)).heap[gb448]? = some (.cells #[.int .i64 a0_0, .int .i64 a0_1, .int .u64 a0_2, .int .u64 a0_3, .int .u64 a0_4, .string a0_5] 24 (0, 0))) := ⟨by (with_reducible repeat (first | refine blk_drewN ?_ _ | refine blk_drew ?_ | refine blk_alloc ?_ _)); refine blk_far ?_ NB448_463.out _; (with_reducible repeat (first | refine blk_drewN ?_ _ | refine blk_drew ?_ | refine blk_alloc ?_ _)); refine blk_far ?_ NB448_463.out _; (with_reducible repeat (first | refine blk_drewN ?_ _ | refine blk_drew ?_ | refine blk_alloc ?_ _)); refine blk_far ?_ NB448_463.out _; (with_reducible repeat (first | refine blk_drewN ?_ _ | refine blk_drew ?_ | refine blk_alloc ?_ _)); refine blk_far ?_ NB448_463.out _; (with_reducible repeat (first | refine blk_drewN ?_ _ | refine blk_drew ?_ | refine blk_alloc ?_ _)); refine blk_far ?_ NB448_463.out _; (with_reducible repeat (first | refine blk_drewN ?_ _ | refine blk_drew ?_ | refine blk_alloc ?_ _)); refine blk_far ?_ NB448_463.out _; (with_reducible repeat (first | refine blk_drewN ?_ _ | refine blk_drew ?_ | refine blk_alloc ?_ _)); exact BK448.out⟩
         have n1_ : Aside0 (((((((w68.setCell ⟨gb463, 0, none⟩ (.int .i64 t457)).setCell ⟨gb463, 1, none⟩ (.int .i64 t458)).setCell ⟨gb463, 2, none⟩ (.int .u64 t459)).setCell ⟨gb463, 3, none⟩ (.int .u64 t460)).setCell ⟨gb463, 4, none⟩ (.int .u64 t461)).setCell ⟨gb463, 5, none⟩ (.string t462)).heap[gb449]? = some (.cells #[.int .u64 a1_0, .int .u64 a1_1, .int .u64 a1_2, .string a1_3, .string a1_4] 26 (0, 0))) := ⟨by (with_reducible repeat (first | refine blk_drewN ?_ _ | refine blk_drew ?_ | refine blk_alloc ?_ _)); refine blk_far ?_ NB449_463.out _; (with_reducible repeat (first | refine blk_drewN ?_ _ | refine blk_drew ?_ | refine blk_alloc ?_ _)); refine blk_far ?_ NB449_463.out _; (with_reducible repeat (first | refine blk_drewN ?_ _ | refine blk_drew ?_ | refine blk_alloc ?_ _)); refine blk_far ?_ NB449_463.out _; (with_reducible repeat (first | refine blk_drewN ?_ _ | refine blk_drew ?_ | refine blk_alloc ?_ _)); refine blk_far ?_ NB449_463.out _; (with_reducible repeat (first | refine blk_drewN ?_ _ | refine blk_drew ?_ | refine blk_alloc ?_ _)); refine blk_far ?_ NB449_463.out _; (with_reducible repeat (first | refine blk_drewN ?_ _ | refine blk_drew ?_ | refine blk_alloc ?_ _)); refine blk_far ?_ NB449_463.out _; (with_reducible repeat (first | refine blk_drewN ?_ _ | refine blk_drew ?_ | refine blk_alloc ?_ _)); exact BK449.out⟩
         have n2_ : Aside0 (((((((w68.setCell ⟨gb463, 0, none⟩ (.int .i64 t457)).setCell ⟨gb463, 1, none⟩ (.int .i64 t458)).setCell ⟨gb463, 2, none⟩ (.int .u64 t459)).setCell ⟨gb463, 3, none⟩ (.int .u64 t460)).setCell ⟨gb463, 4, none⟩ (.int .u64 t461)).setCell ⟨gb463, 5, none⟩ (.string t462)).heap[gb463]? = some (.cells #[.int .i64 t457, .int .i64 t458, .int .u64 t459, .int .u64 t460, .int .u64 t461, .string t462] 24 (0, 0))) := ⟨by (with_reducible repeat (first | refine blk_drewN ?_ _ | refine blk_drew ?_ | refine blk_alloc ?_ _)); refine blk_put (cs := #[.int .i64 t457, .int .i64 t458, .int .u64 t459, .int .u64 t460, .int .u64 t461, .string (⟨#[]⟩ : ByteArray)]) ?_ 5 _ rfl; (with_reducible repeat (first | refine blk_drewN ?_ _ | refine blk_drew ?_ | refine blk_alloc ?_ _)); refine blk_put (cs := #[.int .i64 t457, .int .i64 t458, .int .u64 t459, .int .u64 t460, .int .u64 0, .string (⟨#[]⟩ : ByteArray)]) ?_ 4 _ rfl; (with_reducible repeat (first | refine blk_drewN ?_ _ | refine blk_drew ?_ | refine blk_alloc ?_ _)); refine blk_put (cs := #[.int .i64 t457, .int .i64 t458, .int .u64 t459, .int .u64 0, .int .u64 0, .string (⟨#[]⟩ : ByteArray)]) ?_ 3 _ rfl; (with_reducible repeat (first | refine blk_drewN ?_ _ | refine blk_drew ?_ | refine blk_alloc ?_ _)); refine blk_put (cs := #[.int .i64 t457, .int .i64 t458, .int .u64 0, .int .u64 0, .int .u64 0, .string (⟨#[]⟩ : ByteArray)]) ?_ 2 _ rfl; (with_reducible repeat (first | refine blk_drewN ?_ _ | refine blk_drew ?_ | refine blk_alloc ?_ _)); refine blk_put (cs := #[.int .i64 t457, .int .i64 0, .int .u64 0, .int .u64 0, .int .u64 0, .string (⟨#[]⟩ : ByteArray)]) ?_ 1 _ rfl; (with_reducible repeat (first | refine blk_drewN ?_ _ | refine blk_drew ?_ | refine blk_alloc ?_ _)); refine blk_put (cs := #[.int .i64 0, .int .i64 0, .int .u64 0, .int .u64 0, .int .u64 0, .string (⟨#[]⟩ : ByteArray)]) ?_ 0 _ rfl; (with_reducible repeat (first | refine blk_drewN ?_ _ | refine blk_drew ?_ | refine blk_alloc ?_ _)); exact BK463.out⟩
         have n3_ : Aside0 (Below w.heap.size w ((((((w68.setCell ⟨gb463, 0, none⟩ (.int .i64 t457)).setCell ⟨gb463, 1, none⟩ (.int .i64 t458)).setCell ⟨gb463, 2, none⟩ (.int .u64 t459)).setCell ⟨gb463, 3, none⟩ (.int .u64 t460)).setCell ⟨gb463, 4, none⟩ (.int .u64 t461)).setCell ⟨gb463, 5, none⟩ (.string t462))) := ⟨by repeat (first | (with_reducible first | exact HB.out | apply below_alloc | apply pw_below_drewN | apply below_drew1 | refine below_set ?_ GE448.out | refine below_set ?_ GE449.out | refine below_set ?_ GE463.out) | exact HB.out)⟩
         (try clear BK448)
         (try clear BK449)
         (try clear BK463)
         (try clear HB)
         generalize ((((((w68.setCell ⟨gb463, 0, none⟩ (.int .i64 t457)).setCell ⟨gb463, 1, none⟩ (.int .i64 t458)).setCell ⟨gb463, 2, none⟩ (.int .u64 t459)).setCell ⟨gb463, 3, none⟩ (.int .u64 t460)).setCell ⟨gb463, 4, none⟩ (.int .u64 t461)).setCell ⟨gb463, 5, none⟩ (.string t462)) = w72 at n0_ n1_ n2_ n3_ ⊢
         have BK448 := n0_
         have BK449 := n1_
         have BK463 := n2_
         have HB := n3_
         clear n0_ n1_ n2_ n3_
         have n0_ := Aside0.mk (blk_drew BK448.out)
         have n1_ := Aside0.mk (blk_drew BK449.out)
         have n2_ := Aside0.mk (blk_drew BK463.out)
         have n3_ := Aside0.mk (below_drew1 HB.out)
         clear BK448
         clear BK449
         clear BK463
         clear HB
         have BK448 := n0_
         have BK449 := n1_
         have BK463 := n2_
         have HB := n3_
         clear n0_ n1_ n2_ n3_
         refine start_ (n := 25) (S := fun w' => w'.cell? ⟨gb448, 0, none⟩ = some (.int .i64 a0_0) ∧ w'.cell? ⟨gb448, 1, none⟩ = some (.int .i64 a0_1) ∧ w'.cell? ⟨gb448, 2, none⟩ = some (.int .u64 a0_2) ∧ w'.cell? ⟨gb448, 3, none⟩ = some (.int .u64 a0_3) ∧ w'.cell? ⟨gb448, 4, none⟩ = some (.int .u64 a0_4) ∧ w'.cell? ⟨gb448, 5, none⟩ = some (.string a0_5) ∧ w'.cell? ⟨gb449, 0, none⟩ = some (.int .u64 a1_0) ∧ w'.cell? ⟨gb449, 1, none⟩ = some (.int .u64 a1_1) ∧ w'.cell? ⟨gb449, 2, none⟩ = some (.int .u64 a1_2) ∧ w'.cell? ⟨gb449, 3, none⟩ = some (.string a1_3) ∧ w'.cell? ⟨gb449, 4, none⟩ = some (.string a1_4)) (ds := []) #[false, false, false, false, false, false, false, false, false, false, false, false, false, false, false, false, false, false, false, false, false, false, false, false, false] (by kernel_rfl) rfl rfl ⟨(blk_cell BK448.out 0).trans rfl, (blk_cell BK448.out 1).trans rfl, (blk_cell BK448.out 2).trans rfl, (blk_cell BK448.out 3).trans rfl, (blk_cell BK448.out 4).trans rfl, (blk_cell BK448.out 5).trans rfl, (blk_cell BK449.out 0).trans rfl, (blk_cell BK449.out 1).trans rfl, (blk_cell BK449.out 2).trans rfl, (blk_cell BK449.out 3).trans rfl, (blk_cell BK449.out 4).trans rfl⟩ (fun hHeld => ?_); refine with_tabW laws_FnSemverTermsOne.tab6 laws_FnSemverTermsOne.bits6 (fun HT_ HW_ => ?_)
         generalize w72.drew = w73 at BK448 BK449 BK463 HB hHeld ⊢
         refine pure_ (i := 4) (N := some 31) (v := ?_) (a' := ?_) #[false, false, false, false, true, false, false, false, false, false, false, false, false, false, false, false, false, false, false, false, false, false, false, false, false] rfl rfl (any_of HT_.out (by kernel_rfl)) (fun _ _ _ h => h) (Or.inl ⟨by rfl, ?_⟩) ?_ ?_
         rotate_left
         ·
          intro w'
          go_simp
          with_reducible rfl
         rotate_left
         ·
          simp only [Act.put, List.setIfInBounds_toArray, List.set_cons_zero, List.set_cons_succ, i64_w, i32_w]
          rfl
         refine pure_ (i := 8) (N := some 35) (v := ?_) (a' := ?_) #[false, false, false, false, true, false, false, false, true, false, false, false, false, false, false, false, false, false, false, false, false, false, false, false, false] rfl rfl (any_of HT_.out (by kernel_rfl)) (fun _ _ _ h => h) (Or.inl ⟨by rfl, ?_⟩) ?_ ?_
         rotate_left
         ·
          intro w'
          go_simp
          with_reducible rfl
         rotate_left
         ·
          simp only [Act.put, List.setIfInBounds_toArray, List.set_cons_zero, List.set_cons_succ, i64_w, i32_w]
          rfl
         refine take_ (i := 0) (N := some 27) (v := ?_) (a' := ?_) #[true, false, false, false, true, false, false, false, true, false, false, false, false, false, false, false, false, false, false, false, false, false, false, false, false] rfl rfl (take_ofW HT_.out HW_.out (by kernel_rfl)) (fun _ _ _ h => h) (Or.inl ⟨by rfl, ?_⟩) hHeld ?_ ?_
         rotate_left
         ·
          rintro w' ⟨s0, s1, s2, s3, s4, s5, s6, s7, s8, s9, s10⟩
          go_simp
          with_reducible rfl
         rotate_left
         ·
          simp only [Act.put, List.setIfInBounds_toArray, List.set_cons_zero, List.set_cons_succ, i64_w, i32_w]
          rfl
         refine take_ (i := 3) (N := some 30) (v := ?_) (a' := ?_) #[true, false, false, true, true, false, false, false, true, false, false, false, false, false, false, false, false, false, false, false, false, false, false, false, false] rfl rfl (take_ofW HT_.out HW_.out (by kernel_rfl)) (fun _ _ _ h => h) (Or.inl ⟨by rfl, ?_⟩) hHeld ?_ ?_
         rotate_left
         ·
          rintro w' ⟨s0, s1, s2, s3, s4, s5, s6, s7, s8, s9, s10⟩
          go_simp
          with_reducible rfl
         rotate_left
         ·
          simp only [Act.put, List.setIfInBounds_toArray, List.set_cons_zero, List.set_cons_succ, i64_w, i32_w]
          rfl
         refine take_ (i := 6) (N := some 33) (v := ?_) (a' := ?_) #[true, false, false, true, true, false, true, false, true, false, false, false, false, false, false, false, false, false, false, false, false, false, false, false, false] rfl rfl (take_ofW HT_.out HW_.out (by kernel_rfl)) (fun _ _ _ h => h) (Or.inl ⟨by rfl, ?_⟩) hHeld ?_ ?_
         rotate_left
         ·
          rintro w' ⟨s0, s1, s2, s3, s4, s5, s6, s7, s8, s9, s10⟩
          go_simp
          with_reducible rfl
         rotate_left
         ·
          simp only [Act.put, List.setIfInBounds_toArray, List.set_cons_zero, List.set_cons_succ, i64_w, i32_w]
          rfl
         refine take_ (i := 7) (N := some 34) (v := ?_) (a' := ?_) #[true, false, false, true, true, false, true, true, true, false, false, false, false, false, false, false, false, false, false, false, false, false, false, false, false] rfl rfl (take_ofW HT_.out HW_.out (by kernel_rfl)) (fun _ _ _ h => h) (Or.inl ⟨by rfl, ?_⟩) hHeld ?_ ?_
         rotate_left
         ·
          rintro w' ⟨s0, s1, s2, s3, s4, s5, s6, s7, s8, s9, s10⟩
          go_simp
          with_reducible rfl
         rotate_left
         ·
          simp only [Act.put, List.setIfInBounds_toArray, List.set_cons_zero, List.set_cons_succ, i64_w, i32_w]
          rfl
         refine one_ (i := 1) (N := some 28) #[true, true, false, true, true, false, true, true, true, false, false, false, false, false, false, false, false, false, false, false, false, false, false, false, false] rfl rfl (one_of HT_.out (by kernel_rfl)) (by decide) (fun K hK => ?_)
         refine Kd.R_lit_step k24 _ 24 ?hg (N := 28) ?hd (xs := ([(⟨a0_0, a0_1, a0_2, a0_3, a0_4, a0_5⟩ : S24)] : List (S24))) (inner := [.int .i64 a0_0, .int .i64 a0_1, .int .u64 a0_2, .int .u64 a0_3, .int .u64 a0_4, .string a0_5]) (ok := fun _ => True) (okp := fun _ => True) ?hr ?hp (fun _ hk => hk) trivial (Below.refl _ _) (Nat.le_refl _) (by simp) ?_; (case hd => rfl); (case hg => rfl); (case hr => first | (go_simp; done) | (go_simp; rfl) | (go_simp; simp [u8w]; done)); (case hp => exact (Reps.c6 (show Kd.M k24 _ _ _ (⟨a0_0, a0_1, a0_2, a0_3, a0_4, a0_5⟩ : S24) [.int .i64 a0_0, .int .i64 a0_1, .int .u64 a0_2, .int .u64 a0_3, .int .u64 a0_4, .string a0_5] from (k24_mkM _ _ _ (⟨a0_0, a0_1, a0_2, a0_3, a0_4, a0_5⟩ : S24) )) (Reps.none _ _)))
         intro v465 w74 ho75 hb hg_ hnew_
         clear hg_ hnew_
         (first | rw [← Ny464.out] at ho75 | (simp only [Int.reduceToNat] at ho75; rw [← Ny464.out] at ho75))
         have n0_ := Aside0.mk (Kd.R_lower (Kd.R_newB (Kd.R_newB ho75 (g := gb448) (o := .cells #[.int .i64 a0_0, .int .i64 a0_1, .int .u64 a0_2, .int .u64 a0_3, .int .u64 a0_4, .string a0_5] 24 (0, 0)) (by (with_reducible repeat (first | refine blk_drewN ?_ _ | refine blk_drew ?_ | refine blk_alloc ?_ _)); exact BK448.out)) (g := gb463) (o := .cells #[.int .i64 t457, .int .i64 t458, .int .u64 t459, .int .u64 t460, .int .u64 t461, .string t462] 24 (0, 0)) (by (with_reducible repeat (first | refine blk_drewN ?_ _ | refine blk_drew ?_ | refine blk_alloc ?_ _)); exact BK463.out)) (below_size (by repeat (first | (with_reducible first | exact HB.out | apply below_alloc | apply pw_below_drewN | apply below_drew1 | refine below_set ?_ GE448.out | refine below_set ?_ GE449.out | refine below_set ?_ GE463.out) | exact HB.out))))
         have n1_ := Aside0.mk (blk_below (g := gb448) (o := .cells #[.int .i64 a0_0, .int .i64 a0_1, .int .u64 a0_2, .int .u64 a0_3, .int .u64 a0_4, .string a0_5] 24 (0, 0)) (by (with_reducible repeat (first | refine blk_drewN ?_ _ | refine blk_drew ?_ | refine blk_alloc ?_ _)); exact BK448.out) hb)
         have n2_ := Aside0.mk (blk_below (g := gb449) (o := .cells #[.int .u64 a1_0, .int .u64 a1_1, .int .u64 a1_2, .string a1_3, .string a1_4] 26 (0, 0)) (by (with_reducible repeat (first | refine blk_drewN ?_ _ | refine blk_drew ?_ | refine blk_alloc ?_ _)); exact BK449.out) hb)
         have n3_ := Aside0.mk (blk_below (g := gb463) (o := .cells #[.int .i64 t457, .int .i64 t458, .int .u64 t459, .int .u64 t460, .int .u64 t461, .string t462] 24 (0, 0)) (by (with_reducible repeat (first | refine blk_drewN ?_ _ | refine blk_drew ?_ | refine blk_alloc ?_ _)); exact BK463.out) hb)
         have n4_ := Aside0.mk (below_step (by repeat (first | (with_reducible first | exact HB.out | apply below_alloc | apply pw_below_drewN | apply below_drew1 | refine below_set ?_ GE448.out | refine below_set ?_ GE449.out | refine below_set ?_ GE463.out) | exact HB.out)) hb)
         clear BK448
         clear BK449
         clear BK463
         clear HB
         have HO466 := n0_
         have BK448 := n1_
         have BK449 := n2_
         have BK463 := n3_
         have HB := n4_
         clear n0_ n1_ n2_ n3_ n4_
         clear hb ho75
         obtain ⟨Ao76, co76, eo76⟩ := Kd.R_slice HO466.out
         (first | subst eo76 | (injection eo76 with f1_ f2_ f3_; have f4_ := f1_.symm; have f5_ := f3_.symm; clear f1_ f2_ f3_; subst f4_; subst f5_))
         refine hK.out _ _ ⟨(blk_cell BK448.out 0).trans rfl, (blk_cell BK448.out 1).trans rfl, (blk_cell BK448.out 2).trans rfl, (blk_cell BK448.out 3).trans rfl, (blk_cell BK448.out 4).trans rfl, (blk_cell BK448.out 5).trans rfl, (blk_cell BK449.out 0).trans rfl, (blk_cell BK449.out 1).trans rfl, (blk_cell BK449.out 2).trans rfl, (blk_cell BK449.out 3).trans rfl, (blk_cell BK449.out 4).trans rfl⟩ (fun hHeld => ?_)
         clear hK K
         refine norm_ (a' := ?_) ?_ ?_
         rotate_left
         ·
          show Act.put _ (some 28) _ = _
          simp only [Act.put, List.setIfInBounds_toArray, List.set_cons_zero, List.set_cons_succ, i64_w, i32_w]
          rfl
         refine one_ (i := 2) (N := some 29) #[true, true, true, true, true, false, true, true, true, false, false, false, false, false, false, false, false, false, false, false, false, false, false, false, false] rfl rfl (one_of HT_.out (by kernel_rfl)) (by decide) (fun K hK => ?_)
         refine Kd.N_lit_step (Kd.slice 24 k24) _ 42 ?hg (N' := 29) ?hd (xs := ([y464] : List (List (S24)))) (inner := [.slice Ao76 y464.length co76]) (ok := (fun k_ => k_ ≠ gb448 ∧ k_ ≠ gb449 ∧ k_ ≠ gb463)) (okp := (fun k_ => k_ ≠ gb448 ∧ k_ ≠ gb449 ∧ k_ ≠ gb463)) ?hr ?hp (fun _ hk => hk) ((show ∀ k_, w74.heap.size ≤ k_ → (fun k_ => k_ ≠ gb448 ∧ k_ ≠ gb449 ∧ k_ ≠ gb463) k_ from fun k_ hk => ⟨Kd.freshB (g := gb448) (o := .cells #[.int .i64 a0_0, .int .i64 a0_1, .int .u64 a0_2, .int .u64 a0_3, .int .u64 a0_4, .string a0_5] 24 (0, 0)) (by (with_reducible repeat (first | refine blk_drewN ?_ _ | refine blk_drew ?_ | refine blk_alloc ?_ _)); exact BK448.out) k_ hk, Kd.freshB (g := gb449) (o := .cells #[.int .u64 a1_0, .int .u64 a1_1, .int .u64 a1_2, .string a1_3, .string a1_4] 26 (0, 0)) (by (with_reducible repeat (first | refine blk_drewN ?_ _ | refine blk_drew ?_ | refine blk_alloc ?_ _)); exact BK449.out) k_ hk, Kd.freshB (g := gb463) (o := .cells #[.int .i64 t457, .int .i64 t458, .int .u64 t459, .int .u64 t460, .int .u64 t461, .string t462] 24 (0, 0)) (by (with_reducible repeat (first | refine blk_drewN ?_ _ | refine blk_drew ?_ | refine blk_alloc ?_ _)); exact BK463.out) k_ hk⟩) _ (Nat.le_refl _)) (Below.refl _ _) (Nat.le_refl _) (by simp) ?_; (case hd => rfl); (case hg => rfl); (case hr => first | (go_simp; done) | (go_simp; rfl) | (go_simp; simp [u8w]; done)); (case hp => exact (Reps.one (show Kd.FK (Kd.slice 24 k24) _ _ y464 [.slice Ao76 y464.length co76] from (Kd.FK_slice_mk (Kd.R_reads' (Kd.R_mono (ok' := (fun k_ => k_ ≠ gb448 ∧ k_ ≠ gb449 ∧ k_ ≠ gb463)) (Kd.R_types (HO466.out) BK449.out (by decide)) (fun k_ hk => ⟨hk.1.1.2, ⟨hk.2, hk.1.2⟩⟩))).2.1 (Kd.R_F (Kd.R_mono (ok' := (fun k_ => k_ ≠ gb448 ∧ k_ ≠ gb449 ∧ k_ ≠ gb463)) (Kd.R_types (HO466.out) BK449.out (by decide)) (fun k_ hk => ⟨hk.1.1.2, ⟨hk.2, hk.1.2⟩⟩))))) (Reps.none _ _)))
         intro v468 w77 ho78 hb hg_ hnew_
         clear hg_ hnew_
         (first | rw [← Ny467.out] at ho78 | (simp only [Int.reduceToNat] at ho78; rw [← Ny467.out] at ho78))
         have n0_ := Aside0.mk (Kd.N_lower ho78 (below_size (by repeat (first | (with_reducible first | exact HB.out | apply below_alloc | apply pw_below_drewN | apply below_drew1 | refine below_set ?_ GE448.out | refine below_set ?_ GE449.out | refine below_set ?_ GE463.out) | exact HB.out))))
         have n1_ := Aside0.mk (blk_below (g := gb448) (o := .cells #[.int .i64 a0_0, .int .i64 a0_1, .int .u64 a0_2, .int .u64 a0_3, .int .u64 a0_4, .string a0_5] 24 (0, 0)) (by (with_reducible repeat (first | refine blk_drewN ?_ _ | refine blk_drew ?_ | refine blk_alloc ?_ _)); exact BK448.out) hb)
         have n2_ := Aside0.mk (blk_below (g := gb449) (o := .cells #[.int .u64 a1_0, .int .u64 a1_1, .int .u64 a1_2, .string a1_3, .string a1_4] 26 (0, 0)) (by (with_reducible repeat (first | refine blk_drewN ?_ _ | refine blk_drew ?_ | refine blk_alloc ?_ _)); exact BK449.out) hb)
         have n3_ := Aside0.mk (blk_below (g := gb463) (o := .cells #[.int .i64 t457, .int .i64 t458, .int .u64 t459, .int .u64 t460, .int .u64 t461, .string t462] 24 (0, 0)) (by (with_reducible repeat (first | refine blk_drewN ?_ _ | refine blk_drew ?_ | refine blk_alloc ?_ _)); exact BK463.out) hb)
         have n4_ := Aside0.mk (below_step (by repeat (first | (with_reducible first | exact HB.out | apply below_alloc | apply pw_below_drewN | apply below_drew1 | refine below_set ?_ GE448.out | refine below_set ?_ GE449.out | refine below_set ?_ GE463.out) | exact HB.out)) hb)
         clear BK448
         clear BK449
         clear BK463
         clear HB
         clear HO466
         have HO469 := n0_
         have BK448 := n1_
         have BK449 := n2_
         have BK463 := n3_
         have HB := n4_
         clear n0_ n1_ n2_ n3_ n4_
         clear hb ho78
         obtain ⟨Ao79, co79, eo79⟩ := Kd.N_slice HO469.out
         (first | subst eo79 | (injection eo79 with f1_ f2_ f3_; have f4_ := f1_.symm; have f5_ := f3_.symm; clear f1_ f2_ f3_; subst f4_; subst f5_))
         refine hK.out _ _ ⟨(blk_cell BK448.out 0).trans rfl, (blk_cell BK448.out 1).trans rfl, (blk_cell BK448.out 2).trans rfl, (blk_cell BK448.out 3).trans rfl, (blk_cell BK448.out 4).trans rfl, (blk_cell BK448.out 5).trans rfl, (blk_cell BK449.out 0).trans rfl, (blk_cell BK449.out 1).trans rfl, (blk_cell BK449.out 2).trans rfl, (blk_cell BK449.out 3).trans rfl, (blk_cell BK449.out 4).trans rfl⟩ (fun hHeld => ?_)
         clear hK K
         refine norm_ (a' := ?_) ?_ ?_
         rotate_left
         ·
          show Act.put _ (some 29) _ = _
          simp only [Act.put, List.setIfInBounds_toArray, List.set_cons_zero, List.set_cons_succ, i64_w, i32_w]
          rfl
         refine one_ (i := 5) (N := some 32) #[true, true, true, true, true, true, true, true, true, false, false, false, false, false, false, false, false, false, false, false, false, false, false, false, false] rfl rfl (one_of HT_.out (by kernel_rfl)) (by decide) (fun K hK => ?_)
         refine goes_ Tryd.func37 (by kernel_rfl) rfl #[.slice Ao79 y467.length co79, .agg #[.int .u64 a1_0, .int .u64 a1_1, .int .u64 a1_2, .string a1_3, .string a1_4], .bool true] (by rfl) rfl rfl (by (try simp only [List.map_toArray, List.map_cons, List.map_nil]); first | done | rfl | (simp only [List.length_drop, List.length_take]; rfl)) ?_
         with_reducible refine (impl_TermsHold.calls _ _ y467 a1_0 a1_1 a1_2 a1_3 a1_4 true t470 _ ?side1 ?side2 ?side3 A36.out).mono ?_
         (case side1 => repeat (first | exact (Kd.N_reads' HO469.out).2.2 | (with_reducible refine Kd.C_alloc ?_ _) | (with_reducible refine Kd.C_drewN ?_ _) | (with_reducible refine Kd.C_drew ?_)))
         (case side2 => exact (Kd.N_reads' HO469.out).2.1)
         (case side3 => exact HStd.out.below (by repeat (first | (with_reducible first | exact HB.out | apply below_alloc | apply pw_below_drewN | apply below_drew1 | refine below_set ?_ GE448.out | refine below_set ?_ GE449.out | refine below_set ?_ GE463.out) | exact HB.out)))
         rintro e w80 ⟨rfl, hb⟩
         refine ⟨_, rfl, ?_⟩
         have n0_ := Aside0.mk (Kd.N_below (by (with_reducible repeat (first | apply Kd.N_alloc | apply Kd.N_drewN | apply Kd.N_drew)); exact HO469.out) hb)
         have n1_ := Aside0.mk (blk_below (g := gb448) (o := .cells #[.int .i64 a0_0, .int .i64 a0_1, .int .u64 a0_2, .int .u64 a0_3, .int .u64 a0_4, .string a0_5] 24 (0, 0)) (by (with_reducible repeat (first | refine blk_drewN ?_ _ | refine blk_drew ?_ | refine blk_alloc ?_ _)); exact BK448.out) hb)
         have n2_ := Aside0.mk (blk_below (g := gb449) (o := .cells #[.int .u64 a1_0, .int .u64 a1_1, .int .u64 a1_2, .string a1_3, .string a1_4] 26 (0, 0)) (by (with_reducible repeat (first | refine blk_drewN ?_ _ | refine blk_drew ?_ | refine blk_alloc ?_ _)); exact BK449.out) hb)
         have n3_ := Aside0.mk (blk_below (g := gb463) (o := .cells #[.int .i64 t457, .int .i64 t458, .int .u64 t459, .int .u64 t460, .int .u64 t461, .string t462] 24 (0, 0)) (by (with_reducible repeat (first | refine blk_drewN ?_ _ | refine blk_drew ?_ | refine blk_alloc ?_ _)); exact BK463.out) hb)
         have n4_ := Aside0.mk (below_step (by repeat (first | (with_reducible first | exact HB.out | apply below_alloc | apply pw_below_drewN | apply below_drew1 | refine below_set ?_ GE448.out | refine below_set ?_ GE449.out | refine below_set ?_ GE463.out) | exact HB.out)) hb)
         clear HO469
         clear BK448
         clear BK449
         clear BK463
         clear HB
         have HO469 := n0_
         have BK448 := n1_
         have BK449 := n2_
         have BK463 := n3_
         have HB := n4_
         clear n0_ n1_ n2_ n3_ n4_
         (try clear hb)
         (try clear hb2)
         (try clear hk)
         (try clear hi)
         refine hK.out _ _ ⟨(blk_cell BK448.out 0).trans rfl, (blk_cell BK448.out 1).trans rfl, (blk_cell BK448.out 2).trans rfl, (blk_cell BK448.out 3).trans rfl, (blk_cell BK448.out 4).trans rfl, (blk_cell BK448.out 5).trans rfl, (blk_cell BK449.out 0).trans rfl, (blk_cell BK449.out 1).trans rfl, (blk_cell BK449.out 2).trans rfl, (blk_cell BK449.out 3).trans rfl, (blk_cell BK449.out 4).trans rfl⟩ (fun hHeld => ?_)
         clear hK K
         refine norm_ (a' := ?_) ?_ ?_
         rotate_left
         ·
          show Act.put _ (some 32) _ = _
          simp only [Act.put, List.setIfInBounds_toArray, List.set_cons_zero, List.set_cons_succ, i64_w, i32_w]
          rfl
         refine pure_ (i := 9) (N := some 36) (v := ?_) (a' := ?_) #[true, true, true, true, true, true, true, true, true, true, false, false, false, false, false, false, false, false, false, false, false, false, false, false, false] rfl rfl (any_of HT_.out (by kernel_rfl)) (fun _ _ _ h => h) (Or.inl ⟨by rfl, ?_⟩) ?_ ?_
         rotate_left
         ·
          intro w'
          go_simp
          with_reducible rfl
         rotate_left
         ·
          simp only [Act.put, List.setIfInBounds_toArray, List.set_cons_zero, List.set_cons_succ, i64_w, i32_w]
          rfl
         refine pure_ (i := 10) (N := some 37) (v := undef) (a' := ?_) #[true, true, true, true, true, true, true, true, true, true, true, false, false, false, false, false, false, false, false, false, false, false, false, false, false] rfl rfl (any_of HT_.out (by kernel_rfl)) (fun _ _ _ h => h) (Or.inr ⟨by rfl, rfl⟩) ?_ ?_
         rotate_left
         ·
          simp only [Act.put, List.setIfInBounds_toArray, List.set_cons_zero, List.set_cons_succ, i64_w, i32_w]
          rfl
         refine pure_ (i := 11) (N := some 38) (v := undef) (a' := ?_) #[true, true, true, true, true, true, true, true, true, true, true, true, false, false, false, false, false, false, false, false, false, false, false, false, false] rfl rfl (any_of HT_.out (by kernel_rfl)) (fun _ _ _ h => h) (Or.inr ⟨by rfl, rfl⟩) ?_ ?_
         rotate_left
         ·
          simp only [Act.put, List.setIfInBounds_toArray, List.set_cons_zero, List.set_cons_succ, i64_w, i32_w]
          rfl
         refine pure_ (i := 12) (N := some 39) (v := undef) (a' := ?_) #[true, true, true, true, true, true, true, true, true, true, true, true, true, false, false, false, false, false, false, false, false, false, false, false, false] rfl rfl (any_of HT_.out (by kernel_rfl)) (fun _ _ _ h => h) (Or.inr ⟨by rfl, rfl⟩) ?_ ?_
         rotate_left
         ·
          simp only [Act.put, List.setIfInBounds_toArray, List.set_cons_zero, List.set_cons_succ, i64_w, i32_w]
          rfl
         refine pure_ (i := 13) (N := some 40) (v := ?_) (a' := ?_) #[true, true, true, true, true, true, true, true, true, true, true, true, true, true, false, false, false, false, false, false, false, false, false, false, false] rfl rfl (any_of HT_.out (by kernel_rfl)) (fun _ _ _ h => h) (Or.inl ⟨by rfl, ?_⟩) ?_ ?_
         rotate_left
         ·
          intro w'
          go_simp
          with_reducible rfl
         rotate_left
         ·
          simp only [Act.put, List.setIfInBounds_toArray, List.set_cons_zero, List.set_cons_succ, i64_w, i32_w]
          rfl
         refine one_ (i := 14) (N := some 41) #[true, true, true, true, true, true, true, true, true, true, true, true, true, true, true, false, false, false, false, false, false, false, false, false, false] rfl rfl (one_of HT_.out (by kernel_rfl)) (by decide) (fun K hK => ?_)
         refine goes_ Tryd.func18 (by kernel_rfl) rfl #[.agg #[.int .i64 a0_0, .int .i64 a0_1, .int .u64 a0_2, .int .u64 a0_3, .int .u64 a0_4, .string a0_5], .agg #[.int .u64 a1_0, .int .u64 a1_1, .int .u64 a1_2, .string a1_3, .string a1_4], .bool true] (by rfl) rfl rfl (by (try simp only [List.map_toArray, List.map_cons, List.map_nil]); first | done | rfl | (simp only [List.length_drop, List.length_take]; rfl)) ?_
         with_reducible refine (impl_TermHolds.calls a0_0 a0_1 a0_2 a0_3 a0_4 a0_5 a1_0 a1_1 a1_2 a1_3 a1_4 true t471 _ ?side1 A38.out).mono ?_
         (case side1 => exact HStd.out.below (by repeat (first | (with_reducible first | exact HB.out | apply below_alloc | apply pw_below_drewN | apply below_drew1 | refine below_set ?_ GE448.out | refine below_set ?_ GE449.out | refine below_set ?_ GE463.out) | exact HB.out)))
         rintro e w81 ⟨rfl, hb⟩
         refine ⟨_, rfl, ?_⟩
         have n0_ := Aside0.mk (Kd.N_below (by (with_reducible repeat (first | apply Kd.N_alloc | apply Kd.N_drewN | apply Kd.N_drew)); exact HO469.out) hb)
         have n1_ := Aside0.mk (blk_below (g := gb448) (o := .cells #[.int .i64 a0_0, .int .i64 a0_1, .int .u64 a0_2, .int .u64 a0_3, .int .u64 a0_4, .string a0_5] 24 (0, 0)) (by (with_reducible repeat (first | refine blk_drewN ?_ _ | refine blk_drew ?_ | refine blk_alloc ?_ _)); exact BK448.out) hb)
         have n2_ := Aside0.mk (blk_below (g := gb449) (o := .cells #[.int .u64 a1_0, .int .u64 a1_1, .int .u64 a1_2, .string a1_3, .string a1_4] 26 (0, 0)) (by (with_reducible repeat (first | refine blk_drewN ?_ _ | refine blk_drew ?_ | refine blk_alloc ?_ _)); exact BK449.out) hb)
         have n3_ := Aside0.mk (blk_below (g := gb463) (o := .cells #[.int .i64 t457, .int .i64 t458, .int .u64 t459, .int .u64 t460, .int .u64 t461, .string t462] 24 (0, 0)) (by (with_reducible repeat (first | refine blk_drewN ?_ _ | refine blk_drew ?_ | refine blk_alloc ?_ _)); exact BK463.out) hb)
         have n4_ := Aside0.mk (below_step (by repeat (first | (with_reducible first | exact HB.out | apply below_alloc | apply pw_below_drewN | apply below_drew1 | refine below_set ?_ GE448.out | refine below_set ?_ GE449.out | refine below_set ?_ GE463.out) | exact HB.out)) hb)
         clear HO469
         clear BK448
         clear BK449
         clear BK463
         clear HB
         have HO469 := n0_
         have BK448 := n1_
         have BK449 := n2_
         have BK463 := n3_
         have HB := n4_
         clear n0_ n1_ n2_ n3_ n4_
         (try clear hb)
         (try clear hb2)
         (try clear hk)
         (try clear hi)
         refine hK.out _ _ ⟨(blk_cell BK448.out 0).trans rfl, (blk_cell BK448.out 1).trans rfl, (blk_cell BK448.out 2).trans rfl, (blk_cell BK448.out 3).trans rfl, (blk_cell BK448.out 4).trans rfl, (blk_cell BK448.out 5).trans rfl, (blk_cell BK449.out 0).trans rfl, (blk_cell BK449.out 1).trans rfl, (blk_cell BK449.out 2).trans rfl, (blk_cell BK449.out 3).trans rfl, (blk_cell BK449.out 4).trans rfl⟩ (fun hHeld => ?_)
         clear hK K
         refine norm_ (a' := ?_) ?_ ?_
         rotate_left
         ·
          show Act.put _ (some 41) _ = _
          simp only [Act.put, List.setIfInBounds_toArray, List.set_cons_zero, List.set_cons_succ, i64_w, i32_w]
          rfl
         refine pure_ (i := 15) (N := some 42) (v := ?_) (a' := ?_) #[true, true, true, true, true, true, true, true, true, true, true, true, true, true, true, true, false, false, false, false, false, false, false, false, false] rfl rfl (any_of HT_.out (by kernel_rfl)) (fun _ _ _ h => h) (Or.inl ⟨by rfl, ?_⟩) ?_ ?_
         rotate_left
         ·
          intro w'
          go_simp
          with_reducible rfl
         rotate_left
         ·
          simp only [Act.put, List.setIfInBounds_toArray, List.set_cons_zero, List.set_cons_succ, i64_w, i32_w]
          rfl
         refine pure_ (i := 16) (N := some 43) (v := ?_) (a' := ?_) #[true, true, true, true, true, true, true, true, true, true, true, true, true, true, true, true, true, false, false, false, false, false, false, false, false] rfl rfl (any_of HT_.out (by kernel_rfl)) (fun _ _ _ h => h) (Or.inl ⟨by rfl, ?_⟩) ?_ ?_
         rotate_left
         ·
          intro w'
          go_simp
          with_reducible rfl
         rotate_left
         ·
          simp only [Act.put, List.setIfInBounds_toArray, List.set_cons_zero, List.set_cons_succ, i64_w, i32_w]
          rfl
         refine pure_ (i := 17) (N := some 44) (v := undef) (a' := ?_) #[true, true, true, true, true, true, true, true, true, true, true, true, true, true, true, true, true, true, false, false, false, false, false, false, false] rfl rfl (any_of HT_.out (by kernel_rfl)) (fun _ _ _ h => h) (Or.inr ⟨by rfl, rfl⟩) ?_ ?_
         rotate_left
         ·
          simp only [Act.put, List.setIfInBounds_toArray, List.set_cons_zero, List.set_cons_succ, i64_w, i32_w]
          rfl
         refine pure_ (i := 18) (N := some 45) (v := undef) (a' := ?_) #[true, true, true, true, true, true, true, true, true, true, true, true, true, true, true, true, true, true, true, false, false, false, false, false, false] rfl rfl (any_of HT_.out (by kernel_rfl)) (fun _ _ _ h => h) (Or.inr ⟨by rfl, rfl⟩) ?_ ?_
         rotate_left
         ·
          simp only [Act.put, List.setIfInBounds_toArray, List.set_cons_zero, List.set_cons_succ, i64_w, i32_w]
          rfl
         refine pure_ (i := 19) (N := some 46) (v := undef) (a' := ?_) #[true, true, true, true, true, true, true, true, true, true, true, true, true, true, true, true, true, true, true, true, false, false, false, false, false] rfl rfl (any_of HT_.out (by kernel_rfl)) (fun _ _ _ h => h) (Or.inr ⟨by rfl, rfl⟩) ?_ ?_
         rotate_left
         ·
          simp only [Act.put, List.setIfInBounds_toArray, List.set_cons_zero, List.set_cons_succ, i64_w, i32_w]
          rfl
         refine pure_ (i := 20) (N := some 47) (v := undef) (a' := ?_) #[true, true, true, true, true, true, true, true, true, true, true, true, true, true, true, true, true, true, true, true, true, false, false, false, false] rfl rfl (any_of HT_.out (by kernel_rfl)) (fun _ _ _ h => h) (Or.inr ⟨by rfl, rfl⟩) ?_ ?_
         rotate_left
         ·
          simp only [Act.put, List.setIfInBounds_toArray, List.set_cons_zero, List.set_cons_succ, i64_w, i32_w]
          rfl
         refine pure_ (i := 21) (N := some 48) (v := undef) (a' := ?_) #[true, true, true, true, true, true, true, true, true, true, true, true, true, true, true, true, true, true, true, true, true, true, false, false, false] rfl rfl (any_of HT_.out (by kernel_rfl)) (fun _ _ _ h => h) (Or.inr ⟨by rfl, rfl⟩) ?_ ?_
         rotate_left
         ·
          simp only [Act.put, List.setIfInBounds_toArray, List.set_cons_zero, List.set_cons_succ, i64_w, i32_w]
          rfl
         refine pure_ (i := 22) (N := some 49) (v := undef) (a' := ?_) #[true, true, true, true, true, true, true, true, true, true, true, true, true, true, true, true, true, true, true, true, true, true, true, false, false] rfl rfl (any_of HT_.out (by kernel_rfl)) (fun _ _ _ h => h) (Or.inr ⟨by rfl, rfl⟩) ?_ ?_
         rotate_left
         ·
          simp only [Act.put, List.setIfInBounds_toArray, List.set_cons_zero, List.set_cons_succ, i64_w, i32_w]
          rfl
         refine pure_ (i := 23) (N := some 50) (v := ?_) (a' := ?_) #[true, true, true, true, true, true, true, true, true, true, true, true, true, true, true, true, true, true, true, true, true, true, true, true, false] rfl rfl (any_of HT_.out (by kernel_rfl)) (fun _ _ _ h => h) (Or.inl ⟨by rfl, ?_⟩) ?_ ?_
         rotate_left
         ·
          intro w'
          go_simp
          with_reducible rfl
         rotate_left
         ·
          simp only [Act.put, List.setIfInBounds_toArray, List.set_cons_zero, List.set_cons_succ, i64_w, i32_w]
          rfl
         refine pure_ (i := 24) (N := some 6) (v := ?_) (a' := ?_) #[true, true, true, true, true, true, true, true, true, true, true, true, true, true, true, true, true, true, true, true, true, true, true, true, true] rfl rfl (any_of HT_.out (by kernel_rfl)) (fun _ _ _ h => h) (Or.inl ⟨by rfl, ?_⟩) ?_ ?_
         rotate_left
         ·
          intro w'
          go_simp
          with_reducible rfl
         rotate_left
         ·
          simp only [Act.put, List.setIfInBounds_toArray, List.set_cons_zero, List.set_cons_succ, i64_w, i32_w]
          rfl
         refine done_ (done_of HT_.out (by kernel_rfl)) ?_
         try go_wp2
         go_ret
         exact ⟨by first | rfl | (simp [errW_none, errW_some] <;> rfl) | (simp [*, errW_none, errW_some] <;> rfl) | (simp [bneNil]; done), by repeat (first | (with_reducible first | exact HB.out | apply below_alloc | apply pw_below_drewN | apply below_drew1 | refine below_set ?_ GE448.out | refine below_set ?_ GE449.out | refine below_set ?_ GE463.out) | exact HB.out)⟩
       ·
        replace c37 := Bool.eq_false_iff.mpr c37
        subst c37
        have H1 : ((impl_TermHolds.f a0_0 a0_1 a0_2 a0_3 a0_4 a0_5 a1_0 a1_1 a1_2 a1_3 a1_4 (a0_5.toList != ([] : List UInt8))).bind fun t479 => (if (t470 == t479) = true then ((impl_TermsHold.f (([(([(⟨t457, t458, t459, t460, t461, t462⟩ : S24)] : List (S24)))] : List (List (S24)))) a1_0 a1_1 a1_2 a1_3 a1_4 false).bind fun t486 => (some t486)) else (some false))) = some r := by rw [if_neg (show ¬ (false = true) by decide)] at H; exact H
        clear H
        have H := H1
        clear H1
        replace H := Option.bind_eq_some_iff.mp H
        obtain ⟨t479, A820, H⟩ := H
        replace H : (if (t470 == t479) = true then ((impl_TermsHold.f (([(([(⟨t457, t458, t459, t460, t461, t462⟩ : S24)] : List (S24)))] : List (List (S24)))) a1_0 a1_1 a1_2 a1_3 a1_4 false).bind fun t486 => (some t486)) else (some false)) = some r := H
        have A82 := Aside0.mk A820
        clear A820
        by_cases c83 : (t470 == t479) = true
        ·
         rw [if_pos c83] at H
         have c83b0 : (t470 == t479) = true := c83
         (try (have c83b1 : decide (t470 = t479) = true := by simpa using c83))
         (try (have c83b2 : (t470 == t479) = true := by simpa using c83))
         clear c83
         obtain ⟨y480, hy480⟩ : ∃ y_ : List (S24), y_ = (([(⟨t457, t458, t459, t460, t461, t462⟩ : S24)] : List (S24))) := ⟨_, rfl⟩
         replace H : ((impl_TermsHold.f (([y480] : List (List (S24)))) a1_0 a1_1 a1_2 a1_3 a1_4 false).bind fun t486 => (some t486)) = some r := by first | (rw [hy480]; with_reducible exact H) | (have H2_ := (Option.bind_some _ _).symm.trans H; rw [hy480]; with_reducible exact H2_) | (have H2_ := (Option.bind_some _ _).symm.trans H; with_reducible exact H2_) | with_reducible exact H | (rw [hy480]; exact H) | exact H
         have Ny480 := Aside0.mk hy480
         clear hy480
         obtain ⟨y483, hy483⟩ : ∃ y_ : List (List (S24)), y_ = (([y480] : List (List (S24)))) := ⟨_, rfl⟩
         replace H : ((impl_TermsHold.f y483 a1_0 a1_1 a1_2 a1_3 a1_4 false).bind fun t486 => (some t486)) = some r := by first | (rw [hy483]; with_reducible exact H) | (have H2_ := (Option.bind_some _ _).symm.trans H; rw [hy483]; with_reducible exact H2_) | (have H2_ := (Option.bind_some _ _).symm.trans H; with_reducible exact H2_) | with_reducible exact H | (rw [hy483]; exact H) | exact H
         have Ny483 := Aside0.mk hy483
         clear hy483
         replace H := Option.bind_eq_some_iff.mp H
         obtain ⟨t486, A840, H⟩ := H
         replace H : (some t486) = some r := H
         have A84 := Aside0.mk A840
         clear A840
         obtain rfl := Option.some.inj H
         have hnb85 := NB449_448.out
         have hnc85 := NB448_449.out
         have hcz86_0 : wc.cell? ⟨gb449, 0, none⟩ = some (.int .u64 a1_0) := (blk_cell BK449.out 0).trans rfl
         have hcz86_1 : wc.cell? ⟨gb449, 1, none⟩ = some (.int .u64 a1_1) := (blk_cell BK449.out 1).trans rfl
         have hcz86_2 : wc.cell? ⟨gb449, 2, none⟩ = some (.int .u64 a1_2) := (blk_cell BK449.out 2).trans rfl
         have hcz86_3 : wc.cell? ⟨gb449, 3, none⟩ = some (.string a1_3) := (blk_cell BK449.out 3).trans rfl
         have hcz86_4 : wc.cell? ⟨gb449, 4, none⟩ = some (.string a1_4) := (blk_cell BK449.out 4).trans rfl
         have hfz86_0 := blk_frozen BK449.out 0
         have hfz86_1 := blk_frozen BK449.out 1
         have hfz86_2 := blk_frozen BK449.out 2
         have hfz86_3 := blk_frozen BK449.out 3
         have hfz86_4 := blk_frozen BK449.out 4
         try go_wp2_with (first | ((with_reducible refine gate_callee (f := 28) rfl ?_); refine goesL_ (some 26) rfl rfl Tryd.func28 (by kernel_rfl) rfl #[.int .i64 0, .agg #[.int .u64 a1_0, .int .u64 a1_1, .int .u64 a1_2, .string a1_3, .string a1_4], .int .i64 3] rfl (by (try simp only [List.map_toArray, List.map_cons, List.map_nil]); first | done | rfl | (simp only [List.length_drop, List.length_take]; rfl)) ?_; (with_reducible refine (laws_stTerm.calls 0 a1_0 a1_1 a1_2 a1_3 a1_4 3 t457 t458 t459 t460 t461 t462 _ A35.out).mono ?_); rintro e w87 ⟨rfl, hb⟩; refine ⟨_, rfl, ?_⟩; have n0_ := Aside0.mk (blk_below (g := gb448) (o := .cells #[.int .i64 a0_0, .int .i64 a0_1, .int .u64 a0_2, .int .u64 a0_3, .int .u64 a0_4, .string a0_5] 24 (0, 0)) (by (with_reducible repeat (first | refine blk_drewN ?_ _ | refine blk_drew ?_ | refine blk_alloc ?_ _)); exact BK448.out) hb); have n1_ := Aside0.mk (blk_below (g := gb449) (o := .cells #[.int .u64 a1_0, .int .u64 a1_1, .int .u64 a1_2, .string a1_3, .string a1_4] 26 (0, 0)) (by (with_reducible repeat (first | refine blk_drewN ?_ _ | refine blk_drew ?_ | refine blk_alloc ?_ _)); exact BK449.out) hb); have n2_ := Aside0.mk (below_step (by repeat (first | (with_reducible first | exact HB.out | apply below_alloc | apply pw_below_drewN | apply below_drew1 | refine below_set ?_ GE448.out | refine below_set ?_ GE449.out) | exact HB.out)) hb); clear BK448; clear BK449; clear HB; have BK448 := n0_; have BK449 := n1_; have HB := n2_; clear n0_ n1_ n2_; (try clear hb); (try clear hb2); (try clear hk); (try clear hi)) | ((with_reducible refine gate_dst (N := 7) rfl ?_); (try (refine gate_guard (by rfl) ?_; dsimp only)); refine box_event ?hg (N := 7) ?hd (cs := #[.int .i64 0, .int .i64 0, .int .u64 0, .int .u64 0, .int .u64 0, .string (⟨#[]⟩ : ByteArray)]) (t := 24) ?hr ?_; (case hd => rfl); (case hg => rfl); (case hr => first | (go_simp; done) | (go_simp; rfl) | (go_simp; simp [u8w]; done)); intro gb463 hg w88 hbox hb; have n0_ := Aside0.mk (blk_below (g := gb448) (o := .cells #[.int .i64 a0_0, .int .i64 a0_1, .int .u64 a0_2, .int .u64 a0_3, .int .u64 a0_4, .string a0_5] 24 (0, 0)) (by (with_reducible repeat (first | refine blk_drewN ?_ _ | refine blk_drew ?_ | refine blk_alloc ?_ _)); exact BK448.out) hb); have n1_ := Aside0.mk (blk_below (g := gb449) (o := .cells #[.int .u64 a1_0, .int .u64 a1_1, .int .u64 a1_2, .string a1_3, .string a1_4] 26 (0, 0)) (by (with_reducible repeat (first | refine blk_drewN ?_ _ | refine blk_drew ?_ | refine blk_alloc ?_ _)); exact BK449.out) hb); have n2_ := Aside0.mk (below_step (by repeat (first | (with_reducible first | exact HB.out | apply below_alloc | apply pw_below_drewN | apply below_drew1 | refine below_set ?_ GE448.out | refine below_set ?_ GE449.out) | exact HB.out)) hb); have n3_ := Aside0.mk (hbox); have n4_ := Aside0.mk ((by rw [hg]; exact (below_size (by repeat (first | (with_reducible first | exact HB.out | apply below_alloc | apply pw_below_drewN | apply below_drew1 | refine below_set ?_ GE448.out | refine below_set ?_ GE449.out) | exact HB.out))) : w.heap.size ≤ gb463)); have n5_ := Aside0.mk ((by rw [hg]; exact (below_size (by repeat (first | (with_reducible first | exact HB.out | apply below_alloc | apply pw_below_drewN | apply below_drew1 | refine below_set ?_ GE448.out | refine below_set ?_ GE449.out) | exact HB.out))) : w.heap.size ≤ gb463)); have n6_ := Aside0.mk ((by rw [hg]; exact Nat.ne_of_lt (blk_lt (g := gb448) (o := .cells #[.int .i64 a0_0, .int .i64 a0_1, .int .u64 a0_2, .int .u64 a0_3, .int .u64 a0_4, .string a0_5] 24 (0, 0)) (by (with_reducible repeat (first | refine blk_drewN ?_ _ | refine blk_drew ?_ | refine blk_alloc ?_ _)); exact BK448.out)) : gb448 ≠ gb463)); have n7_ := Aside0.mk ((by rw [hg]; exact Nat.ne_of_gt (blk_lt (g := gb448) (o := .cells #[.int .i64 a0_0, .int .i64 a0_1, .int .u64 a0_2, .int .u64 a0_3, .int .u64 a0_4, .string a0_5] 24 (0, 0)) (by (with_reducible repeat (first | refine blk_drewN ?_ _ | refine blk_drew ?_ | refine blk_alloc ?_ _)); exact BK448.out)) : gb463 ≠ gb448)); have n8_ := Aside0.mk ((by rw [hg]; exact Nat.ne_of_lt (blk_lt (g := gb449) (o := .cells #[.int .u64 a1_0, .int .u64 a1_1, .int .u64 a1_2, .string a1_3, .string a1_4] 26 (0, 0)) (by (with_reducible repeat (first | refine blk_drewN ?_ _ | refine blk_drew ?_ | refine blk_alloc ?_ _)); exact BK449.out)) : gb449 ≠ gb463)); have n9_ := Aside0.mk ((by rw [hg]; exact Nat.ne_of_gt (blk_lt (g := gb449) (o := .cells #[.int .u64 a1_0, .int .u64 a1_1, .int .u64 a1_2, .string a1_3, .string a1_4] 26 (0, 0)) (by (with_reducible repeat (first | refine blk_drewN ?_ _ | refine blk_drew ?_ | refine blk_alloc ?_ _)); exact BK449.out)) : gb463 ≠ gb449)); clear BK448; clear BK449; clear HB; have BK448 := n0_; have BK449 := n1_; have HB := n2_; have BK463 := n3_; have GW463 := n4_; have GE463 := n5_; have NB448_463 := n6_; have NB463_448 := n7_; have NB449_463 := n8_; have NB463_449 := n9_; clear n0_ n1_ n2_ n3_ n4_ n5_ n6_ n7_ n8_ n9_; clear hb hbox hg; have hnb89 := NB463_448.out; have hnc89 := NB448_463.out; have hnb90 := NB463_449.out; have hnc90 := NB449_463.out; have hcz91_0 : w88.cell? ⟨gb463, 0, none⟩ = some (.int .i64 0) := (blk_cell BK463.out 0).trans rfl; have hcz91_1 : w88.cell? ⟨gb463, 1, none⟩ = some (.int .i64 0) := (blk_cell BK463.out 1).trans rfl; have hcz91_2 : w88.cell? ⟨gb463, 2, none⟩ = some (.int .u64 0) := (blk_cell BK463.out 2).trans rfl; have hcz91_3 : w88.cell? ⟨gb463, 3, none⟩ = some (.int .u64 0) := (blk_cell BK463.out 3).trans rfl; have hcz91_4 : w88.cell? ⟨gb463, 4, none⟩ = some (.int .u64 0) := (blk_cell BK463.out 4).trans rfl; have hcz91_5 : w88.cell? ⟨gb463, 5, none⟩ = some (.string (⟨#[]⟩ : ByteArray)) := (blk_cell BK463.out 5).trans rfl; have hfz91_0 := blk_frozen BK463.out 0; have hfz91_1 := blk_frozen BK463.out 1; have hfz91_2 := blk_frozen BK463.out 2; have hfz91_3 := blk_frozen BK463.out 3; have hfz91_4 := blk_frozen BK463.out 4; have hfz91_5 := blk_frozen BK463.out 5))
         have n0_ : Aside0 (((((((w88.setCell ⟨gb463, 0, none⟩ (.int .i64 t457)).setCell ⟨gb463, 1, none⟩ (.int .i64 t458)).setCell ⟨gb463, 2, none⟩ (.int .u64 t459)).setCell ⟨gb463, 3, none⟩ (.int .u64 t460)).setCell ⟨gb463, 4, none⟩ (.int .u64 t461)).setCell ⟨gb463, 5, none⟩ (.string t462)).heap[gb448]? = some (.cells #[.int .i64 a0_0, .int .i64 a0_1, .int .u64 a0_2, .int .u64 a0_3, .int .u64 a0_4, .string a0_5] 24 (0, 0))) := ⟨by (with_reducible repeat (first | refine blk_drewN ?_ _ | refine blk_drew ?_ | refine blk_alloc ?_ _)); refine blk_far ?_ NB448_463.out _; (with_reducible repeat (first | refine blk_drewN ?_ _ | refine blk_drew ?_ | refine blk_alloc ?_ _)); refine blk_far ?_ NB448_463.out _; (with_reducible repeat (first | refine blk_drewN ?_ _ | refine blk_drew ?_ | refine blk_alloc ?_ _)); refine blk_far ?_ NB448_463.out _; (with_reducible repeat (first | refine blk_drewN ?_ _ | refine blk_drew ?_ | refine blk_alloc ?_ _)); refine blk_far ?_ NB448_463.out _; (with_reducible repeat (first | refine blk_drewN ?_ _ | refine blk_drew ?_ | refine blk_alloc ?_ _)); refine blk_far ?_ NB448_463.out _; (with_reducible repeat (first | refine blk_drewN ?_ _ | refine blk_drew ?_ | refine blk_alloc ?_ _)); refine blk_far ?_ NB448_463.out _; (with_reducible repeat (first | refine blk_drewN ?_ _ | refine blk_drew ?_ | refine blk_alloc ?_ _)); exact BK448.out⟩
         have n1_ : Aside0 (((((((w88.setCell ⟨gb463, 0, none⟩ (.int .i64 t457)).setCell ⟨gb463, 1, none⟩ (.int .i64 t458)).setCell ⟨gb463, 2, none⟩ (.int .u64 t459)).setCell ⟨gb463, 3, none⟩ (.int .u64 t460)).setCell ⟨gb463, 4, none⟩ (.int .u64 t461)).setCell ⟨gb463, 5, none⟩ (.string t462)).heap[gb449]? = some (.cells #[.int .u64 a1_0, .int .u64 a1_1, .int .u64 a1_2, .string a1_3, .string a1_4] 26 (0, 0))) := ⟨by (with_reducible repeat (first | refine blk_drewN ?_ _ | refine blk_drew ?_ | refine blk_alloc ?_ _)); refine blk_far ?_ NB449_463.out _; (with_reducible repeat (first | refine blk_drewN ?_ _ | refine blk_drew ?_ | refine blk_alloc ?_ _)); refine blk_far ?_ NB449_463.out _; (with_reducible repeat (first | refine blk_drewN ?_ _ | refine blk_drew ?_ | refine blk_alloc ?_ _)); refine blk_far ?_ NB449_463.out _; (with_reducible repeat (first | refine blk_drewN ?_ _ | refine blk_drew ?_ | refine blk_alloc ?_ _)); refine blk_far ?_ NB449_463.out _; (with_reducible repeat (first | refine blk_drewN ?_ _ | refine blk_drew ?_ | refine blk_alloc ?_ _)); refine blk_far ?_ NB449_463.out _; (with_reducible repeat (first | refine blk_drewN ?_ _ | refine blk_drew ?_ | refine blk_alloc ?_ _)); refine blk_far ?_ NB449_463.out _; (with_reducible repeat (first | refine blk_drewN ?_ _ | refine blk_drew ?_ | refine blk_alloc ?_ _)); exact BK449.out⟩
         have n2_ : Aside0 (((((((w88.setCell ⟨gb463, 0, none⟩ (.int .i64 t457)).setCell ⟨gb463, 1, none⟩ (.int .i64 t458)).setCell ⟨gb463, 2, none⟩ (.int .u64 t459)).setCell ⟨gb463, 3, none⟩ (.int .u64 t460)).setCell ⟨gb463, 4, none⟩ (.int .u64 t461)).setCell ⟨gb463, 5, none⟩ (.string t462)).heap[gb463]? = some (.cells #[.int .i64 t457, .int .i64 t458, .int .u64 t459, .int .u64 t460, .int .u64 t461, .string t462] 24 (0, 0))) := ⟨by (with_reducible repeat (first | refine blk_drewN ?_ _ | refine blk_drew ?_ | refine blk_alloc ?_ _)); refine blk_put (cs := #[.int .i64 t457, .int .i64 t458, .int .u64 t459, .int .u64 t460, .int .u64 t461, .string (⟨#[]⟩ : ByteArray)]) ?_ 5 _ rfl; (with_reducible repeat (first | refine blk_drewN ?_ _ | refine blk_drew ?_ | refine blk_alloc ?_ _)); refine blk_put (cs := #[.int .i64 t457, .int .i64 t458, .int .u64 t459, .int .u64 t460, .int .u64 0, .string (⟨#[]⟩ : ByteArray)]) ?_ 4 _ rfl; (with_reducible repeat (first | refine blk_drewN ?_ _ | refine blk_drew ?_ | refine blk_alloc ?_ _)); refine blk_put (cs := #[.int .i64 t457, .int .i64 t458, .int .u64 t459, .int .u64 0, .int .u64 0, .string (⟨#[]⟩ : ByteArray)]) ?_ 3 _ rfl; (with_reducible repeat (first | refine blk_drewN ?_ _ | refine blk_drew ?_ | refine blk_alloc ?_ _)); refine blk_put (cs := #[.int .i64 t457, .int .i64 t458, .int .u64 0, .int .u64 0, .int .u64 0, .string (⟨#[]⟩ : ByteArray)]) ?_ 2 _ rfl; (with_reducible repeat (first | refine blk_drewN ?_ _ | refine blk_drew ?_ | refine blk_alloc ?_ _)); refine blk_put (cs := #[.int .i64 t457, .int .i64 0, .int .u64 0, .int .u64 0, .int .u64 0, .string (⟨#[]⟩ : ByteArray)]) ?_ 1 _ rfl; (with_reducible repeat (first | refine blk_drewN ?_ _ | refine blk_drew ?_ | refine blk_alloc ?_ _)); refine blk_put (cs := #[.int .i64 0, .int .i64 0, .int .u64 0, .int .u64 0, .int .u64 0, .string (⟨#[]⟩ : ByteArray)]) ?_ 0 _ rfl; (with_reducible repeat (first | refine blk_drewN ?_ _ | refine blk_drew ?_ | refine blk_alloc ?_ _)); exact BK463.out⟩
         have n3_ : Aside0 (Below w.heap.size w ((((((w88.setCell ⟨gb463, 0, none⟩ (.int .i64 t457)).setCell ⟨gb463, 1, none⟩ (.int .i64 t458)).setCell ⟨gb463, 2, none⟩ (.int .u64 t459)).setCell ⟨gb463, 3, none⟩ (.int .u64 t460)).setCell ⟨gb463, 4, none⟩ (.int .u64 t461)).setCell ⟨gb463, 5, none⟩ (.string t462))) := ⟨by repeat (first | (with_reducible first | exact HB.out | apply below_alloc | apply pw_below_drewN | apply below_drew1 | refine below_set ?_ GE448.out | refine below_set ?_ GE449.out | refine below_set ?_ GE463.out) | exact HB.out)⟩
         (try clear BK448)
         (try clear BK449)
         (try clear BK463)
         (try clear HB)
         generalize ((((((w88.setCell ⟨gb463, 0, none⟩ (.int .i64 t457)).setCell ⟨gb463, 1, none⟩ (.int .i64 t458)).setCell ⟨gb463, 2, none⟩ (.int .u64 t459)).setCell ⟨gb463, 3, none⟩ (.int .u64 t460)).setCell ⟨gb463, 4, none⟩ (.int .u64 t461)).setCell ⟨gb463, 5, none⟩ (.string t462)) = w92 at n0_ n1_ n2_ n3_ ⊢
         have BK448 := n0_
         have BK449 := n1_
         have BK463 := n2_
         have HB := n3_
         clear n0_ n1_ n2_ n3_
         have n0_ := Aside0.mk (blk_drew BK448.out)
         have n1_ := Aside0.mk (blk_drew BK449.out)
         have n2_ := Aside0.mk (blk_drew BK463.out)
         have n3_ := Aside0.mk (below_drew1 HB.out)
         clear BK448
         clear BK449
         clear BK463
         clear HB
         have BK448 := n0_
         have BK449 := n1_
         have BK463 := n2_
         have HB := n3_
         clear n0_ n1_ n2_ n3_
         refine start_ (n := 25) (S := fun w' => w'.cell? ⟨gb448, 0, none⟩ = some (.int .i64 a0_0) ∧ w'.cell? ⟨gb448, 1, none⟩ = some (.int .i64 a0_1) ∧ w'.cell? ⟨gb448, 2, none⟩ = some (.int .u64 a0_2) ∧ w'.cell? ⟨gb448, 3, none⟩ = some (.int .u64 a0_3) ∧ w'.cell? ⟨gb448, 4, none⟩ = some (.int .u64 a0_4) ∧ w'.cell? ⟨gb448, 5, none⟩ = some (.string a0_5) ∧ w'.cell? ⟨gb449, 0, none⟩ = some (.int .u64 a1_0) ∧ w'.cell? ⟨gb449, 1, none⟩ = some (.int .u64 a1_1) ∧ w'.cell? ⟨gb449, 2, none⟩ = some (.int .u64 a1_2) ∧ w'.cell? ⟨gb449, 3, none⟩ = some (.string a1_3) ∧ w'.cell? ⟨gb449, 4, none⟩ = some (.string a1_4) ∧ w'.cell? ⟨gb463, 0, none⟩ = some (.int .i64 t457) ∧ w'.cell? ⟨gb463, 1, none⟩ = some (.int .i64 t458) ∧ w'.cell? ⟨gb463, 2, none⟩ = some (.int .u64 t459) ∧ w'.cell? ⟨gb463, 3, none⟩ = some (.int .u64 t460) ∧ w'.cell? ⟨gb463, 4, none⟩ = some (.int .u64 t461) ∧ w'.cell? ⟨gb463, 5, none⟩ = some (.string t462)) (ds := []) #[false, false, false, false, false, false, false, false, false, false, false, false, false, false, false, false, false, false, false, false, false, false, false, false, false] (by kernel_rfl) rfl rfl ⟨(blk_cell BK448.out 0).trans rfl, (blk_cell BK448.out 1).trans rfl, (blk_cell BK448.out 2).trans rfl, (blk_cell BK448.out 3).trans rfl, (blk_cell BK448.out 4).trans rfl, (blk_cell BK448.out 5).trans rfl, (blk_cell BK449.out 0).trans rfl, (blk_cell BK449.out 1).trans rfl, (blk_cell BK449.out 2).trans rfl, (blk_cell BK449.out 3).trans rfl, (blk_cell BK449.out 4).trans rfl, (blk_cell BK463.out 0).trans rfl, (blk_cell BK463.out 1).trans rfl, (blk_cell BK463.out 2).trans rfl, (blk_cell BK463.out 3).trans rfl, (blk_cell BK463.out 4).trans rfl, (blk_cell BK463.out 5).trans rfl⟩ (fun hHeld => ?_); refine with_tabW laws_FnSemverTermsOne.tab6 laws_FnSemverTermsOne.bits6 (fun HT_ HW_ => ?_)
         generalize w92.drew = w93 at BK448 BK449 BK463 HB hHeld ⊢
         refine pure_ (i := 4) (N := some 31) (v := ?_) (a' := ?_) #[false, false, false, false, true, false, false, false, false, false, false, false, false, false, false, false, false, false, false, false, false, false, false, false, false] rfl rfl (any_of HT_.out (by kernel_rfl)) (fun _ _ _ h => h) (Or.inl ⟨by rfl, ?_⟩) ?_ ?_
         rotate_left
         ·
          intro w'
          go_simp
          with_reducible rfl
         rotate_left
         ·
          simp only [Act.put, List.setIfInBounds_toArray, List.set_cons_zero, List.set_cons_succ, i64_w, i32_w]
          rfl
         refine pure_ (i := 8) (N := some 35) (v := ?_) (a' := ?_) #[false, false, false, false, true, false, false, false, true, false, false, false, false, false, false, false, false, false, false, false, false, false, false, false, false] rfl rfl (any_of HT_.out (by kernel_rfl)) (fun _ _ _ h => h) (Or.inl ⟨by rfl, ?_⟩) ?_ ?_
         rotate_left
         ·
          intro w'
          go_simp
          with_reducible rfl
         rotate_left
         ·
          simp only [Act.put, List.setIfInBounds_toArray, List.set_cons_zero, List.set_cons_succ, i64_w, i32_w]
          rfl
         refine take_ (i := 0) (N := some 27) (v := ?_) (a' := ?_) #[true, false, false, false, true, false, false, false, true, false, false, false, false, false, false, false, false, false, false, false, false, false, false, false, false] rfl rfl (take_ofW HT_.out HW_.out (by kernel_rfl)) (fun _ _ _ h => h) (Or.inl ⟨by rfl, ?_⟩) hHeld ?_ ?_
         rotate_left
         ·
          rintro w' ⟨s0, s1, s2, s3, s4, s5, s6, s7, s8, s9, s10, s11, s12, s13, s14, s15, s16⟩
          go_simp
          with_reducible rfl
         rotate_left
         ·
          simp only [Act.put, List.setIfInBounds_toArray, List.set_cons_zero, List.set_cons_succ, i64_w, i32_w]
          rfl
         refine take_ (i := 3) (N := some 30) (v := ?_) (a' := ?_) #[true, false, false, true, true, false, false, false, true, false, false, false, false, false, false, false, false, false, false, false, false, false, false, false, false] rfl rfl (take_ofW HT_.out HW_.out (by kernel_rfl)) (fun _ _ _ h => h) (Or.inl ⟨by rfl, ?_⟩) hHeld ?_ ?_
         rotate_left
         ·
          rintro w' ⟨s0, s1, s2, s3, s4, s5, s6, s7, s8, s9, s10, s11, s12, s13, s14, s15, s16⟩
          go_simp
          with_reducible rfl
         rotate_left
         ·
          simp only [Act.put, List.setIfInBounds_toArray, List.set_cons_zero, List.set_cons_succ, i64_w, i32_w]
          rfl
         refine take_ (i := 6) (N := some 33) (v := ?_) (a' := ?_) #[true, false, false, true, true, false, true, false, true, false, false, false, false, false, false, false, false, false, false, false, false, false, false, false, false] rfl rfl (take_ofW HT_.out HW_.out (by kernel_rfl)) (fun _ _ _ h => h) (Or.inl ⟨by rfl, ?_⟩) hHeld ?_ ?_
         rotate_left
         ·
          rintro w' ⟨s0, s1, s2, s3, s4, s5, s6, s7, s8, s9, s10, s11, s12, s13, s14, s15, s16⟩
          go_simp
          with_reducible rfl
         rotate_left
         ·
          simp only [Act.put, List.setIfInBounds_toArray, List.set_cons_zero, List.set_cons_succ, i64_w, i32_w]
          rfl
         refine take_ (i := 7) (N := some 34) (v := ?_) (a' := ?_) #[true, false, false, true, true, false, true, true, true, false, false, false, false, false, false, false, false, false, false, false, false, false, false, false, false] rfl rfl (take_ofW HT_.out HW_.out (by kernel_rfl)) (fun _ _ _ h => h) (Or.inl ⟨by rfl, ?_⟩) hHeld ?_ ?_
         rotate_left
         ·
          rintro w' ⟨s0, s1, s2, s3, s4, s5, s6, s7, s8, s9, s10, s11, s12, s13, s14, s15, s16⟩
          go_simp
          with_reducible rfl
         rotate_left
         ·
          simp only [Act.put, List.setIfInBounds_toArray, List.set_cons_zero, List.set_cons_succ, i64_w, i32_w]
          rfl
         refine one_ (i := 1) (N := some 28) #[true, true, false, true, true, false, true, true, true, false, false, false, false, false, false, false, false, false, false, false, false, false, false, false, false] rfl rfl (one_of HT_.out (by kernel_rfl)) (by decide) (fun K hK => ?_)
         refine Kd.R_lit_step k24 _ 24 ?hg (N := 28) ?hd (xs := ([(⟨a0_0, a0_1, a0_2, a0_3, a0_4, a0_5⟩ : S24)] : List (S24))) (inner := [.int .i64 a0_0, .int .i64 a0_1, .int .u64 a0_2, .int .u64 a0_3, .int .u64 a0_4, .string a0_5]) (ok := fun _ => True) (okp := fun _ => True) ?hr ?hp (fun _ hk => hk) trivial (Below.refl _ _) (Nat.le_refl _) (by simp) ?_; (case hd => rfl); (case hg => rfl); (case hr => first | (go_simp; done) | (go_simp; rfl) | (go_simp; simp [u8w]; done)); (case hp => exact (Reps.c6 (show Kd.M k24 _ _ _ (⟨a0_0, a0_1, a0_2, a0_3, a0_4, a0_5⟩ : S24) [.int .i64 a0_0, .int .i64 a0_1, .int .u64 a0_2, .int .u64 a0_3, .int .u64 a0_4, .string a0_5] from (k24_mkM _ _ _ (⟨a0_0, a0_1, a0_2, a0_3, a0_4, a0_5⟩ : S24) )) (Reps.none _ _)))
         intro v465 w94 ho95 hb hg_ hnew_
         clear hg_ hnew_
         (first | rw [← Ny464.out] at ho95 | (simp only [Int.reduceToNat] at ho95; rw [← Ny464.out] at ho95))
         have n0_ := Aside0.mk (Kd.R_lower (Kd.R_newB (Kd.R_newB ho95 (g := gb448) (o := .cells #[.int .i64 a0_0, .int .i64 a0_1, .int .u64 a0_2, .int .u64 a0_3, .int .u64 a0_4, .string a0_5] 24 (0, 0)) (by (with_reducible repeat (first | refine blk_drewN ?_ _ | refine blk_drew ?_ | refine blk_alloc ?_ _)); exact BK448.out)) (g := gb463) (o := .cells #[.int .i64 t457, .int .i64 t458, .int .u64 t459, .int .u64 t460, .int .u64 t461, .string t462] 24 (0, 0)) (by (with_reducible repeat (first | refine blk_drewN ?_ _ | refine blk_drew ?_ | refine blk_alloc ?_ _)); exact BK463.out)) (below_size (by repeat (first | (with_reducible first | exact HB.out | apply below_alloc | apply pw_below_drewN | apply below_drew1 | refine below_set ?_ GE448.out | refine below_set ?_ GE449.out | refine below_set ?_ GE463.out) | exact HB.out))))
         have n1_ := Aside0.mk (blk_below (g := gb448) (o := .cells #[.int .i64 a0_0, .int .i64 a0_1, .int .u64 a0_2, .int .u64 a0_3, .int .u64 a0_4, .string a0_5] 24 (0, 0)) (by (with_reducible repeat (first | refine blk_drewN ?_ _ | refine blk_drew ?_ | refine blk_alloc ?_ _)); exact BK448.out) hb)
         have n2_ := Aside0.mk (blk_below (g := gb449) (o := .cells #[.int .u64 a1_0, .int .u64 a1_1, .int .u64 a1_2, .string a1_3, .string a1_4] 26 (0, 0)) (by (with_reducible repeat (first | refine blk_drewN ?_ _ | refine blk_drew ?_ | refine blk_alloc ?_ _)); exact BK449.out) hb)
         have n3_ := Aside0.mk (blk_below (g := gb463) (o := .cells #[.int .i64 t457, .int .i64 t458, .int .u64 t459, .int .u64 t460, .int .u64 t461, .string t462] 24 (0, 0)) (by (with_reducible repeat (first | refine blk_drewN ?_ _ | refine blk_drew ?_ | refine blk_alloc ?_ _)); exact BK463.out) hb)
         have n4_ := Aside0.mk (below_step (by repeat (first | (with_reducible first | exact HB.out | apply below_alloc | apply pw_below_drewN | apply below_drew1 | refine below_set ?_ GE448.out | refine below_set ?_ GE449.out | refine below_set ?_ GE463.out) | exact HB.out)) hb)
         clear BK448
         clear BK449
         clear BK463
         clear HB
         have HO466 := n0_
         have BK448 := n1_
         have BK449 := n2_
         have BK463 := n3_
         have HB := n4_
         clear n0_ n1_ n2_ n3_ n4_
         clear hb ho95
         obtain ⟨Ao96, co96, eo96⟩ := Kd.R_slice HO466.out
         (first | subst eo96 | (injection eo96 with f1_ f2_ f3_; have f4_ := f1_.symm; have f5_ := f3_.symm; clear f1_ f2_ f3_; subst f4_; subst f5_))
         refine hK.out _ _ ⟨(blk_cell BK448.out 0).trans rfl, (blk_cell BK448.out 1).trans rfl, (blk_cell BK448.out 2).trans rfl, (blk_cell BK448.out 3).trans rfl, (blk_cell BK448.out 4).trans rfl, (blk_cell BK448.out 5).trans rfl, (blk_cell BK449.out 0).trans rfl, (blk_cell BK449.out 1).trans rfl, (blk_cell BK449.out 2).trans rfl, (blk_cell BK449.out 3).trans rfl, (blk_cell BK449.out 4).trans rfl, (blk_cell BK463.out 0).trans rfl, (blk_cell BK463.out 1).trans rfl, (blk_cell BK463.out 2).trans rfl, (blk_cell BK463.out 3).trans rfl, (blk_cell BK463.out 4).trans rfl, (blk_cell BK463.out 5).trans rfl⟩ (fun hHeld => ?_)
         clear hK K
         refine norm_ (a' := ?_) ?_ ?_
         rotate_left
         ·
          show Act.put _ (some 28) _ = _
          simp only [Act.put, List.setIfInBounds_toArray, List.set_cons_zero, List.set_cons_succ, i64_w, i32_w]
          rfl
         refine one_ (i := 2) (N := some 29) #[true, true, true, true, true, false, true, true, true, false, false, false, false, false, false, false, false, false, false, false, false, false, false, false, false] rfl rfl (one_of HT_.out (by kernel_rfl)) (by decide) (fun K hK => ?_)
         refine Kd.N_lit_step (Kd.slice 24 k24) _ 42 ?hg (N' := 29) ?hd (xs := ([y464] : List (List (S24)))) (inner := [.slice Ao96 y464.length co96]) (ok := (fun k_ => k_ ≠ gb448 ∧ k_ ≠ gb449 ∧ k_ ≠ gb463)) (okp := (fun k_ => k_ ≠ gb448 ∧ k_ ≠ gb449 ∧ k_ ≠ gb463)) ?hr ?hp (fun _ hk => hk) ((show ∀ k_, w94.heap.size ≤ k_ → (fun k_ => k_ ≠ gb448 ∧ k_ ≠ gb449 ∧ k_ ≠ gb463) k_ from fun k_ hk => ⟨Kd.freshB (g := gb448) (o := .cells #[.int .i64 a0_0, .int .i64 a0_1, .int .u64 a0_2, .int .u64 a0_3, .int .u64 a0_4, .string a0_5] 24 (0, 0)) (by (with_reducible repeat (first | refine blk_drewN ?_ _ | refine blk_drew ?_ | refine blk_alloc ?_ _)); exact BK448.out) k_ hk, Kd.freshB (g := gb449) (o := .cells #[.int .u64 a1_0, .int .u64 a1_1, .int .u64 a1_2, .string a1_3, .string a1_4] 26 (0, 0)) (by (with_reducible repeat (first | refine blk_drewN ?_ _ | refine blk_drew ?_ | refine blk_alloc ?_ _)); exact BK449.out) k_ hk, Kd.freshB (g := gb463) (o := .cells #[.int .i64 t457, .int .i64 t458, .int .u64 t459, .int .u64 t460, .int .u64 t461, .string t462] 24 (0, 0)) (by (with_reducible repeat (first | refine blk_drewN ?_ _ | refine blk_drew ?_ | refine blk_alloc ?_ _)); exact BK463.out) k_ hk⟩) _ (Nat.le_refl _)) (Below.refl _ _) (Nat.le_refl _) (by simp) ?_; (case hd => rfl); (case hg => rfl); (case hr => first | (go_simp; done) | (go_simp; rfl) | (go_simp; simp [u8w]; done)); (case hp => exact (Reps.one (show Kd.FK (Kd.slice 24 k24) _ _ y464 [.slice Ao96 y464.length co96] from (Kd.FK_slice_mk (Kd.R_reads' (Kd.R_mono (ok' := (fun k_ => k_ ≠ gb448 ∧ k_ ≠ gb449 ∧ k_ ≠ gb463)) (Kd.R_types (HO466.out) BK449.out (by decide)) (fun k_ hk => ⟨hk.1.1.2, ⟨hk.2, hk.1.2⟩⟩))).2.1 (Kd.R_F (Kd.R_mono (ok' := (fun k_ => k_ ≠ gb448 ∧ k_ ≠ gb449 ∧ k_ ≠ gb463)) (Kd.R_types (HO466.out) BK449.out (by decide)) (fun k_ hk => ⟨hk.1.1.2, ⟨hk.2, hk.1.2⟩⟩))))) (Reps.none _ _)))
         intro v468 w97 ho98 hb hg_ hnew_
         clear hg_ hnew_
         (first | rw [← Ny467.out] at ho98 | (simp only [Int.reduceToNat] at ho98; rw [← Ny467.out] at ho98))
         have n0_ := Aside0.mk (Kd.N_lower ho98 (below_size (by repeat (first | (with_reducible first | exact HB.out | apply below_alloc | apply pw_below_drewN | apply below_drew1 | refine below_set ?_ GE448.out | refine below_set ?_ GE449.out | refine below_set ?_ GE463.out) | exact HB.out))))
         have n1_ := Aside0.mk (blk_below (g := gb448) (o := .cells #[.int .i64 a0_0, .int .i64 a0_1, .int .u64 a0_2, .int .u64 a0_3, .int .u64 a0_4, .string a0_5] 24 (0, 0)) (by (with_reducible repeat (first | refine blk_drewN ?_ _ | refine blk_drew ?_ | refine blk_alloc ?_ _)); exact BK448.out) hb)
         have n2_ := Aside0.mk (blk_below (g := gb449) (o := .cells #[.int .u64 a1_0, .int .u64 a1_1, .int .u64 a1_2, .string a1_3, .string a1_4] 26 (0, 0)) (by (with_reducible repeat (first | refine blk_drewN ?_ _ | refine blk_drew ?_ | refine blk_alloc ?_ _)); exact BK449.out) hb)
         have n3_ := Aside0.mk (blk_below (g := gb463) (o := .cells #[.int .i64 t457, .int .i64 t458, .int .u64 t459, .int .u64 t460, .int .u64 t461, .string t462] 24 (0, 0)) (by (with_reducible repeat (first | refine blk_drewN ?_ _ | refine blk_drew ?_ | refine blk_alloc ?_ _)); exact BK463.out) hb)
         have n4_ := Aside0.mk (below_step (by repeat (first | (with_reducible first | exact HB.out | apply below_alloc | apply pw_below_drewN | apply below_drew1 | refine below_set ?_ GE448.out | refine below_set ?_ GE449.out | refine below_set ?_ GE463.out) | exact HB.out)) hb)
         clear BK448
         clear BK449
         clear BK463
         clear HB
         clear HO466
         have HO469 := n0_
         have BK448 := n1_
         have BK449 := n2_
         have BK463 := n3_
         have HB := n4_
         clear n0_ n1_ n2_ n3_ n4_
         clear hb ho98
         obtain ⟨Ao99, co99, eo99⟩ := Kd.N_slice HO469.out
         (first | subst eo99 | (injection eo99 with f1_ f2_ f3_; have f4_ := f1_.symm; have f5_ := f3_.symm; clear f1_ f2_ f3_; subst f4_; subst f5_))
         refine hK.out _ _ ⟨(blk_cell BK448.out 0).trans rfl, (blk_cell BK448.out 1).trans rfl, (blk_cell BK448.out 2).trans rfl, (blk_cell BK448.out 3).trans rfl, (blk_cell BK448.out 4).trans rfl, (blk_cell BK448.out 5).trans rfl, (blk_cell BK449.out 0).trans rfl, (blk_cell BK449.out 1).trans rfl, (blk_cell BK449.out 2).trans rfl, (blk_cell BK449.out 3).trans rfl, (blk_cell BK449.out 4).trans rfl, (blk_cell BK463.out 0).trans rfl, (blk_cell BK463.out 1).trans rfl, (blk_cell BK463.out 2).trans rfl, (blk_cell BK463.out 3).trans rfl, (blk_cell BK463.out 4).trans rfl, (blk_cell BK463.out 5).trans rfl⟩ (fun hHeld => ?_)
         clear hK K
         refine norm_ (a' := ?_) ?_ ?_
         rotate_left
         ·
          show Act.put _ (some 29) _ = _
          simp only [Act.put, List.setIfInBounds_toArray, List.set_cons_zero, List.set_cons_succ, i64_w, i32_w]
          rfl
         refine one_ (i := 5) (N := some 32) #[true, true, true, true, true, true, true, true, true, false, false, false, false, false, false, false, false, false, false, false, false, false, false, false, false] rfl rfl (one_of HT_.out (by kernel_rfl)) (by decide) (fun K hK => ?_)
         refine goes_ Tryd.func37 (by kernel_rfl) rfl #[.slice Ao99 y467.length co99, .agg #[.int .u64 a1_0, .int .u64 a1_1, .int .u64 a1_2, .string a1_3, .string a1_4], .bool false] (by rfl) rfl rfl (by (try simp only [List.map_toArray, List.map_cons, List.map_nil]); first | done | rfl | (simp only [List.length_drop, List.length_take]; rfl)) ?_
         with_reducible refine (impl_TermsHold.calls _ _ y467 a1_0 a1_1 a1_2 a1_3 a1_4 false t470 _ ?side1 ?side2 ?side3 A36.out).mono ?_
         (case side1 => repeat (first | exact (Kd.N_reads' HO469.out).2.2 | (with_reducible refine Kd.C_alloc ?_ _) | (with_reducible refine Kd.C_drewN ?_ _) | (with_reducible refine Kd.C_drew ?_)))
         (case side2 => exact (Kd.N_reads' HO469.out).2.1)
         (case side3 => exact HStd.out.below (by repeat (first | (with_reducible first | exact HB.out | apply below_alloc | apply pw_below_drewN | apply below_drew1 | refine below_set ?_ GE448.out | refine below_set ?_ GE449.out | refine below_set ?_ GE463.out) | exact HB.out)))
         rintro e w100 ⟨rfl, hb⟩
         refine ⟨_, rfl, ?_⟩
         have n0_ := Aside0.mk (Kd.N_below (by (with_reducible repeat (first | apply Kd.N_alloc | apply Kd.N_drewN | apply Kd.N_drew)); exact HO469.out) hb)
         have n1_ := Aside0.mk (blk_below (g := gb448) (o := .cells #[.int .i64 a0_0, .int .i64 a0_1, .int .u64 a0_2, .int .u64 a0_3, .int .u64 a0_4, .string a0_5] 24 (0, 0)) (by (with_reducible repeat (first | refine blk_drewN ?_ _ | refine blk_drew ?_ | refine blk_alloc ?_ _)); exact BK448.out) hb)
         have n2_ := Aside0.mk (blk_below (g := gb449) (o := .cells #[.int .u64 a1_0, .int .u64 a1_1, .int .u64 a1_2, .string a1_3, .string a1_4] 26 (0, 0)) (by (with_reducible repeat (first | refine blk_drewN ?_ _ | refine blk_drew ?_ | refine blk_alloc ?_ _)); exact BK449.out) hb)
         have n3_ := Aside0.mk (blk_below (g := gb463) (o := .cells #[.int .i64 t457, .int .i64 t458, .int .u64 t459, .int .u64 t460, .int .u64 t461, .string t462] 24 (0, 0)) (by (with_reducible repeat (first | refine blk_drewN ?_ _ | refine blk_drew ?_ | refine blk_alloc ?_ _)); exact BK463.out) hb)
         have n4_ := Aside0.mk (below_step (by repeat (first | (with_reducible first | exact HB.out | apply below_alloc | apply pw_below_drewN | apply below_drew1 | refine below_set ?_ GE448.out | refine below_set ?_ GE449.out | refine below_set ?_ GE463.out) | exact HB.out)) hb)
         clear HO469
         clear BK448
         clear BK449
         clear BK463
         clear HB
         have HO469 := n0_
         have BK448 := n1_
         have BK449 := n2_
         have BK463 := n3_
         have HB := n4_
         clear n0_ n1_ n2_ n3_ n4_
         (try clear hb)
         (try clear hb2)
         (try clear hk)
         (try clear hi)
         refine hK.out _ _ ⟨(blk_cell BK448.out 0).trans rfl, (blk_cell BK448.out 1).trans rfl, (blk_cell BK448.out 2).trans rfl, (blk_cell BK448.out 3).trans rfl, (blk_cell BK448.out 4).trans rfl, (blk_cell BK448.out 5).trans rfl, (blk_cell BK449.out 0).trans rfl, (blk_cell BK449.out 1).trans rfl, (blk_cell BK449.out 2).trans rfl, (blk_cell BK449.out 3).trans rfl, (blk_cell BK449.out 4).trans rfl, (blk_cell BK463.out 0).trans rfl, (blk_cell BK463.out 1).trans rfl, (blk_cell BK463.out 2).trans rfl, (blk_cell BK463.out 3).trans rfl, (blk_cell BK463.out 4).trans rfl, (blk_cell BK463.out 5).trans rfl⟩ (fun hHeld => ?_)
         clear hK K
         refine norm_ (a' := ?_) ?_ ?_
         rotate_left
         ·
          show Act.put _ (some 32) _ = _
          simp only [Act.put, List.setIfInBounds_toArray, List.set_cons_zero, List.set_cons_succ, i64_w, i32_w]
          rfl
         refine pure_ (i := 9) (N := some 36) (v := ?_) (a' := ?_) #[true, true, true, true, true, true, true, true, true, true, false, false, false, false, false, false, false, false, false, false, false, false, false, false, false] rfl rfl (any_of HT_.out (by kernel_rfl)) (fun _ _ _ h => h) (Or.inl ⟨by rfl, ?_⟩) ?_ ?_
         rotate_left
         ·
          intro w'
          go_simp
          with_reducible rfl
         rotate_left
         ·
          simp only [Act.put, List.setIfInBounds_toArray, List.set_cons_zero, List.set_cons_succ, i64_w, i32_w]
          rfl
         refine pure_ (i := 10) (N := some 37) (v := ?_) (a' := ?_) #[true, true, true, true, true, true, true, true, true, true, true, false, false, false, false, false, false, false, false, false, false, false, false, false, false] rfl rfl (any_of HT_.out (by kernel_rfl)) (fun _ _ _ h => h) (Or.inl ⟨by rfl, ?_⟩) ?_ ?_
         rotate_left
         ·
          intro w'
          go_simp
          with_reducible rfl
         rotate_left
         ·
          simp only [Act.put, List.setIfInBounds_toArray, List.set_cons_zero, List.set_cons_succ, i64_w, i32_w]
          rfl
         refine take_ (i := 11) (N := some 38) (v := ?_) (a' := ?_) #[true, true, true, true, true, true, true, true, true, true, true, true, false, false, false, false, false, false, false, false, false, false, false, false, false] rfl rfl (take_ofW HT_.out HW_.out (by kernel_rfl)) (fun _ _ _ h => h) (Or.inl ⟨by rfl, ?_⟩) hHeld ?_ ?_
         rotate_left
         ·
          rintro w' ⟨s0, s1, s2, s3, s4, s5, s6, s7, s8, s9, s10, s11, s12, s13, s14, s15, s16⟩
          go_simp
          with_reducible rfl
         rotate_left
         ·
          simp only [Act.put, List.setIfInBounds_toArray, List.set_cons_zero, List.set_cons_succ, i64_w, i32_w]
          rfl
         refine pure_ (i := 12) (N := some 39) (v := ?_) (a' := ?_) #[true, true, true, true, true, true, true, true, true, true, true, true, true, false, false, false, false, false, false, false, false, false, false, false, false] rfl rfl (any_of HT_.out (by kernel_rfl)) (fun _ _ _ h => h) (Or.inl ⟨by rfl, ?_⟩) ?_ ?_
         rotate_left
         ·
          intro w'
          go_simp
          with_reducible rfl
         rotate_left
         ·
          simp only [Act.put, List.setIfInBounds_toArray, List.set_cons_zero, List.set_cons_succ, i64_w, i32_w]
          rfl
         refine pure_ (i := 13) (N := some 40) (v := ?_) (a' := ?_) #[true, true, true, true, true, true, true, true, true, true, true, true, true, true, false, false, false, false, false, false, false, false, false, false, false] rfl rfl (any_of HT_.out (by kernel_rfl)) (fun _ _ _ h => h) (Or.inl ⟨by rfl, ?_⟩) ?_ ?_
         rotate_left
         ·
          intro w'
          go_simp
          with_reducible rfl
         rotate_left
         ·
          simp only [Act.put, List.setIfInBounds_toArray, List.set_cons_zero, List.set_cons_succ, i64_w, i32_w]
          rfl
         refine one_ (i := 14) (N := some 41) #[true, true, true, true, true, true, true, true, true, true, true, true, true, true, true, false, false, false, false, false, false, false, false, false, false] rfl rfl (one_of HT_.out (by kernel_rfl)) (by decide) (fun K hK => ?_)
         refine goes_ Tryd.func18 (by kernel_rfl) rfl #[.agg #[.int .i64 a0_0, .int .i64 a0_1, .int .u64 a0_2, .int .u64 a0_3, .int .u64 a0_4, .string a0_5], .agg #[.int .u64 a1_0, .int .u64 a1_1, .int .u64 a1_2, .string a1_3, .string a1_4], .bool (a0_5.toList != ([] : List UInt8))] (by rfl) rfl rfl (by (try simp only [List.map_toArray, List.map_cons, List.map_nil]); first | done | rfl | (simp only [List.length_drop, List.length_take]; rfl) | (go_simp; simp [bneNil]; done)) ?_
         with_reducible refine (impl_TermHolds.calls a0_0 a0_1 a0_2 a0_3 a0_4 a0_5 a1_0 a1_1 a1_2 a1_3 a1_4 (a0_5.toList != ([] : List UInt8)) t479 _ ?side1 A82.out).mono ?_
         (case side1 => exact HStd.out.below (by repeat (first | (with_reducible first | exact HB.out | apply below_alloc | apply pw_below_drewN | apply below_drew1 | refine below_set ?_ GE448.out | refine below_set ?_ GE449.out | refine below_set ?_ GE463.out) | exact HB.out)))
         rintro e w101 ⟨rfl, hb⟩
         refine ⟨_, rfl, ?_⟩
         have n0_ := Aside0.mk (Kd.N_below (by (with_reducible repeat (first | apply Kd.N_alloc | apply Kd.N_drewN | apply Kd.N_drew)); exact HO469.out) hb)
         have n1_ := Aside0.mk (blk_below (g := gb448) (o := .cells #[.int .i64 a0_0, .int .i64 a0_1, .int .u64 a0_2, .int .u64 a0_3, .int .u64 a0_4, .string a0_5] 24 (0, 0)) (by (with_reducible repeat (first | refine blk_drewN ?_ _ | refine blk_drew ?_ | refine blk_alloc ?_ _)); exact BK448.out) hb)
         have n2_ := Aside0.mk (blk_below (g := gb449) (o := .cells #[.int .u64 a1_0, .int .u64 a1_1, .int .u64 a1_2, .string a1_3, .string a1_4] 26 (0, 0)) (by (with_reducible repeat (first | refine blk_drewN ?_ _ | refine blk_drew ?_ | refine blk_alloc ?_ _)); exact BK449.out) hb)
         have n3_ := Aside0.mk (blk_below (g := gb463) (o := .cells #[.int .i64 t457, .int .i64 t458, .int .u64 t459, .int .u64 t460, .int .u64 t461, .string t462] 24 (0, 0)) (by (with_reducible repeat (first | refine blk_drewN ?_ _ | refine blk_drew ?_ | refine blk_alloc ?_ _)); exact BK463.out) hb)
         have n4_ := Aside0.mk (below_step (by repeat (first | (with_reducible first | exact HB.out | apply below_alloc | apply pw_below_drewN | apply below_drew1 | refine below_set ?_ GE448.out | refine below_set ?_ GE449.out | refine below_set ?_ GE463.out) | exact HB.out)) hb)
         clear HO469
         clear BK448
         clear BK449
         clear BK463
         clear HB
         have HO469 := n0_
         have BK448 := n1_
         have BK449 := n2_
         have BK463 := n3_
         have HB := n4_
         clear n0_ n1_ n2_ n3_ n4_
         (try clear hb)
         (try clear hb2)
         (try clear hk)
         (try clear hi)
         refine hK.out _ _ ⟨(blk_cell BK448.out 0).trans rfl, (blk_cell BK448.out 1).trans rfl, (blk_cell BK448.out 2).trans rfl, (blk_cell BK448.out 3).trans rfl, (blk_cell BK448.out 4).trans rfl, (blk_cell BK448.out 5).trans rfl, (blk_cell BK449.out 0).trans rfl, (blk_cell BK449.out 1).trans rfl, (blk_cell BK449.out 2).trans rfl, (blk_cell BK449.out 3).trans rfl, (blk_cell BK449.out 4).trans rfl, (blk_cell BK463.out 0).trans rfl, (blk_cell BK463.out 1).trans rfl, (blk_cell BK463.out 2).trans rfl, (blk_cell BK463.out 3).trans rfl, (blk_cell BK463.out 4).trans rfl, (blk_cell BK463.out 5).trans rfl⟩ (fun hHeld => ?_)
         clear hK K
         refine norm_ (a' := ?_) ?_ ?_
         rotate_left
         ·
          show Act.put _ (some 41) _ = _
          simp only [Act.put, List.setIfInBounds_toArray, List.set_cons_zero, List.set_cons_succ, i64_w, i32_w]
          rfl
         refine pure_ (i := 15) (N := some 42) (v := ?_) (a' := ?_) #[true, true, true, true, true, true, true, true, true, true, true, true, true, true, true, true, false, false, false, false, false, false, false, false, false] rfl rfl (any_of HT_.out (by kernel_rfl)) (fun _ _ _ h => h) (Or.inl ⟨by rfl, ?_⟩) ?_ ?_
         rotate_left
         ·
          intro w'
          go_simp
          with_reducible rfl
         rotate_left
         ·
          simp only [Act.put, List.setIfInBounds_toArray, List.set_cons_zero, List.set_cons_succ, i64_w, i32_w]
          rfl
         refine pure_ (i := 16) (N := some 43) (v := ?_) (a' := ?_) #[true, true, true, true, true, true, true, true, true, true, true, true, true, true, true, true, true, false, false, false, false, false, false, false, false] rfl rfl (any_of HT_.out (by kernel_rfl)) (fun _ _ _ h => h) (Or.inl ⟨by rfl, ?_⟩) ?_ ?_
         rotate_left
         ·
          intro w'
          go_simp
          with_reducible rfl
         rotate_left
         ·
          simp only [Act.put, List.setIfInBounds_toArray, List.set_cons_zero, List.set_cons_succ, i64_w, i32_w]
          rfl
         refine pure_ (i := 21) (N := some 48) (v := ?_) (a' := ?_) #[true, true, true, true, true, true, true, true, true, true, true, true, true, true, true, true, true, false, false, false, false, true, false, false, false] rfl rfl (any_of HT_.out (by kernel_rfl)) (fun _ _ _ h => h) (Or.inl ⟨by rfl, ?_⟩) ?_ ?_
         rotate_left
         ·
          intro w'
          go_simp
          with_reducible rfl
         rotate_left
         ·
          simp only [Act.put, List.setIfInBounds_toArray, List.set_cons_zero, List.set_cons_succ, i64_w, i32_w]
          rfl
         refine take_ (i := 17) (N := some 44) (v := ?_) (a' := ?_) #[true, true, true, true, true, true, true, true, true, true, true, true, true, true, true, true, true, true, false, false, false, true, false, false, false] rfl rfl (take_ofW HT_.out HW_.out (by kernel_rfl)) (fun _ _ _ h => h) (Or.inl ⟨by rfl, ?_⟩) hHeld ?_ ?_
         rotate_left
         ·
          rintro w' ⟨s0, s1, s2, s3, s4, s5, s6, s7, s8, s9, s10, s11, s12, s13, s14, s15, s16⟩
          go_simp
          with_reducible rfl
         rotate_left
         ·
          simp only [Act.put, List.setIfInBounds_toArray, List.set_cons_zero, List.set_cons_succ, i64_w, i32_w]
          rfl
         refine take_ (i := 20) (N := some 47) (v := ?_) (a' := ?_) #[true, true, true, true, true, true, true, true, true, true, true, true, true, true, true, true, true, true, false, false, true, true, false, false, false] rfl rfl (take_ofW HT_.out HW_.out (by kernel_rfl)) (fun _ _ _ h => h) (Or.inl ⟨by rfl, ?_⟩) hHeld ?_ ?_
         rotate_left
         ·
          rintro w' ⟨s0, s1, s2, s3, s4, s5, s6, s7, s8, s9, s10, s11, s12, s13, s14, s15, s16⟩
          go_simp
          with_reducible rfl
         rotate_left
         ·
          simp only [Act.put, List.setIfInBounds_toArray, List.set_cons_zero, List.set_cons_succ, i64_w, i32_w]
          rfl
         refine one_ (i := 18) (N := some 45) #[true, true, true, true, true, true, true, true, true, true, true, true, true, true, true, true, true, true, true, false, true, true, false, false, false] rfl rfl (one_of HT_.out (by kernel_rfl)) (by decide) (fun K hK => ?_)
         refine Kd.R_lit_step k24 _ 24 ?hg (N := 45) ?hd (xs := ([(⟨t457, t458, t459, t460, t461, t462⟩ : S24)] : List (S24))) (inner := [.int .i64 t457, .int .i64 t458, .int .u64 t459, .int .u64 t460, .int .u64 t461, .string t462]) (ok := fun _ => True) (okp := fun _ => True) ?hr ?hp (fun _ hk => hk) trivial (Below.refl _ _) (Nat.le_refl _) (by simp) ?_; (case hd => rfl); (case hg => rfl); (case hr => first | (go_simp; done) | (go_simp; rfl) | (go_simp; simp [u8w]; done)); (case hp => exact (Reps.c6 (show Kd.M k24 _ _ _ (⟨t457, t458, t459, t460, t461, t462⟩ : S24) [.int .i64 t457, .int .i64 t458, .int .u64 t459, .int .u64 t460, .int .u64 t461, .string t462] from (k24_mkM _ _ _ (⟨t457, t458, t459, t460, t461, t462⟩ : S24) )) (Reps.none _ _)))
         intro v481 w102 ho103 hb hg_ hnew_
         clear hg_ hnew_
         (first | rw [← Ny480.out] at ho103 | (simp only [Int.reduceToNat] at ho103; rw [← Ny480.out] at ho103))
         have n0_ := Aside0.mk (Kd.N_elder' (by (with_reducible repeat (first | apply Kd.N_alloc | apply Kd.N_drewN | apply Kd.N_drew)); exact HO469.out) (Kd.R_base ho103) hb)
         have n1_ := Aside0.mk (Kd.R_lower (Kd.R_newB (Kd.R_newB ho103 (g := gb448) (o := .cells #[.int .i64 a0_0, .int .i64 a0_1, .int .u64 a0_2, .int .u64 a0_3, .int .u64 a0_4, .string a0_5] 24 (0, 0)) (by (with_reducible repeat (first | refine blk_drewN ?_ _ | refine blk_drew ?_ | refine blk_alloc ?_ _)); exact BK448.out)) (g := gb463) (o := .cells #[.int .i64 t457, .int .i64 t458, .int .u64 t459, .int .u64 t460, .int .u64 t461, .string t462] 24 (0, 0)) (by (with_reducible repeat (first | refine blk_drewN ?_ _ | refine blk_drew ?_ | refine blk_alloc ?_ _)); exact BK463.out)) (below_size (by repeat (first | (with_reducible first | exact HB.out | apply below_alloc | apply pw_below_drewN | apply below_drew1 | refine below_set ?_ GE448.out | refine below_set ?_ GE449.out | refine below_set ?_ GE463.out) | exact HB.out))))
         have n2_ := Aside0.mk (blk_below (g := gb448) (o := .cells #[.int .i64 a0_0, .int .i64 a0_1, .int .u64 a0_2, .int .u64 a0_3, .int .u64 a0_4, .string a0_5] 24 (0, 0)) (by (with_reducible repeat (first | refine blk_drewN ?_ _ | refine blk_drew ?_ | refine blk_alloc ?_ _)); exact BK448.out) hb)
         have n3_ := Aside0.mk (blk_below (g := gb449) (o := .cells #[.int .u64 a1_0, .int .u64 a1_1, .int .u64 a1_2, .string a1_3, .string a1_4] 26 (0, 0)) (by (with_reducible repeat (first | refine blk_drewN ?_ _ | refine blk_drew ?_ | refine blk_alloc ?_ _)); exact BK449.out) hb)
         have n4_ := Aside0.mk (blk_below (g := gb463) (o := .cells #[.int .i64 t457, .int .i64 t458, .int .u64 t459, .int .u64 t460, .int .u64 t461, .string t462] 24 (0, 0)) (by (with_reducible repeat (first | refine blk_drewN ?_ _ | refine blk_drew ?_ | refine blk_alloc ?_ _)); exact BK463.out) hb)
         have n5_ := Aside0.mk (below_step (by repeat (first | (with_reducible first | exact HB.out | apply below_alloc | apply pw_below_drewN | apply below_drew1 | refine below_set ?_ GE448.out | refine below_set ?_ GE449.out | refine below_set ?_ GE463.out) | exact HB.out)) hb)
         clear HO469
         clear BK448
         clear BK449
         clear BK463
         clear HB
         have HO469 := n0_
         have HO482 := n1_
         have BK448 := n2_
         have BK449 := n3_
         have BK463 := n4_
         have HB := n5_
         clear n0_ n1_ n2_ n3_ n4_ n5_
         clear hb ho103
         obtain ⟨Ao104, co104, eo104⟩ := Kd.R_slice HO482.out
         (first | subst eo104 | (injection eo104 with f1_ f2_ f3_; have f4_ := f1_.symm; have f5_ := f3_.symm; clear f1_ f2_ f3_; subst f4_; subst f5_))
         refine hK.out _ _ ⟨(blk_cell BK448.out 0).trans rfl, (blk_cell BK448.out 1).trans rfl, (blk_cell BK448.out 2).trans rfl, (blk_cell BK448.out 3).trans rfl, (blk_cell BK448.out 4).trans rfl, (blk_cell BK448.out 5).trans rfl, (blk_cell BK449.out 0).trans rfl, (blk_cell BK449.out 1).trans rfl, (blk_cell BK449.out 2).trans rfl, (blk_cell BK449.out 3).trans rfl, (blk_cell BK449.out 4).trans rfl, (blk_cell BK463.out 0).trans rfl, (blk_cell BK463.out 1).trans rfl, (blk_cell BK463.out 2).trans rfl, (blk_cell BK463.out 3).trans rfl, (blk_cell BK463.out 4).trans rfl, (blk_cell BK463.out 5).trans rfl⟩ (fun hHeld => ?_)
         clear hK K
         refine norm_ (a' := ?_) ?_ ?_
         rotate_left
         ·
          show Act.put _ (some 45) _ = _
          simp only [Act.put, List.setIfInBounds_toArray, List.set_cons_zero, List.set_cons_succ, i64_w, i32_w]
          rfl
         refine one_ (i := 19) (N := some 46) #[true, true, true, true, true, true, true, true, true, true, true, true, true, true, true, true, true, true, true, true, true, true, false, false, false] rfl rfl (one_of HT_.out (by kernel_rfl)) (by decide) (fun K hK => ?_)
         refine Kd.N_lit_step (Kd.slice 24 k24) _ 42 ?hg (N' := 46) ?hd (xs := ([y480] : List (List (S24)))) (inner := [.slice Ao104 y480.length co104]) (ok := (fun k_ => some k_ ≠ (.slice Ao99 y467.length co99 : Value).ownBlock ∧ k_ ≠ gb448 ∧ k_ ≠ gb449 ∧ k_ ≠ gb463)) (okp := (fun k_ => some k_ ≠ (.slice Ao99 y467.length co99 : Value).ownBlock ∧ k_ ≠ gb448 ∧ k_ ≠ gb449 ∧ k_ ≠ gb463)) ?hr ?hp (fun _ hk => hk) ((show ∀ k_, w102.heap.size ≤ k_ → (fun k_ => some k_ ≠ (.slice Ao99 y467.length co99 : Value).ownBlock ∧ k_ ≠ gb448 ∧ k_ ≠ gb449 ∧ k_ ≠ gb463) k_ from fun k_ hk => ⟨Kd.fresh' (Kd.N_lt (by (with_reducible repeat (first | apply Kd.N_alloc | apply Kd.N_drewN | apply Kd.N_drew)); exact HO469.out)) k_ hk, Kd.freshB (g := gb448) (o := .cells #[.int .i64 a0_0, .int .i64 a0_1, .int .u64 a0_2, .int .u64 a0_3, .int .u64 a0_4, .string a0_5] 24 (0, 0)) (by (with_reducible repeat (first | refine blk_drewN ?_ _ | refine blk_drew ?_ | refine blk_alloc ?_ _)); exact BK448.out) k_ hk, Kd.freshB (g := gb449) (o := .cells #[.int .u64 a1_0, .int .u64 a1_1, .int .u64 a1_2, .string a1_3, .string a1_4] 26 (0, 0)) (by (with_reducible repeat (first | refine blk_drewN ?_ _ | refine blk_drew ?_ | refine blk_alloc ?_ _)); exact BK449.out) k_ hk, Kd.freshB (g := gb463) (o := .cells #[.int .i64 t457, .int .i64 t458, .int .u64 t459, .int .u64 t460, .int .u64 t461, .string t462] 24 (0, 0)) (by (with_reducible repeat (first | refine blk_drewN ?_ _ | refine blk_drew ?_ | refine blk_alloc ?_ _)); exact BK463.out) k_ hk⟩) _ (Nat.le_refl _)) (Below.refl _ _) (Nat.le_refl _) (by simp) ?_; (case hd => rfl); (case hg => rfl); (case hr => first | (go_simp; done) | (go_simp; rfl) | (go_simp; simp [u8w]; done)); (case hp => exact (Reps.one (show Kd.FK (Kd.slice 24 k24) _ _ y480 [.slice Ao104 y480.length co104] from (Kd.FK_slice_mk (Kd.R_reads' (Kd.R_mono (ok' := (fun k_ => some k_ ≠ (.slice Ao99 y467.length co99 : Value).ownBlock ∧ k_ ≠ gb448 ∧ k_ ≠ gb449 ∧ k_ ≠ gb463)) (Kd.R_types (Kd.R_apart' (HO482.out) (Kd.N_typed HO469.out) (by decide)) BK449.out (by decide)) (fun k_ hk => ⟨hk.1.2, ⟨hk.1.1.1.2, ⟨hk.2, hk.1.1.2⟩⟩⟩))).2.1 (Kd.R_F (Kd.R_mono (ok' := (fun k_ => some k_ ≠ (.slice Ao99 y467.length co99 : Value).ownBlock ∧ k_ ≠ gb448 ∧ k_ ≠ gb449 ∧ k_ ≠ gb463)) (Kd.R_types (Kd.R_apart' (HO482.out) (Kd.N_typed HO469.out) (by decide)) BK449.out (by decide)) (fun k_ hk => ⟨hk.1.2, ⟨hk.1.1.1.2, ⟨hk.2, hk.1.1.2⟩⟩⟩))))) (Reps.none _ _)))
         intro v484 w105 ho106 hb hg_ hnew_
         clear hg_ hnew_
         (first | rw [← Ny483.out] at ho106 | (simp only [Int.reduceToNat] at ho106; rw [← Ny483.out] at ho106))
         have n0_ := Aside0.mk (Kd.N_elder' (by (with_reducible repeat (first | apply Kd.N_alloc | apply Kd.N_drewN | apply Kd.N_drew)); exact HO469.out) (Kd.N_base ho106) hb)
         have n1_ := Aside0.mk (Kd.N_lower ho106 (below_size (by repeat (first | (with_reducible first | exact HB.out | apply below_alloc | apply pw_below_drewN | apply below_drew1 | refine below_set ?_ GE448.out | refine below_set ?_ GE449.out | refine below_set ?_ GE463.out) | exact HB.out))))
         have n2_ := Aside0.mk (blk_below (g := gb448) (o := .cells #[.int .i64 a0_0, .int .i64 a0_1, .int .u64 a0_2, .int .u64 a0_3, .int .u64 a0_4, .string a0_5] 24 (0, 0)) (by (with_reducible repeat (first | refine blk_drewN ?_ _ | refine blk_drew ?_ | refine blk_alloc ?_ _)); exact BK448.out) hb)
         have n3_ := Aside0.mk (blk_below (g := gb449) (o := .cells #[.int .u64 a1_0, .int .u64 a1_1, .int .u64 a1_2, .string a1_3, .string a1_4] 26 (0, 0)) (by (with_reducible repeat (first | refine blk_drewN ?_ _ | refine blk_drew ?_ | refine blk_alloc ?_ _)); exact BK449.out) hb)
         have n4_ := Aside0.mk (blk_below (g := gb463) (o := .cells #[.int .i64 t457, .int .i64 t458, .int .u64 t459, .int .u64 t460, .int .u64 t461, .string t462] 24 (0, 0)) (by (with_reducible repeat (first | refine blk_drewN ?_ _ | refine blk_drew ?_ | refine blk_alloc ?_ _)); exact BK463.out) hb)
         have n5_ := Aside0.mk (below_step (by repeat (first | (with_reducible first | exact HB.out | apply below_alloc | apply pw_below_drewN | apply below_drew1 | refine below_set ?_ GE448.out | refine below_set ?_ GE449.out | refine below_set ?_ GE463.out) | exact HB.out)) hb)
         clear HO469
         clear BK448
         clear BK449
         clear BK463
         clear HB
         clear HO482
         have HO469 := n0_
         have HO485 := n1_
         have BK448 := n2_
         have BK449 := n3_
         have BK463 := n4_
         have HB := n5_
         clear n0_ n1_ n2_ n3_ n4_ n5_
         clear hb ho106
         obtain ⟨Ao107, co107, eo107⟩ := Kd.N_slice HO485.out
         (first | subst eo107 | (injection eo107 with f1_ f2_ f3_; have f4_ := f1_.symm; have f5_ := f3_.symm; clear f1_ f2_ f3_; subst f4_; subst f5_))
         refine hK.out _ _ ⟨(blk_cell BK448.out 0).trans rfl, (blk_cell BK448.out 1).trans rfl, (blk_cell BK448.out 2).trans rfl, (blk_cell BK448.out 3).trans rfl, (blk_cell BK448.out 4).trans rfl, (blk_cell BK448.out 5).trans rfl, (blk_cell BK449.out 0).trans rfl, (blk_cell BK449.out 1).trans rfl, (blk_cell BK449.out 2).trans rfl, (blk_cell BK449.out 3).trans rfl, (blk_cell BK449.out 4).trans rfl, (blk_cell BK463.out 0).trans rfl, (blk_cell BK463.out 1).trans rfl, (blk_cell BK463.out 2).trans rfl, (blk_cell BK463.out 3).trans rfl, (blk_cell BK463.out 4).trans rfl, (blk_cell BK463.out 5).trans rfl⟩ (fun hHeld => ?_)
         clear hK K
         refine norm_ (a' := ?_) ?_ ?_
         rotate_left
         ·
          show Act.put _ (some 46) _ = _
          simp only [Act.put, List.setIfInBounds_toArray, List.set_cons_zero, List.set_cons_succ, i64_w, i32_w]
          rfl
         refine one_ (i := 22) (N := some 49) #[true, true, true, true, true, true, true, true, true, true, true, true, true, true, true, true, true, true, true, true, true, true, true, false, false] rfl rfl (one_of HT_.out (by kernel_rfl)) (by decide) (fun K hK => ?_)
         refine goes_ Tryd.func37 (by kernel_rfl) rfl #[.slice Ao107 y483.length co107, .agg #[.int .u64 a1_0, .int .u64 a1_1, .int .u64 a1_2, .string a1_3, .string a1_4], .bool false] (by rfl) rfl rfl (by (try simp only [List.map_toArray, List.map_cons, List.map_nil]); first | done | rfl | (simp only [List.length_drop, List.length_take]; rfl)) ?_
         with_reducible refine (impl_TermsHold.calls _ _ y483 a1_0 a1_1 a1_2 a1_3 a1_4 false t486 _ ?side1 ?side2 ?side3 A84.out).mono ?_
         (case side1 => repeat (first | exact (Kd.N_reads' HO485.out).2.2 | (with_reducible refine Kd.C_alloc ?_ _) | (with_reducible refine Kd.C_drewN ?_ _) | (with_reducible refine Kd.C_drew ?_)))
         (case side2 => exact (Kd.N_reads' HO485.out).2.1)
         (case side3 => exact HStd.out.below (by repeat (first | (with_reducible first | exact HB.out | apply below_alloc | apply pw_below_drewN | apply below_drew1 | refine below_set ?_ GE448.out | refine below_set ?_ GE449.out | refine below_set ?_ GE463.out) | exact HB.out)))
         rintro e w108 ⟨rfl, hb⟩
         refine ⟨_, rfl, ?_⟩
         have n0_ := Aside0.mk (Kd.N_below (by (with_reducible repeat (first | apply Kd.N_alloc | apply Kd.N_drewN | apply Kd.N_drew)); exact HO469.out) hb)
         have n1_ := Aside0.mk (Kd.N_below (by (with_reducible repeat (first | apply Kd.N_alloc | apply Kd.N_drewN | apply Kd.N_drew)); exact HO485.out) hb)
         have n2_ := Aside0.mk (blk_below (g := gb448) (o := .cells #[.int .i64 a0_0, .int .i64 a0_1, .int .u64 a0_2, .int .u64 a0_3, .int .u64 a0_4, .string a0_5] 24 (0, 0)) (by (with_reducible repeat (first | refine blk_drewN ?_ _ | refine blk_drew ?_ | refine blk_alloc ?_ _)); exact BK448.out) hb)
         have n3_ := Aside0.mk (blk_below (g := gb449) (o := .cells #[.int .u64 a1_0, .int .u64 a1_1, .int .u64 a1_2, .string a1_3, .string a1_4] 26 (0, 0)) (by (with_reducible repeat (first | refine blk_drewN ?_ _ | refine blk_drew ?_ | refine blk_alloc ?_ _)); exact BK449.out) hb)
         have n4_ := Aside0.mk (blk_below (g := gb463) (o := .cells #[.int .i64 t457, .int .i64 t458, .int .u64 t459, .int .u64 t460, .int .u64 t461, .string t462] 24 (0, 0)) (by (with_reducible repeat (first | refine blk_drewN ?_ _ | refine blk_drew ?_ | refine blk_alloc ?_ _)); exact BK463.out) hb)
         have n5_ := Aside0.mk (below_step (by repeat (first | (with_reducible first | exact HB.out | apply below_alloc | apply pw_below_drewN | apply below_drew1 | refine below_set ?_ GE448.out | refine below_set ?_ GE449.out | refine below_set ?_ GE463.out) | exact HB.out)) hb)
         clear HO469
         clear HO485
         clear BK448
         clear BK449
         clear BK463
         clear HB
         have HO469 := n0_
         have HO485 := n1_
         have BK448 := n2_
         have BK449 := n3_
         have BK463 := n4_
         have HB := n5_
         clear n0_ n1_ n2_ n3_ n4_ n5_
         (try clear hb)
         (try clear hb2)
         (try clear hk)
         (try clear hi)
         refine hK.out _ _ ⟨(blk_cell BK448.out 0).trans rfl, (blk_cell BK448.out 1).trans rfl, (blk_cell BK448.out 2).trans rfl, (blk_cell BK448.out 3).trans rfl, (blk_cell BK448.out 4).trans rfl, (blk_cell BK448.out 5).trans rfl, (blk_cell BK449.out 0).trans rfl, (blk_cell BK449.out 1).trans rfl, (blk_cell BK449.out 2).trans rfl, (blk_cell BK449.out 3).trans rfl, (blk_cell BK449.out 4).trans rfl, (blk_cell BK463.out 0).trans rfl, (blk_cell BK463.out 1).trans rfl, (blk_cell BK463.out 2).trans rfl, (blk_cell BK463.out 3).trans rfl, (blk_cell BK463.out 4).trans rfl, (blk_cell BK463.out 5).trans rfl⟩ (fun hHeld => ?_)
         clear hK K
         refine norm_ (a' := ?_) ?_ ?_
         rotate_left
         ·
          show Act.put _ (some 49) _ = _
          simp only [Act.put, List.setIfInBounds_toArray, List.set_cons_zero, List.set_cons_succ, i64_w, i32_w]
          rfl
         refine pure_ (i := 23) (N := some 50) (v := ?_) (a' := ?_) #[true, true, true, true, true, true, true, true, true, true, true, true, true, true, true, true, true, true, true, true, true, true, true, true, false] rfl rfl (any_of HT_.out (by kernel_rfl)) (fun _ _ _ h => h) (Or.inl ⟨by rfl, ?_⟩) ?_ ?_
         rotate_left
         ·
          intro w'
          go_simp
          with_reducible rfl
         rotate_left
         ·
          simp only [Act.put, List.setIfInBounds_toArray, List.set_cons_zero, List.set_cons_succ, i64_w, i32_w]
          rfl
         refine pure_ (i := 24) (N := some 6) (v := ?_) (a' := ?_) #[true, true, true, true, true, true, true, true, true, true, true, true, true, true, true, true, true, true, true, true, true, true, true, true, true] rfl rfl (any_of HT_.out (by kernel_rfl)) (fun _ _ _ h => h) (Or.inl ⟨by rfl, ?_⟩) ?_ ?_
         rotate_left
         ·
          intro w'
          go_simp
          with_reducible rfl
         rotate_left
         ·
          simp only [Act.put, List.setIfInBounds_toArray, List.set_cons_zero, List.set_cons_succ, i64_w, i32_w]
          rfl
         refine done_ (done_of HT_.out (by kernel_rfl)) ?_
         try go_wp2
         go_ret
         exact ⟨by first | rfl | (simp [errW_none, errW_some] <;> rfl) | (simp [*, errW_none, errW_some] <;> rfl) | (simp [bneNil]; done), by repeat (first | (with_reducible first | exact HB.out | apply below_alloc | apply pw_below_drewN | apply below_drew1 | refine below_set ?_ GE448.out | refine below_set ?_ GE449.out | refine below_set ?_ GE463.out) | exact HB.out)⟩
        ·
         rw [if_neg c83] at H
         have c83b0 : (t470 == t479) = false := by simpa using c83
         (try (have c83b1 : decide (t470 = t479) = false := by simpa using c83))
         (try (have c83b2 : (t470 == t479) = false := by simpa using c83))
         (try (have c83b3 : ¬ (t470 = t479) := by simpa using c83))
         clear c83
         obtain rfl := Option.some.inj H
         have hnb109 := NB449_448.out
         have hnc109 := NB448_449.out
         have hcz110_0 : wc.cell? ⟨gb449, 0, none⟩ = some (.int .u64 a1_0) := (blk_cell BK449.out 0).trans rfl
         have hcz110_1 : wc.cell? ⟨gb449, 1, none⟩ = some (.int .u64 a1_1) := (blk_cell BK449.out 1).trans rfl
         have hcz110_2 : wc.cell? ⟨gb449, 2, none⟩ = some (.int .u64 a1_2) := (blk_cell BK449.out 2).trans rfl
         have hcz110_3 : wc.cell? ⟨gb449, 3, none⟩ = some (.string a1_3) := (blk_cell BK449.out 3).trans rfl
         have hcz110_4 : wc.cell? ⟨gb449, 4, none⟩ = some (.string a1_4) := (blk_cell BK449.out 4).trans rfl
         have hfz110_0 := blk_frozen BK449.out 0
         have hfz110_1 := blk_frozen BK449.out 1
         have hfz110_2 := blk_frozen BK449.out 2
         have hfz110_3 := blk_frozen BK449.out 3
         have hfz110_4 := blk_frozen BK449.out 4
         try go_wp2_with (first | ((with_reducible refine gate_callee (f := 28) rfl ?_); refine goesL_ (some 26) rfl rfl Tryd.func28 (by kernel_rfl) rfl #[.int .i64 0, .agg #[.int .u64 a1_0, .int .u64 a1_1, .int .u64 a1_2, .string a1_3, .string a1_4], .int .i64 3] rfl (by (try simp only [List.map_toArray, List.map_cons, List.map_nil]); first | done | rfl | (simp only [List.length_drop, List.length_take]; rfl)) ?_; (with_reducible refine (laws_stTerm.calls 0 a1_0 a1_1 a1_2 a1_3 a1_4 3 t457 t458 t459 t460 t461 t462 _ A35.out).mono ?_); rintro e w111 ⟨rfl, hb⟩; refine ⟨_, rfl, ?_⟩; have n0_ := Aside0.mk (blk_below (g := gb448) (o := .cells #[.int .i64 a0_0, .int .i64 a0_1, .int .u64 a0_2, .int .u64 a0_3, .int .u64 a0_4, .string a0_5] 24 (0, 0)) (by (with_reducible repeat (first | refine blk_drewN ?_ _ | refine blk_drew ?_ | refine blk_alloc ?_ _)); exact BK448.out) hb); have n1_ := Aside0.mk (blk_below (g := gb449) (o := .cells #[.int .u64 a1_0, .int .u64 a1_1, .int .u64 a1_2, .string a1_3, .string a1_4] 26 (0, 0)) (by (with_reducible repeat (first | refine blk_drewN ?_ _ | refine blk_drew ?_ | refine blk_alloc ?_ _)); exact BK449.out) hb); have n2_ := Aside0.mk (below_step (by repeat (first | (with_reducible first | exact HB.out | apply below_alloc | apply pw_below_drewN | apply below_drew1 | refine below_set ?_ GE448.out | refine below_set ?_ GE449.out) | exact HB.out)) hb); clear BK448; clear BK449; clear HB; have BK448 := n0_; have BK449 := n1_; have HB := n2_; clear n0_ n1_ n2_; (try clear hb); (try clear hb2); (try clear hk); (try clear hi)) | ((with_reducible refine gate_dst (N := 7) rfl ?_); (try (refine gate_guard (by rfl) ?_; dsimp only)); refine box_event ?hg (N := 7) ?hd (cs := #[.int .i64 0, .int .i64 0, .int .u64 0, .int .u64 0, .int .u64 0, .string (⟨#[]⟩ : ByteArray)]) (t := 24) ?hr ?_; (case hd => rfl); (case hg => rfl); (case hr => first | (go_simp; done) | (go_simp; rfl) | (go_simp; simp [u8w]; done)); intro gb463 hg w112 hbox hb; have n0_ := Aside0.mk (blk_below (g := gb448) (o := .cells #[.int .i64 a0_0, .int .i64 a0_1, .int .u64 a0_2, .int .u64 a0_3, .int .u64 a0_4, .string a0_5] 24 (0, 0)) (by (with_reducible repeat (first | refine blk_drewN ?_ _ | refine blk_drew ?_ | refine blk_alloc ?_ _)); exact BK448.out) hb); have n1_ := Aside0.mk (blk_below (g := gb449) (o := .cells #[.int .u64 a1_0, .int .u64 a1_1, .int .u64 a1_2, .string a1_3, .string a1_4] 26 (0, 0)) (by (with_reducible repeat (first | refine blk_drewN ?_ _ | refine blk_drew ?_ | refine blk_alloc ?_ _)); exact BK449.out) hb); have n2_ := Aside0.mk (below_step (by repeat (first | (with_reducible first | exact HB.out | apply below_alloc | apply pw_below_drewN | apply below_drew1 | refine below_set ?_ GE448.out | refine below_set ?_ GE449.out) | exact HB.out)) hb); have n3_ := Aside0.mk (hbox); have n4_ := Aside0.mk ((by rw [hg]; exact (below_size (by repeat (first | (with_reducible first | exact HB.out | apply below_alloc | apply pw_below_drewN | apply below_drew1 | refine below_set ?_ GE448.out | refine below_set ?_ GE449.out) | exact HB.out))) : w.heap.size ≤ gb463)); have n5_ := Aside0.mk ((by rw [hg]; exact (below_size (by repeat (first | (with_reducible first | exact HB.out | apply below_alloc | apply pw_below_drewN | apply below_drew1 | refine below_set ?_ GE448.out | refine below_set ?_ GE449.out) | exact HB.out))) : w.heap.size ≤ gb463)); have n6_ := Aside0.mk ((by rw [hg]; exact Nat.ne_of_lt (blk_lt (g := gb448) (o := .cells #[.int .i64 a0_0, .int .i64 a0_1, .int .u64 a0_2, .int .u64 a0_3, .int .u64 a0_4, .string a0_5] 24 (0, 0)) (by (with_reducible repeat (first | refine blk_drewN ?_ _ | refine blk_drew ?_ | refine blk_alloc ?_ _)); exact BK448.out)) : gb448 ≠ gb463)); have n7_ := Aside0.mk ((by rw [hg]; exact Nat.ne_of_gt (blk_lt (g := gb448) (o := .cells #[.int .i64 a0_0, .int .i64 a0_1, .int .u64 a0_2, .int .u64 a0_3, .int .u64 a0_4, .string a0_5] 24 (0, 0)) (by (with_reducible repeat (first | refine blk_drewN ?_ _ | refine blk_drew ?_ | refine blk_alloc ?_ _)); exact BK448.out)) : gb463 ≠ gb448)); have n8_ := Aside0.mk ((by rw [hg]; exact Nat.ne_of_lt (blk_lt (g := gb449) (o := .cells #[.int .u64 a1_0, .int .u64 a1_1, .int .u64 a1_2, .string a1_3, .string a1_4] 26 (0, 0)) (by (with_reducible repeat (first | refine blk_drewN ?_ _ | refine blk_drew ?_ | refine blk_alloc ?_ _)); exact BK449.out)) : gb449 ≠ gb463)); have n9_ := Aside0.mk ((by rw [hg]; exact Nat.ne_of_gt (blk_lt (g := gb449) (o := .cells #[.int .u64 a1_0, .int .u64 a1_1, .int .u64 a1_2, .string a1_3, .string a1_4] 26 (0, 0)) (by (with_reducible repeat (first | refine blk_drewN ?_ _ | refine blk_drew ?_ | refine blk_alloc ?_ _)); exact BK449.out)) : gb463 ≠ gb449)); clear BK448; clear BK449; clear HB; have BK448 := n0_; have BK449 := n1_; have HB := n2_; have BK463 := n3_; have GW463 := n4_; have GE463 := n5_; have NB448_463 := n6_; have NB463_448 := n7_; have NB449_463 := n8_; have NB463_449 := n9_; clear n0_ n1_ n2_ n3_ n4_ n5_ n6_ n7_ n8_ n9_; clear hb hbox hg; have hnb113 := NB463_448.out; have hnc113 := NB448_463.out; have hnb114 := NB463_449.out; have hnc114 := NB449_463.out; have hcz115_0 : w112.cell? ⟨gb463, 0, none⟩ = some (.int .i64 0) := (blk_cell BK463.out 0).trans rfl; have hcz115_1 : w112.cell? ⟨gb463, 1, none⟩ = some (.int .i64 0) := (blk_cell BK463.out 1).trans rfl; have hcz115_2 : w112.cell? ⟨gb463, 2, none⟩ = some (.int .u64 0) := (blk_cell BK463.out 2).trans rfl; have hcz115_3 : w112.cell? ⟨gb463, 3, none⟩ = some (.int .u64 0) := (blk_cell BK463.out 3).trans rfl; have hcz115_4 : w112.cell? ⟨gb463, 4, none⟩ = some (.int .u64 0) := (blk_cell BK463.out 4).trans rfl; have hcz115_5 : w112.cell? ⟨gb463, 5, none⟩ = some (.string (⟨#[]⟩ : ByteArray)) := (blk_cell BK463.out 5).trans rfl; have hfz115_0 := blk_frozen BK463.out 0; have hfz115_1 := blk_frozen BK463.out 1; have hfz115_2 := blk_frozen BK463.out 2; have hfz115_3 := blk_frozen BK463.out 3; have hfz115_4 := blk_frozen BK463.out 4; have hfz115_5 := blk_frozen BK463.out 5))
         have n0_ : Aside0 (((((((w112.setCell ⟨gb463, 0, none⟩ (.int .i64 t457)).setCell ⟨gb463, 1, none⟩ (.int .i64 t458)).setCell ⟨gb463, 2, none⟩ (.int .u64 t459)).setCell ⟨gb463, 3, none⟩ (.int .u64 t460)).setCell ⟨gb463, 4, none⟩ (.int .u64 t461)).setCell ⟨gb463, 5, none⟩ (.string t462)).heap[gb448]? = some (.cells #[.int .i64 a0_0, .int .i64 a0_1, .int .u64 a0_2, .int .u64 a0_3, .int .u64 a0_4, .string a0_5] 24 (0, 0))) := ⟨by (with_reducible repeat (first | refine blk_drewN ?_ _ | refine blk_drew ?_ | refine blk_alloc ?_ _)); refine blk_far ?_ NB448_463.out _; (with_reducible repeat (first | refine blk_drewN ?_ _ | refine blk_drew ?_ | refine blk_alloc ?_ _)); refine blk_far ?_ NB448_463.out _; (with_reducible repeat (first | refine blk_drewN ?_ _ | refine blk_drew ?_ | refine blk_alloc ?_ _)); refine blk_far ?_ NB448_463.out _; (with_reducible repeat (first | refine blk_drewN ?_ _ | refine blk_drew ?_ | refine blk_alloc ?_ _)); refine blk_far ?_ NB448_463.out _; (with_reducible repeat (first | refine blk_drewN ?_ _ | refine blk_drew ?_ | refine blk_alloc ?_ _)); refine blk_far ?_ NB448_463.out _; (with_reducible repeat (first | refine blk_drewN ?_ _ | refine blk_drew ?_ | refine blk_alloc ?_ _)); refine blk_far ?_ NB448_463.out _; (with_reducible repeat (first | refine blk_drewN ?_ _ | refine blk_drew ?_ | refine blk_alloc ?_ _)); exact BK448.out⟩
         have n1_ : Aside0 (((((((w112.setCell ⟨gb463, 0, none⟩ (.int .i64 t457)).setCell ⟨gb463, 1, none⟩ (.int .i64 t458)).setCell ⟨gb463, 2, none⟩ (.int .u64 t459)).setCell ⟨gb463, 3, none⟩ (.int .u64 t460)).setCell ⟨gb463, 4, none⟩ (.int .u64 t461)).setCell ⟨gb463, 5, none⟩ (.string t462)).heap[gb449]? = some (.cells #[.int .u64 a1_0, .int .u64 a1_1, .int .u64 a1_2, .string a1_3, .string a1_4] 26 (0, 0))) := ⟨by (with_reducible repeat (first | refine blk_drewN ?_ _ | refine blk_drew ?_ | refine blk_alloc ?_ _)); refine blk_far ?_ NB449_463.out _; (with_reducible repeat (first | refine blk_drewN ?_ _ | refine blk_drew ?_ | refine blk_alloc ?_ _)); refine blk_far ?_ NB449_463.out _; (with_reducible repeat (first | refine blk_drewN ?_ _ | refine blk_drew ?_ | refine blk_alloc ?_ _)); refine blk_far ?_ NB449_463.out _; (with_reducible repeat (first | refine blk_drewN ?_ _ | refine blk_drew ?_ | refine blk_alloc ?_ _)); refine blk_far ?_ NB449_463.out _; (with_reducible repeat (first | refine blk_drewN ?_ _ | refine blk_drew ?_ | refine blk_alloc ?_ _)); refine blk_far ?_ NB449_463.out _; (with_reducible repeat (first | refine blk_drewN ?_ _ | refine blk_drew ?_ | refine blk_alloc ?_ _)); refine blk_far ?_ NB449_463.out _; (with_reducible repeat (first | refine blk_drewN ?_ _ | refine blk_drew ?_ | refine blk_alloc ?_ _)); exact BK449.out⟩
         have n2_ : Aside0 (((((((w112.setCell ⟨gb463, 0, none⟩ (.int .i64 t457)).setCell ⟨gb463, 1, none⟩ (.int .i64 t458)).setCell ⟨gb463, 2, none⟩ (.int .u64 t459)).setCell ⟨gb463, 3, none⟩ (.int .u64 t460)).setCell ⟨gb463, 4, none⟩ (.int .u64 t461)).setCell ⟨gb463, 5, none⟩ (.string t462)).heap[gb463]? = some (.cells #[.int .i64 t457, .int .i64 t458, .int .u64 t459, .int .u64 t460, .int .u64 t461, .string t462] 24 (0, 0))) := ⟨by (with_reducible repeat (first | refine blk_drewN ?_ _ | refine blk_drew ?_ | refine blk_alloc ?_ _)); refine blk_put (cs := #[.int .i64 t457, .int .i64 t458, .int .u64 t459, .int .u64 t460, .int .u64 t461, .string (⟨#[]⟩ : ByteArray)]) ?_ 5 _ rfl; (with_reducible repeat (first | refine blk_drewN ?_ _ | refine blk_drew ?_ | refine blk_alloc ?_ _)); refine blk_put (cs := #[.int .i64 t457, .int .i64 t458, .int .u64 t459, .int .u64 t460, .int .u64 0, .string (⟨#[]⟩ : ByteArray)]) ?_ 4 _ rfl; (with_reducible repeat (first | refine blk_drewN ?_ _ | refine blk_drew ?_ | refine blk_alloc ?_ _)); refine blk_put (cs := #[.int .i64 t457, .int .i64 t458, .int .u64 t459, .int .u64 0, .int .u64 0, .string (⟨#[]⟩ : ByteArray)]) ?_ 3 _ rfl; (with_reducible repeat (first | refine blk_drewN ?_ _ | refine blk_drew ?_ | refine blk_alloc ?_ _)); refine blk_put (cs := #[.int .i64 t457, .int .i64 t458, .int .u64 0, .int .u64 0, .int .u64 0, .string (⟨#[]⟩ : ByteArray)]) ?_ 2 _ rfl; (with_reducible repeat (first | refine blk_drewN ?_ _ | refine blk_drew ?_ | refine blk_alloc ?_ _)); refine blk_put (cs := #[.int .i64 t457, .int .i64 0, .int .u64 0, .int .u64 0, .int .u64 0, .string (⟨#[]⟩ : ByteArray)]) ?_ 1 _ rfl; (with_reducible repeat (first | refine blk_drewN ?_ _ | refine blk_drew ?_ | refine blk_alloc ?_ _)); refine blk_put (cs := #[.int .i64 0, .int .i64 0, .int .u64 0, .int .u64 0, .int .u64 0, .string (⟨#[]⟩ : ByteArray)]) ?_ 0 _ rfl; (with_reducible repeat (first | refine blk_drewN ?_ _ | refine blk_drew ?_ | refine blk_alloc ?_ _)); exact BK463.out⟩
         have n3_ : Aside0 (Below w.heap.size w ((((((w112.setCell ⟨gb463, 0, none⟩ (.int .i64 t457)).setCell ⟨gb463, 1, none⟩ (.int .i64 t458)).setCell ⟨gb463, 2, none⟩ (.int .u64 t459)).setCell ⟨gb463, 3, none⟩ (.int .u64 t460)).setCell ⟨gb463, 4, none⟩ (.int .u64 t461)).setCell ⟨gb463, 5, none⟩ (.string t462))) := ⟨by repeat (first | (with_reducible first | exact HB.out | apply below_alloc | apply pw_below_drewN | apply below_drew1 | refine below_set ?_ GE448.out | refine below_set ?_ GE449.out | refine below_set ?_ GE463.out) | exact HB.out)⟩
         (try clear BK448)
         (try clear BK449)
         (try clear BK463)
         (try clear HB)
         generalize ((((((w112.setCell ⟨gb463, 0, none⟩ (.int .i64 t457)).setCell ⟨gb463, 1, none⟩ (.int .i64 t458)).setCell ⟨gb463, 2, none⟩ (.int .u64 t459)).setCell ⟨gb463, 3, none⟩ (.int .u64 t460)).setCell ⟨gb463, 4, none⟩ (.int .u64 t461)).setCell ⟨gb463, 5, none⟩ (.string t462)) = w116 at n0_ n1_ n2_ n3_ ⊢
         have BK448 := n0_
         have BK449 := n1_
         have BK463 := n2_
         have HB := n3_
         clear n0_ n1_ n2_ n3_
         have n0_ := Aside0.mk (blk_drew BK448.out)
         have n1_ := Aside0.mk (blk_drew BK449.out)
         have n2_ := Aside0.mk (blk_drew BK463.out)
         have n3_ := Aside0.mk (below_drew1 HB.out)
         clear BK448
         clear BK449
         clear BK463
         clear HB
         have BK448 := n0_
         have BK449 := n1_
         have BK463 := n2_
         have HB := n3_
         clear n0_ n1_ n2_ n3_
         refine start_ (n := 25) (S := fun w' => w'.cell? ⟨gb448, 0, none⟩ = some (.int .i64 a0_0) ∧ w'.cell? ⟨gb448, 1, none⟩ = some (.int .i64 a0_1) ∧ w'.cell? ⟨gb448, 2, none⟩ = some (.int .u64 a0_2) ∧ w'.cell? ⟨gb448, 3, none⟩ = some (.int .u64 a0_3) ∧ w'.cell? ⟨gb448, 4, none⟩ = some (.int .u64 a0_4) ∧ w'.cell? ⟨gb448, 5, none⟩ = some (.string a0_5) ∧ w'.cell? ⟨gb449, 0, none⟩ = some (.int .u64 a1_0) ∧ w'.cell? ⟨gb449, 1, none⟩ = some (.int .u64 a1_1) ∧ w'.cell? ⟨gb449, 2, none⟩ = some (.int .u64 a1_2) ∧ w'.cell? ⟨gb449, 3, none⟩ = some (.string a1_3) ∧ w'.cell? ⟨gb449, 4, none⟩ = some (.string a1_4)) (ds := []) #[false, false, false, false, false, false, false, false, false, false, false, false, false, false, false, false, false, false, false, false, false, false, false, false, false] (by kernel_rfl) rfl rfl ⟨(blk_cell BK448.out 0).trans rfl, (blk_cell BK448.out 1).trans rfl, (blk_cell BK448.out 2).trans rfl, (blk_cell BK448.out 3).trans rfl, (blk_cell BK448.out 4).trans rfl, (blk_cell BK448.out 5).trans rfl, (blk_cell BK449.out 0).trans rfl, (blk_cell BK449.out 1).trans rfl, (blk_cell BK449.out 2).trans rfl, (blk_cell BK449.out 3).trans rfl, (blk_cell BK449.out 4).trans rfl⟩ (fun hHeld => ?_); refine with_tabW laws_FnSemverTermsOne.tab6 laws_FnSemverTermsOne.bits6 (fun HT_ HW_ => ?_)
         generalize w116.drew = w117 at BK448 BK449 BK463 HB hHeld ⊢
         refine pure_ (i := 4) (N := some 31) (v := ?_) (a' := ?_) #[false, false, false, false, true, false, false, false, false, false, false, false, false, false, false, false, false, false, false, false, false, false, false, false, false] rfl rfl (any_of HT_.out (by kernel_rfl)) (fun _ _ _ h => h) (Or.inl ⟨by rfl, ?_⟩) ?_ ?_
         rotate_left
         ·
          intro w'
          go_simp
          with_reducible rfl
         rotate_left
         ·
          simp only [Act.put, List.setIfInBounds_toArray, List.set_cons_zero, List.set_cons_succ, i64_w, i32_w]
          rfl
         refine pure_ (i := 8) (N := some 35) (v := ?_) (a' := ?_) #[false, false, false, false, true, false, false, false, true, false, false, false, false, false, false, false, false, false, false, false, false, false, false, false, false] rfl rfl (any_of HT_.out (by kernel_rfl)) (fun _ _ _ h => h) (Or.inl ⟨by rfl, ?_⟩) ?_ ?_
         rotate_left
         ·
          intro w'
          go_simp
          with_reducible rfl
         rotate_left
         ·
          simp only [Act.put, List.setIfInBounds_toArray, List.set_cons_zero, List.set_cons_succ, i64_w, i32_w]
          rfl
         refine take_ (i := 0) (N := some 27) (v := ?_) (a' := ?_) #[true, false, false, false, true, false, false, false, true, false, false, false, false, false, false, false, false, false, false, false, false, false, false, false, false] rfl rfl (take_ofW HT_.out HW_.out (by kernel_rfl)) (fun _ _ _ h => h) (Or.inl ⟨by rfl, ?_⟩) hHeld ?_ ?_
         rotate_left
         ·
          rintro w' ⟨s0, s1, s2, s3, s4, s5, s6, s7, s8, s9, s10⟩
          go_simp
          with_reducible rfl
         rotate_left
         ·
          simp only [Act.put, List.setIfInBounds_toArray, List.set_cons_zero, List.set_cons_succ, i64_w, i32_w]
          rfl
         refine take_ (i := 3) (N := some 30) (v := ?_) (a' := ?_) #[true, false, false, true, true, false, false, false, true, false, false, false, false, false, false, false, false, false, false, false, false, false, false, false, false] rfl rfl (take_ofW HT_.out HW_.out (by kernel_rfl)) (fun _ _ _ h => h) (Or.inl ⟨by rfl, ?_⟩) hHeld ?_ ?_
         rotate_left
         ·
          rintro w' ⟨s0, s1, s2, s3, s4, s5, s6, s7, s8, s9, s10⟩
          go_simp
          with_reducible rfl
         rotate_left
         ·
          simp only [Act.put, List.setIfInBounds_toArray, List.set_cons_zero, List.set_cons_succ, i64_w, i32_w]
          rfl
         refine take_ (i := 6) (N := some 33) (v := ?_) (a' := ?_) #[true, false, false, true, true, false, true, false, true, false, false, false, false, false, false, false, false, false, false, false, false, false, false, false, false] rfl rfl (take_ofW HT_.out HW_.out (by kernel_rfl)) (fun _ _ _ h => h) (Or.inl ⟨by rfl, ?_⟩) hHeld ?_ ?_
         rotate_left
         ·
          rintro w' ⟨s0, s1, s2, s3, s4, s5, s6, s7, s8, s9, s10⟩
          go_simp
          with_reducible rfl
         rotate_left
         ·
          simp only [Act.put, List.setIfInBounds_toArray, List.set_cons_zero, List.set_cons_succ, i64_w, i32_w]
          rfl
         refine take_ (i := 7) (N := some 34) (v := ?_) (a' := ?_) #[true, false, false, true, true, false, true, true, true, false, false, false, false, false, false, false, false, false, false, false, false, false, false, false, false] rfl rfl (take_ofW HT_.out HW_.out (by kernel_rfl)) (fun _ _ _ h => h) (Or.inl ⟨by rfl, ?_⟩) hHeld ?_ ?_
         rotate_left
         ·
          rintro w' ⟨s0, s1, s2, s3, s4, s5, s6, s7, s8, s9, s10⟩
          go_simp
          with_reducible rfl
         rotate_left
         ·
          simp only [Act.put, List.setIfInBounds_toArray, List.set_cons_zero, List.set_cons_succ, i64_w, i32_w]
          rfl
         refine one_ (i := 1) (N := some 28) #[true, true, false, true, true, false, true, true, true, false, false, false, false, false, false, false, false, false, false, false, false, false, false, false, false] rfl rfl (one_of HT_.out (by kernel_rfl)) (by decide) (fun K hK => ?_)
         refine Kd.R_lit_step k24 _ 24 ?hg (N := 28) ?hd (xs := ([(⟨a0_0, a0_1, a0_2, a0_3, a0_4, a0_5⟩ : S24)] : List (S24))) (inner := [.int .i64 a0_0, .int .i64 a0_1, .int .u64 a0_2, .int .u64 a0_3, .int .u64 a0_4, .string a0_5]) (ok := fun _ => True) (okp := fun _ => True) ?hr ?hp (fun _ hk => hk) trivial (Below.refl _ _) (Nat.le_refl _) (by simp) ?_; (case hd => rfl); (case hg => rfl); (case hr => first | (go_simp; done) | (go_simp; rfl) | (go_simp; simp [u8w]; done)); (case hp => exact (Reps.c6 (show Kd.M k24 _ _ _ (⟨a0_0, a0_1, a0_2, a0_3, a0_4, a0_5⟩ : S24) [.int .i64 a0_0, .int .i64 a0_1, .int .u64 a0_2, .int .u64 a0_3, .int .u64 a0_4, .string a0_5] from (k24_mkM _ _ _ (⟨a0_0, a0_1, a0_2, a0_3, a0_4, a0_5⟩ : S24) )) (Reps.none _ _)))
         intro v465 w118 ho119 hb hg_ hnew_
         clear hg_ hnew_
         (first | rw [← Ny464.out] at ho119 | (simp only [Int.reduceToNat] at ho119; rw [← Ny464.out] at ho119))
         have n0_ := Aside0.mk (Kd.R_lower (Kd.R_newB (Kd.R_newB ho119 (g := gb448) (o := .cells #[.int .i64 a0_0, .int .i64 a0_1, .int .u64 a0_2, .int .u64 a0_3, .int .u64 a0_4, .string a0_5] 24 (0, 0)) (by (with_reducible repeat (first | refine blk_drewN ?_ _ | refine blk_drew ?_ | refine blk_alloc ?_ _)); exact BK448.out)) (g := gb463) (o := .cells #[.int .i64 t457, .int .i64 t458, .int .u64 t459, .int .u64 t460, .int .u64 t461, .string t462] 24 (0, 0)) (by (with_reducible repeat (first | refine blk_drewN ?_ _ | refine blk_drew ?_ | refine blk_alloc ?_ _)); exact BK463.out)) (below_size (by repeat (first | (with_reducible first | exact HB.out | apply below_alloc | apply pw_below_drewN | apply below_drew1 | refine below_set ?_ GE448.out | refine below_set ?_ GE449.out | refine below_set ?_ GE463.out) | exact HB.out))))
         have n1_ := Aside0.mk (blk_below (g := gb448) (o := .cells #[.int .i64 a0_0, .int .i64 a0_1, .int .u64 a0_2, .int .u64 a0_3, .int .u64 a0_4, .string a0_5] 24 (0, 0)) (by (with_reducible repeat (first | refine blk_drewN ?_ _ | refine blk_drew ?_ | refine blk_alloc ?_ _)); exact BK448.out) hb)
         have n2_ := Aside0.mk (blk_below (g := gb449) (o := .cells #[.int .u64 a1_0, .int .u64 a1_1, .int .u64 a1_2, .string a1_3, .string a1_4] 26 (0, 0)) (by (with_reducible repeat (first | refine blk_drewN ?_ _ | refine blk_drew ?_ | refine blk_alloc ?_ _)); exact BK449.out) hb)
         have n3_ := Aside0.mk (blk_below (g := gb463) (o := .cells #[.int .i64 t457, .int .i64 t458, .int .u64 t459, .int .u64 t460, .int .u64 t461, .string t462] 24 (0, 0)) (by (with_reducible repeat (first | refine blk_drewN ?_ _ | refine blk_drew ?_ | refine blk_alloc ?_ _)); exact BK463.out) hb)
         have n4_ := Aside0.mk (below_step (by repeat (first | (with_reducible first | exact HB.out | apply below_alloc | apply pw_below_drewN | apply below_drew1 | refine below_set ?_ GE448.out | refine below_set ?_ GE449.out | refine below_set ?_ GE463.out) | exact HB.out)) hb)
         clear BK448
         clear BK449
         clear BK463
         clear HB
         have HO466 := n0_
         have BK448 := n1_
         have BK449 := n2_
         have BK463 := n3_
         have HB := n4_
         clear n0_ n1_ n2_ n3_ n4_
         clear hb ho119
         obtain ⟨Ao120, co120, eo120⟩ := Kd.R_slice HO466.out
         (first | subst eo120 | (injection eo120 with f1_ f2_ f3_; have f4_ := f1_.symm; have f5_ := f3_.symm; clear f1_ f2_ f3_; subst f4_; subst f5_))
         refine hK.out _ _ ⟨(blk_cell BK448.out 0).trans rfl, (blk_cell BK448.out 1).trans rfl, (blk_cell BK448.out 2).trans rfl, (blk_cell BK448.out 3).trans rfl, (blk_cell BK448.out 4).trans rfl, (blk_cell BK448.out 5).trans rfl, (blk_cell BK449.out 0).trans rfl, (blk_cell BK449.out 1).trans rfl, (blk_cell BK449.out 2).trans rfl, (blk_cell BK449.out 3).trans rfl, (blk_cell BK449.out 4).trans rfl⟩ (fun hHeld => ?_)
         clear hK K
         refine norm_ (a' := ?_) ?_ ?_
         rotate_left
         ·
          show Act.put _ (some 28) _ = _
          simp only [Act.put, List.setIfInBounds_toArray, List.set_cons_zero, List.set_cons_succ, i64_w, i32_w]
          rfl
         refine one_ (i := 2) (N := some 29) #[true, true, true, true, true, false, true, true, true, false, false, false, false, false, false, false, false, false, false, false, false, false, false, false, false] rfl rfl (one_of HT_.out (by kernel_rfl)) (by decide) (fun K hK => ?_)
         refine Kd.N_lit_step (Kd.slice 24 k24) _ 42 ?hg (N' := 29) ?hd (xs := ([y464] : List (List (S24)))) (inner := [.slice Ao120 y464.length co120]) (ok := (fun k_ => k_ ≠ gb448 ∧ k_ ≠ gb449 ∧ k_ ≠ gb463)) (okp := (fun k_ => k_ ≠ gb448 ∧ k_ ≠ gb449 ∧ k_ ≠ gb463)) ?hr ?hp (fun _ hk => hk) ((show ∀ k_, w118.heap.size ≤ k_ → (fun k_ => k_ ≠ gb448 ∧ k_ ≠ gb449 ∧ k_ ≠ gb463) k_ from fun k_ hk => ⟨Kd.freshB (g := gb448) (o := .cells #[.int .i64 a0_0, .int .i64 a0_1, .int .u64 a0_2, .int .u64 a0_3, .int .u64 a0_4, .string a0_5] 24 (0, 0)) (by (with_reducible repeat (first | refine blk_drewN ?_ _ | refine blk_drew ?_ | refine blk_alloc ?_ _)); exact BK448.out) k_ hk, Kd.freshB (g := gb449) (o := .cells #[.int .u64 a1_0, .int .u64 a1_1, .int .u64 a1_2, .string a1_3, .string a1_4] 26 (0, 0)) (by (with_reducible repeat (first | refine blk_drewN ?_ _ | refine blk_drew ?_ | refine blk_alloc ?_ _)); exact BK449.out) k_ hk, Kd.freshB (g := gb463) (o := .cells #[.int .i64 t457, .int .i64 t458, .int .u64 t459, .int .u64 t460, .int .u64 t461, .string t462] 24 (0, 0)) (by (with_reducible repeat (first | refine blk_drewN ?_ _ | refine blk_drew ?_ | refine blk_alloc ?_ _)); exact BK463.out) k_ hk⟩) _ (Nat.le_refl _)) (Below.refl _ _) (Nat.le_refl _) (by simp) ?_; (case hd => rfl); (case hg => rfl); (case hr => first | (go_simp; done) | (go_simp; rfl) | (go_simp; simp [u8w]; done)); (case hp => exact (Reps.one (show Kd.FK (Kd.slice 24 k24) _ _ y464 [.slice Ao120 y464.length co120] from (Kd.FK_slice_mk (Kd.R_reads' (Kd.R_mono (ok' := (fun k_ => k_ ≠ gb448 ∧ k_ ≠ gb449 ∧ k_ ≠ gb463)) (Kd.R_types (HO466.out) BK449.out (by decide)) (fun k_ hk => ⟨hk.1.1.2, ⟨hk.2, hk.1.2⟩⟩))).2.1 (Kd.R_F (Kd.R_mono (ok' := (fun k_ => k_ ≠ gb448 ∧ k_ ≠ gb449 ∧ k_ ≠ gb463)) (Kd.R_types (HO466.out) BK449.out (by decide)) (fun k_ hk => ⟨hk.1.1.2, ⟨hk.2, hk.1.2⟩⟩))))) (Reps.none _ _)))
         intro v468 w121 ho122 hb hg_ hnew_
         clear hg_ hnew_
         (first | rw [← Ny467.out] at ho122 | (simp only [Int.reduceToNat] at ho122; rw [← Ny467.out] at ho122))
         have n0_ := Aside0.mk (Kd.N_lower ho122 (below_size (by repeat (first | (with_reducible first | exact HB.out | apply below_alloc | apply pw_below_drewN | apply below_drew1 | refine below_set ?_ GE448.out | refine below_set ?_ GE449.out | refine below_set ?_ GE463.out) | exact HB.out))))
         have n1_ := Aside0.mk (blk_below (g := gb448) (o := .cells #[.int .i64 a0_0, .int .i64 a0_1, .int .u64 a0_2, .int .u64 a0_3, .int .u64 a0_4, .string a0_5] 24 (0, 0)) (by (with_reducible repeat (first | refine blk_drewN ?_ _ | refine blk_drew ?_ | refine blk_alloc ?_ _)); exact BK448.out) hb)
         have n2_ := Aside0.mk (blk_below (g := gb449) (o := .cells #[.int .u64 a1_0, .int .u64 a1_1, .int .u64 a1_2, .string a1_3, .string a1_4] 26 (0, 0)) (by (with_reducible repeat (first | refine blk_drewN ?_ _ | refine blk_drew ?_ | refine blk_alloc ?_ _)); exact BK449.out) hb)
         have n3_ := Aside0.mk (blk_below (g := gb463) (o := .cells #[.int .i64 t457, .int .i64 t458, .int .u64 t459, .int .u64 t460, .int .u64 t461, .string t462] 24 (0, 0)) (by (with_reducible repeat (first | refine blk_drewN ?_ _ | refine blk_drew ?_ | refine blk_alloc ?_ _)); exact BK463.out) hb)
         have n4_ := Aside0.mk (below_step (by repeat (first | (with_reducible first | exact HB.out | apply below_alloc | apply pw_below_drewN | apply below_drew1 | refine below_set ?_ GE448.out | refine below_set ?_ GE449.out | refine below_set ?_ GE463.out) | exact HB.out)) hb)
         clear BK448
         clear BK449
         clear BK463
         clear HB
         clear HO466
         have HO469 := n0_
         have BK448 := n1_
         have BK449 := n2_
         have BK463 := n3_
         have HB := n4_
         clear n0_ n1_ n2_ n3_ n4_
         clear hb ho122
         obtain ⟨Ao123, co123, eo123⟩ := Kd.N_slice HO469.out
         (first | subst eo123 | (injection eo123 with f1_ f2_ f3_; have f4_ := f1_.symm; have f5_ := f3_.symm; clear f1_ f2_ f3_; subst f4_; subst f5_))
         refine hK.out _ _ ⟨(blk_cell BK448.out 0).trans rfl, (blk_cell BK448.out 1).trans rfl, (blk_cell BK448.out 2).trans rfl, (blk_cell BK448.out 3).trans rfl, (blk_cell BK448.out 4).trans rfl, (blk_cell BK448.out 5).trans rfl, (blk_cell BK449.out 0).trans rfl, (blk_cell BK449.out 1).trans rfl, (blk_cell BK449.out 2).trans rfl, (blk_cell BK449.out 3).trans rfl, (blk_cell BK449.out 4).trans rfl⟩ (fun hHeld => ?_)
         clear hK K
         refine norm_ (a' := ?_) ?_ ?_
         rotate_left
         ·
          show Act.put _ (some 29) _ = _
          simp only [Act.put, List.setIfInBounds_toArray, List.set_cons_zero, List.set_cons_succ, i64_w, i32_w]
          rfl
         refine one_ (i := 5) (N := some 32) #[true, true, true, true, true, true, true, true, true, false, false, false, false, false, false, false, false, false, false, false, false, false, false, false, false] rfl rfl (one_of HT_.out (by kernel_rfl)) (by decide) (fun K hK => ?_)
         refine goes_ Tryd.func37 (by kernel_rfl) rfl #[.slice Ao123 y467.length co123, .agg #[.int .u64 a1_0, .int .u64 a1_1, .int .u64 a1_2, .string a1_3, .string a1_4], .bool false] (by rfl) rfl rfl (by (try simp only [List.map_toArray, List.map_cons, List.map_nil]); first | done | rfl | (simp only [List.length_drop, List.length_take]; rfl)) ?_
         with_reducible refine (impl_TermsHold.calls _ _ y467 a1_0 a1_1 a1_2 a1_3 a1_4 false t470 _ ?side1 ?side2 ?side3 A36.out).mono ?_
         (case side1 => repeat (first | exact (Kd.N_reads' HO469.out).2.2 | (with_reducible refine Kd.C_alloc ?_ _) | (with_reducible refine Kd.C_drewN ?_ _) | (with_reducible refine Kd.C_drew ?_)))
         (case side2 => exact (Kd.N_reads' HO469.out).2.1)
         (case side3 => exact HStd.out.below (by repeat (first | (with_reducible first | exact HB.out | apply below_alloc | apply pw_below_drewN | apply below_drew1 | refine below_set ?_ GE448.out | refine below_set ?_ GE449.out | refine below_set ?_ GE463.out) | exact HB.out)))
         rintro e w124 ⟨rfl, hb⟩
         refine ⟨_, rfl, ?_⟩
         have n0_ := Aside0.mk (Kd.N_below (by (with_reducible repeat (first | apply Kd.N_alloc | apply Kd.N_drewN | apply Kd.N_drew)); exact HO469.out) hb)
         have n1_ := Aside0.mk (blk_below (g := gb448) (o := .cells #[.int .i64 a0_0, .int .i64 a0_1, .int .u64 a0_2, .int .u64 a0_3, .int .u64 a0_4, .string a0_5] 24 (0, 0)) (by (with_reducible repeat (first | refine blk_drewN ?_ _ | refine blk_drew ?_ | refine blk_alloc ?_ _)); exact BK448.out) hb)
         have n2_ := Aside0.mk (blk_below (g := gb449) (o := .cells #[.int .u64 a1_0, .int .u64 a1_1, .int .u64 a1_2, .string a1_3, .string a1_4] 26 (0, 0)) (by (with_reducible repeat (first | refine blk_drewN ?_ _ | refine blk_drew ?_ | refine blk_alloc ?_ _)); exact BK449.out) hb)
         have n3_ := Aside0.mk (blk_below (g := gb463) (o := .cells #[.int .i64 t457, .int .i64 t458, .int .u64 t459, .int .u64 t460, .int .u64 t461, .string t462] 24 (0, 0)) (by (with_reducible repeat (first | refine blk_drewN ?_ _ | refine blk_drew ?_ | refine blk_alloc ?_ _)); exact BK463.out) hb)
         have n4_ := Aside0.mk (below_step (by repeat (first | (with_reducible first | exact HB.out | apply below_alloc | apply pw_below_drewN | apply below_drew1 | refine below_set ?_ GE448.out | refine below_set ?_ GE449.out | refine below_set ?_ GE463.out) | exact HB.out)) hb)
         clear HO469
         clear BK448
         clear BK449
         clear BK463
         clear HB
         have HO469 := n0_
         have BK448 := n1_
         have BK449 := n2_
         have BK463 := n3_
         have HB := n4_
         clear n0_ n1_ n2_ n3_ n4_
         (try clear hb)
         (try clear hb2)
         (try clear hk)
         (try clear hi)
         refine hK.out _ _ ⟨(blk_cell BK448.out 0).trans rfl, (blk_cell BK448.out 1).trans rfl, (blk_cell BK448.out 2).trans rfl, (blk_cell BK448.out 3).trans rfl, (blk_cell BK448.out 4).trans rfl, (blk_cell BK448.out 5).trans rfl, (blk_cell BK449.out 0).trans rfl, (blk_cell BK449.out 1).trans rfl, (blk_cell BK449.out 2).trans rfl, (blk_cell BK449.out 3).trans rfl, (blk_cell BK449.out 4).trans rfl⟩ (fun hHeld => ?_)
         clear hK K
         refine norm_ (a' := ?_) ?_ ?_
         rotate_left
         ·
          show Act.put _ (some 32) _ = _
          simp only [Act.put, List.setIfInBounds_toArray, List.set_cons_zero, List.set_cons_succ, i64_w, i32_w]
          rfl
         refine pure_ (i := 9) (N := some 36) (v := ?_) (a' := ?_) #[true, true, true, true, true, true, true, true, true, true, false, false, false, false, false, false, false, false, false, false, false, false, false, false, false] rfl rfl (any_of HT_.out (by kernel_rfl)) (fun _ _ _ h => h) (Or.inl ⟨by rfl, ?_⟩) ?_ ?_
         rotate_left
         ·
          intro w'
          go_simp
          with_reducible rfl
         rotate_left
         ·
          simp only [Act.put, List.setIfInBounds_toArray, List.set_cons_zero, List.set_cons_succ, i64_w, i32_w]
          rfl
         refine pure_ (i := 10) (N := some 37) (v := ?_) (a' := ?_) #[true, true, true, true, true, true, true, true, true, true, true, false, false, false, false, false, false, false, false, false, false, false, false, false, false] rfl rfl (any_of HT_.out (by kernel_rfl)) (fun _ _ _ h => h) (Or.inl ⟨by rfl, ?_⟩) ?_ ?_
         rotate_left
         ·
          intro w'
          go_simp
          with_reducible rfl
         rotate_left
         ·
          simp only [Act.put, List.setIfInBounds_toArray, List.set_cons_zero, List.set_cons_succ, i64_w, i32_w]
          rfl
         refine take_ (i := 11) (N := some 38) (v := ?_) (a' := ?_) #[true, true, true, true, true, true, true, true, true, true, true, true, false, false, false, false, false, false, false, false, false, false, false, false, false] rfl rfl (take_ofW HT_.out HW_.out (by kernel_rfl)) (fun _ _ _ h => h) (Or.inl ⟨by rfl, ?_⟩) hHeld ?_ ?_
         rotate_left
         ·
          rintro w' ⟨s0, s1, s2, s3, s4, s5, s6, s7, s8, s9, s10⟩
          go_simp
          with_reducible rfl
         rotate_left
         ·
          simp only [Act.put, List.setIfInBounds_toArray, List.set_cons_zero, List.set_cons_succ, i64_w, i32_w]
          rfl
         refine pure_ (i := 12) (N := some 39) (v := ?_) (a' := ?_) #[true, true, true, true, true, true, true, true, true, true, true, true, true, false, false, false, false, false, false, false, false, false, false, false, false] rfl rfl (any_of HT_.out (by kernel_rfl)) (fun _ _ _ h => h) (Or.inl ⟨by rfl, ?_⟩) ?_ ?_
         rotate_left
         ·
          intro w'
          go_simp
          with_reducible rfl
         rotate_left
         ·
          simp only [Act.put, List.setIfInBounds_toArray, List.set_cons_zero, List.set_cons_succ, i64_w, i32_w]
          rfl
         refine pure_ (i := 13) (N := some 40) (v := ?_) (a' := ?_) #[true, true, true, true, true, true, true, true, true, true, true, true, true, true, false, false, false, false, false, false, false, false, false, false, false] rfl rfl (any_of HT_.out (by kernel_rfl)) (fun _ _ _ h => h) (Or.inl ⟨by rfl, ?_⟩) ?_ ?_
         rotate_left
         ·
          intro w'
          go_simp
          with_reducible rfl
         rotate_left
         ·
          simp only [Act.put, List.setIfInBounds_toArray, List.set_cons_zero, List.set_cons_succ, i64_w, i32_w]
          rfl
         refine one_ (i := 14) (N := some 41) #[true, true, true, true, true, true, true, true, true, true, true, true, true, true, true, false, false, false, false, false, false, false, false, false, false] rfl rfl (one_of HT_.out (by kernel_rfl)) (by decide) (fun K hK => ?_)
         refine goes_ Tryd.func18 (by kernel_rfl) rfl #[.agg #[.int .i64 a0_0, .int .i64 a0_1, .int .u64 a0_2, .int .u64 a0_3, .int .u64 a0_4, .string a0_5], .agg #[.int .u64 a1_0, .int .u64 a1_1, .int .u64 a1_2, .string a1_3, .string a1_4], .bool (a0_5.toList != ([] : List UInt8))] (by rfl) rfl rfl (by (try simp only [List.map_toArray, List.map_cons, List.map_nil]); first | done | rfl | (simp only [List.length_drop, List.length_take]; rfl) | (go_simp; simp [bneNil]; done)) ?_
         with_reducible refine (impl_TermHolds.calls a0_0 a0_1 a0_2 a0_3 a0_4 a0_5 a1_0 a1_1 a1_2 a1_3 a1_4 (a0_5.toList != ([] : List UInt8)) t479 _ ?side1 A82.out).mono ?_
         (case side1 => exact HStd.out.below (by repeat (first | (with_reducible first | exact HB.out | apply below_alloc | apply pw_below_drewN | apply below_drew1 | refine below_set ?_ GE448.out | refine below_set ?_ GE449.out | refine below_set ?_ GE463.out) | exact HB.out)))
         rintro e w125 ⟨rfl, hb⟩
         refine ⟨_, rfl, ?_⟩
         have n0_ := Aside0.mk (Kd.N_below (by (with_reducible repeat (first | apply Kd.N_alloc | apply Kd.N_drewN | apply Kd.N_drew)); exact HO469.out) hb)
         have n1_ := Aside0.mk (blk_below (g := gb448) (o := .cells #[.int .i64 a0_0, .int .i64 a0_1, .int .u64 a0_2, .int .u64 a0_3, .int .u64 a0_4, .string a0_5] 24 (0, 0)) (by (with_reducible repeat (first | refine blk_drewN ?_ _ | refine blk_drew ?_ | refine blk_alloc ?_ _)); exact BK448.out) hb)
         have n2_ := Aside0.mk (blk_below (g := gb449) (o := .cells #[.int .u64 a1_0, .int .u64 a1_1, .int .u64 a1_2, .string a1_3, .string a1_4] 26 (0, 0)) (by (with_reducible repeat (first | refine blk_drewN ?_ _ | refine blk_drew ?_ | refine blk_alloc ?_ _)); exact BK449.out) hb)
         have n3_ := Aside0.mk (blk_below (g := gb463) (o := .cells #[.int .i64 t457, .int .i64 t458, .int .u64 t459, .int .u64 t460, .int .u64 t461, .string t462] 24 (0, 0)) (by (with_reducible repeat (first | refine blk_drewN ?_ _ | refine blk_drew ?_ | refine blk_alloc ?_ _)); exact BK463.out) hb)
         have n4_ := Aside0.mk (below_step (by repeat (first | (with_reducible first | exact HB.out | apply below_alloc | apply pw_below_drewN | apply below_drew1 | refine below_set ?_ GE448.out | refine below_set ?_ GE449.out | refine below_set ?_ GE463.out) | exact HB.out)) hb)
         clear HO469
         clear BK448
         clear BK449
         clear BK463
         clear HB
         have HO469 := n0_
         have BK448 := n1_
         have BK449 := n2_
         have BK463 := n3_
         have HB := n4_
         clear n0_ n1_ n2_ n3_ n4_
         (try clear hb)
         (try clear hb2)
         (try clear hk)
         (try clear hi)
         refine hK.out _ _ ⟨(blk_cell BK448.out 0).trans rfl, (blk_cell BK448.out 1).trans rfl, (blk_cell BK448.out 2).trans rfl, (blk_cell BK448.out 3).trans rfl, (blk_cell BK448.out 4).trans rfl, (blk_cell BK448.out 5).trans rfl, (blk_cell BK449.out 0).trans rfl, (blk_cell BK449.out 1).trans rfl, (blk_cell BK449.out 2).trans rfl, (blk_cell BK449.out 3).trans rfl, (blk_cell BK449.out 4).trans rfl⟩ (fun hHeld => ?_)
         clear hK K
         refine norm_ (a' := ?_) ?_ ?_
         rotate_left
         ·
          show Act.put _ (some 41) _ = _
          simp only [Act.put, List.setIfInBounds_toArray, List.set_cons_zero, List.set_cons_succ, i64_w, i32_w]
          rfl
         refine pure_ (i := 15) (N := some 42) (v := ?_) (a' := ?_) #[true, true, true, true, true, true, true, true, true, true, true, true, true, true, true, true, false, false, false, false, false, false, false, false, false] rfl rfl (any_of HT_.out (by kernel_rfl)) (fun _ _ _ h => h) (Or.inl ⟨by rfl, ?_⟩) ?_ ?_
         rotate_left
         ·
          intro w'
          go_simp
          with_reducible rfl
         rotate_left
         ·
          simp only [Act.put, List.setIfInBounds_toArray, List.set_cons_zero, List.set_cons_succ, i64_w, i32_w]
          rfl
         refine pure_ (i := 16) (N := some 43) (v := ?_) (a' := ?_) #[true, true, true, true, true, true, true, true, true, true, true, true, true, true, true, true, true, false, false, false, false, false, false, false, false] rfl rfl (any_of HT_.out (by kernel_rfl)) (fun _ _ _ h => h) (Or.inl ⟨by rfl, ?_⟩) ?_ ?_
         rotate_left
         ·
          intro w'
          go_simp
          with_reducible rfl
         rotate_left
         ·
          simp only [Act.put, List.setIfInBounds_toArray, List.set_cons_zero, List.set_cons_succ, i64_w, i32_w]
          rfl
         refine pure_ (i := 17) (N := some 44) (v := undef) (a' := ?_) #[true, true, true, true, true, true, true, true, true, true, true, true, true, true, true, true, true, true, false, false, false, false, false, false, false] rfl rfl (any_of HT_.out (by kernel_rfl)) (fun _ _ _ h => h) (Or.inr ⟨by rfl, rfl⟩) ?_ ?_
         rotate_left
         ·
          simp only [Act.put, List.setIfInBounds_toArray, List.set_cons_zero, List.set_cons_succ, i64_w, i32_w]
          rfl
         refine pure_ (i := 18) (N := some 45) (v := undef) (a' := ?_) #[true, true, true, true, true, true, true, true, true, true, true, true, true, true, true, true, true, true, true, false, false, false, false, false, false] rfl rfl (any_of HT_.out (by kernel_rfl)) (fun _ _ _ h => h) (Or.inr ⟨by rfl, rfl⟩) ?_ ?_
         rotate_left
         ·
          simp only [Act.put, List.setIfInBounds_toArray, List.set_cons_zero, List.set_cons_succ, i64_w, i32_w]
          rfl
         refine pure_ (i := 19) (N := some 46) (v := undef) (a' := ?_) #[true, true, true, true, true, true, true, true, true, true, true, true, true, true, true, true, true, true, true, true, false, false, false, false, false] rfl rfl (any_of HT_.out (by kernel_rfl)) (fun _ _ _ h => h) (Or.inr ⟨by rfl, rfl⟩) ?_ ?_
         rotate_left
         ·
          simp only [Act.put, List.setIfInBounds_toArray, List.set_cons_zero, List.set_cons_succ, i64_w, i32_w]
          rfl
         refine pure_ (i := 20) (N := some 47) (v := undef) (a' := ?_) #[true, true, true, true, true, true, true, true, true, true, true, true, true, true, true, true, true, true, true, true, true, false, false, false, false] rfl rfl (any_of HT_.out (by kernel_rfl)) (fun _ _ _ h => h) (Or.inr ⟨by rfl, rfl⟩) ?_ ?_
         rotate_left
         ·
          simp only [Act.put, List.setIfInBounds_toArray, List.set_cons_zero, List.set_cons_succ, i64_w, i32_w]
          rfl
         refine pure_ (i := 21) (N := some 48) (v := undef) (a' := ?_) #[true, true, true, true, true, true, true, true, true, true, true, true, true, true, true, true, true, true, true, true, true, true, false, false, false] rfl rfl (any_of HT_.out (by kernel_rfl)) (fun _ _ _ h => h) (Or.inr ⟨by rfl, rfl⟩) ?_ ?_
         rotate_left
         ·
          simp only [Act.put, List.setIfInBounds_toArray, List.set_cons_zero, List.set_cons_succ, i64_w, i32_w]
          rfl
         refine pure_ (i := 22) (N := some 49) (v := undef) (a' := ?_) #[true, true, true, true, true, true, true, true, true, true, true, true, true, true, true, true, true, true, true, true, true, true, true, false, false] rfl rfl (any_of HT_.out (by kernel_rfl)) (fun _ _ _ h => h) (Or.inr ⟨by rfl, rfl⟩) ?_ ?_
         rotate_left
         ·
          simp only [Act.put, List.setIfInBounds_toArray, List.set_cons_zero, List.set_cons_succ, i64_w, i32_w]
          rfl
         refine pure_ (i := 23) (N := some 50) (v := ?_) (a' := ?_) #[true, true, true, true, true, true, true, true, true, true, true, true, true, true, true, true, true, true, true, true, true, true, true, true, false] rfl rfl (any_of HT_.out (by kernel_rfl)) (fun _ _ _ h => h) (Or.inl ⟨by rfl, ?_⟩) ?_ ?_
         rotate_left
         ·
          intro w'
          go_simp
          with_reducible rfl
         rotate_left
         ·
          simp only [Act.put, List.setIfInBounds_toArray, List.set_cons_zero, List.set_cons_succ, i64_w, i32_w]
          rfl
         refine pure_ (i := 24) (N := some 6) (v := ?_) (a' := ?_) #[true, true, true, true, true, true, true, true, true, true, true, true, true, true, true, true, true, true, true, true, true, true, true, true, true] rfl rfl (any_of HT_.out (by kernel_rfl)) (fun _ _ _ h => h) (Or.inl ⟨by rfl, ?_⟩) ?_ ?_
         rotate_left
         ·
          intro w'
          go_simp
          with_reducible rfl
         rotate_left
         ·
          simp only [Act.put, List.setIfInBounds_toArray, List.set_cons_zero, List.set_cons_succ, i64_w, i32_w]
          rfl
         refine done_ (done_of HT_.out (by kernel_rfl)) ?_
         try go_wp2
         go_ret
         exact ⟨by first | rfl | (simp [errW_none, errW_some] <;> rfl) | (simp [*, errW_none, errW_some] <;> rfl) | (simp [bneNil]; done), by repeat (first | (with_reducible first | exact HB.out | apply below_alloc | apply pw_below_drewN | apply below_drew1 | refine below_set ?_ GE448.out | refine below_set ?_ GE449.out | refine below_set ?_ GE463.out) | exact HB.out)⟩

end Go.Proofs.YtllkoadcpobdaaaDoor.PX
