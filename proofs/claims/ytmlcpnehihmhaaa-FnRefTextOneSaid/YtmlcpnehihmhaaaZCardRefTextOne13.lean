/- The row of FnRefTextOne, out of its printed walk and its plain law. For every input that the statement lets in. -/
import Derived.Test.YtmlcpnehihmhaaaZCardRefTextOne4
import Derived.Test.YtmlcpnehihmhaaaZCardRefTextOne8
import Derived.Test.YtmlcpnehihmhaaaZCardRefTextOne10
import Derived.Test.YtmlcpnehihmhaaaZCardRefTextOne12
namespace Go.Proofs.Ytmlcpnehihmhaaa.Bt
end Go.Proofs.Ytmlcpnehihmhaaa.Bt
namespace Go.Proofs.Ytmlcpnehihmhaaa.Gr
end Go.Proofs.Ytmlcpnehihmhaaa.Gr
namespace Go.Proofs.Ytmlcpnehihmhaaa.L
end Go.Proofs.Ytmlcpnehihmhaaa.L
namespace Go.Proofs.Ytmlcpnehihmhaaa.PX
end Go.Proofs.Ytmlcpnehihmhaaa.PX
namespace Go.Proofs.Ytmlcpnehihmhaaa.PX

open Go.RowKit Go.Proofs.YtmlcpnehihmhaaaW.PrintWords Go.Proofs.YtmlcpnehihmhaaaW.PrintLast Go.Proofs.YtmlcpnehihmhaaaW.PrintMore

attribute [local go_sem] max2_int min2_int max_two min_two max_three min_three max_four min_four   -- for this text's walks alone

set_option linter.unusedVariables false

set_option linter.unusedSimpArgs false

attribute [local go_sem high] eqA23

mutual
def laws_FnRefTextOne.j0 : Nat → Bool → ByteArray → ByteArray → ByteArray → ByteArray → ByteArray → ByteArray → ByteArray → ByteArray → Option (Bool)
  | 0, _, _, _, _, _, _, _, _, _ => none
  | k + 1, x12, x152000, x152001, x152002, x152003, x153000, x153001, x153002, x153003 => if x12 = true then (some true) else ((laws_refGood.f k x152000 x152001 x152002 x152003).bind fun t155 => (if t155 = true then ((laws_refGood.f k x153000 x153001 x153002 x153003).bind fun t156 => (laws_FnRefTextOne.j1 k (!t156) x152000 x152001 x152002 x152003 x153000 x153001 x153002 x153003)) else (laws_FnRefTextOne.j1 k true x152000 x152001 x152002 x152003 x153000 x153001 x153002 x153003)))
def laws_FnRefTextOne.j1 : Nat → Bool → ByteArray → ByteArray → ByteArray → ByteArray → ByteArray → ByteArray → ByteArray → ByteArray → Option (Bool)
  | 0, _, _, _, _, _, _, _, _, _ => none
  | k + 1, x20, x152000, x152001, x152002, x152003, x153000, x153001, x153002, x153003 => if x20 = true then (some true) else ((impl_RefText.f x152000 x152001 x152002 x152003).bind fun t157 => (if t157.toList = ([] : List UInt8) then (some false) else ((impl_RefText.f x152000 x152001 x152002 x152003).bind fun t158 => ((impl_RefText.f x153000 x153001 x153002 x153003).bind fun t159 => (some ((t158.toList == t159.toList) == (x152000.toList == x153000.toList && (x152001.toList == x153001.toList && (x152002.toList == x153002.toList && (x152003.toList == x153003.toList))))))))))
end

def laws_FnRefTextOne.f (k : Nat) (a0_0 : ByteArray) (a0_1 : ByteArray) (a0_2 : ByteArray) (a0_3 : ByteArray) (a1_0 : ByteArray) (a1_1 : ByteArray) (a1_2 : ByteArray) (a1_3 : ByteArray) : Option (Bool) := (laws_zzFits7.f a0_0 a0_1 a0_2 a0_3).bind fun t153 => (if t153 = true then ((laws_zzFits7.f a1_0 a1_1 a1_2 a1_3).bind fun t154 => (laws_FnRefTextOne.j0 k (!t154) a0_0 a0_1 a0_2 a0_3 a1_0 a1_1 a1_2 a1_3)) else (laws_FnRefTextOne.j0 k true a0_0 a0_1 a0_2 a0_3 a1_0 a1_1 a1_2 a1_3))

def laws_FnRefTextOne.T5 : Bool × List (List Nat × List Nat) := (true, [([], []), ([0], [0]), ([1], [1]), ([2, 1], [2]), ([3], [3]), ([4, 3, 3], [3, 4]), ([3], [3]), ([6, 5, 3], [3, 6]), ([5, 7, 3], [3, 5, 7]), ([3], [3]), ([3], [3]), ([9, 10, 3], [3, 9, 10]), ([8, 11, 3], [3, 8, 11]), ([3, 12], [3, 12]), ([13, 7, 0, 1, 2, 3, 4, 5, 6, 7, 8, 9, 10, 11, 12, 13], [13])])

def laws_FnRefTextOne.B5 : List Nat := [0, 1, 3, 7, 15, 31, 15, 127, 255, 15, 15, 1551, 4095, 8191, 16383]

theorem laws_FnRefTextOne.tab5 : rtab .any (opsOf Try.f3 5) = laws_FnRefTextOne.T5 := by kernel_rfl

theorem laws_FnRefTextOne.bits5 : waitsOk laws_FnRefTextOne.T5.2 laws_FnRefTextOne.B5 = true := by kernel_rfl

set_option maxHeartbeats 80000000 in
set_option maxRecDepth 100000 in
theorem laws_FnRefTextOne.calls (k : Nat) (a0_0 : ByteArray) (a0_1 : ByteArray) (a0_2 : ByteArray) (a0_3 : ByteArray) (a1_0 : ByteArray) (a1_1 : ByteArray) (a1_2 : ByteArray) (a1_3 : ByteArray) (r : Bool) (w : World) (h : laws_FnRefTextOne.f k a0_0 a0_1 a0_2 a0_3 a1_0 a1_1 a1_2 a1_3 = some r) :
  Calls Try.prog 3 #[.agg #[.string a0_0, .string a0_1, .string a0_2, .string a0_3], .agg #[.string a1_0, .string a1_1, .string a1_2, .string a1_3]] w fun e w' => e = .returned (.bool r) ∧ Below w.heap.size w w' := by
 have hu23 := Try.underlying23
 have HB := Aside0.mk (Below.refl w.heap.size w)
 have H : ((laws_zzFits7.f a0_0 a0_1 a0_2 a0_3).bind fun t153 => (if t153 = true then ((laws_zzFits7.f a1_0 a1_1 a1_2 a1_3).bind fun t154 => (laws_FnRefTextOne.j0 k (!t154) a0_0 a0_1 a0_2 a0_3 a1_0 a1_1 a1_2 a1_3)) else (laws_FnRefTextOne.j0 k true a0_0 a0_1 a0_2 a0_3 a1_0 a1_1 a1_2 a1_3))) = some r := h
 clear h
 have HC3 := Aside0.mk H
 clear H
 go_enter Try.func3, Try.ntmps3
 go_upto_region 1 with (first | ((with_reducible refine gate_dst (N := 2) rfl ?_); refine box_event ?hg (N := 2) ?hd (cs := #[.string a0_0, .string a0_1, .string a0_2, .string a0_3]) (t := 23) ?hr ?_; (case hd => rfl); (case hg => rfl); (case hr => first | (go_simp; done) | (go_simp; rfl) | (go_simp; simp [u8w]; done)); intro gb151 hg w4 hbox hb; have n0_ := Aside0.mk (below_step (by repeat (first | (with_reducible first | exact HB.out | apply below_alloc | apply pw_below_drewN | apply below_drew1) | exact HB.out)) hb); have n1_ := Aside0.mk (hbox); have n2_ := Aside0.mk ((by rw [hg]; exact (below_size (by repeat (first | (with_reducible first | exact HB.out | apply below_alloc | apply pw_below_drewN | apply below_drew1) | exact HB.out))) : w.heap.size ≤ gb151)); have n3_ := Aside0.mk ((by rw [hg]; exact (below_size (by repeat (first | (with_reducible first | exact HB.out | apply below_alloc | apply pw_below_drewN | apply below_drew1) | exact HB.out))) : w.heap.size ≤ gb151)); clear HB; have HB := n0_; have BK151 := n1_; have GW151 := n2_; have GE151 := n3_; clear n0_ n1_ n2_ n3_; clear hb hbox hg) | ((with_reducible refine gate_dst (N := 3) rfl ?_); refine box_event ?hg (N := 3) ?hd (cs := #[.string a1_0, .string a1_1, .string a1_2, .string a1_3]) (t := 23) ?hr ?_; (case hd => rfl); (case hg => rfl); (case hr => first | (go_simp; done) | (go_simp; rfl) | (go_simp; simp [u8w]; done)); intro gb152 hg w5 hbox hb; have n0_ := Aside0.mk (blk_below (g := gb151) (o := .cells #[.string a0_0, .string a0_1, .string a0_2, .string a0_3] 23 (0, 0)) (by (with_reducible repeat (first | refine blk_drewN ?_ _ | refine blk_drew ?_ | refine blk_alloc ?_ _)); exact BK151.out) hb); have n1_ := Aside0.mk (below_step (by repeat (first | (with_reducible first | exact HB.out | apply below_alloc | apply pw_below_drewN | apply below_drew1 | refine below_set ?_ GE151.out) | exact HB.out)) hb); have n2_ := Aside0.mk (hbox); have n3_ := Aside0.mk ((by rw [hg]; exact (below_size (by repeat (first | (with_reducible first | exact HB.out | apply below_alloc | apply pw_below_drewN | apply below_drew1 | refine below_set ?_ GE151.out) | exact HB.out))) : w.heap.size ≤ gb152)); have n4_ := Aside0.mk ((by rw [hg]; exact (below_size (by repeat (first | (with_reducible first | exact HB.out | apply below_alloc | apply pw_below_drewN | apply below_drew1 | refine below_set ?_ GE151.out) | exact HB.out))) : w.heap.size ≤ gb152)); have n5_ := Aside0.mk ((by rw [hg]; exact Nat.ne_of_lt (blk_lt (g := gb151) (o := .cells #[.string a0_0, .string a0_1, .string a0_2, .string a0_3] 23 (0, 0)) (by (with_reducible repeat (first | refine blk_drewN ?_ _ | refine blk_drew ?_ | refine blk_alloc ?_ _)); exact BK151.out)) : gb151 ≠ gb152)); have n6_ := Aside0.mk ((by rw [hg]; exact Nat.ne_of_gt (blk_lt (g := gb151) (o := .cells #[.string a0_0, .string a0_1, .string a0_2, .string a0_3] 23 (0, 0)) (by (with_reducible repeat (first | refine blk_drewN ?_ _ | refine blk_drew ?_ | refine blk_alloc ?_ _)); exact BK151.out)) : gb152 ≠ gb151)); clear BK151; clear HB; have BK151 := n0_; have HB := n1_; have BK152 := n2_; have GW152 := n3_; have GE152 := n4_; have NB151_152 := n5_; have NB152_151 := n6_; clear n0_ n1_ n2_ n3_ n4_ n5_ n6_; clear hb hbox hg))
 (try simp only [Act.put, List.setIfInBounds_toArray, List.set_cons_zero, List.set_cons_succ])
 go_cut [12] (fun v12 wc => ∃ (kq : Nat) (x12_2 : Bool), v12 = .bool x12_2 ∧ Aside0 (laws_FnRefTextOne.j0 kq x12_2 a0_0 a0_1 a0_2 a0_3 a1_0 a1_1 a1_2 a1_3 = some r) ∧ Aside0 (kq ≤ k) ∧ Aside0 (wc.heap[gb151]? = some (.cells #[.string a0_0, .string a0_1, .string a0_2, .string a0_3] 23 (0, 0))) ∧ Aside0 (wc.heap[gb152]? = some (.cells #[.string a1_0, .string a1_1, .string a1_2, .string a1_3] 23 (0, 0))) ∧ Aside0 (Below w.heap.size w wc))
 case first =>
  have H := HC3.out
  clear HC3
  replace H := Option.bind_eq_some_iff.mp H
  obtain ⟨t153, A60, H⟩ := H
  replace H : (if t153 = true then ((laws_zzFits7.f a1_0 a1_1 a1_2 a1_3).bind fun t154 => (laws_FnRefTextOne.j0 k (!t154) a0_0 a0_1 a0_2 a0_3 a1_0 a1_1 a1_2 a1_3)) else (laws_FnRefTextOne.j0 k true a0_0 a0_1 a0_2 a0_3 a1_0 a1_1 a1_2 a1_3)) = some r := H
  have A6 := Aside0.mk A60
  clear A60
  by_cases c7 : t153 = true
  ·
   subst c7
   have H1 : ((laws_zzFits7.f a1_0 a1_1 a1_2 a1_3).bind fun t154 => (laws_FnRefTextOne.j0 k (!t154) a0_0 a0_1 a0_2 a0_3 a1_0 a1_1 a1_2 a1_3)) = some r := by rw [if_pos rfl] at H; exact H
   clear H
   have H := H1
   clear H1
   replace H := Option.bind_eq_some_iff.mp H
   obtain ⟨t154, A80, H⟩ := H
   replace H : (laws_FnRefTextOne.j0 k (!t154) a0_0 a0_1 a0_2 a0_3 a1_0 a1_1 a1_2 a1_3) = some r := H
   have A8 := Aside0.mk A80
   clear A80
   have H' := Aside0.mk H
   clear H
   have hnb9 := NB151_152.out
   have hnc9 := NB152_151.out
   have hcz10_0 : w5.cell? ⟨gb151, 0, none⟩ = some (.string a0_0) := (blk_cell BK151.out 0).trans rfl
   have hcz10_1 : w5.cell? ⟨gb151, 1, none⟩ = some (.string a0_1) := (blk_cell BK151.out 1).trans rfl
   have hcz10_2 : w5.cell? ⟨gb151, 2, none⟩ = some (.string a0_2) := (blk_cell BK151.out 2).trans rfl
   have hcz10_3 : w5.cell? ⟨gb151, 3, none⟩ = some (.string a0_3) := (blk_cell BK151.out 3).trans rfl
   have hfz10_0 := blk_frozen BK151.out 0
   have hfz10_1 := blk_frozen BK151.out 1
   have hfz10_2 := blk_frozen BK151.out 2
   have hfz10_3 := blk_frozen BK151.out 3
   go_wp2_with (first | ((with_reducible refine gate_callee (f := 4) rfl ?_); refine goesL_ (some 6) rfl rfl Try.func4 (by kernel_rfl) rfl #[.agg #[.string a0_0, .string a0_1, .string a0_2, .string a0_3]] rfl (by (try simp only [List.map_toArray, List.map_cons, List.map_nil]); first | done | rfl | (simp only [List.length_drop, List.length_take]; rfl)) ?_; (with_reducible refine (laws_zzFits7.calls a0_0 a0_1 a0_2 a0_3 true _ A6.out).mono ?_); rintro e w11 ⟨rfl, hb⟩; refine ⟨_, rfl, ?_⟩; have n0_ := Aside0.mk (blk_below (g := gb151) (o := .cells #[.string a0_0, .string a0_1, .string a0_2, .string a0_3] 23 (0, 0)) (by (with_reducible repeat (first | refine blk_drewN ?_ _ | refine blk_drew ?_ | refine blk_alloc ?_ _)); exact BK151.out) hb); have n1_ := Aside0.mk (blk_below (g := gb152) (o := .cells #[.string a1_0, .string a1_1, .string a1_2, .string a1_3] 23 (0, 0)) (by (with_reducible repeat (first | refine blk_drewN ?_ _ | refine blk_drew ?_ | refine blk_alloc ?_ _)); exact BK152.out) hb); have n2_ := Aside0.mk (below_step (by repeat (first | (with_reducible first | exact HB.out | apply below_alloc | apply pw_below_drewN | apply below_drew1 | refine below_set ?_ GE151.out | refine below_set ?_ GE152.out) | exact HB.out)) hb); clear BK151; clear BK152; clear HB; have BK151 := n0_; have BK152 := n1_; have HB := n2_; clear n0_ n1_ n2_; (try clear hb); (try clear hb2); (try clear hk); (try clear hi); have hcz12_0 : w11.cell? ⟨gb152, 0, none⟩ = some (.string a1_0) := (blk_cell BK152.out 0).trans rfl; have hcz12_1 : w11.cell? ⟨gb152, 1, none⟩ = some (.string a1_1) := (blk_cell BK152.out 1).trans rfl; have hcz12_2 : w11.cell? ⟨gb152, 2, none⟩ = some (.string a1_2) := (blk_cell BK152.out 2).trans rfl; have hcz12_3 : w11.cell? ⟨gb152, 3, none⟩ = some (.string a1_3) := (blk_cell BK152.out 3).trans rfl; have hfz12_0 := blk_frozen BK152.out 0; have hfz12_1 := blk_frozen BK152.out 1; have hfz12_2 := blk_frozen BK152.out 2; have hfz12_3 := blk_frozen BK152.out 3) | (go_at_call 4; (with_reducible refine (laws_zzFits7.calls a1_0 a1_1 a1_2 a1_3 t154 _ A8.out).mono ?_); rintro e w13 ⟨rfl, hb⟩; have n0_ := Aside0.mk (blk_below (g := gb151) (o := .cells #[.string a0_0, .string a0_1, .string a0_2, .string a0_3] 23 (0, 0)) (by (with_reducible repeat (first | refine blk_drewN ?_ _ | refine blk_drew ?_ | refine blk_alloc ?_ _)); exact BK151.out) hb); have n1_ := Aside0.mk (blk_below (g := gb152) (o := .cells #[.string a1_0, .string a1_1, .string a1_2, .string a1_3] 23 (0, 0)) (by (with_reducible repeat (first | refine blk_drewN ?_ _ | refine blk_drew ?_ | refine blk_alloc ?_ _)); exact BK152.out) hb); have n2_ := Aside0.mk (below_step (by repeat (first | (with_reducible first | exact HB.out | apply below_alloc | apply pw_below_drewN | apply below_drew1 | refine below_set ?_ GE151.out | refine below_set ?_ GE152.out) | exact HB.out)) hb); clear BK151; clear BK152; clear HB; have BK151 := n0_; have BK152 := n1_; have HB := n2_; clear n0_ n1_ n2_; (try clear hb); (try clear hb2); (try clear hk); (try clear hi)))
   go_meet
   case rel => exact ⟨_, (!t154), (by first | rfl | (simp; done) | (simp [*]; done)), H', ⟨by first | omega | exact Nat.le_refl _⟩, ⟨by (with_reducible repeat (first | refine blk_drewN ?_ _ | refine blk_drew ?_ | refine blk_alloc ?_ _)); exact BK151.out⟩, ⟨by (with_reducible repeat (first | refine blk_drewN ?_ _ | refine blk_drew ?_ | refine blk_alloc ?_ _)); exact BK152.out⟩, ⟨by repeat (first | (with_reducible first | exact HB.out | apply below_alloc | apply pw_below_drewN | apply below_drew1 | refine below_set ?_ GE151.out | refine below_set ?_ GE152.out) | exact HB.out)⟩⟩
  ·
   replace c7 := Bool.eq_false_iff.mpr c7
   subst c7
   have H1 : (laws_FnRefTextOne.j0 k true a0_0 a0_1 a0_2 a0_3 a1_0 a1_1 a1_2 a1_3) = some r := by rw [if_neg (show ¬ (false = true) by decide)] at H; exact H
   clear H
   have H := H1
   clear H1
   have H' := Aside0.mk H
   clear H
   have hnb14 := NB151_152.out
   have hnc14 := NB152_151.out
   have hcz15_0 : w5.cell? ⟨gb151, 0, none⟩ = some (.string a0_0) := (blk_cell BK151.out 0).trans rfl
   have hcz15_1 : w5.cell? ⟨gb151, 1, none⟩ = some (.string a0_1) := (blk_cell BK151.out 1).trans rfl
   have hcz15_2 : w5.cell? ⟨gb151, 2, none⟩ = some (.string a0_2) := (blk_cell BK151.out 2).trans rfl
   have hcz15_3 : w5.cell? ⟨gb151, 3, none⟩ = some (.string a0_3) := (blk_cell BK151.out 3).trans rfl
   have hfz15_0 := blk_frozen BK151.out 0
   have hfz15_1 := blk_frozen BK151.out 1
   have hfz15_2 := blk_frozen BK151.out 2
   have hfz15_3 := blk_frozen BK151.out 3
   go_wp2_with (first | ((with_reducible refine gate_callee (f := 4) rfl ?_); refine goesL_ (some 6) rfl rfl Try.func4 (by kernel_rfl) rfl #[.agg #[.string a0_0, .string a0_1, .string a0_2, .string a0_3]] rfl (by (try simp only [List.map_toArray, List.map_cons, List.map_nil]); first | done | rfl | (simp only [List.length_drop, List.length_take]; rfl)) ?_; (with_reducible refine (laws_zzFits7.calls a0_0 a0_1 a0_2 a0_3 false _ A6.out).mono ?_); rintro e w16 ⟨rfl, hb⟩; refine ⟨_, rfl, ?_⟩; have n0_ := Aside0.mk (blk_below (g := gb151) (o := .cells #[.string a0_0, .string a0_1, .string a0_2, .string a0_3] 23 (0, 0)) (by (with_reducible repeat (first | refine blk_drewN ?_ _ | refine blk_drew ?_ | refine blk_alloc ?_ _)); exact BK151.out) hb); have n1_ := Aside0.mk (blk_below (g := gb152) (o := .cells #[.string a1_0, .string a1_1, .string a1_2, .string a1_3] 23 (0, 0)) (by (with_reducible repeat (first | refine blk_drewN ?_ _ | refine blk_drew ?_ | refine blk_alloc ?_ _)); exact BK152.out) hb); have n2_ := Aside0.mk (below_step (by repeat (first | (with_reducible first | exact HB.out | apply below_alloc | apply pw_below_drewN | apply below_drew1 | refine below_set ?_ GE151.out | refine below_set ?_ GE152.out) | exact HB.out)) hb); clear BK151; clear BK152; clear HB; have BK151 := n0_; have BK152 := n1_; have HB := n2_; clear n0_ n1_ n2_; (try clear hb); (try clear hb2); (try clear hk); (try clear hi)))
   go_meet
   case rel => exact ⟨_, (true), (by first | rfl | (simp; done) | (simp [*]; done)), H', ⟨by first | omega | exact Nat.le_refl _⟩, ⟨by (with_reducible repeat (first | refine blk_drewN ?_ _ | refine blk_drew ?_ | refine blk_alloc ?_ _)); exact BK151.out⟩, ⟨by (with_reducible repeat (first | refine blk_drewN ?_ _ | refine blk_drew ?_ | refine blk_alloc ?_ _)); exact BK152.out⟩, ⟨by repeat (first | (with_reducible first | exact HB.out | apply below_alloc | apply pw_below_drewN | apply below_drew1 | refine below_set ?_ GE151.out | refine below_set ?_ GE152.out) | exact HB.out)⟩⟩
 case rest =>
  clear HC3
  try clear c1
  try clear p2
  try clear c3
  try clear c4
  try clear c7
  try clear c9
  try clear c14
  try clear hcz10_0
  try clear hcz10_1
  try clear hcz10_2
  try clear hcz10_3
  try clear hcz12_0
  try clear hcz12_1
  try clear hcz12_2
  try clear hcz12_3
  try clear hcz15_0
  try clear hcz15_1
  try clear hcz15_2
  try clear hcz15_3
  try clear hfz10_0
  try clear hfz10_1
  try clear hfz10_2
  try clear hfz10_3
  try clear hfz12_0
  try clear hfz12_1
  try clear hfz12_2
  try clear hfz12_3
  try clear hfz15_0
  try clear hfz15_1
  try clear hfz15_2
  try clear hfz15_3
  obtain ⟨kq, x12_2, rfl, HA, HJ2, BK151, BK152, HB⟩ := hcut
  cases kq with
  | zero => exact absurd HA.out (by simp [laws_FnRefTextOne.j0])
  | succ kj2 =>
   have H := HA.out
   clear HA
   simp only [laws_FnRefTextOne.j0] at H
   by_cases c17 : x12_2 = true
   ·
    subst c17
    have H1 : (some true) = some r := by rw [if_pos rfl] at H; exact H
    clear H
    have H := H1
    clear H1
    obtain rfl := Option.some.inj H
    go_wp2
    go_ret
    exact ⟨by first | rfl | (simp [errW_none, errW_some] <;> rfl) | (simp [*, errW_none, errW_some] <;> rfl) | (simp [bneNil]; done), by repeat (first | (with_reducible first | exact HB.out | apply below_alloc | apply pw_below_drewN | apply below_drew1 | refine below_set ?_ GE151.out | refine below_set ?_ GE152.out) | exact HB.out)⟩
   ·
    replace c17 := Bool.eq_false_iff.mpr c17
    subst c17
    have H1 : ((laws_refGood.f kj2 a0_0 a0_1 a0_2 a0_3).bind fun t155 => (if t155 = true then ((laws_refGood.f kj2 a1_0 a1_1 a1_2 a1_3).bind fun t156 => (laws_FnRefTextOne.j1 kj2 (!t156) a0_0 a0_1 a0_2 a0_3 a1_0 a1_1 a1_2 a1_3)) else (laws_FnRefTextOne.j1 kj2 true a0_0 a0_1 a0_2 a0_3 a1_0 a1_1 a1_2 a1_3))) = some r := by rw [if_neg (show ¬ (false = true) by decide)] at H; exact H
    clear H
    have H := H1
    clear H1
    have HC18 := Aside0.mk H
    clear H
    go_upto_region 3 with (fail)
    go_cut [20] (fun v20 wc => ∃ (kq : Nat) (x20_17 : Bool), v20 = .bool x20_17 ∧ Aside0 (laws_FnRefTextOne.j1 kq x20_17 a0_0 a0_1 a0_2 a0_3 a1_0 a1_1 a1_2 a1_3 = some r) ∧ Aside0 (kq ≤ kj2) ∧ Aside0 (wc.heap[gb151]? = some (.cells #[.string a0_0, .string a0_1, .string a0_2, .string a0_3] 23 (0, 0))) ∧ Aside0 (wc.heap[gb152]? = some (.cells #[.string a1_0, .string a1_1, .string a1_2, .string a1_3] 23 (0, 0))) ∧ Aside0 (Below w.heap.size w wc))
    case first =>
     have H := HC18.out
     clear HC18
     replace H := Option.bind_eq_some_iff.mp H
     obtain ⟨t155, A190, H⟩ := H
     replace H : (if t155 = true then ((laws_refGood.f kj2 a1_0 a1_1 a1_2 a1_3).bind fun t156 => (laws_FnRefTextOne.j1 kj2 (!t156) a0_0 a0_1 a0_2 a0_3 a1_0 a1_1 a1_2 a1_3)) else (laws_FnRefTextOne.j1 kj2 true a0_0 a0_1 a0_2 a0_3 a1_0 a1_1 a1_2 a1_3)) = some r := H
     have A19 := Aside0.mk A190
     clear A190
     by_cases c20 : t155 = true
     ·
      subst c20
      have H1 : ((laws_refGood.f kj2 a1_0 a1_1 a1_2 a1_3).bind fun t156 => (laws_FnRefTextOne.j1 kj2 (!t156) a0_0 a0_1 a0_2 a0_3 a1_0 a1_1 a1_2 a1_3)) = some r := by rw [if_pos rfl] at H; exact H
      clear H
      have H := H1
      clear H1
      replace H := Option.bind_eq_some_iff.mp H
      obtain ⟨t156, A210, H⟩ := H
      replace H : (laws_FnRefTextOne.j1 kj2 (!t156) a0_0 a0_1 a0_2 a0_3 a1_0 a1_1 a1_2 a1_3) = some r := H
      have A21 := Aside0.mk A210
      clear A210
      have H' := Aside0.mk H
      clear H
      have hnb22 := NB151_152.out
      have hnc22 := NB152_151.out
      have hcz23_0 : wc.cell? ⟨gb151, 0, none⟩ = some (.string a0_0) := (blk_cell BK151.out 0).trans rfl
      have hcz23_1 : wc.cell? ⟨gb151, 1, none⟩ = some (.string a0_1) := (blk_cell BK151.out 1).trans rfl
      have hcz23_2 : wc.cell? ⟨gb151, 2, none⟩ = some (.string a0_2) := (blk_cell BK151.out 2).trans rfl
      have hcz23_3 : wc.cell? ⟨gb151, 3, none⟩ = some (.string a0_3) := (blk_cell BK151.out 3).trans rfl
      have hfz23_0 := blk_frozen BK151.out 0
      have hfz23_1 := blk_frozen BK151.out 1
      have hfz23_2 := blk_frozen BK151.out 2
      have hfz23_3 := blk_frozen BK151.out 3
      go_wp2_with (first | ((with_reducible refine gate_callee (f := 5) rfl ?_); refine goesL_ (some 14) rfl rfl Try.func5 (by kernel_rfl) rfl #[.agg #[.string a0_0, .string a0_1, .string a0_2, .string a0_3]] rfl (by (try simp only [List.map_toArray, List.map_cons, List.map_nil]); first | done | rfl | (simp only [List.length_drop, List.length_take]; rfl)) ?_; (with_reducible refine (laws_refGood.calls kj2 a0_0 a0_1 a0_2 a0_3 true _ A19.out).mono ?_); rintro e w24 ⟨rfl, hb⟩; refine ⟨_, rfl, ?_⟩; have n0_ := Aside0.mk (blk_below (g := gb151) (o := .cells #[.string a0_0, .string a0_1, .string a0_2, .string a0_3] 23 (0, 0)) (by (with_reducible repeat (first | refine blk_drewN ?_ _ | refine blk_drew ?_ | refine blk_alloc ?_ _)); exact BK151.out) hb); have n1_ := Aside0.mk (blk_below (g := gb152) (o := .cells #[.string a1_0, .string a1_1, .string a1_2, .string a1_3] 23 (0, 0)) (by (with_reducible repeat (first | refine blk_drewN ?_ _ | refine blk_drew ?_ | refine blk_alloc ?_ _)); exact BK152.out) hb); have n2_ := Aside0.mk (below_step (by repeat (first | (with_reducible first | exact HB.out | apply below_alloc | apply pw_below_drewN | apply below_drew1 | refine below_set ?_ GE151.out | refine below_set ?_ GE152.out) | exact HB.out)) hb); clear BK151; clear BK152; clear HB; have BK151 := n0_; have BK152 := n1_; have HB := n2_; clear n0_ n1_ n2_; (try clear hb); (try clear hb2); (try clear hk); (try clear hi); have hcz25_0 : w24.cell? ⟨gb152, 0, none⟩ = some (.string a1_0) := (blk_cell BK152.out 0).trans rfl; have hcz25_1 : w24.cell? ⟨gb152, 1, none⟩ = some (.string a1_1) := (blk_cell BK152.out 1).trans rfl; have hcz25_2 : w24.cell? ⟨gb152, 2, none⟩ = some (.string a1_2) := (blk_cell BK152.out 2).trans rfl; have hcz25_3 : w24.cell? ⟨gb152, 3, none⟩ = some (.string a1_3) := (blk_cell BK152.out 3).trans rfl; have hfz25_0 := blk_frozen BK152.out 0; have hfz25_1 := blk_frozen BK152.out 1; have hfz25_2 := blk_frozen BK152.out 2; have hfz25_3 := blk_frozen BK152.out 3) | (go_at_call 5; (with_reducible refine (laws_refGood.calls kj2 a1_0 a1_1 a1_2 a1_3 t156 _ A21.out).mono ?_); rintro e w26 ⟨rfl, hb⟩; have n0_ := Aside0.mk (blk_below (g := gb151) (o := .cells #[.string a0_0, .string a0_1, .string a0_2, .string a0_3] 23 (0, 0)) (by (with_reducible repeat (first | refine blk_drewN ?_ _ | refine blk_drew ?_ | refine blk_alloc ?_ _)); exact BK151.out) hb); have n1_ := Aside0.mk (blk_below (g := gb152) (o := .cells #[.string a1_0, .string a1_1, .string a1_2, .string a1_3] 23 (0, 0)) (by (with_reducible repeat (first | refine blk_drewN ?_ _ | refine blk_drew ?_ | refine blk_alloc ?_ _)); exact BK152.out) hb); have n2_ := Aside0.mk (below_step (by repeat (first | (with_reducible first | exact HB.out | apply below_alloc | apply pw_below_drewN | apply below_drew1 | refine below_set ?_ GE151.out | refine below_set ?_ GE152.out) | exact HB.out)) hb); clear BK151; clear BK152; clear HB; have BK151 := n0_; have BK152 := n1_; have HB := n2_; clear n0_ n1_ n2_; (try clear hb); (try clear hb2); (try clear hk); (try clear hi)))
      go_meet
      case rel => exact ⟨_, (!t156), (by first | rfl | (simp; done) | (simp [*]; done)), H', ⟨by have := HJ2.out; first | omega | exact Nat.le_refl _⟩, ⟨by (with_reducible repeat (first | refine blk_drewN ?_ _ | refine blk_drew ?_ | refine blk_alloc ?_ _)); exact BK151.out⟩, ⟨by (with_reducible repeat (first | refine blk_drewN ?_ _ | refine blk_drew ?_ | refine blk_alloc ?_ _)); exact BK152.out⟩, ⟨by repeat (first | (with_reducible first | exact HB.out | apply below_alloc | apply pw_below_drewN | apply below_drew1 | refine below_set ?_ GE151.out | refine below_set ?_ GE152.out) | exact HB.out)⟩⟩
     ·
      replace c20 := Bool.eq_false_iff.mpr c20
      subst c20
      have H1 : (laws_FnRefTextOne.j1 kj2 true a0_0 a0_1 a0_2 a0_3 a1_0 a1_1 a1_2 a1_3) = some r := by rw [if_neg (show ¬ (false = true) by decide)] at H; exact H
      clear H
      have H := H1
      clear H1
      have H' := Aside0.mk H
      clear H
      have hnb27 := NB151_152.out
      have hnc27 := NB152_151.out
      have hcz28_0 : wc.cell? ⟨gb151, 0, none⟩ = some (.string a0_0) := (blk_cell BK151.out 0).trans rfl
      have hcz28_1 : wc.cell? ⟨gb151, 1, none⟩ = some (.string a0_1) := (blk_cell BK151.out 1).trans rfl
      have hcz28_2 : wc.cell? ⟨gb151, 2, none⟩ = some (.string a0_2) := (blk_cell BK151.out 2).trans rfl
      have hcz28_3 : wc.cell? ⟨gb151, 3, none⟩ = some (.string a0_3) := (blk_cell BK151.out 3).trans rfl
      have hfz28_0 := blk_frozen BK151.out 0
      have hfz28_1 := blk_frozen BK151.out 1
      have hfz28_2 := blk_frozen BK151.out 2
      have hfz28_3 := blk_frozen BK151.out 3
      go_wp2_with (first | ((with_reducible refine gate_callee (f := 5) rfl ?_); refine goesL_ (some 14) rfl rfl Try.func5 (by kernel_rfl) rfl #[.agg #[.string a0_0, .string a0_1, .string a0_2, .string a0_3]] rfl (by (try simp only [List.map_toArray, List.map_cons, List.map_nil]); first | done | rfl | (simp only [List.length_drop, List.length_take]; rfl)) ?_; (with_reducible refine (laws_refGood.calls kj2 a0_0 a0_1 a0_2 a0_3 false _ A19.out).mono ?_); rintro e w29 ⟨rfl, hb⟩; refine ⟨_, rfl, ?_⟩; have n0_ := Aside0.mk (blk_below (g := gb151) (o := .cells #[.string a0_0, .string a0_1, .string a0_2, .string a0_3] 23 (0, 0)) (by (with_reducible repeat (first | refine blk_drewN ?_ _ | refine blk_drew ?_ | refine blk_alloc ?_ _)); exact BK151.out) hb); have n1_ := Aside0.mk (blk_below (g := gb152) (o := .cells #[.string a1_0, .string a1_1, .string a1_2, .string a1_3] 23 (0, 0)) (by (with_reducible repeat (first | refine blk_drewN ?_ _ | refine blk_drew ?_ | refine blk_alloc ?_ _)); exact BK152.out) hb); have n2_ := Aside0.mk (below_step (by repeat (first | (with_reducible first | exact HB.out | apply below_alloc | apply pw_below_drewN | apply below_drew1 | refine below_set ?_ GE151.out | refine below_set ?_ GE152.out) | exact HB.out)) hb); clear BK151; clear BK152; clear HB; have BK151 := n0_; have BK152 := n1_; have HB := n2_; clear n0_ n1_ n2_; (try clear hb); (try clear hb2); (try clear hk); (try clear hi)))
      go_meet
      case rel => exact ⟨_, (true), (by first | rfl | (simp; done) | (simp [*]; done)), H', ⟨by have := HJ2.out; first | omega | exact Nat.le_refl _⟩, ⟨by (with_reducible repeat (first | refine blk_drewN ?_ _ | refine blk_drew ?_ | refine blk_alloc ?_ _)); exact BK151.out⟩, ⟨by (with_reducible repeat (first | refine blk_drewN ?_ _ | refine blk_drew ?_ | refine blk_alloc ?_ _)); exact BK152.out⟩, ⟨by repeat (first | (with_reducible first | exact HB.out | apply below_alloc | apply pw_below_drewN | apply below_drew1 | refine below_set ?_ GE151.out | refine below_set ?_ GE152.out) | exact HB.out)⟩⟩
    case rest =>
     clear HC18
     try clear c1
     try clear c2
     try clear p2
     try clear c3
     try clear c4
     try clear c5
     try clear c7
     try clear c9
     try clear c14
     try clear c17
     try clear c20
     try clear c22
     try clear c27
     try clear hcz10_0
     try clear hcz10_1
     try clear hcz10_2
     try clear hcz10_3
     try clear hcz12_0
     try clear hcz12_1
     try clear hcz12_2
     try clear hcz12_3
     try clear hcz15_0
     try clear hcz15_1
     try clear hcz15_2
     try clear hcz15_3
     try clear hcz23_0
     try clear hcz23_1
     try clear hcz23_2
     try clear hcz23_3
     try clear hcz25_0
     try clear hcz25_1
     try clear hcz25_2
     try clear hcz25_3
     try clear hcz28_0
     try clear hcz28_1
     try clear hcz28_2
     try clear hcz28_3
     try clear hfz10_0
     try clear hfz10_1
     try clear hfz10_2
     try clear hfz10_3
     try clear hfz12_0
     try clear hfz12_1
     try clear hfz12_2
     try clear hfz12_3
     try clear hfz15_0
     try clear hfz15_1
     try clear hfz15_2
     try clear hfz15_3
     try clear hfz23_0
     try clear hfz23_1
     try clear hfz23_2
     try clear hfz23_3
     try clear hfz25_0
     try clear hfz25_1
     try clear hfz25_2
     try clear hfz25_3
     try clear hfz28_0
     try clear hfz28_1
     try clear hfz28_2
     try clear hfz28_3
     try clear p2
     obtain ⟨kq, x20_17, rfl, HA, HJ17, BK151, BK152, HB⟩ := hcut
     cases kq with
     | zero => exact absurd HA.out (by simp [laws_FnRefTextOne.j1])
     | succ kj17 =>
      have H := HA.out
      clear HA
      simp only [laws_FnRefTextOne.j1] at H
      by_cases c30 : x20_17 = true
      ·
       subst c30
       have H1 : (some true) = some r := by rw [if_pos rfl] at H; exact H
       clear H
       have H := H1
       clear H1
       obtain rfl := Option.some.inj H
       go_wp2
       go_ret
       exact ⟨by first | rfl | (simp [errW_none, errW_some] <;> rfl) | (simp [*, errW_none, errW_some] <;> rfl) | (simp [bneNil]; done), by repeat (first | (with_reducible first | exact HB.out | apply below_alloc | apply pw_below_drewN | apply below_drew1 | refine below_set ?_ GE151.out | refine below_set ?_ GE152.out) | exact HB.out)⟩
      ·
       replace c30 := Bool.eq_false_iff.mpr c30
       subst c30
       have H1 : ((impl_RefText.f a0_0 a0_1 a0_2 a0_3).bind fun t157 => (if t157.toList = ([] : List UInt8) then (some false) else ((impl_RefText.f a0_0 a0_1 a0_2 a0_3).bind fun t158 => ((impl_RefText.f a1_0 a1_1 a1_2 a1_3).bind fun t159 => (some ((t158.toList == t159.toList) == (a0_0.toList == a1_0.toList && (a0_1.toList == a1_1.toList && (a0_2.toList == a1_2.toList && (a0_3.toList == a1_3.toList)))))))))) = some r := by rw [if_neg (show ¬ (false = true) by decide)] at H; exact H
       clear H
       have H := H1
       clear H1
       replace H := Option.bind_eq_some_iff.mp H
       obtain ⟨t157, A310, H⟩ := H
       replace H : (if t157.toList = ([] : List UInt8) then (some false) else ((impl_RefText.f a0_0 a0_1 a0_2 a0_3).bind fun t158 => ((impl_RefText.f a1_0 a1_1 a1_2 a1_3).bind fun t159 => (some ((t158.toList == t159.toList) == (a0_0.toList == a1_0.toList && (a0_1.toList == a1_1.toList && (a0_2.toList == a1_2.toList && (a0_3.toList == a1_3.toList))))))))) = some r := H
       have A31 := Aside0.mk A310
       clear A310
       by_cases c32 : t157.toList = ([] : List UInt8)
       ·
        rw [if_pos c32] at H
        have c32b0 : (t157.toList == ([] : List UInt8)) = true := beq_iff_eq.mpr c32
        have c32b1 : (t157.toList != ([] : List UInt8)) = false := bne_eq_false_iff_eq.mpr c32
        clear c32
        obtain rfl := Option.some.inj H
        try go_wp2
        have n0_ := Aside0.mk (blk_drew BK151.out)
        have n1_ := Aside0.mk (blk_drew BK152.out)
        have n2_ := Aside0.mk (below_drew1 HB.out)
        clear BK151
        clear BK152
        clear HB
        have BK151 := n0_
        have BK152 := n1_
        have HB := n2_
        clear n0_ n1_ n2_
        refine start_ (n := 15) (S := fun w' => w'.cell? ⟨gb151, 0, none⟩ = some (.string a0_0) ∧ w'.cell? ⟨gb151, 1, none⟩ = some (.string a0_1) ∧ w'.cell? ⟨gb151, 2, none⟩ = some (.string a0_2) ∧ w'.cell? ⟨gb151, 3, none⟩ = some (.string a0_3)) (ds := []) #[false, false, false, false, false, false, false, false, false, false, false, false, false, false, false] (by kernel_rfl) rfl rfl ⟨(blk_cell BK151.out 0).trans rfl, (blk_cell BK151.out 1).trans rfl, (blk_cell BK151.out 2).trans rfl, (blk_cell BK151.out 3).trans rfl⟩ (fun hHeld => ?_); refine with_tabW laws_FnRefTextOne.tab5 laws_FnRefTextOne.bits5 (fun HT_ HW_ => ?_)
        generalize wc.drew = w33 at BK151 BK152 HB hHeld ⊢
        refine take_ (i := 0) (N := some 21) (v := ?_) (a' := ?_) #[true, false, false, false, false, false, false, false, false, false, false, false, false, false, false] rfl rfl (take_ofW HT_.out HW_.out (by kernel_rfl)) (fun _ _ _ h => h) (Or.inl ⟨by rfl, ?_⟩) hHeld ?_ ?_
        rotate_left
        ·
         rintro w' ⟨s0, s1, s2, s3⟩
         go_simp
         with_reducible rfl
        rotate_left
        ·
         simp only [Act.put, List.setIfInBounds_toArray, List.set_cons_zero, List.set_cons_succ, i64_w, i32_w]
         rfl
        refine one_ (i := 1) (N := some 22) #[true, true, false, false, false, false, false, false, false, false, false, false, false, false, false] rfl rfl (one_of HT_.out (by kernel_rfl)) (by decide) (fun K hK => ?_)
        refine goes_ Try.func6 (by kernel_rfl) rfl #[.agg #[.string a0_0, .string a0_1, .string a0_2, .string a0_3]] (by rfl) rfl rfl (by (try simp only [List.map_toArray, List.map_cons, List.map_nil]); first | done | rfl | (simp only [List.length_drop, List.length_take]; rfl)) ?_
        with_reducible refine (impl_RefText.calls a0_0 a0_1 a0_2 a0_3 t157 _ A31.out).mono ?_
        rintro e w34 ⟨rfl, hb⟩
        refine ⟨_, rfl, ?_⟩
        have n0_ := Aside0.mk (blk_below (g := gb151) (o := .cells #[.string a0_0, .string a0_1, .string a0_2, .string a0_3] 23 (0, 0)) (by (with_reducible repeat (first | refine blk_drewN ?_ _ | refine blk_drew ?_ | refine blk_alloc ?_ _)); exact BK151.out) hb)
        have n1_ := Aside0.mk (blk_below (g := gb152) (o := .cells #[.string a1_0, .string a1_1, .string a1_2, .string a1_3] 23 (0, 0)) (by (with_reducible repeat (first | refine blk_drewN ?_ _ | refine blk_drew ?_ | refine blk_alloc ?_ _)); exact BK152.out) hb)
        have n2_ := Aside0.mk (below_step (by repeat (first | (with_reducible first | exact HB.out | apply below_alloc | apply pw_below_drewN | apply below_drew1 | refine below_set ?_ GE151.out | refine below_set ?_ GE152.out) | exact HB.out)) hb)
        clear BK151
        clear BK152
        clear HB
        have BK151 := n0_
        have BK152 := n1_
        have HB := n2_
        clear n0_ n1_ n2_
        (try clear hb)
        (try clear hb2)
        (try clear hk)
        (try clear hi)
        refine hK.out _ _ ⟨(blk_cell BK151.out 0).trans rfl, (blk_cell BK151.out 1).trans rfl, (blk_cell BK151.out 2).trans rfl, (blk_cell BK151.out 3).trans rfl⟩ (fun hHeld => ?_)
        clear hK K
        refine norm_ (a' := ?_) ?_ ?_
        rotate_left
        ·
         show Act.put _ (some 22) _ = _
         simp only [Act.put, List.setIfInBounds_toArray, List.set_cons_zero, List.set_cons_succ, i64_w, i32_w]
         rfl
        refine pure_ (i := 2) (N := some 23) (v := ?_) (a' := ?_) #[true, true, true, false, false, false, false, false, false, false, false, false, false, false, false] rfl rfl (any_of HT_.out (by kernel_rfl)) (fun _ _ _ h => h) (Or.inl ⟨by rfl, ?_⟩) ?_ ?_
        rotate_left
        ·
         intro w'
         go_simp
         with_reducible rfl
        rotate_left
        ·
         simp only [Act.put, List.setIfInBounds_toArray, List.set_cons_zero, List.set_cons_succ, i64_w, i32_w]
         rfl
        refine pure_ (i := 3) (N := some 24) (v := ?_) (a' := ?_) #[true, true, true, true, false, false, false, false, false, false, false, false, false, false, false] rfl rfl (any_of HT_.out (by kernel_rfl)) (fun _ _ _ h => h) (Or.inl ⟨by rfl, ?_⟩) ?_ ?_
        rotate_left
        ·
         intro w'
         go_simp
         with_reducible rfl
        rotate_left
        ·
         simp only [Act.put, List.setIfInBounds_toArray, List.set_cons_zero, List.set_cons_succ, i64_w, i32_w]
         rfl
        refine pure_ (i := 4) (N := some 25) (v := undef) (a' := ?_) #[true, true, true, true, true, false, false, false, false, false, false, false, false, false, false] rfl rfl (any_of HT_.out (by kernel_rfl)) (fun _ _ _ h => h) (Or.inr ⟨by rfl, rfl⟩) ?_ ?_
        rotate_left
        ·
         simp only [Act.put, List.setIfInBounds_toArray, List.set_cons_zero, List.set_cons_succ, i64_w, i32_w]
         rfl
        refine pure_ (i := 5) (N := some 26) (v := undef) (a' := ?_) #[true, true, true, true, true, true, false, false, false, false, false, false, false, false, false] rfl rfl (any_of HT_.out (by kernel_rfl)) (fun _ _ _ h => h) (Or.inr ⟨by rfl, rfl⟩) ?_ ?_
        rotate_left
        ·
         simp only [Act.put, List.setIfInBounds_toArray, List.set_cons_zero, List.set_cons_succ, i64_w, i32_w]
         rfl
        refine pure_ (i := 6) (N := some 27) (v := undef) (a' := ?_) #[true, true, true, true, true, true, true, false, false, false, false, false, false, false, false] rfl rfl (any_of HT_.out (by kernel_rfl)) (fun _ _ _ h => h) (Or.inr ⟨by rfl, rfl⟩) ?_ ?_
        rotate_left
        ·
         simp only [Act.put, List.setIfInBounds_toArray, List.set_cons_zero, List.set_cons_succ, i64_w, i32_w]
         rfl
        refine pure_ (i := 7) (N := some 28) (v := undef) (a' := ?_) #[true, true, true, true, true, true, true, true, false, false, false, false, false, false, false] rfl rfl (any_of HT_.out (by kernel_rfl)) (fun _ _ _ h => h) (Or.inr ⟨by rfl, rfl⟩) ?_ ?_
        rotate_left
        ·
         simp only [Act.put, List.setIfInBounds_toArray, List.set_cons_zero, List.set_cons_succ, i64_w, i32_w]
         rfl
        refine pure_ (i := 8) (N := some 29) (v := undef) (a' := ?_) #[true, true, true, true, true, true, true, true, true, false, false, false, false, false, false] rfl rfl (any_of HT_.out (by kernel_rfl)) (fun _ _ _ h => h) (Or.inr ⟨by rfl, rfl⟩) ?_ ?_
        rotate_left
        ·
         simp only [Act.put, List.setIfInBounds_toArray, List.set_cons_zero, List.set_cons_succ, i64_w, i32_w]
         rfl
        refine pure_ (i := 9) (N := some 30) (v := undef) (a' := ?_) #[true, true, true, true, true, true, true, true, true, true, false, false, false, false, false] rfl rfl (any_of HT_.out (by kernel_rfl)) (fun _ _ _ h => h) (Or.inr ⟨by rfl, rfl⟩) ?_ ?_
        rotate_left
        ·
         simp only [Act.put, List.setIfInBounds_toArray, List.set_cons_zero, List.set_cons_succ, i64_w, i32_w]
         rfl
        refine pure_ (i := 10) (N := some 31) (v := undef) (a' := ?_) #[true, true, true, true, true, true, true, true, true, true, true, false, false, false, false] rfl rfl (any_of HT_.out (by kernel_rfl)) (fun _ _ _ h => h) (Or.inr ⟨by rfl, rfl⟩) ?_ ?_
        rotate_left
        ·
         simp only [Act.put, List.setIfInBounds_toArray, List.set_cons_zero, List.set_cons_succ, i64_w, i32_w]
         rfl
        refine pure_ (i := 11) (N := some 32) (v := undef) (a' := ?_) #[true, true, true, true, true, true, true, true, true, true, true, true, false, false, false] rfl rfl (any_of HT_.out (by kernel_rfl)) (fun _ _ _ h => h) (Or.inr ⟨by rfl, rfl⟩) ?_ ?_
        rotate_left
        ·
         simp only [Act.put, List.setIfInBounds_toArray, List.set_cons_zero, List.set_cons_succ, i64_w, i32_w]
         rfl
        refine pure_ (i := 12) (N := some 33) (v := undef) (a' := ?_) #[true, true, true, true, true, true, true, true, true, true, true, true, true, false, false] rfl rfl (any_of HT_.out (by kernel_rfl)) (fun _ _ _ h => h) (Or.inr ⟨by rfl, rfl⟩) ?_ ?_
        rotate_left
        ·
         simp only [Act.put, List.setIfInBounds_toArray, List.set_cons_zero, List.set_cons_succ, i64_w, i32_w]
         rfl
        refine pure_ (i := 13) (N := some 34) (v := ?_) (a' := ?_) #[true, true, true, true, true, true, true, true, true, true, true, true, true, true, false] rfl rfl (any_of HT_.out (by kernel_rfl)) (fun _ _ _ h => h) (Or.inl ⟨by rfl, ?_⟩) ?_ ?_
        rotate_left
        ·
         intro w'
         go_simp
         with_reducible rfl
        rotate_left
        ·
         simp only [Act.put, List.setIfInBounds_toArray, List.set_cons_zero, List.set_cons_succ, i64_w, i32_w]
         rfl
        refine pure_ (i := 14) (N := some 4) (v := ?_) (a' := ?_) #[true, true, true, true, true, true, true, true, true, true, true, true, true, true, true] rfl rfl (any_of HT_.out (by kernel_rfl)) (fun _ _ _ h => h) (Or.inl ⟨by rfl, ?_⟩) ?_ ?_
        rotate_left
        ·
         intro w'
         go_simp
         with_reducible rfl
        rotate_left
        ·
         simp only [Act.put, List.setIfInBounds_toArray, List.set_cons_zero, List.set_cons_succ, i64_w, i32_w]
         rfl
        refine done_ (done_of HT_.out (by kernel_rfl)) ?_
        try go_wp2
        go_ret
        exact ⟨by first | rfl | (simp [errW_none, errW_some] <;> rfl) | (simp [*, errW_none, errW_some] <;> rfl) | (simp [bneNil]; done), by repeat (first | (with_reducible first | exact HB.out | apply below_alloc | apply pw_below_drewN | apply below_drew1 | refine below_set ?_ GE151.out | refine below_set ?_ GE152.out) | exact HB.out)⟩
       ·
        rw [if_neg c32] at H
        have c32b0 : (t157.toList == ([] : List UInt8)) = false := beq_eq_false_iff_ne.mpr c32
        have c32b1 : (t157.toList != ([] : List UInt8)) = true := bne_iff_ne.mpr c32
        replace H := Option.bind_eq_some_iff.mp H
        obtain ⟨t158, A350, H⟩ := H
        replace H : ((impl_RefText.f a1_0 a1_1 a1_2 a1_3).bind fun t159 => (some ((t158.toList == t159.toList) == (a0_0.toList == a1_0.toList && (a0_1.toList == a1_1.toList && (a0_2.toList == a1_2.toList && (a0_3.toList == a1_3.toList))))))) = some r := H
        have A35 := Aside0.mk A350
        clear A350
        replace H := Option.bind_eq_some_iff.mp H
        obtain ⟨t159, A360, H⟩ := H
        replace H : (some ((t158.toList == t159.toList) == (a0_0.toList == a1_0.toList && (a0_1.toList == a1_1.toList && (a0_2.toList == a1_2.toList && (a0_3.toList == a1_3.toList)))))) = some r := H
        have A36 := Aside0.mk A360
        clear A360
        obtain rfl := Option.some.inj H
        try go_wp2
        have n0_ := Aside0.mk (blk_drew BK151.out)
        have n1_ := Aside0.mk (blk_drew BK152.out)
        have n2_ := Aside0.mk (below_drew1 HB.out)
        clear BK151
        clear BK152
        clear HB
        have BK151 := n0_
        have BK152 := n1_
        have HB := n2_
        clear n0_ n1_ n2_
        refine start_ (n := 15) (S := fun w' => w'.cell? ⟨gb151, 0, none⟩ = some (.string a0_0) ∧ w'.cell? ⟨gb151, 1, none⟩ = some (.string a0_1) ∧ w'.cell? ⟨gb151, 2, none⟩ = some (.string a0_2) ∧ w'.cell? ⟨gb151, 3, none⟩ = some (.string a0_3) ∧ w'.cell? ⟨gb152, 0, none⟩ = some (.string a1_0) ∧ w'.cell? ⟨gb152, 1, none⟩ = some (.string a1_1) ∧ w'.cell? ⟨gb152, 2, none⟩ = some (.string a1_2) ∧ w'.cell? ⟨gb152, 3, none⟩ = some (.string a1_3)) (ds := []) #[false, false, false, false, false, false, false, false, false, false, false, false, false, false, false] (by kernel_rfl) rfl rfl ⟨(blk_cell BK151.out 0).trans rfl, (blk_cell BK151.out 1).trans rfl, (blk_cell BK151.out 2).trans rfl, (blk_cell BK151.out 3).trans rfl, (blk_cell BK152.out 0).trans rfl, (blk_cell BK152.out 1).trans rfl, (blk_cell BK152.out 2).trans rfl, (blk_cell BK152.out 3).trans rfl⟩ (fun hHeld => ?_); refine with_tabW laws_FnRefTextOne.tab5 laws_FnRefTextOne.bits5 (fun HT_ HW_ => ?_)
        generalize wc.drew = w37 at BK151 BK152 HB hHeld ⊢
        refine take_ (i := 0) (N := some 21) (v := ?_) (a' := ?_) #[true, false, false, false, false, false, false, false, false, false, false, false, false, false, false] rfl rfl (take_ofW HT_.out HW_.out (by kernel_rfl)) (fun _ _ _ h => h) (Or.inl ⟨by rfl, ?_⟩) hHeld ?_ ?_
        rotate_left
        ·
         rintro w' ⟨s0, s1, s2, s3, s4, s5, s6, s7⟩
         go_simp
         with_reducible rfl
        rotate_left
        ·
         simp only [Act.put, List.setIfInBounds_toArray, List.set_cons_zero, List.set_cons_succ, i64_w, i32_w]
         rfl
        refine one_ (i := 1) (N := some 22) #[true, true, false, false, false, false, false, false, false, false, false, false, false, false, false] rfl rfl (one_of HT_.out (by kernel_rfl)) (by decide) (fun K hK => ?_)
        refine goes_ Try.func6 (by kernel_rfl) rfl #[.agg #[.string a0_0, .string a0_1, .string a0_2, .string a0_3]] (by rfl) rfl rfl (by (try simp only [List.map_toArray, List.map_cons, List.map_nil]); first | done | rfl | (simp only [List.length_drop, List.length_take]; rfl)) ?_
        with_reducible refine (impl_RefText.calls a0_0 a0_1 a0_2 a0_3 t157 _ A31.out).mono ?_
        rintro e w38 ⟨rfl, hb⟩
        refine ⟨_, rfl, ?_⟩
        have n0_ := Aside0.mk (blk_below (g := gb151) (o := .cells #[.string a0_0, .string a0_1, .string a0_2, .string a0_3] 23 (0, 0)) (by (with_reducible repeat (first | refine blk_drewN ?_ _ | refine blk_drew ?_ | refine blk_alloc ?_ _)); exact BK151.out) hb)
        have n1_ := Aside0.mk (blk_below (g := gb152) (o := .cells #[.string a1_0, .string a1_1, .string a1_2, .string a1_3] 23 (0, 0)) (by (with_reducible repeat (first | refine blk_drewN ?_ _ | refine blk_drew ?_ | refine blk_alloc ?_ _)); exact BK152.out) hb)
        have n2_ := Aside0.mk (below_step (by repeat (first | (with_reducible first | exact HB.out | apply below_alloc | apply pw_below_drewN | apply below_drew1 | refine below_set ?_ GE151.out | refine below_set ?_ GE152.out) | exact HB.out)) hb)
        clear BK151
        clear BK152
        clear HB
        have BK151 := n0_
        have BK152 := n1_
        have HB := n2_
        clear n0_ n1_ n2_
        (try clear hb)
        (try clear hb2)
        (try clear hk)
        (try clear hi)
        refine hK.out _ _ ⟨(blk_cell BK151.out 0).trans rfl, (blk_cell BK151.out 1).trans rfl, (blk_cell BK151.out 2).trans rfl, (blk_cell BK151.out 3).trans rfl, (blk_cell BK152.out 0).trans rfl, (blk_cell BK152.out 1).trans rfl, (blk_cell BK152.out 2).trans rfl, (blk_cell BK152.out 3).trans rfl⟩ (fun hHeld => ?_)
        clear hK K
        refine norm_ (a' := ?_) ?_ ?_
        rotate_left
        ·
         show Act.put _ (some 22) _ = _
         simp only [Act.put, List.setIfInBounds_toArray, List.set_cons_zero, List.set_cons_succ, i64_w, i32_w]
         rfl
        refine pure_ (i := 2) (N := some 23) (v := ?_) (a' := ?_) #[true, true, true, false, false, false, false, false, false, false, false, false, false, false, false] rfl rfl (any_of HT_.out (by kernel_rfl)) (fun _ _ _ h => h) (Or.inl ⟨by rfl, ?_⟩) ?_ ?_
        rotate_left
        ·
         intro w'
         go_simp
         with_reducible rfl
        rotate_left
        ·
         simp only [Act.put, List.setIfInBounds_toArray, List.set_cons_zero, List.set_cons_succ, i64_w, i32_w]
         rfl
        refine pure_ (i := 3) (N := some 24) (v := ?_) (a' := ?_) #[true, true, true, true, false, false, false, false, false, false, false, false, false, false, false] rfl rfl (any_of HT_.out (by kernel_rfl)) (fun _ _ _ h => h) (Or.inl ⟨by rfl, ?_⟩) ?_ ?_
        rotate_left
        ·
         intro w'
         go_simp
         with_reducible rfl
        rotate_left
        ·
         simp only [Act.put, List.setIfInBounds_toArray, List.set_cons_zero, List.set_cons_succ, i64_w, i32_w]
         rfl
        refine take_ (i := 4) (N := some 25) (v := ?_) (a' := ?_) #[true, true, true, true, true, false, false, false, false, false, false, false, false, false, false] rfl rfl (take_ofW HT_.out HW_.out (by kernel_rfl)) (fun _ _ _ h => h) (Or.inl ⟨by rfl, ?_⟩) hHeld ?_ ?_
        rotate_left
        ·
         rintro w' ⟨s0, s1, s2, s3, s4, s5, s6, s7⟩
         go_simp
         with_reducible rfl
        rotate_left
        ·
         simp only [Act.put, List.setIfInBounds_toArray, List.set_cons_zero, List.set_cons_succ, i64_w, i32_w]
         rfl
        refine take_ (i := 6) (N := some 27) (v := ?_) (a' := ?_) #[true, true, true, true, true, false, true, false, false, false, false, false, false, false, false] rfl rfl (take_ofW HT_.out HW_.out (by kernel_rfl)) (fun _ _ _ h => h) (Or.inl ⟨by rfl, ?_⟩) hHeld ?_ ?_
        rotate_left
        ·
         rintro w' ⟨s0, s1, s2, s3, s4, s5, s6, s7⟩
         go_simp
         with_reducible rfl
        rotate_left
        ·
         simp only [Act.put, List.setIfInBounds_toArray, List.set_cons_zero, List.set_cons_succ, i64_w, i32_w]
         rfl
        refine take_ (i := 9) (N := some 30) (v := ?_) (a' := ?_) #[true, true, true, true, true, false, true, false, false, true, false, false, false, false, false] rfl rfl (take_ofW HT_.out HW_.out (by kernel_rfl)) (fun _ _ _ h => h) (Or.inl ⟨by rfl, ?_⟩) hHeld ?_ ?_
        rotate_left
        ·
         rintro w' ⟨s0, s1, s2, s3, s4, s5, s6, s7⟩
         go_simp
         with_reducible rfl
        rotate_left
        ·
         simp only [Act.put, List.setIfInBounds_toArray, List.set_cons_zero, List.set_cons_succ, i64_w, i32_w]
         rfl
        refine take_ (i := 10) (N := some 31) (v := ?_) (a' := ?_) #[true, true, true, true, true, false, true, false, false, true, true, false, false, false, false] rfl rfl (take_ofW HT_.out HW_.out (by kernel_rfl)) (fun _ _ _ h => h) (Or.inl ⟨by rfl, ?_⟩) hHeld ?_ ?_
        rotate_left
        ·
         rintro w' ⟨s0, s1, s2, s3, s4, s5, s6, s7⟩
         go_simp
         with_reducible rfl
        rotate_left
        ·
         simp only [Act.put, List.setIfInBounds_toArray, List.set_cons_zero, List.set_cons_succ, i64_w, i32_w]
         rfl
        refine pure_ (i := 11) (N := some 32) (v := ?_) (a' := ?_) #[true, true, true, true, true, false, true, false, false, true, true, true, false, false, false] rfl rfl (any_of HT_.out (by kernel_rfl)) (fun _ _ _ h => h) (Or.inl ⟨by rfl, ?_⟩) ?_ ?_
        rotate_left
        ·
         intro w'
         go_simp
         with_reducible rfl
        rotate_left
        ·
         simp only [Act.put, List.setIfInBounds_toArray, List.set_cons_zero, List.set_cons_succ, i64_w, i32_w]
         rfl
        refine one_ (i := 5) (N := some 26) #[true, true, true, true, true, true, true, false, false, true, true, true, false, false, false] rfl rfl (one_of HT_.out (by kernel_rfl)) (by decide) (fun K hK => ?_)
        refine goes_ Try.func6 (by kernel_rfl) rfl #[.agg #[.string a0_0, .string a0_1, .string a0_2, .string a0_3]] (by rfl) rfl rfl (by (try simp only [List.map_toArray, List.map_cons, List.map_nil]); first | done | rfl | (simp only [List.length_drop, List.length_take]; rfl)) ?_
        with_reducible refine (impl_RefText.calls a0_0 a0_1 a0_2 a0_3 t158 _ A35.out).mono ?_
        rintro e w39 ⟨rfl, hb⟩
        refine ⟨_, rfl, ?_⟩
        have n0_ := Aside0.mk (blk_below (g := gb151) (o := .cells #[.string a0_0, .string a0_1, .string a0_2, .string a0_3] 23 (0, 0)) (by (with_reducible repeat (first | refine blk_drewN ?_ _ | refine blk_drew ?_ | refine blk_alloc ?_ _)); exact BK151.out) hb)
        have n1_ := Aside0.mk (blk_below (g := gb152) (o := .cells #[.string a1_0, .string a1_1, .string a1_2, .string a1_3] 23 (0, 0)) (by (with_reducible repeat (first | refine blk_drewN ?_ _ | refine blk_drew ?_ | refine blk_alloc ?_ _)); exact BK152.out) hb)
        have n2_ := Aside0.mk (below_step (by repeat (first | (with_reducible first | exact HB.out | apply below_alloc | apply pw_below_drewN | apply below_drew1 | refine below_set ?_ GE151.out | refine below_set ?_ GE152.out) | exact HB.out)) hb)
        clear BK151
        clear BK152
        clear HB
        have BK151 := n0_
        have BK152 := n1_
        have HB := n2_
        clear n0_ n1_ n2_
        (try clear hb)
        (try clear hb2)
        (try clear hk)
        (try clear hi)
        refine hK.out _ _ ⟨(blk_cell BK151.out 0).trans rfl, (blk_cell BK151.out 1).trans rfl, (blk_cell BK151.out 2).trans rfl, (blk_cell BK151.out 3).trans rfl, (blk_cell BK152.out 0).trans rfl, (blk_cell BK152.out 1).trans rfl, (blk_cell BK152.out 2).trans rfl, (blk_cell BK152.out 3).trans rfl⟩ (fun hHeld => ?_)
        clear hK K
        refine norm_ (a' := ?_) ?_ ?_
        rotate_left
        ·
         show Act.put _ (some 26) _ = _
         simp only [Act.put, List.setIfInBounds_toArray, List.set_cons_zero, List.set_cons_succ, i64_w, i32_w]
         rfl
        refine one_ (i := 7) (N := some 28) #[true, true, true, true, true, true, true, true, false, true, true, true, false, false, false] rfl rfl (one_of HT_.out (by kernel_rfl)) (by decide) (fun K hK => ?_)
        refine goes_ Try.func6 (by kernel_rfl) rfl #[.agg #[.string a1_0, .string a1_1, .string a1_2, .string a1_3]] (by rfl) rfl rfl (by (try simp only [List.map_toArray, List.map_cons, List.map_nil]); first | done | rfl | (simp only [List.length_drop, List.length_take]; rfl)) ?_
        with_reducible refine (impl_RefText.calls a1_0 a1_1 a1_2 a1_3 t159 _ A36.out).mono ?_
        rintro e w40 ⟨rfl, hb⟩
        refine ⟨_, rfl, ?_⟩
        have n0_ := Aside0.mk (blk_below (g := gb151) (o := .cells #[.string a0_0, .string a0_1, .string a0_2, .string a0_3] 23 (0, 0)) (by (with_reducible repeat (first | refine blk_drewN ?_ _ | refine blk_drew ?_ | refine blk_alloc ?_ _)); exact BK151.out) hb)
        have n1_ := Aside0.mk (blk_below (g := gb152) (o := .cells #[.string a1_0, .string a1_1, .string a1_2, .string a1_3] 23 (0, 0)) (by (with_reducible repeat (first | refine blk_drewN ?_ _ | refine blk_drew ?_ | refine blk_alloc ?_ _)); exact BK152.out) hb)
        have n2_ := Aside0.mk (below_step (by repeat (first | (with_reducible first | exact HB.out | apply below_alloc | apply pw_below_drewN | apply below_drew1 | refine below_set ?_ GE151.out | refine below_set ?_ GE152.out) | exact HB.out)) hb)
        clear BK151
        clear BK152
        clear HB
        have BK151 := n0_
        have BK152 := n1_
        have HB := n2_
        clear n0_ n1_ n2_
        (try clear hb)
        (try clear hb2)
        (try clear hk)
        (try clear hi)
        refine hK.out _ _ ⟨(blk_cell BK151.out 0).trans rfl, (blk_cell BK151.out 1).trans rfl, (blk_cell BK151.out 2).trans rfl, (blk_cell BK151.out 3).trans rfl, (blk_cell BK152.out 0).trans rfl, (blk_cell BK152.out 1).trans rfl, (blk_cell BK152.out 2).trans rfl, (blk_cell BK152.out 3).trans rfl⟩ (fun hHeld => ?_)
        clear hK K
        refine norm_ (a' := ?_) ?_ ?_
        rotate_left
        ·
         show Act.put _ (some 28) _ = _
         simp only [Act.put, List.setIfInBounds_toArray, List.set_cons_zero, List.set_cons_succ, i64_w, i32_w]
         rfl
        refine pure_ (i := 8) (N := some 29) (v := ?_) (a' := ?_) #[true, true, true, true, true, true, true, true, true, true, true, true, false, false, false] rfl rfl (any_of HT_.out (by kernel_rfl)) (fun _ _ _ h => h) (Or.inl ⟨by rfl, ?_⟩) ?_ ?_
        rotate_left
        ·
         intro w'
         go_simp
         with_reducible rfl
        rotate_left
        ·
         simp only [Act.put, List.setIfInBounds_toArray, List.set_cons_zero, List.set_cons_succ, i64_w, i32_w]
         rfl
        refine pure_ (i := 12) (N := some 33) (v := ?_) (a' := ?_) #[true, true, true, true, true, true, true, true, true, true, true, true, true, false, false] rfl rfl (any_of HT_.out (by kernel_rfl)) (fun _ _ _ h => h) (Or.inl ⟨by rfl, ?_⟩) ?_ ?_
        rotate_left
        ·
         intro w'
         go_simp
         with_reducible rfl
        rotate_left
        ·
         simp only [Act.put, List.setIfInBounds_toArray, List.set_cons_zero, List.set_cons_succ, i64_w, i32_w]
         rfl
        refine pure_ (i := 13) (N := some 34) (v := ?_) (a' := ?_) #[true, true, true, true, true, true, true, true, true, true, true, true, true, true, false] rfl rfl (any_of HT_.out (by kernel_rfl)) (fun _ _ _ h => h) (Or.inl ⟨by rfl, ?_⟩) ?_ ?_
        rotate_left
        ·
         intro w'
         go_simp
         with_reducible rfl
        rotate_left
        ·
         simp only [Act.put, List.setIfInBounds_toArray, List.set_cons_zero, List.set_cons_succ, i64_w, i32_w]
         rfl
        refine pure_ (i := 14) (N := some 4) (v := ?_) (a' := ?_) #[true, true, true, true, true, true, true, true, true, true, true, true, true, true, true] rfl rfl (any_of HT_.out (by kernel_rfl)) (fun _ _ _ h => h) (Or.inl ⟨by rfl, ?_⟩) ?_ ?_
        rotate_left
        ·
         intro w'
         go_simp
         with_reducible rfl
        rotate_left
        ·
         simp only [Act.put, List.setIfInBounds_toArray, List.set_cons_zero, List.set_cons_succ, i64_w, i32_w]
         rfl
        refine done_ (done_of HT_.out (by kernel_rfl)) ?_
        try go_wp2
        go_ret
        exact ⟨by first | rfl | (simp [errW_none, errW_some] <;> rfl) | (simp [*, errW_none, errW_some] <;> rfl) | (simp [bneNil]; done), by repeat (first | (with_reducible first | exact HB.out | apply below_alloc | apply pw_below_drewN | apply below_drew1 | refine below_set ?_ GE151.out | refine below_set ?_ GE152.out) | exact HB.out)⟩

end Go.Proofs.Ytmlcpnehihmhaaa.PX
namespace Go.Proofs.Ytmlcpnehihmhaaa.Gr

open Go Go.RowKit Go.Lib Go.Proofs Go.Proofs.Ytmlcpnehihmhaaa Go.Proofs.Ytmlcpnehihmhaaa.L Go.Proofs.Ytmlcpnehihmhaaa.Bt Go.Proofs.Ytmlcpnehihmhaaa.PX

open Go.Proofs.YtmlcpnehihmhaaaW.PrintWords Go.Proofs.YtmlcpnehihmhaaaW.PrintLast Go.Proofs.YtmlcpnehihmhaaaW.PrintMore

theorem eq_bl {a b : ByteArray} (h : (a.toList == b.toList) = true) : a = b := by
  rw [beq_iff_eq, ByteArray.toList_eq, ByteArray.toList_eq] at h
  exact bl_inj h

theorem nameT_sz (d p : ByteArray) : (nameT d p).size ≤ d.size + 1 + p.size := by
  unfold nameT
  split
  · omega
  · rw [ByteArray.size_append, ByteArray.size_append]; show d.size + 1 + p.size ≤ _; omega

theorem textR_sz (d p t g : ByteArray) : (textR d p t g).size ≤ d.size + p.size + t.size + g.size + 3 := by
  have h := nameT_sz d p
  have e64 : (⟨#[64]⟩ : ByteArray).size = 1 := rfl
  have e58 : (⟨#[58]⟩ : ByteArray).size = 1 := rfl
  unfold textR
  repeat' split
  all_goals ((try simp only [ByteArray.size_append]); omega)

theorem textR_ne (d p t g : ByteArray) (h : ¬ p.toList = []) : ¬ (textR d p t g).toList = [] := by
  have hn := nameT_ne d p h
  have hp : 0 < (nameT d p).size := by
    rcases Nat.eq_zero_or_pos (nameT d p).size with q | q
    · exact absurd (by rw [ByteArray.toList_eq]; exact List.length_eq_zero_iff.1 q) hn
    · exact q
  intro q
  have q2 := congrArg List.length q
  rw [ByteArray.toList_eq] at q2
  have q3 : (textR d p t g).size = 0 := q2
  unfold textR at q3
  repeat' split at q3
  all_goals ((try simp only [ByteArray.size_append] at q3); omega)

structure Sz4 (a b c d : ByteArray) : Prop where
  a : a.size ≤ 2147483647
  b : b.size ≤ 2147483647
  c : c.size ≤ 2147483647
  d : d.size ≤ 2147483647

theorem fits_of (a b c d : ByteArray) : ∃ r, laws_zzFits7.f a b c d = some r ∧ (r = true → Sz4 a b c d) := by
  unfold laws_zzFits7.f
  by_cases h1 : (a.size : Int) > 2147483647
  · rw [if_pos h1]; exact ⟨_, rfl, fun q => by cases q⟩
  · rw [if_neg h1]
    by_cases h2 : (b.size : Int) > 2147483647
    · rw [if_pos h2]; exact ⟨_, rfl, fun q => by cases q⟩
    · rw [if_neg h2]
      by_cases h3 : (c.size : Int) > 2147483647
      · rw [if_pos h3]; exact ⟨_, rfl, fun q => by cases q⟩
      · rw [if_neg h3]
        by_cases h4 : (d.size : Int) > 2147483647
        · rw [if_pos h4]; exact ⟨_, rfl, fun q => by cases q⟩
        · rw [if_neg h4]; exact ⟨_, rfl, fun _ => ⟨by omega, by omega, by omega, by omega⟩⟩

theorem specText_f (d p t g : ByteArray) (h : Sz4 d p t g) : ∃ x, spec_RefText.f d p t g = some x ∧ x.size ≤ 8589934591 ∧ (¬ p.toList = [] → x = textR d p t g) := by
  have h1 := h.a; have h2 := h.b; have h3 := h.c; have h4 := h.d
  have hz := textR_sz d p t g
  have hn := nameT_sz d p
  have e64 : (⟨#[64]⟩ : ByteArray).size = 1 := rfl
  have e58 : (⟨#[58]⟩ : ByteArray).size = 1 := rfl
  unfold spec_RefText.f
  by_cases hp : p.toList = []
  · rw [if_pos hp]
    exact ⟨_, rfl, by omega, fun q => absurd hp q⟩
  · rw [if_neg hp]
    have hN : spec_RefName.f d p t g = some (nameT d p) := by
      unfold spec_RefName.f nameT
      by_cases hd : d.toList = []
      · rw [if_pos hd, if_pos hd]
      · rw [if_neg hd, if_neg hd, if_pos (by omega), if_pos (by rw [ByteArray.size_append]; show d.size + 1 + p.size ≤ _; omega)]
    rw [hN]
    simp only [Option.bind_some]
    refine ⟨textR d p t g, ?_, by omega, fun _ => rfl⟩
    unfold textR
    by_cases ht : t.toList = []
    · rw [if_pos ht, if_pos ht]
      by_cases hg : g.toList = []
      · rw [if_pos hg, if_pos hg]
      · rw [if_neg hg, if_neg hg, if_pos (by omega), if_pos (by rw [ByteArray.size_append]; omega), ByteArray.append_assoc]
    · rw [if_neg ht, if_neg ht, if_pos (by omega), if_pos (by rw [ByteArray.size_append]; omega)]
      by_cases hg : g.toList = []
      · rw [if_pos hg, if_pos hg, ByteArray.append_assoc]
      · rw [if_neg hg, if_neg hg, if_pos (by omega), if_pos (by rw [ByteArray.size_append, ByteArray.size_append, ByteArray.size_append]; omega)]
        simp only [ByteArray.append_assoc]

theorem good_f (d p t g : ByteArray) (h : Sz4 d p t g) (k : Nat) (hk : 17179869190 < k) : ∃ r, laws_refGood.f k d p t g = some r ∧ (r = true → ¬ p.toList = [] ∧ (d, p, t, g, 0) = okP (textR d p t g)) := by
  obtain ⟨x, hx, hs, he⟩ := specText_f d p t g h
  obtain ⟨r, hr, ho⟩ := parse_f x (by omega) k (by omega)
  unfold laws_refGood.f
  rw [hx]
  simp only [Option.bind_some]
  rw [hr]
  simp only [Option.bind_some]
  split
  · rename_i h0
    refine ⟨_, rfl, fun q => ?_⟩
    obtain ⟨hR, hne⟩ := ho h0
    rw [Bool.and_eq_true, Bool.and_eq_true, Bool.and_eq_true] at q
    have e1 := eq_bl q.1; have e2 := eq_bl q.2.1; have e3 := eq_bl q.2.2.1; have e4 := eq_bl q.2.2.2
    have hp : ¬ p.toList = [] := by rw [← e2, ByteArray.toList_eq]; exact hne
    refine ⟨hp, ?_⟩
    rw [← he hp, ← hR, ← e1, ← e2, ← e3, ← e4, ← h0]
  · exact ⟨_, rfl, fun q => by cases q⟩

theorem text_f (d p t g : ByteArray) (h : Sz4 d p t g) (hp : ¬ p.toList = []) : impl_RefText.f d p t g = some (textR d p t g) := by
  have h1 := h.a; have h2 := h.b; have h3 := h.c; have h4 := h.d
  unfold impl_RefText.f
  rw [if_pos ⟨⟨⟨by omega, by omega⟩, ⟨by omega, by omega⟩⟩, hp⟩]

end Go.Proofs.Ytmlcpnehihmhaaa.Gr

namespace Go.Proofs.Ytmlcpnehihmhaaa.PX

open Go Go.RowKit Go.Lib Go.Proofs Go.Proofs.Ytmlcpnehihmhaaa Go.Proofs.Ytmlcpnehihmhaaa.Gr

theorem pure_RefTextOne (a b c d x y z u : ByteArray) : ∃ k, laws_FnRefTextOne.f k a b c d x y z u = some true := by
  refine ⟨17179869200, ?_⟩
  obtain ⟨K, hK⟩ : ∃ K, K = 17179869198 := ⟨_, rfl⟩
  rw [show (17179869200 : Nat) = K + 1 + 1 by omega]
  have hk : 17179869190 < K := by omega
  clear hK
  have J1 : ∀ m, laws_FnRefTextOne.j1 (m + 1) true a b c d x y z u = some true := fun m => by simp only [laws_FnRefTextOne.j1]; rfl
  have J0 : ∀ m, laws_FnRefTextOne.j0 (m + 1) true a b c d x y z u = some true := fun m => by simp only [laws_FnRefTextOne.j0]; rfl
  unfold laws_FnRefTextOne.f
  obtain ⟨r1, h1, g1⟩ := fits_of a b c d
  obtain ⟨r2, h2, g2⟩ := fits_of x y z u
  rw [h1]
  simp only [Option.bind_some]
  cases r1 with
  | false => rw [if_neg (by simp), J0]
  | true =>
    rw [if_pos rfl, h2]
    simp only [Option.bind_some]
    cases r2 with
    | false => exact J0 _
    | true =>
      have s1 := g1 rfl
      have s2 := g2 rfl
      obtain ⟨q1, k1, f1⟩ := good_f a b c d s1 (K + 1) (by omega)
      obtain ⟨q2, k2, f2⟩ := good_f x y z u s2 (K + 1) (by omega)
      simp only [laws_FnRefTextOne.j0]
      rw [if_neg (by simp), k1]
      simp only [Option.bind_some]
      cases q1 with
      | false => rw [if_neg (by simp), J1]
      | true =>
        rw [if_pos rfl, k2]
        simp only [Option.bind_some]
        cases q2 with
        | false => exact J1 _
        | true =>
          obtain ⟨p1, o1⟩ := f1 rfl
          obtain ⟨p2, o2⟩ := f2 rfl
          simp only [laws_FnRefTextOne.j1]
          rw [if_neg (by simp), text_f a b c d s1 p1, text_f x y z u s2 p2]
          simp only [Option.bind_some]
          rw [if_neg (textR_ne a b c d p1)]
          congr 1
          cases e : ((textR a b c d).toList == (textR x y z u).toList) with
          | true =>
            have e' := eq_bl e
            rw [← e'] at o2
            have e2 := o1.trans o2.symm
            injection e2 with v1 e2
            injection e2 with v2 e2
            injection e2 with v3 e2
            injection e2 with v4 e2
            subst v1 v2 v3 v4
            simp
          | false =>
            rw [beq_eq_false_iff_ne] at e
            cases w : (a.toList == x.toList && (b.toList == y.toList && (c.toList == z.toList && (d.toList == u.toList)))) with
            | false => rfl
            | true =>
              rw [Bool.and_eq_true, Bool.and_eq_true, Bool.and_eq_true] at w
              exact absurd (by rw [eq_bl w.1, eq_bl w.2.1, eq_bl w.2.2.1, eq_bl w.2.2.2]) e

end Go.Proofs.Ytmlcpnehihmhaaa.PX
