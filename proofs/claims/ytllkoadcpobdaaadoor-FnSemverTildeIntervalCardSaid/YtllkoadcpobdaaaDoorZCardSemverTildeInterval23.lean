/- The row and the tied card of FnSemverTildeInterval, out of its printed walk and its plain law. For every input that the statement lets in. -/
import Derived.Test.YtllkoadcpobdaaaDoorZCardSemverTildeInterval6
import Derived.Test.YtllkoadcpobdaaaDoorZCardSemverTildeInterval8
import Derived.Test.YtllkoadcpobdaaaDoorZCardSemverTildeInterval9
import Derived.Test.YtllkoadcpobdaaaDoorZCardSemverTildeInterval19
import Derived.Test.YtllkoadcpobdaaaDoorZCardSemverTildeInterval21
namespace Go.Proofs.YtllkoadcpobdaaaDoor.PX

open Go.RowKit Go.Proofs.YtllkoadcpobdaaaDoorW.PrintWords Go.Proofs.YtllkoadcpobdaaaDoorW.PrintLast Go.Proofs.YtllkoadcpobdaaaDoorW.PrintMore

attribute [local go_sem] max2_int min2_int max_two min_two max_three min_three max_four min_four   -- for this text's walks alone

set_option linter.unusedVariables false

set_option linter.unusedSimpArgs false

mutual
def laws_FnSemverTildeInterval.j0 : Nat → Int → Bool → Int → Int → Int → ByteArray → ByteArray → Int → Int → Int → ByteArray → ByteArray → Option (Bool)
  | 0, _, _, _, _, _, _, _, _, _, _, _, _ => none
  | k + 1, x1, x18, x272000, x272001, x272002, x272003, x272004, x273000, x273001, x273002, x273003, x273004 => if x18 = true then (some true) else ((laws_stBare.f x272000 x272001 x272002 x272003 x272004 x273000 x273001 x273002 x273003 x273004 x1).bind fun bt275 => (if bt275.2.2.2.2.2.2.2.2.2.2 = true then (if x1 = 3 then ((laws_stZero.f bt275.1 bt275.2.1 bt275.2.2.1 bt275.2.2.2.1 bt275.2.2.2.2.1).bind fun t286 => (if t286 = true then (laws_FnSemverTildeInterval.j1 k x1 true bt275.1 bt275.2.1 bt275.2.2.1 bt275.2.2.2.1 bt275.2.2.2.2.1 bt275.2.2.2.2.2.1 bt275.2.2.2.2.2.2.1 bt275.2.2.2.2.2.2.2.1 bt275.2.2.2.2.2.2.2.2.1 bt275.2.2.2.2.2.2.2.2.2.1) else ((laws_scPlus.f bt275.1 bt275.2.1 bt275.2.2.1 bt275.2.2.2.1 bt275.2.2.2.2.1 (mn x1 2)).bind fun t287 => (laws_FnSemverTildeInterval.j1 k x1 (!t287) bt275.1 bt275.2.1 bt275.2.2.1 bt275.2.2.2.1 bt275.2.2.2.2.1 bt275.2.2.2.2.2.1 bt275.2.2.2.2.2.2.1 bt275.2.2.2.2.2.2.2.1 bt275.2.2.2.2.2.2.2.2.1 bt275.2.2.2.2.2.2.2.2.2.1)))) else ((laws_scPlus.f bt275.1 bt275.2.1 bt275.2.2.1 bt275.2.2.2.1 bt275.2.2.2.2.1 (mn x1 2)).bind fun t288 => (laws_FnSemverTildeInterval.j1 k x1 (!t288) bt275.1 bt275.2.1 bt275.2.2.1 bt275.2.2.2.1 bt275.2.2.2.2.1 bt275.2.2.2.2.2.1 bt275.2.2.2.2.2.2.1 bt275.2.2.2.2.2.2.2.1 bt275.2.2.2.2.2.2.2.2.1 bt275.2.2.2.2.2.2.2.2.2.1))) else (laws_FnSemverTildeInterval.j1 k x1 true bt275.1 bt275.2.1 bt275.2.2.1 bt275.2.2.2.1 bt275.2.2.2.2.1 bt275.2.2.2.2.2.1 bt275.2.2.2.2.2.2.1 bt275.2.2.2.2.2.2.2.1 bt275.2.2.2.2.2.2.2.2.1 bt275.2.2.2.2.2.2.2.2.2.1)))
def laws_FnSemverTildeInterval.j1 : Nat → Int → Bool → Int → Int → Int → ByteArray → ByteArray → Int → Int → Int → ByteArray → ByteArray → Option (Bool)
  | 0, _, _, _, _, _, _, _, _, _, _, _, _ => none
  | k + 1, x1, x43, x272000, x272001, x272002, x272003, x272004, x273000, x273001, x273002, x273003, x273004 => if x43 = true then (some true) else (if x1 > 1 then (laws_FnSemverTildeInterval.j2 k x1 x272000 x272001 x272002 x272003 x272004 x273000 x273001 x273002 x273003 x273004 x272000 (IntKind.u64.wrap (x272001 + 1)) 0 (⟨#[]⟩ : ByteArray) (⟨#[]⟩ : ByteArray)) else (laws_FnSemverTildeInterval.j2 k x1 x272000 x272001 x272002 x272003 x272004 x273000 x273001 x273002 x273003 x273004 (IntKind.u64.wrap (x272000 + 1)) 0 0 (⟨#[]⟩ : ByteArray) (⟨#[]⟩ : ByteArray)))
def laws_FnSemverTildeInterval.j2 : Nat → Int → Int → Int → Int → ByteArray → ByteArray → Int → Int → Int → ByteArray → ByteArray → Int → Int → Int → ByteArray → ByteArray → Option (Bool)
  | 0, _, _, _, _, _, _, _, _, _, _, _, _, _, _, _, _ => none
  | k + 1, x1, x272000, x272001, x272002, x272003, x272004, x273000, x273001, x273002, x273003, x273004, x290000, x290001, x290002, x290003, x290004 => (laws_scFirst.f x272000 x272001 x272002 x272003 x272004 x1).bind fun bt290 => ((impl_VersionGreaterEqual.f x273000 x273001 x273002 x273003 x273004 bt290.1 bt290.2.1 bt290.2.2.1 bt290.2.2.2.1 bt290.2.2.2.2).bind fun t296 => (if t296 = true then ((impl_VersionLess.f x273000 x273001 x273002 x273003 x273004 x290000 x290001 x290002 x290003 x290004).bind fun t297 => (laws_FnSemverTildeInterval.j3 k x1 t297 x272000 x272001 x272002 x272003 x272004 x273000 x273001 x273002 x273003 x273004 bt290.1 bt290.2.1 bt290.2.2.1 bt290.2.2.2.1 bt290.2.2.2.2)) else (laws_FnSemverTildeInterval.j3 k x1 false x272000 x272001 x272002 x272003 x272004 x273000 x273001 x273002 x273003 x273004 bt290.1 bt290.2.1 bt290.2.2.1 bt290.2.2.2.1 bt290.2.2.2.2)))
def laws_FnSemverTildeInterval.j3 : Nat → Int → Bool → Int → Int → Int → ByteArray → ByteArray → Int → Int → Int → ByteArray → ByteArray → Int → Int → Int → ByteArray → ByteArray → Option (Bool)
  | 0, _, _, _, _, _, _, _, _, _, _, _, _, _, _, _, _, _ => none
  | k + 1, x1, x10, x272000, x272001, x272002, x272003, x272004, x273000, x273001, x273002, x273003, x273004, x296000, x296001, x296002, x296003, x296004 => (laws_stTerm.f 0 x272000 x272001 x272002 x272003 x272004 x1).bind fun bt298 => ((impl_TildeHolds.f bt298.1 bt298.2.1 bt298.2.2.1 bt298.2.2.2.1 bt298.2.2.2.2.1 bt298.2.2.2.2.2 x273000 x273001 x273002 x273003 x273004 false).bind fun t304 => (if (t304 == x10) = true then ((laws_stTerm.f 0 x272000 x272001 x272002 x272003 x272004 x1).bind fun bt305 => ((impl_TildeHolds.f bt305.1 bt305.2.1 bt305.2.2.1 bt305.2.2.2.1 bt305.2.2.2.2.1 bt305.2.2.2.2.2 x296000 x296001 x296002 x296003 x296004 false).bind fun t311 => (some t311))) else (some false)))
end

def laws_FnSemverTildeInterval.f (k : Nat) (a0_0 : Int) (a0_1 : Int) (a0_2 : Int) (a0_3 : ByteArray) (a0_4 : ByteArray) (a1 : Int) (a2_0 : Int) (a2_1 : Int) (a2_2 : Int) (a2_3 : ByteArray) (a2_4 : ByteArray) : Option (Bool) := (laws_zzFits14.f a0_0 a0_1 a0_2 a0_3 a0_4).bind fun t273 => (if t273 = true then ((laws_zzFits14.f a2_0 a2_1 a2_2 a2_3 a2_4).bind fun t274 => (laws_FnSemverTildeInterval.j0 k a1 (!t274) a0_0 a0_1 a0_2 a0_3 a0_4 a2_0 a2_1 a2_2 a2_3 a2_4)) else (laws_FnSemverTildeInterval.j0 k a1 true a0_0 a0_1 a0_2 a0_3 a0_4 a2_0 a2_1 a2_2 a2_3 a2_4))

def laws_FnSemverTildeInterval.T11 : Bool × List (List Nat × List Nat) := (true, [([], []), ([], []), ([0, 1], [0, 1]), ([], []), ([2, 3, 2], [2, 3]), ([], []), ([4, 5], [4, 5]), ([6, 4], [6]), ([7], [7]), ([7], [7]), ([8, 9, 7, 7], [7, 8, 9]), ([7], [7]), ([10, 11, 10, 7], [7, 10, 11]), ([7, 12], [7, 12]), ([13, 12, 0, 1, 2, 3, 4, 5, 6, 7, 8, 9, 10, 11, 12, 13], [13])])

def laws_FnSemverTildeInterval.B11 : List Nat := [0, 0, 3, 0, 15, 0, 63, 127, 255, 255, 1023, 255, 4095, 8191, 16383]

theorem laws_FnSemverTildeInterval.tab11 : rtab .any (opsOf Tryd.f5 11) = laws_FnSemverTildeInterval.T11 := by kernel_rfl

theorem laws_FnSemverTildeInterval.bits11 : waitsOk laws_FnSemverTildeInterval.T11.2 laws_FnSemverTildeInterval.B11 = true := by kernel_rfl

set_option maxHeartbeats 80000000 in
set_option maxRecDepth 100000 in
theorem laws_FnSemverTildeInterval.calls (k : Nat) (a0_0 : Int) (a0_1 : Int) (a0_2 : Int) (a0_3 : ByteArray) (a0_4 : ByteArray) (a1 : Int) (a2_0 : Int) (a2_1 : Int) (a2_2 : Int) (a2_3 : ByteArray) (a2_4 : ByteArray) (r : Bool) (w : World) (hStd : Std w) (h : laws_FnSemverTildeInterval.f k a0_0 a0_1 a0_2 a0_3 a0_4 a1 a2_0 a2_1 a2_2 a2_3 a2_4 = some r) :
  Calls Tryd.prog 5 #[.agg #[.int .u64 a0_0, .int .u64 a0_1, .int .u64 a0_2, .string a0_3, .string a0_4], .int .i64 a1, .agg #[.int .u64 a2_0, .int .u64 a2_1, .int .u64 a2_2, .string a2_3, .string a2_4]] w fun e w' => e = .returned (.bool r) ∧ Below w.heap.size w w' := by
 have hu26 := Tryd.underlying26
 have HStd := Aside0.mk hStd
 clear hStd
 have HB := Aside0.mk (Below.refl w.heap.size w)
 have H : ((laws_zzFits14.f a0_0 a0_1 a0_2 a0_3 a0_4).bind fun t273 => (if t273 = true then ((laws_zzFits14.f a2_0 a2_1 a2_2 a2_3 a2_4).bind fun t274 => (laws_FnSemverTildeInterval.j0 k a1 (!t274) a0_0 a0_1 a0_2 a0_3 a0_4 a2_0 a2_1 a2_2 a2_3 a2_4)) else (laws_FnSemverTildeInterval.j0 k a1 true a0_0 a0_1 a0_2 a0_3 a0_4 a2_0 a2_1 a2_2 a2_3 a2_4))) = some r := h
 clear h
 have HC4 := Aside0.mk H
 clear H
 go_enter Tryd.func5, Tryd.ntmps5
 go_upto_region 1 with (first | ((with_reducible refine gate_dst (N := 3) rfl ?_); (try (refine gate_guard (by rfl) ?_; dsimp only)); refine box_event ?hg (N := 3) ?hd (cs := #[.int .u64 a0_0, .int .u64 a0_1, .int .u64 a0_2, .string a0_3, .string a0_4]) (t := 26) ?hr ?_; (case hd => rfl); (case hg => rfl); (case hr => first | (go_simp; done) | (go_simp; rfl) | (go_simp; simp [u8w]; done)); intro gb271 hg w5 hbox hb; have n0_ := Aside0.mk (below_step (by repeat (first | (with_reducible first | exact HB.out | apply below_alloc | apply pw_below_drewN | apply below_drew1) | exact HB.out)) hb); have n1_ := Aside0.mk (hbox); have n2_ := Aside0.mk ((by rw [hg]; exact (below_size (by repeat (first | (with_reducible first | exact HB.out | apply below_alloc | apply pw_below_drewN | apply below_drew1) | exact HB.out))) : w.heap.size ≤ gb271)); have n3_ := Aside0.mk ((by rw [hg]; exact (below_size (by repeat (first | (with_reducible first | exact HB.out | apply below_alloc | apply pw_below_drewN | apply below_drew1) | exact HB.out))) : w.heap.size ≤ gb271)); clear HB; have HB := n0_; have BK271 := n1_; have GW271 := n2_; have GE271 := n3_; clear n0_ n1_ n2_ n3_; clear hb hbox hg) | ((with_reducible refine gate_dst (N := 5) rfl ?_); (try (refine gate_guard (by rfl) ?_; dsimp only)); refine box_event ?hg (N := 5) ?hd (cs := #[.int .u64 a2_0, .int .u64 a2_1, .int .u64 a2_2, .string a2_3, .string a2_4]) (t := 26) ?hr ?_; (case hd => rfl); (case hg => rfl); (case hr => first | (go_simp; done) | (go_simp; rfl) | (go_simp; simp [u8w]; done)); intro gb272 hg w6 hbox hb; have n0_ := Aside0.mk (blk_below (g := gb271) (o := .cells #[.int .u64 a0_0, .int .u64 a0_1, .int .u64 a0_2, .string a0_3, .string a0_4] 26 (0, 0)) (by (with_reducible repeat (first | refine blk_drewN ?_ _ | refine blk_drew ?_ | refine blk_alloc ?_ _)); exact BK271.out) hb); have n1_ := Aside0.mk (below_step (by repeat (first | (with_reducible first | exact HB.out | apply below_alloc | apply pw_below_drewN | apply below_drew1 | refine below_set ?_ GE271.out) | exact HB.out)) hb); have n2_ := Aside0.mk (hbox); have n3_ := Aside0.mk ((by rw [hg]; exact (below_size (by repeat (first | (with_reducible first | exact HB.out | apply below_alloc | apply pw_below_drewN | apply below_drew1 | refine below_set ?_ GE271.out) | exact HB.out))) : w.heap.size ≤ gb272)); have n4_ := Aside0.mk ((by rw [hg]; exact (below_size (by repeat (first | (with_reducible first | exact HB.out | apply below_alloc | apply pw_below_drewN | apply below_drew1 | refine below_set ?_ GE271.out) | exact HB.out))) : w.heap.size ≤ gb272)); have n5_ := Aside0.mk ((by rw [hg]; exact Nat.ne_of_lt (blk_lt (g := gb271) (o := .cells #[.int .u64 a0_0, .int .u64 a0_1, .int .u64 a0_2, .string a0_3, .string a0_4] 26 (0, 0)) (by (with_reducible repeat (first | refine blk_drewN ?_ _ | refine blk_drew ?_ | refine blk_alloc ?_ _)); exact BK271.out)) : gb271 ≠ gb272)); have n6_ := Aside0.mk ((by rw [hg]; exact Nat.ne_of_gt (blk_lt (g := gb271) (o := .cells #[.int .u64 a0_0, .int .u64 a0_1, .int .u64 a0_2, .string a0_3, .string a0_4] 26 (0, 0)) (by (with_reducible repeat (first | refine blk_drewN ?_ _ | refine blk_drew ?_ | refine blk_alloc ?_ _)); exact BK271.out)) : gb272 ≠ gb271)); clear BK271; clear HB; have BK271 := n0_; have HB := n1_; have BK272 := n2_; have GW272 := n3_; have GE272 := n4_; have NB271_272 := n5_; have NB272_271 := n6_; clear n0_ n1_ n2_ n3_ n4_ n5_ n6_; clear hb hbox hg))
 (try simp only [Act.put, List.setIfInBounds_toArray, List.set_cons_zero, List.set_cons_succ])
 go_cut [18] (fun v18 wc => ∃ (kq : Nat) (x18_3 : Bool), v18 = .bool x18_3 ∧ Aside0 (laws_FnSemverTildeInterval.j0 kq a1 x18_3 a0_0 a0_1 a0_2 a0_3 a0_4 a2_0 a2_1 a2_2 a2_3 a2_4 = some r) ∧ Aside0 (kq ≤ k) ∧ Aside0 (wc.heap[gb271]? = some (.cells #[.int .u64 a0_0, .int .u64 a0_1, .int .u64 a0_2, .string a0_3, .string a0_4] 26 (0, 0))) ∧ Aside0 (wc.heap[gb272]? = some (.cells #[.int .u64 a2_0, .int .u64 a2_1, .int .u64 a2_2, .string a2_3, .string a2_4] 26 (0, 0))) ∧ Aside0 (Below w.heap.size w wc))
 case first =>
  have H := HC4.out
  clear HC4
  replace H := Option.bind_eq_some_iff.mp H
  obtain ⟨t273, A70, H⟩ := H
  replace H : (if t273 = true then ((laws_zzFits14.f a2_0 a2_1 a2_2 a2_3 a2_4).bind fun t274 => (laws_FnSemverTildeInterval.j0 k a1 (!t274) a0_0 a0_1 a0_2 a0_3 a0_4 a2_0 a2_1 a2_2 a2_3 a2_4)) else (laws_FnSemverTildeInterval.j0 k a1 true a0_0 a0_1 a0_2 a0_3 a0_4 a2_0 a2_1 a2_2 a2_3 a2_4)) = some r := H
  have A7 := Aside0.mk A70
  clear A70
  by_cases c8 : t273 = true
  ·
   subst c8
   have H1 : ((laws_zzFits14.f a2_0 a2_1 a2_2 a2_3 a2_4).bind fun t274 => (laws_FnSemverTildeInterval.j0 k a1 (!t274) a0_0 a0_1 a0_2 a0_3 a0_4 a2_0 a2_1 a2_2 a2_3 a2_4)) = some r := by rw [if_pos rfl] at H; exact H
   clear H
   have H := H1
   clear H1
   replace H := Option.bind_eq_some_iff.mp H
   obtain ⟨t274, A90, H⟩ := H
   replace H : (laws_FnSemverTildeInterval.j0 k a1 (!t274) a0_0 a0_1 a0_2 a0_3 a0_4 a2_0 a2_1 a2_2 a2_3 a2_4) = some r := H
   have A9 := Aside0.mk A90
   clear A90
   have H' := Aside0.mk H
   clear H
   have hnb10 := NB271_272.out
   have hnc10 := NB272_271.out
   have hcz11_0 : w6.cell? ⟨gb271, 0, none⟩ = some (.int .u64 a0_0) := (blk_cell BK271.out 0).trans rfl
   have hcz11_1 : w6.cell? ⟨gb271, 1, none⟩ = some (.int .u64 a0_1) := (blk_cell BK271.out 1).trans rfl
   have hcz11_2 : w6.cell? ⟨gb271, 2, none⟩ = some (.int .u64 a0_2) := (blk_cell BK271.out 2).trans rfl
   have hcz11_3 : w6.cell? ⟨gb271, 3, none⟩ = some (.string a0_3) := (blk_cell BK271.out 3).trans rfl
   have hcz11_4 : w6.cell? ⟨gb271, 4, none⟩ = some (.string a0_4) := (blk_cell BK271.out 4).trans rfl
   have hfz11_0 := blk_frozen BK271.out 0
   have hfz11_1 := blk_frozen BK271.out 1
   have hfz11_2 := blk_frozen BK271.out 2
   have hfz11_3 := blk_frozen BK271.out 3
   have hfz11_4 := blk_frozen BK271.out 4
   go_wp2_with (first | ((with_reducible refine gate_callee (f := 14) rfl ?_); refine goesL_ (some 12) rfl rfl Tryd.func14 (by kernel_rfl) rfl #[.agg #[.int .u64 a0_0, .int .u64 a0_1, .int .u64 a0_2, .string a0_3, .string a0_4]] rfl (by (try simp only [List.map_toArray, List.map_cons, List.map_nil]); first | done | rfl | (simp only [List.length_drop, List.length_take]; rfl)) ?_; (with_reducible refine (laws_zzFits14.calls a0_0 a0_1 a0_2 a0_3 a0_4 true _ A7.out).mono ?_); rintro e w12 ⟨rfl, hb⟩; refine ⟨_, rfl, ?_⟩; have n0_ := Aside0.mk (blk_below (g := gb271) (o := .cells #[.int .u64 a0_0, .int .u64 a0_1, .int .u64 a0_2, .string a0_3, .string a0_4] 26 (0, 0)) (by (with_reducible repeat (first | refine blk_drewN ?_ _ | refine blk_drew ?_ | refine blk_alloc ?_ _)); exact BK271.out) hb); have n1_ := Aside0.mk (blk_below (g := gb272) (o := .cells #[.int .u64 a2_0, .int .u64 a2_1, .int .u64 a2_2, .string a2_3, .string a2_4] 26 (0, 0)) (by (with_reducible repeat (first | refine blk_drewN ?_ _ | refine blk_drew ?_ | refine blk_alloc ?_ _)); exact BK272.out) hb); have n2_ := Aside0.mk (below_step (by repeat (first | (with_reducible first | exact HB.out | apply below_alloc | apply pw_below_drewN | apply below_drew1 | refine below_set ?_ GE271.out | refine below_set ?_ GE272.out) | exact HB.out)) hb); clear BK271; clear BK272; clear HB; have BK271 := n0_; have BK272 := n1_; have HB := n2_; clear n0_ n1_ n2_; (try clear hb); (try clear hb2); (try clear hk); (try clear hi); have hcz13_0 : w12.cell? ⟨gb272, 0, none⟩ = some (.int .u64 a2_0) := (blk_cell BK272.out 0).trans rfl; have hcz13_1 : w12.cell? ⟨gb272, 1, none⟩ = some (.int .u64 a2_1) := (blk_cell BK272.out 1).trans rfl; have hcz13_2 : w12.cell? ⟨gb272, 2, none⟩ = some (.int .u64 a2_2) := (blk_cell BK272.out 2).trans rfl; have hcz13_3 : w12.cell? ⟨gb272, 3, none⟩ = some (.string a2_3) := (blk_cell BK272.out 3).trans rfl; have hcz13_4 : w12.cell? ⟨gb272, 4, none⟩ = some (.string a2_4) := (blk_cell BK272.out 4).trans rfl; have hfz13_0 := blk_frozen BK272.out 0; have hfz13_1 := blk_frozen BK272.out 1; have hfz13_2 := blk_frozen BK272.out 2; have hfz13_3 := blk_frozen BK272.out 3; have hfz13_4 := blk_frozen BK272.out 4) | (go_at_call 14; (with_reducible refine (laws_zzFits14.calls a2_0 a2_1 a2_2 a2_3 a2_4 t274 _ A9.out).mono ?_); rintro e w14 ⟨rfl, hb⟩; have n0_ := Aside0.mk (blk_below (g := gb271) (o := .cells #[.int .u64 a0_0, .int .u64 a0_1, .int .u64 a0_2, .string a0_3, .string a0_4] 26 (0, 0)) (by (with_reducible repeat (first | refine blk_drewN ?_ _ | refine blk_drew ?_ | refine blk_alloc ?_ _)); exact BK271.out) hb); have n1_ := Aside0.mk (blk_below (g := gb272) (o := .cells #[.int .u64 a2_0, .int .u64 a2_1, .int .u64 a2_2, .string a2_3, .string a2_4] 26 (0, 0)) (by (with_reducible repeat (first | refine blk_drewN ?_ _ | refine blk_drew ?_ | refine blk_alloc ?_ _)); exact BK272.out) hb); have n2_ := Aside0.mk (below_step (by repeat (first | (with_reducible first | exact HB.out | apply below_alloc | apply pw_below_drewN | apply below_drew1 | refine below_set ?_ GE271.out | refine below_set ?_ GE272.out) | exact HB.out)) hb); clear BK271; clear BK272; clear HB; have BK271 := n0_; have BK272 := n1_; have HB := n2_; clear n0_ n1_ n2_; (try clear hb); (try clear hb2); (try clear hk); (try clear hi)))
   go_meet
   case rel => exact ⟨_, (!t274), (by first | rfl | (simp; done) | (simp [*]; done)), H', ⟨by first | omega | exact Nat.le_refl _⟩, ⟨by (with_reducible repeat (first | refine blk_drewN ?_ _ | refine blk_drew ?_ | refine blk_alloc ?_ _)); exact BK271.out⟩, ⟨by (with_reducible repeat (first | refine blk_drewN ?_ _ | refine blk_drew ?_ | refine blk_alloc ?_ _)); exact BK272.out⟩, ⟨by repeat (first | (with_reducible first | exact HB.out | apply below_alloc | apply pw_below_drewN | apply below_drew1 | refine below_set ?_ GE271.out | refine below_set ?_ GE272.out) | exact HB.out)⟩⟩
  ·
   replace c8 := Bool.eq_false_iff.mpr c8
   subst c8
   have H1 : (laws_FnSemverTildeInterval.j0 k a1 true a0_0 a0_1 a0_2 a0_3 a0_4 a2_0 a2_1 a2_2 a2_3 a2_4) = some r := by rw [if_neg (show ¬ (false = true) by decide)] at H; exact H
   clear H
   have H := H1
   clear H1
   have H' := Aside0.mk H
   clear H
   have hnb15 := NB271_272.out
   have hnc15 := NB272_271.out
   have hcz16_0 : w6.cell? ⟨gb271, 0, none⟩ = some (.int .u64 a0_0) := (blk_cell BK271.out 0).trans rfl
   have hcz16_1 : w6.cell? ⟨gb271, 1, none⟩ = some (.int .u64 a0_1) := (blk_cell BK271.out 1).trans rfl
   have hcz16_2 : w6.cell? ⟨gb271, 2, none⟩ = some (.int .u64 a0_2) := (blk_cell BK271.out 2).trans rfl
   have hcz16_3 : w6.cell? ⟨gb271, 3, none⟩ = some (.string a0_3) := (blk_cell BK271.out 3).trans rfl
   have hcz16_4 : w6.cell? ⟨gb271, 4, none⟩ = some (.string a0_4) := (blk_cell BK271.out 4).trans rfl
   have hfz16_0 := blk_frozen BK271.out 0
   have hfz16_1 := blk_frozen BK271.out 1
   have hfz16_2 := blk_frozen BK271.out 2
   have hfz16_3 := blk_frozen BK271.out 3
   have hfz16_4 := blk_frozen BK271.out 4
   go_wp2_with (first | ((with_reducible refine gate_callee (f := 14) rfl ?_); refine goesL_ (some 12) rfl rfl Tryd.func14 (by kernel_rfl) rfl #[.agg #[.int .u64 a0_0, .int .u64 a0_1, .int .u64 a0_2, .string a0_3, .string a0_4]] rfl (by (try simp only [List.map_toArray, List.map_cons, List.map_nil]); first | done | rfl | (simp only [List.length_drop, List.length_take]; rfl)) ?_; (with_reducible refine (laws_zzFits14.calls a0_0 a0_1 a0_2 a0_3 a0_4 false _ A7.out).mono ?_); rintro e w17 ⟨rfl, hb⟩; refine ⟨_, rfl, ?_⟩; have n0_ := Aside0.mk (blk_below (g := gb271) (o := .cells #[.int .u64 a0_0, .int .u64 a0_1, .int .u64 a0_2, .string a0_3, .string a0_4] 26 (0, 0)) (by (with_reducible repeat (first | refine blk_drewN ?_ _ | refine blk_drew ?_ | refine blk_alloc ?_ _)); exact BK271.out) hb); have n1_ := Aside0.mk (blk_below (g := gb272) (o := .cells #[.int .u64 a2_0, .int .u64 a2_1, .int .u64 a2_2, .string a2_3, .string a2_4] 26 (0, 0)) (by (with_reducible repeat (first | refine blk_drewN ?_ _ | refine blk_drew ?_ | refine blk_alloc ?_ _)); exact BK272.out) hb); have n2_ := Aside0.mk (below_step (by repeat (first | (with_reducible first | exact HB.out | apply below_alloc | apply pw_below_drewN | apply below_drew1 | refine below_set ?_ GE271.out | refine below_set ?_ GE272.out) | exact HB.out)) hb); clear BK271; clear BK272; clear HB; have BK271 := n0_; have BK272 := n1_; have HB := n2_; clear n0_ n1_ n2_; (try clear hb); (try clear hb2); (try clear hk); (try clear hi)))
   go_meet
   case rel => exact ⟨_, (true), (by first | rfl | (simp; done) | (simp [*]; done)), H', ⟨by first | omega | exact Nat.le_refl _⟩, ⟨by (with_reducible repeat (first | refine blk_drewN ?_ _ | refine blk_drew ?_ | refine blk_alloc ?_ _)); exact BK271.out⟩, ⟨by (with_reducible repeat (first | refine blk_drewN ?_ _ | refine blk_drew ?_ | refine blk_alloc ?_ _)); exact BK272.out⟩, ⟨by repeat (first | (with_reducible first | exact HB.out | apply below_alloc | apply pw_below_drewN | apply below_drew1 | refine below_set ?_ GE271.out | refine below_set ?_ GE272.out) | exact HB.out)⟩⟩
 case rest =>
  clear HC4
  try clear c1
  try clear p2
  try clear c5
  try clear c8
  try clear c10
  try clear c14
  try clear c15
  try clear hcz11_0
  try clear hcz11_1
  try clear hcz11_2
  try clear hcz11_3
  try clear hcz11_4
  try clear hcz13_0
  try clear hcz13_1
  try clear hcz13_2
  try clear hcz13_3
  try clear hcz13_4
  try clear hcz16_0
  try clear hcz16_1
  try clear hcz16_2
  try clear hcz16_3
  try clear hcz16_4
  try clear hfz11_0
  try clear hfz11_1
  try clear hfz11_2
  try clear hfz11_3
  try clear hfz11_4
  try clear hfz13_0
  try clear hfz13_1
  try clear hfz13_2
  try clear hfz13_3
  try clear hfz13_4
  try clear hfz16_0
  try clear hfz16_1
  try clear hfz16_2
  try clear hfz16_3
  try clear hfz16_4
  obtain ⟨kq, x18_3, rfl, HA, HJ3, BK271, BK272, HB⟩ := hcut
  cases kq with
  | zero => exact absurd HA.out (by simp [laws_FnSemverTildeInterval.j0])
  | succ kj3 =>
   have H := HA.out
   clear HA
   simp only [laws_FnSemverTildeInterval.j0] at H
   by_cases c18 : x18_3 = true
   ·
    subst c18
    have H1 : (some true) = some r := by rw [if_pos rfl] at H; exact H
    clear H
    have H := H1
    clear H1
    obtain rfl := Option.some.inj H
    go_wp2
    go_ret
    exact ⟨by first | rfl | (simp [errW_none, errW_some] <;> rfl) | (simp [*, errW_none, errW_some] <;> rfl) | (simp [bneNil]; done), by repeat (first | (with_reducible first | exact HB.out | apply below_alloc | apply pw_below_drewN | apply below_drew1 | refine below_set ?_ GE271.out | refine below_set ?_ GE272.out) | exact HB.out)⟩
   ·
    replace c18 := Bool.eq_false_iff.mpr c18
    subst c18
    have H1 : ((laws_stBare.f a0_0 a0_1 a0_2 a0_3 a0_4 a2_0 a2_1 a2_2 a2_3 a2_4 a1).bind fun bt275 => (if bt275.2.2.2.2.2.2.2.2.2.2 = true then (if a1 = 3 then ((laws_stZero.f bt275.1 bt275.2.1 bt275.2.2.1 bt275.2.2.2.1 bt275.2.2.2.2.1).bind fun t286 => (if t286 = true then (laws_FnSemverTildeInterval.j1 kj3 a1 true bt275.1 bt275.2.1 bt275.2.2.1 bt275.2.2.2.1 bt275.2.2.2.2.1 bt275.2.2.2.2.2.1 bt275.2.2.2.2.2.2.1 bt275.2.2.2.2.2.2.2.1 bt275.2.2.2.2.2.2.2.2.1 bt275.2.2.2.2.2.2.2.2.2.1) else ((laws_scPlus.f bt275.1 bt275.2.1 bt275.2.2.1 bt275.2.2.2.1 bt275.2.2.2.2.1 (mn a1 2)).bind fun t287 => (laws_FnSemverTildeInterval.j1 kj3 a1 (!t287) bt275.1 bt275.2.1 bt275.2.2.1 bt275.2.2.2.1 bt275.2.2.2.2.1 bt275.2.2.2.2.2.1 bt275.2.2.2.2.2.2.1 bt275.2.2.2.2.2.2.2.1 bt275.2.2.2.2.2.2.2.2.1 bt275.2.2.2.2.2.2.2.2.2.1)))) else ((laws_scPlus.f bt275.1 bt275.2.1 bt275.2.2.1 bt275.2.2.2.1 bt275.2.2.2.2.1 (mn a1 2)).bind fun t288 => (laws_FnSemverTildeInterval.j1 kj3 a1 (!t288) bt275.1 bt275.2.1 bt275.2.2.1 bt275.2.2.2.1 bt275.2.2.2.2.1 bt275.2.2.2.2.2.1 bt275.2.2.2.2.2.2.1 bt275.2.2.2.2.2.2.2.1 bt275.2.2.2.2.2.2.2.2.1 bt275.2.2.2.2.2.2.2.2.2.1))) else (laws_FnSemverTildeInterval.j1 kj3 a1 true bt275.1 bt275.2.1 bt275.2.2.1 bt275.2.2.2.1 bt275.2.2.2.2.1 bt275.2.2.2.2.2.1 bt275.2.2.2.2.2.2.1 bt275.2.2.2.2.2.2.2.1 bt275.2.2.2.2.2.2.2.2.1 bt275.2.2.2.2.2.2.2.2.2.1))) = some r := by rw [if_neg (show ¬ (false = true) by decide)] at H; exact H
    clear H
    have H := H1
    clear H1
    replace H := Option.bind_eq_some_iff.mp H
    obtain ⟨⟨t275, t276, t277, t278, t279, t280, t281, t282, t283, t284, t285⟩, A190, H⟩ := H
    replace H : (if t285 = true then (if a1 = 3 then ((laws_stZero.f t275 t276 t277 t278 t279).bind fun t286 => (if t286 = true then (laws_FnSemverTildeInterval.j1 kj3 a1 true t275 t276 t277 t278 t279 t280 t281 t282 t283 t284) else ((laws_scPlus.f t275 t276 t277 t278 t279 (mn a1 2)).bind fun t287 => (laws_FnSemverTildeInterval.j1 kj3 a1 (!t287) t275 t276 t277 t278 t279 t280 t281 t282 t283 t284)))) else ((laws_scPlus.f t275 t276 t277 t278 t279 (mn a1 2)).bind fun t288 => (laws_FnSemverTildeInterval.j1 kj3 a1 (!t288) t275 t276 t277 t278 t279 t280 t281 t282 t283 t284))) else (laws_FnSemverTildeInterval.j1 kj3 a1 true t275 t276 t277 t278 t279 t280 t281 t282 t283 t284)) = some r := H
    have A19 := Aside0.mk A190
    clear A190
    have HC20 := Aside0.mk H
    clear H
    have hnb21 := NB271_272.out
    have hnc21 := NB272_271.out
    have hcz22_0 : wc.cell? ⟨gb271, 0, none⟩ = some (.int .u64 a0_0) := (blk_cell BK271.out 0).trans rfl
    have hcz22_1 : wc.cell? ⟨gb271, 1, none⟩ = some (.int .u64 a0_1) := (blk_cell BK271.out 1).trans rfl
    have hcz22_2 : wc.cell? ⟨gb271, 2, none⟩ = some (.int .u64 a0_2) := (blk_cell BK271.out 2).trans rfl
    have hcz22_3 : wc.cell? ⟨gb271, 3, none⟩ = some (.string a0_3) := (blk_cell BK271.out 3).trans rfl
    have hcz22_4 : wc.cell? ⟨gb271, 4, none⟩ = some (.string a0_4) := (blk_cell BK271.out 4).trans rfl
    have hfz22_0 := blk_frozen BK271.out 0
    have hfz22_1 := blk_frozen BK271.out 1
    have hfz22_2 := blk_frozen BK271.out 2
    have hfz22_3 := blk_frozen BK271.out 3
    have hfz22_4 := blk_frozen BK271.out 4
    have hcz23_0 : wc.cell? ⟨gb272, 0, none⟩ = some (.int .u64 a2_0) := (blk_cell BK272.out 0).trans rfl
    have hcz23_1 : wc.cell? ⟨gb272, 1, none⟩ = some (.int .u64 a2_1) := (blk_cell BK272.out 1).trans rfl
    have hcz23_2 : wc.cell? ⟨gb272, 2, none⟩ = some (.int .u64 a2_2) := (blk_cell BK272.out 2).trans rfl
    have hcz23_3 : wc.cell? ⟨gb272, 3, none⟩ = some (.string a2_3) := (blk_cell BK272.out 3).trans rfl
    have hcz23_4 : wc.cell? ⟨gb272, 4, none⟩ = some (.string a2_4) := (blk_cell BK272.out 4).trans rfl
    have hfz23_0 := blk_frozen BK272.out 0
    have hfz23_1 := blk_frozen BK272.out 1
    have hfz23_2 := blk_frozen BK272.out 2
    have hfz23_3 := blk_frozen BK272.out 3
    have hfz23_4 := blk_frozen BK272.out 4
    go_upto_region 4 with (first | ((with_reducible refine gate_callee (f := 20) rfl ?_); refine goesL_ (some 23) rfl rfl Tryd.func20 (by kernel_rfl) rfl #[.agg #[.int .u64 a0_0, .int .u64 a0_1, .int .u64 a0_2, .string a0_3, .string a0_4], .agg #[.int .u64 a2_0, .int .u64 a2_1, .int .u64 a2_2, .string a2_3, .string a2_4], .int .i64 a1] rfl (by (try simp only [List.map_toArray, List.map_cons, List.map_nil]); first | done | rfl | (simp only [List.length_drop, List.length_take]; rfl)) ?_; (with_reducible refine (laws_stBare.calls a0_0 a0_1 a0_2 a0_3 a0_4 a2_0 a2_1 a2_2 a2_3 a2_4 a1 t275 t276 t277 t278 t279 t280 t281 t282 t283 t284 t285 _ A19.out).mono ?_); rintro e w24 ⟨rfl, hb⟩; refine ⟨_, rfl, ?_⟩; have n0_ := Aside0.mk (blk_below (g := gb271) (o := .cells #[.int .u64 a0_0, .int .u64 a0_1, .int .u64 a0_2, .string a0_3, .string a0_4] 26 (0, 0)) (by (with_reducible repeat (first | refine blk_drewN ?_ _ | refine blk_drew ?_ | refine blk_alloc ?_ _)); exact BK271.out) hb); have n1_ := Aside0.mk (blk_below (g := gb272) (o := .cells #[.int .u64 a2_0, .int .u64 a2_1, .int .u64 a2_2, .string a2_3, .string a2_4] 26 (0, 0)) (by (with_reducible repeat (first | refine blk_drewN ?_ _ | refine blk_drew ?_ | refine blk_alloc ?_ _)); exact BK272.out) hb); have n2_ := Aside0.mk (below_step (by repeat (first | (with_reducible first | exact HB.out | apply below_alloc | apply pw_below_drewN | apply below_drew1 | refine below_set ?_ GE271.out | refine below_set ?_ GE272.out) | exact HB.out)) hb); clear BK271; clear BK272; clear HB; have BK271 := n0_; have BK272 := n1_; have HB := n2_; clear n0_ n1_ n2_; (try clear hb); (try clear hb2); (try clear hk); (try clear hi); have hcz25_0 : w24.cell? ⟨gb271, 0, none⟩ = some (.int .u64 a0_0) := (blk_cell BK271.out 0).trans rfl; have hcz25_1 : w24.cell? ⟨gb271, 1, none⟩ = some (.int .u64 a0_1) := (blk_cell BK271.out 1).trans rfl; have hcz25_2 : w24.cell? ⟨gb271, 2, none⟩ = some (.int .u64 a0_2) := (blk_cell BK271.out 2).trans rfl; have hcz25_3 : w24.cell? ⟨gb271, 3, none⟩ = some (.string a0_3) := (blk_cell BK271.out 3).trans rfl; have hcz25_4 : w24.cell? ⟨gb271, 4, none⟩ = some (.string a0_4) := (blk_cell BK271.out 4).trans rfl; have hfz25_0 := blk_frozen BK271.out 0; have hfz25_1 := blk_frozen BK271.out 1; have hfz25_2 := blk_frozen BK271.out 2; have hfz25_3 := blk_frozen BK271.out 3; have hfz25_4 := blk_frozen BK271.out 4; have hcz26_0 : w24.cell? ⟨gb272, 0, none⟩ = some (.int .u64 a2_0) := (blk_cell BK272.out 0).trans rfl; have hcz26_1 : w24.cell? ⟨gb272, 1, none⟩ = some (.int .u64 a2_1) := (blk_cell BK272.out 1).trans rfl; have hcz26_2 : w24.cell? ⟨gb272, 2, none⟩ = some (.int .u64 a2_2) := (blk_cell BK272.out 2).trans rfl; have hcz26_3 : w24.cell? ⟨gb272, 3, none⟩ = some (.string a2_3) := (blk_cell BK272.out 3).trans rfl; have hcz26_4 : w24.cell? ⟨gb272, 4, none⟩ = some (.string a2_4) := (blk_cell BK272.out 4).trans rfl; have hfz26_0 := blk_frozen BK272.out 0; have hfz26_1 := blk_frozen BK272.out 1; have hfz26_2 := blk_frozen BK272.out 2; have hfz26_3 := blk_frozen BK272.out 3; have hfz26_4 := blk_frozen BK272.out 4))
    (try simp only [Act.put, List.setIfInBounds_toArray, List.set_cons_zero, List.set_cons_succ])
    go_cut [43] (fun v43 wc => ∃ (kq : Nat) (x43_19 : Bool), v43 = .bool x43_19 ∧ Aside0 (laws_FnSemverTildeInterval.j1 kq a1 x43_19 t275 t276 t277 t278 t279 t280 t281 t282 t283 t284 = some r) ∧ Aside0 (kq ≤ kj3) ∧ Aside0 (wc.heap[gb271]? = some (.cells #[.int .u64 t275, .int .u64 t276, .int .u64 t277, .string t278, .string t279] 26 (0, 0))) ∧ Aside0 (wc.heap[gb272]? = some (.cells #[.int .u64 t280, .int .u64 t281, .int .u64 t282, .string t283, .string t284] 26 (0, 0))) ∧ Aside0 (Below w.heap.size w wc))
    case first =>
     have H := HC20.out
     clear HC20
     by_cases c27 : t285 = true
     ·
      subst c27
      have H1 : (if a1 = 3 then ((laws_stZero.f t275 t276 t277 t278 t279).bind fun t286 => (if t286 = true then (laws_FnSemverTildeInterval.j1 kj3 a1 true t275 t276 t277 t278 t279 t280 t281 t282 t283 t284) else ((laws_scPlus.f t275 t276 t277 t278 t279 (mn a1 2)).bind fun t287 => (laws_FnSemverTildeInterval.j1 kj3 a1 (!t287) t275 t276 t277 t278 t279 t280 t281 t282 t283 t284)))) else ((laws_scPlus.f t275 t276 t277 t278 t279 (mn a1 2)).bind fun t288 => (laws_FnSemverTildeInterval.j1 kj3 a1 (!t288) t275 t276 t277 t278 t279 t280 t281 t282 t283 t284))) = some r := by rw [if_pos rfl] at H; exact H
      clear H
      have H := H1
      clear H1
      by_cases c28 : a1 = 3
      ·
       rw [if_pos c28] at H
       have c28b0 : (a1 == 3) = true := beq_iff_eq.mpr c28
       have c28b1 : (a1 != 3) = false := bne_eq_false_iff_eq.mpr c28
       clear c28
       (first | rw [c28b0] | (simp only [i64_w, i32_w]; rw [c28b0]) | skip)
       replace H := Option.bind_eq_some_iff.mp H
       obtain ⟨t286, A290, H⟩ := H
       replace H : (if t286 = true then (laws_FnSemverTildeInterval.j1 kj3 a1 true t275 t276 t277 t278 t279 t280 t281 t282 t283 t284) else ((laws_scPlus.f t275 t276 t277 t278 t279 (mn a1 2)).bind fun t287 => (laws_FnSemverTildeInterval.j1 kj3 a1 (!t287) t275 t276 t277 t278 t279 t280 t281 t282 t283 t284))) = some r := H
       have A29 := Aside0.mk A290
       clear A290
       by_cases c30 : t286 = true
       ·
        subst c30
        have H1 : (laws_FnSemverTildeInterval.j1 kj3 a1 true t275 t276 t277 t278 t279 t280 t281 t282 t283 t284) = some r := by rw [if_pos rfl] at H; exact H
        clear H
        have H := H1
        clear H1
        have H' := Aside0.mk H
        clear H
        have hnb31 := NB271_272.out
        have hnc31 := NB272_271.out
        have hcz32_0 : w24.cell? ⟨gb271, 0, none⟩ = some (.int .u64 a0_0) := (blk_cell BK271.out 0).trans rfl
        have hcz32_1 : w24.cell? ⟨gb271, 1, none⟩ = some (.int .u64 a0_1) := (blk_cell BK271.out 1).trans rfl
        have hcz32_2 : w24.cell? ⟨gb271, 2, none⟩ = some (.int .u64 a0_2) := (blk_cell BK271.out 2).trans rfl
        have hcz32_3 : w24.cell? ⟨gb271, 3, none⟩ = some (.string a0_3) := (blk_cell BK271.out 3).trans rfl
        have hcz32_4 : w24.cell? ⟨gb271, 4, none⟩ = some (.string a0_4) := (blk_cell BK271.out 4).trans rfl
        have hfz32_0 := blk_frozen BK271.out 0
        have hfz32_1 := blk_frozen BK271.out 1
        have hfz32_2 := blk_frozen BK271.out 2
        have hfz32_3 := blk_frozen BK271.out 3
        have hfz32_4 := blk_frozen BK271.out 4
        go_wp2_with (first | (go_at_call 21; (with_reducible refine (laws_stZero.calls t275 t276 t277 t278 t279 true _ A29.out).mono ?_); rintro e w33 ⟨rfl, hb⟩; have n0_ := Aside0.mk (blk_below (g := gb271) (o := .cells #[.int .u64 t275, .int .u64 t276, .int .u64 t277, .string t278, .string t279] 26 (0, 0)) (by (with_reducible repeat (first | refine blk_drewN ?_ _ | refine blk_drew ?_ | refine blk_alloc ?_ _)); refine blk_far ?_ NB271_272.out _; (with_reducible repeat (first | refine blk_drewN ?_ _ | refine blk_drew ?_ | refine blk_alloc ?_ _)); refine blk_far ?_ NB271_272.out _; (with_reducible repeat (first | refine blk_drewN ?_ _ | refine blk_drew ?_ | refine blk_alloc ?_ _)); refine blk_far ?_ NB271_272.out _; (with_reducible repeat (first | refine blk_drewN ?_ _ | refine blk_drew ?_ | refine blk_alloc ?_ _)); refine blk_far ?_ NB271_272.out _; (with_reducible repeat (first | refine blk_drewN ?_ _ | refine blk_drew ?_ | refine blk_alloc ?_ _)); refine blk_far ?_ NB271_272.out _; (with_reducible repeat (first | refine blk_drewN ?_ _ | refine blk_drew ?_ | refine blk_alloc ?_ _)); refine blk_put (cs := #[.int .u64 t275, .int .u64 t276, .int .u64 t277, .string t278, .string a0_4]) ?_ 4 _ rfl; (with_reducible repeat (first | refine blk_drewN ?_ _ | refine blk_drew ?_ | refine blk_alloc ?_ _)); refine blk_put (cs := #[.int .u64 t275, .int .u64 t276, .int .u64 t277, .string a0_3, .string a0_4]) ?_ 3 _ rfl; (with_reducible repeat (first | refine blk_drewN ?_ _ | refine blk_drew ?_ | refine blk_alloc ?_ _)); refine blk_put (cs := #[.int .u64 t275, .int .u64 t276, .int .u64 a0_2, .string a0_3, .string a0_4]) ?_ 2 _ rfl; (with_reducible repeat (first | refine blk_drewN ?_ _ | refine blk_drew ?_ | refine blk_alloc ?_ _)); refine blk_put (cs := #[.int .u64 t275, .int .u64 a0_1, .int .u64 a0_2, .string a0_3, .string a0_4]) ?_ 1 _ rfl; (with_reducible repeat (first | refine blk_drewN ?_ _ | refine blk_drew ?_ | refine blk_alloc ?_ _)); refine blk_put (cs := #[.int .u64 a0_0, .int .u64 a0_1, .int .u64 a0_2, .string a0_3, .string a0_4]) ?_ 0 _ rfl; (with_reducible repeat (first | refine blk_drewN ?_ _ | refine blk_drew ?_ | refine blk_alloc ?_ _)); exact BK271.out) hb); have n1_ := Aside0.mk (blk_below (g := gb272) (o := .cells #[.int .u64 t280, .int .u64 t281, .int .u64 t282, .string t283, .string t284] 26 (0, 0)) (by (with_reducible repeat (first | refine blk_drewN ?_ _ | refine blk_drew ?_ | refine blk_alloc ?_ _)); refine blk_put (cs := #[.int .u64 t280, .int .u64 t281, .int .u64 t282, .string t283, .string a2_4]) ?_ 4 _ rfl; (with_reducible repeat (first | refine blk_drewN ?_ _ | refine blk_drew ?_ | refine blk_alloc ?_ _)); refine blk_put (cs := #[.int .u64 t280, .int .u64 t281, .int .u64 t282, .string a2_3, .string a2_4]) ?_ 3 _ rfl; (with_reducible repeat (first | refine blk_drewN ?_ _ | refine blk_drew ?_ | refine blk_alloc ?_ _)); refine blk_put (cs := #[.int .u64 t280, .int .u64 t281, .int .u64 a2_2, .string a2_3, .string a2_4]) ?_ 2 _ rfl; (with_reducible repeat (first | refine blk_drewN ?_ _ | refine blk_drew ?_ | refine blk_alloc ?_ _)); refine blk_put (cs := #[.int .u64 t280, .int .u64 a2_1, .int .u64 a2_2, .string a2_3, .string a2_4]) ?_ 1 _ rfl; (with_reducible repeat (first | refine blk_drewN ?_ _ | refine blk_drew ?_ | refine blk_alloc ?_ _)); refine blk_put (cs := #[.int .u64 a2_0, .int .u64 a2_1, .int .u64 a2_2, .string a2_3, .string a2_4]) ?_ 0 _ rfl; (with_reducible repeat (first | refine blk_drewN ?_ _ | refine blk_drew ?_ | refine blk_alloc ?_ _)); refine blk_far ?_ NB272_271.out _; (with_reducible repeat (first | refine blk_drewN ?_ _ | refine blk_drew ?_ | refine blk_alloc ?_ _)); refine blk_far ?_ NB272_271.out _; (with_reducible repeat (first | refine blk_drewN ?_ _ | refine blk_drew ?_ | refine blk_alloc ?_ _)); refine blk_far ?_ NB272_271.out _; (with_reducible repeat (first | refine blk_drewN ?_ _ | refine blk_drew ?_ | refine blk_alloc ?_ _)); refine blk_far ?_ NB272_271.out _; (with_reducible repeat (first | refine blk_drewN ?_ _ | refine blk_drew ?_ | refine blk_alloc ?_ _)); refine blk_far ?_ NB272_271.out _; (with_reducible repeat (first | refine blk_drewN ?_ _ | refine blk_drew ?_ | refine blk_alloc ?_ _)); exact BK272.out) hb); have n2_ := Aside0.mk (below_step (by repeat (first | (with_reducible first | exact HB.out | apply below_alloc | apply pw_below_drewN | apply below_drew1 | refine below_set ?_ GE271.out | refine below_set ?_ GE272.out) | exact HB.out)) hb); clear BK271; clear BK272; clear HB; have BK271 := n0_; have BK272 := n1_; have HB := n2_; clear n0_ n1_ n2_; (try clear hb); (try clear hb2); (try clear hk); (try clear hi)))
        go_meet
        case rel => exact ⟨_, (true), (by first | rfl | (simp; done) | (simp [*]; done)), H', ⟨by have := HJ3.out; first | omega | exact Nat.le_refl _⟩, ⟨by (with_reducible repeat (first | refine blk_drewN ?_ _ | refine blk_drew ?_ | refine blk_alloc ?_ _)); exact BK271.out⟩, ⟨by (with_reducible repeat (first | refine blk_drewN ?_ _ | refine blk_drew ?_ | refine blk_alloc ?_ _)); exact BK272.out⟩, ⟨by repeat (first | (with_reducible first | exact HB.out | apply below_alloc | apply pw_below_drewN | apply below_drew1 | refine below_set ?_ GE271.out | refine below_set ?_ GE272.out) | exact HB.out)⟩⟩
       ·
        replace c30 := Bool.eq_false_iff.mpr c30
        subst c30
        have H1 : ((laws_scPlus.f t275 t276 t277 t278 t279 (mn a1 2)).bind fun t287 => (laws_FnSemverTildeInterval.j1 kj3 a1 (!t287) t275 t276 t277 t278 t279 t280 t281 t282 t283 t284)) = some r := by rw [if_neg (show ¬ (false = true) by decide)] at H; exact H
        clear H
        have H := H1
        clear H1
        obtain ⟨ji34, hji34⟩ : ∃ j_ : Int, (mn a1 2) = j_ := ⟨_, rfl⟩
        replace H : ((laws_scPlus.f t275 t276 t277 t278 t279 (ji34)).bind fun t287 => (laws_FnSemverTildeInterval.j1 kj3 a1 (!t287) t275 t276 t277 t278 t279 t280 t281 t282 t283 t284)) = some r := by first | (rw [hji34] at H; exact H) | (simp only [hji34] at H ⊢; exact H)
        (try rw [hji34] at A29)
        have hji34_ : (if 2 < a1 then 2 else a1) = ji34 := hji34
        replace H := Option.bind_eq_some_iff.mp H
        obtain ⟨t287, A350, H⟩ := H
        replace H : (laws_FnSemverTildeInterval.j1 kj3 a1 (!t287) t275 t276 t277 t278 t279 t280 t281 t282 t283 t284) = some r := H
        have A35 := Aside0.mk A350
        clear A350
        have H' := Aside0.mk H
        clear H
        have hnb36 := NB271_272.out
        have hnc36 := NB272_271.out
        have hcz37_0 : w24.cell? ⟨gb271, 0, none⟩ = some (.int .u64 a0_0) := (blk_cell BK271.out 0).trans rfl
        have hcz37_1 : w24.cell? ⟨gb271, 1, none⟩ = some (.int .u64 a0_1) := (blk_cell BK271.out 1).trans rfl
        have hcz37_2 : w24.cell? ⟨gb271, 2, none⟩ = some (.int .u64 a0_2) := (blk_cell BK271.out 2).trans rfl
        have hcz37_3 : w24.cell? ⟨gb271, 3, none⟩ = some (.string a0_3) := (blk_cell BK271.out 3).trans rfl
        have hcz37_4 : w24.cell? ⟨gb271, 4, none⟩ = some (.string a0_4) := (blk_cell BK271.out 4).trans rfl
        have hfz37_0 := blk_frozen BK271.out 0
        have hfz37_1 := blk_frozen BK271.out 1
        have hfz37_2 := blk_frozen BK271.out 2
        have hfz37_3 := blk_frozen BK271.out 3
        have hfz37_4 := blk_frozen BK271.out 4
        go_wp2_with (first | (go_at_call 21; (with_reducible refine (laws_stZero.calls t275 t276 t277 t278 t279 false _ A29.out).mono ?_); rintro e w38 ⟨rfl, hb⟩; have n0_ := Aside0.mk (blk_below (g := gb271) (o := .cells #[.int .u64 t275, .int .u64 t276, .int .u64 t277, .string t278, .string t279] 26 (0, 0)) (by (with_reducible repeat (first | refine blk_drewN ?_ _ | refine blk_drew ?_ | refine blk_alloc ?_ _)); refine blk_far ?_ NB271_272.out _; (with_reducible repeat (first | refine blk_drewN ?_ _ | refine blk_drew ?_ | refine blk_alloc ?_ _)); refine blk_far ?_ NB271_272.out _; (with_reducible repeat (first | refine blk_drewN ?_ _ | refine blk_drew ?_ | refine blk_alloc ?_ _)); refine blk_far ?_ NB271_272.out _; (with_reducible repeat (first | refine blk_drewN ?_ _ | refine blk_drew ?_ | refine blk_alloc ?_ _)); refine blk_far ?_ NB271_272.out _; (with_reducible repeat (first | refine blk_drewN ?_ _ | refine blk_drew ?_ | refine blk_alloc ?_ _)); refine blk_far ?_ NB271_272.out _; (with_reducible repeat (first | refine blk_drewN ?_ _ | refine blk_drew ?_ | refine blk_alloc ?_ _)); refine blk_put (cs := #[.int .u64 t275, .int .u64 t276, .int .u64 t277, .string t278, .string a0_4]) ?_ 4 _ rfl; (with_reducible repeat (first | refine blk_drewN ?_ _ | refine blk_drew ?_ | refine blk_alloc ?_ _)); refine blk_put (cs := #[.int .u64 t275, .int .u64 t276, .int .u64 t277, .string a0_3, .string a0_4]) ?_ 3 _ rfl; (with_reducible repeat (first | refine blk_drewN ?_ _ | refine blk_drew ?_ | refine blk_alloc ?_ _)); refine blk_put (cs := #[.int .u64 t275, .int .u64 t276, .int .u64 a0_2, .string a0_3, .string a0_4]) ?_ 2 _ rfl; (with_reducible repeat (first | refine blk_drewN ?_ _ | refine blk_drew ?_ | refine blk_alloc ?_ _)); refine blk_put (cs := #[.int .u64 t275, .int .u64 a0_1, .int .u64 a0_2, .string a0_3, .string a0_4]) ?_ 1 _ rfl; (with_reducible repeat (first | refine blk_drewN ?_ _ | refine blk_drew ?_ | refine blk_alloc ?_ _)); refine blk_put (cs := #[.int .u64 a0_0, .int .u64 a0_1, .int .u64 a0_2, .string a0_3, .string a0_4]) ?_ 0 _ rfl; (with_reducible repeat (first | refine blk_drewN ?_ _ | refine blk_drew ?_ | refine blk_alloc ?_ _)); exact BK271.out) hb); have n1_ := Aside0.mk (blk_below (g := gb272) (o := .cells #[.int .u64 t280, .int .u64 t281, .int .u64 t282, .string t283, .string t284] 26 (0, 0)) (by (with_reducible repeat (first | refine blk_drewN ?_ _ | refine blk_drew ?_ | refine blk_alloc ?_ _)); refine blk_put (cs := #[.int .u64 t280, .int .u64 t281, .int .u64 t282, .string t283, .string a2_4]) ?_ 4 _ rfl; (with_reducible repeat (first | refine blk_drewN ?_ _ | refine blk_drew ?_ | refine blk_alloc ?_ _)); refine blk_put (cs := #[.int .u64 t280, .int .u64 t281, .int .u64 t282, .string a2_3, .string a2_4]) ?_ 3 _ rfl; (with_reducible repeat (first | refine blk_drewN ?_ _ | refine blk_drew ?_ | refine blk_alloc ?_ _)); refine blk_put (cs := #[.int .u64 t280, .int .u64 t281, .int .u64 a2_2, .string a2_3, .string a2_4]) ?_ 2 _ rfl; (with_reducible repeat (first | refine blk_drewN ?_ _ | refine blk_drew ?_ | refine blk_alloc ?_ _)); refine blk_put (cs := #[.int .u64 t280, .int .u64 a2_1, .int .u64 a2_2, .string a2_3, .string a2_4]) ?_ 1 _ rfl; (with_reducible repeat (first | refine blk_drewN ?_ _ | refine blk_drew ?_ | refine blk_alloc ?_ _)); refine blk_put (cs := #[.int .u64 a2_0, .int .u64 a2_1, .int .u64 a2_2, .string a2_3, .string a2_4]) ?_ 0 _ rfl; (with_reducible repeat (first | refine blk_drewN ?_ _ | refine blk_drew ?_ | refine blk_alloc ?_ _)); refine blk_far ?_ NB272_271.out _; (with_reducible repeat (first | refine blk_drewN ?_ _ | refine blk_drew ?_ | refine blk_alloc ?_ _)); refine blk_far ?_ NB272_271.out _; (with_reducible repeat (first | refine blk_drewN ?_ _ | refine blk_drew ?_ | refine blk_alloc ?_ _)); refine blk_far ?_ NB272_271.out _; (with_reducible repeat (first | refine blk_drewN ?_ _ | refine blk_drew ?_ | refine blk_alloc ?_ _)); refine blk_far ?_ NB272_271.out _; (with_reducible repeat (first | refine blk_drewN ?_ _ | refine blk_drew ?_ | refine blk_alloc ?_ _)); refine blk_far ?_ NB272_271.out _; (with_reducible repeat (first | refine blk_drewN ?_ _ | refine blk_drew ?_ | refine blk_alloc ?_ _)); exact BK272.out) hb); have n2_ := Aside0.mk (below_step (by repeat (first | (with_reducible first | exact HB.out | apply below_alloc | apply pw_below_drewN | apply below_drew1 | refine below_set ?_ GE271.out | refine below_set ?_ GE272.out) | exact HB.out)) hb); clear BK271; clear BK272; clear HB; have BK271 := n0_; have BK272 := n1_; have HB := n2_; clear n0_ n1_ n2_; (try clear hb); (try clear hb2); (try clear hk); (try clear hi); have hcz39_0 : w38.cell? ⟨gb271, 0, none⟩ = some (.int .u64 t275) := (blk_cell BK271.out 0).trans rfl; have hcz39_1 : w38.cell? ⟨gb271, 1, none⟩ = some (.int .u64 t276) := (blk_cell BK271.out 1).trans rfl; have hcz39_2 : w38.cell? ⟨gb271, 2, none⟩ = some (.int .u64 t277) := (blk_cell BK271.out 2).trans rfl; have hcz39_3 : w38.cell? ⟨gb271, 3, none⟩ = some (.string t278) := (blk_cell BK271.out 3).trans rfl; have hcz39_4 : w38.cell? ⟨gb271, 4, none⟩ = some (.string t279) := (blk_cell BK271.out 4).trans rfl; have hfz39_0 := blk_frozen BK271.out 0; have hfz39_1 := blk_frozen BK271.out 1; have hfz39_2 := blk_frozen BK271.out 2; have hfz39_3 := blk_frozen BK271.out 3; have hfz39_4 := blk_frozen BK271.out 4) | (go_at_call 22; (with_reducible refine (laws_scPlus.calls t275 t276 t277 t278 t279 ji34 t287 _ A35.out).mono ?_); rintro e w40 ⟨rfl, hb⟩; have n0_ := Aside0.mk (blk_below (g := gb271) (o := .cells #[.int .u64 t275, .int .u64 t276, .int .u64 t277, .string t278, .string t279] 26 (0, 0)) (by (with_reducible repeat (first | refine blk_drewN ?_ _ | refine blk_drew ?_ | refine blk_alloc ?_ _)); exact BK271.out) hb); have n1_ := Aside0.mk (blk_below (g := gb272) (o := .cells #[.int .u64 t280, .int .u64 t281, .int .u64 t282, .string t283, .string t284] 26 (0, 0)) (by (with_reducible repeat (first | refine blk_drewN ?_ _ | refine blk_drew ?_ | refine blk_alloc ?_ _)); exact BK272.out) hb); have n2_ := Aside0.mk (below_step (by repeat (first | (with_reducible first | exact HB.out | apply below_alloc | apply pw_below_drewN | apply below_drew1 | refine below_set ?_ GE271.out | refine below_set ?_ GE272.out) | exact HB.out)) hb); clear BK271; clear BK272; clear HB; have BK271 := n0_; have BK272 := n1_; have HB := n2_; clear n0_ n1_ n2_; (try clear hb); (try clear hb2); (try clear hk); (try clear hi)))
        go_meet
        case rel => exact ⟨_, (!t287), (by first | rfl | (simp; done) | (simp [*]; done)), H', ⟨by have := HJ3.out; first | omega | exact Nat.le_refl _⟩, ⟨by (with_reducible repeat (first | refine blk_drewN ?_ _ | refine blk_drew ?_ | refine blk_alloc ?_ _)); exact BK271.out⟩, ⟨by (with_reducible repeat (first | refine blk_drewN ?_ _ | refine blk_drew ?_ | refine blk_alloc ?_ _)); exact BK272.out⟩, ⟨by repeat (first | (with_reducible first | exact HB.out | apply below_alloc | apply pw_below_drewN | apply below_drew1 | refine below_set ?_ GE271.out | refine below_set ?_ GE272.out) | exact HB.out)⟩⟩
      ·
       rw [if_neg c28] at H
       have c28b0 : (a1 == 3) = false := beq_eq_false_iff_ne.mpr c28
       have c28b1 : (a1 != 3) = true := bne_iff_ne.mpr c28
       (first | rw [c28b0] | (simp only [i64_w, i32_w]; rw [c28b0]) | skip)
       obtain ⟨ji41, hji41⟩ : ∃ j_ : Int, (mn a1 2) = j_ := ⟨_, rfl⟩
       replace H : ((laws_scPlus.f t275 t276 t277 t278 t279 (ji41)).bind fun t288 => (laws_FnSemverTildeInterval.j1 kj3 a1 (!t288) t275 t276 t277 t278 t279 t280 t281 t282 t283 t284)) = some r := by first | (rw [hji41] at H; exact H) | (simp only [hji41] at H ⊢; exact H)
       have hji41_ : (if 2 < a1 then 2 else a1) = ji41 := hji41
       replace H := Option.bind_eq_some_iff.mp H
       obtain ⟨t288, A420, H⟩ := H
       replace H : (laws_FnSemverTildeInterval.j1 kj3 a1 (!t288) t275 t276 t277 t278 t279 t280 t281 t282 t283 t284) = some r := H
       have A42 := Aside0.mk A420
       clear A420
       have H' := Aside0.mk H
       clear H
       have hnb43 := NB271_272.out
       have hnc43 := NB272_271.out
       have hcz44_0 : w24.cell? ⟨gb271, 0, none⟩ = some (.int .u64 a0_0) := (blk_cell BK271.out 0).trans rfl
       have hcz44_1 : w24.cell? ⟨gb271, 1, none⟩ = some (.int .u64 a0_1) := (blk_cell BK271.out 1).trans rfl
       have hcz44_2 : w24.cell? ⟨gb271, 2, none⟩ = some (.int .u64 a0_2) := (blk_cell BK271.out 2).trans rfl
       have hcz44_3 : w24.cell? ⟨gb271, 3, none⟩ = some (.string a0_3) := (blk_cell BK271.out 3).trans rfl
       have hcz44_4 : w24.cell? ⟨gb271, 4, none⟩ = some (.string a0_4) := (blk_cell BK271.out 4).trans rfl
       have hfz44_0 := blk_frozen BK271.out 0
       have hfz44_1 := blk_frozen BK271.out 1
       have hfz44_2 := blk_frozen BK271.out 2
       have hfz44_3 := blk_frozen BK271.out 3
       have hfz44_4 := blk_frozen BK271.out 4
       go_wp2_with (first | (go_at_call 22; (with_reducible refine (laws_scPlus.calls t275 t276 t277 t278 t279 ji41 t288 _ A42.out).mono ?_); rintro e w45 ⟨rfl, hb⟩; have n0_ := Aside0.mk (blk_below (g := gb271) (o := .cells #[.int .u64 t275, .int .u64 t276, .int .u64 t277, .string t278, .string t279] 26 (0, 0)) (by (with_reducible repeat (first | refine blk_drewN ?_ _ | refine blk_drew ?_ | refine blk_alloc ?_ _)); refine blk_far ?_ NB271_272.out _; (with_reducible repeat (first | refine blk_drewN ?_ _ | refine blk_drew ?_ | refine blk_alloc ?_ _)); refine blk_far ?_ NB271_272.out _; (with_reducible repeat (first | refine blk_drewN ?_ _ | refine blk_drew ?_ | refine blk_alloc ?_ _)); refine blk_far ?_ NB271_272.out _; (with_reducible repeat (first | refine blk_drewN ?_ _ | refine blk_drew ?_ | refine blk_alloc ?_ _)); refine blk_far ?_ NB271_272.out _; (with_reducible repeat (first | refine blk_drewN ?_ _ | refine blk_drew ?_ | refine blk_alloc ?_ _)); refine blk_far ?_ NB271_272.out _; (with_reducible repeat (first | refine blk_drewN ?_ _ | refine blk_drew ?_ | refine blk_alloc ?_ _)); refine blk_put (cs := #[.int .u64 t275, .int .u64 t276, .int .u64 t277, .string t278, .string a0_4]) ?_ 4 _ rfl; (with_reducible repeat (first | refine blk_drewN ?_ _ | refine blk_drew ?_ | refine blk_alloc ?_ _)); refine blk_put (cs := #[.int .u64 t275, .int .u64 t276, .int .u64 t277, .string a0_3, .string a0_4]) ?_ 3 _ rfl; (with_reducible repeat (first | refine blk_drewN ?_ _ | refine blk_drew ?_ | refine blk_alloc ?_ _)); refine blk_put (cs := #[.int .u64 t275, .int .u64 t276, .int .u64 a0_2, .string a0_3, .string a0_4]) ?_ 2 _ rfl; (with_reducible repeat (first | refine blk_drewN ?_ _ | refine blk_drew ?_ | refine blk_alloc ?_ _)); refine blk_put (cs := #[.int .u64 t275, .int .u64 a0_1, .int .u64 a0_2, .string a0_3, .string a0_4]) ?_ 1 _ rfl; (with_reducible repeat (first | refine blk_drewN ?_ _ | refine blk_drew ?_ | refine blk_alloc ?_ _)); refine blk_put (cs := #[.int .u64 a0_0, .int .u64 a0_1, .int .u64 a0_2, .string a0_3, .string a0_4]) ?_ 0 _ rfl; (with_reducible repeat (first | refine blk_drewN ?_ _ | refine blk_drew ?_ | refine blk_alloc ?_ _)); exact BK271.out) hb); have n1_ := Aside0.mk (blk_below (g := gb272) (o := .cells #[.int .u64 t280, .int .u64 t281, .int .u64 t282, .string t283, .string t284] 26 (0, 0)) (by (with_reducible repeat (first | refine blk_drewN ?_ _ | refine blk_drew ?_ | refine blk_alloc ?_ _)); refine blk_put (cs := #[.int .u64 t280, .int .u64 t281, .int .u64 t282, .string t283, .string a2_4]) ?_ 4 _ rfl; (with_reducible repeat (first | refine blk_drewN ?_ _ | refine blk_drew ?_ | refine blk_alloc ?_ _)); refine blk_put (cs := #[.int .u64 t280, .int .u64 t281, .int .u64 t282, .string a2_3, .string a2_4]) ?_ 3 _ rfl; (with_reducible repeat (first | refine blk_drewN ?_ _ | refine blk_drew ?_ | refine blk_alloc ?_ _)); refine blk_put (cs := #[.int .u64 t280, .int .u64 t281, .int .u64 a2_2, .string a2_3, .string a2_4]) ?_ 2 _ rfl; (with_reducible repeat (first | refine blk_drewN ?_ _ | refine blk_drew ?_ | refine blk_alloc ?_ _)); refine blk_put (cs := #[.int .u64 t280, .int .u64 a2_1, .int .u64 a2_2, .string a2_3, .string a2_4]) ?_ 1 _ rfl; (with_reducible repeat (first | refine blk_drewN ?_ _ | refine blk_drew ?_ | refine blk_alloc ?_ _)); refine blk_put (cs := #[.int .u64 a2_0, .int .u64 a2_1, .int .u64 a2_2, .string a2_3, .string a2_4]) ?_ 0 _ rfl; (with_reducible repeat (first | refine blk_drewN ?_ _ | refine blk_drew ?_ | refine blk_alloc ?_ _)); refine blk_far ?_ NB272_271.out _; (with_reducible repeat (first | refine blk_drewN ?_ _ | refine blk_drew ?_ | refine blk_alloc ?_ _)); refine blk_far ?_ NB272_271.out _; (with_reducible repeat (first | refine blk_drewN ?_ _ | refine blk_drew ?_ | refine blk_alloc ?_ _)); refine blk_far ?_ NB272_271.out _; (with_reducible repeat (first | refine blk_drewN ?_ _ | refine blk_drew ?_ | refine blk_alloc ?_ _)); refine blk_far ?_ NB272_271.out _; (with_reducible repeat (first | refine blk_drewN ?_ _ | refine blk_drew ?_ | refine blk_alloc ?_ _)); refine blk_far ?_ NB272_271.out _; (with_reducible repeat (first | refine blk_drewN ?_ _ | refine blk_drew ?_ | refine blk_alloc ?_ _)); exact BK272.out) hb); have n2_ := Aside0.mk (below_step (by repeat (first | (with_reducible first | exact HB.out | apply below_alloc | apply pw_below_drewN | apply below_drew1 | refine below_set ?_ GE271.out | refine below_set ?_ GE272.out) | exact HB.out)) hb); clear BK271; clear BK272; clear HB; have BK271 := n0_; have BK272 := n1_; have HB := n2_; clear n0_ n1_ n2_; (try clear hb); (try clear hb2); (try clear hk); (try clear hi)))
       go_meet
       case rel => exact ⟨_, (!t288), (by first | rfl | (simp; done) | (simp [*]; done)), H', ⟨by have := HJ3.out; first | omega | exact Nat.le_refl _⟩, ⟨by (with_reducible repeat (first | refine blk_drewN ?_ _ | refine blk_drew ?_ | refine blk_alloc ?_ _)); exact BK271.out⟩, ⟨by (with_reducible repeat (first | refine blk_drewN ?_ _ | refine blk_drew ?_ | refine blk_alloc ?_ _)); exact BK272.out⟩, ⟨by repeat (first | (with_reducible first | exact HB.out | apply below_alloc | apply pw_below_drewN | apply below_drew1 | refine below_set ?_ GE271.out | refine below_set ?_ GE272.out) | exact HB.out)⟩⟩
     ·
      replace c27 := Bool.eq_false_iff.mpr c27
      subst c27
      have H1 : (laws_FnSemverTildeInterval.j1 kj3 a1 true t275 t276 t277 t278 t279 t280 t281 t282 t283 t284) = some r := by rw [if_neg (show ¬ (false = true) by decide)] at H; exact H
      clear H
      have H := H1
      clear H1
      have H' := Aside0.mk H
      clear H
      go_wp2
      go_meet
      case rel => exact ⟨_, (true), (by first | rfl | (simp; done) | (simp [*]; done)), H', ⟨by have := HJ3.out; first | omega | exact Nat.le_refl _⟩, ⟨by (with_reducible repeat (first | refine blk_drewN ?_ _ | refine blk_drew ?_ | refine blk_alloc ?_ _)); refine blk_far ?_ NB271_272.out _; (with_reducible repeat (first | refine blk_drewN ?_ _ | refine blk_drew ?_ | refine blk_alloc ?_ _)); refine blk_far ?_ NB271_272.out _; (with_reducible repeat (first | refine blk_drewN ?_ _ | refine blk_drew ?_ | refine blk_alloc ?_ _)); refine blk_far ?_ NB271_272.out _; (with_reducible repeat (first | refine blk_drewN ?_ _ | refine blk_drew ?_ | refine blk_alloc ?_ _)); refine blk_far ?_ NB271_272.out _; (with_reducible repeat (first | refine blk_drewN ?_ _ | refine blk_drew ?_ | refine blk_alloc ?_ _)); refine blk_far ?_ NB271_272.out _; (with_reducible repeat (first | refine blk_drewN ?_ _ | refine blk_drew ?_ | refine blk_alloc ?_ _)); refine blk_put (cs := #[.int .u64 t275, .int .u64 t276, .int .u64 t277, .string t278, .string a0_4]) ?_ 4 _ rfl; (with_reducible repeat (first | refine blk_drewN ?_ _ | refine blk_drew ?_ | refine blk_alloc ?_ _)); refine blk_put (cs := #[.int .u64 t275, .int .u64 t276, .int .u64 t277, .string a0_3, .string a0_4]) ?_ 3 _ rfl; (with_reducible repeat (first | refine blk_drewN ?_ _ | refine blk_drew ?_ | refine blk_alloc ?_ _)); refine blk_put (cs := #[.int .u64 t275, .int .u64 t276, .int .u64 a0_2, .string a0_3, .string a0_4]) ?_ 2 _ rfl; (with_reducible repeat (first | refine blk_drewN ?_ _ | refine blk_drew ?_ | refine blk_alloc ?_ _)); refine blk_put (cs := #[.int .u64 t275, .int .u64 a0_1, .int .u64 a0_2, .string a0_3, .string a0_4]) ?_ 1 _ rfl; (with_reducible repeat (first | refine blk_drewN ?_ _ | refine blk_drew ?_ | refine blk_alloc ?_ _)); refine blk_put (cs := #[.int .u64 a0_0, .int .u64 a0_1, .int .u64 a0_2, .string a0_3, .string a0_4]) ?_ 0 _ rfl; (with_reducible repeat (first | refine blk_drewN ?_ _ | refine blk_drew ?_ | refine blk_alloc ?_ _)); exact BK271.out⟩, ⟨by (with_reducible repeat (first | refine blk_drewN ?_ _ | refine blk_drew ?_ | refine blk_alloc ?_ _)); refine blk_put (cs := #[.int .u64 t280, .int .u64 t281, .int .u64 t282, .string t283, .string a2_4]) ?_ 4 _ rfl; (with_reducible repeat (first | refine blk_drewN ?_ _ | refine blk_drew ?_ | refine blk_alloc ?_ _)); refine blk_put (cs := #[.int .u64 t280, .int .u64 t281, .int .u64 t282, .string a2_3, .string a2_4]) ?_ 3 _ rfl; (with_reducible repeat (first | refine blk_drewN ?_ _ | refine blk_drew ?_ | refine blk_alloc ?_ _)); refine blk_put (cs := #[.int .u64 t280, .int .u64 t281, .int .u64 a2_2, .string a2_3, .string a2_4]) ?_ 2 _ rfl; (with_reducible repeat (first | refine blk_drewN ?_ _ | refine blk_drew ?_ | refine blk_alloc ?_ _)); refine blk_put (cs := #[.int .u64 t280, .int .u64 a2_1, .int .u64 a2_2, .string a2_3, .string a2_4]) ?_ 1 _ rfl; (with_reducible repeat (first | refine blk_drewN ?_ _ | refine blk_drew ?_ | refine blk_alloc ?_ _)); refine blk_put (cs := #[.int .u64 a2_0, .int .u64 a2_1, .int .u64 a2_2, .string a2_3, .string a2_4]) ?_ 0 _ rfl; (with_reducible repeat (first | refine blk_drewN ?_ _ | refine blk_drew ?_ | refine blk_alloc ?_ _)); refine blk_far ?_ NB272_271.out _; (with_reducible repeat (first | refine blk_drewN ?_ _ | refine blk_drew ?_ | refine blk_alloc ?_ _)); refine blk_far ?_ NB272_271.out _; (with_reducible repeat (first | refine blk_drewN ?_ _ | refine blk_drew ?_ | refine blk_alloc ?_ _)); refine blk_far ?_ NB272_271.out _; (with_reducible repeat (first | refine blk_drewN ?_ _ | refine blk_drew ?_ | refine blk_alloc ?_ _)); refine blk_far ?_ NB272_271.out _; (with_reducible repeat (first | refine blk_drewN ?_ _ | refine blk_drew ?_ | refine blk_alloc ?_ _)); refine blk_far ?_ NB272_271.out _; (with_reducible repeat (first | refine blk_drewN ?_ _ | refine blk_drew ?_ | refine blk_alloc ?_ _)); exact BK272.out⟩, ⟨by repeat (first | (with_reducible first | exact HB.out | apply below_alloc | apply pw_below_drewN | apply below_drew1 | refine below_set ?_ GE271.out | refine below_set ?_ GE272.out) | exact HB.out)⟩⟩
    case rest =>
     clear HC20
     try clear c1
     try clear c2
     try clear p2
     try clear c3
     try clear c4
     try clear c5
     try clear c8
     try clear c10
     try clear c14
     try clear c15
     try clear c18
     try clear c20
     try clear c21
     try clear c27
     try clear c28
     try clear c28b0
     try clear c28b1
     try clear c30
     try clear c31
     try clear c36
     try clear c43
     try clear hcz11_0
     try clear hcz11_1
     try clear hcz11_2
     try clear hcz11_3
     try clear hcz11_4
     try clear hcz13_0
     try clear hcz13_1
     try clear hcz13_2
     try clear hcz13_3
     try clear hcz13_4
     try clear hcz16_0
     try clear hcz16_1
     try clear hcz16_2
     try clear hcz16_3
     try clear hcz16_4
     try clear hcz22_0
     try clear hcz22_1
     try clear hcz22_2
     try clear hcz22_3
     try clear hcz22_4
     try clear hcz23_0
     try clear hcz23_1
     try clear hcz23_2
     try clear hcz23_3
     try clear hcz23_4
     try clear hcz25_0
     try clear hcz25_1
     try clear hcz25_2
     try clear hcz25_3
     try clear hcz25_4
     try clear hcz26_0
     try clear hcz26_1
     try clear hcz26_2
     try clear hcz26_3
     try clear hcz26_4
     try clear hcz32_0
     try clear hcz32_1
     try clear hcz32_2
     try clear hcz32_3
     try clear hcz32_4
     try clear hcz37_0
     try clear hcz37_1
     try clear hcz37_2
     try clear hcz37_3
     try clear hcz37_4
     try clear hcz39_0
     try clear hcz39_1
     try clear hcz39_2
     try clear hcz39_3
     try clear hcz39_4
     try clear hcz44_0
     try clear hcz44_1
     try clear hcz44_2
     try clear hcz44_3
     try clear hcz44_4
     try clear hfz11_0
     try clear hfz11_1
     try clear hfz11_2
     try clear hfz11_3
     try clear hfz11_4
     try clear hfz13_0
     try clear hfz13_1
     try clear hfz13_2
     try clear hfz13_3
     try clear hfz13_4
     try clear hfz16_0
     try clear hfz16_1
     try clear hfz16_2
     try clear hfz16_3
     try clear hfz16_4
     try clear hfz22_0
     try clear hfz22_1
     try clear hfz22_2
     try clear hfz22_3
     try clear hfz22_4
     try clear hfz23_0
     try clear hfz23_1
     try clear hfz23_2
     try clear hfz23_3
     try clear hfz23_4
     try clear hfz25_0
     try clear hfz25_1
     try clear hfz25_2
     try clear hfz25_3
     try clear hfz25_4
     try clear hfz26_0
     try clear hfz26_1
     try clear hfz26_2
     try clear hfz26_3
     try clear hfz26_4
     try clear hfz32_0
     try clear hfz32_1
     try clear hfz32_2
     try clear hfz32_3
     try clear hfz32_4
     try clear hfz37_0
     try clear hfz37_1
     try clear hfz37_2
     try clear hfz37_3
     try clear hfz37_4
     try clear hfz39_0
     try clear hfz39_1
     try clear hfz39_2
     try clear hfz39_3
     try clear hfz39_4
     try clear hfz44_0
     try clear hfz44_1
     try clear hfz44_2
     try clear hfz44_3
     try clear hfz44_4
     try clear p2
     obtain ⟨kq, x43_19, rfl, HA, HJ19, BK271, BK272, HB⟩ := hcut
     cases kq with
     | zero => exact absurd HA.out (by simp [laws_FnSemverTildeInterval.j1])
     | succ kj19 =>
      have H := HA.out
      clear HA
      simp only [laws_FnSemverTildeInterval.j1] at H
      by_cases c46 : x43_19 = true
      ·
       subst c46
       have H1 : (some true) = some r := by rw [if_pos rfl] at H; exact H
       clear H
       have H := H1
       clear H1
       obtain rfl := Option.some.inj H
       go_wp2
       go_ret
       exact ⟨by first | rfl | (simp [errW_none, errW_some] <;> rfl) | (simp [*, errW_none, errW_some] <;> rfl) | (simp [bneNil]; done), by repeat (first | (with_reducible first | exact HB.out | apply below_alloc | apply pw_below_drewN | apply below_drew1 | refine below_set ?_ GE271.out | refine below_set ?_ GE272.out) | exact HB.out)⟩
      ·
       replace c46 := Bool.eq_false_iff.mpr c46
       subst c46
       have H1 : (if a1 > 1 then (laws_FnSemverTildeInterval.j2 kj19 a1 t275 t276 t277 t278 t279 t280 t281 t282 t283 t284 t275 (IntKind.u64.wrap (t276 + 1)) 0 (⟨#[]⟩ : ByteArray) (⟨#[]⟩ : ByteArray)) else (laws_FnSemverTildeInterval.j2 kj19 a1 t275 t276 t277 t278 t279 t280 t281 t282 t283 t284 (IntKind.u64.wrap (t275 + 1)) 0 0 (⟨#[]⟩ : ByteArray) (⟨#[]⟩ : ByteArray))) = some r := by rw [if_neg (show ¬ (false = true) by decide)] at H; exact H
       clear H
       have H := H1
       clear H1
       have HC47 := Aside0.mk H
       clear H
       have hnb48 := NB271_272.out
       have hnc48 := NB272_271.out
       have hcz49_0 : wc.cell? ⟨gb271, 0, none⟩ = some (.int .u64 t275) := (blk_cell BK271.out 0).trans rfl
       have hcz49_1 : wc.cell? ⟨gb271, 1, none⟩ = some (.int .u64 t276) := (blk_cell BK271.out 1).trans rfl
       have hcz49_2 : wc.cell? ⟨gb271, 2, none⟩ = some (.int .u64 t277) := (blk_cell BK271.out 2).trans rfl
       have hcz49_3 : wc.cell? ⟨gb271, 3, none⟩ = some (.string t278) := (blk_cell BK271.out 3).trans rfl
       have hcz49_4 : wc.cell? ⟨gb271, 4, none⟩ = some (.string t279) := (blk_cell BK271.out 4).trans rfl
       have hfz49_0 := blk_frozen BK271.out 0
       have hfz49_1 := blk_frozen BK271.out 1
       have hfz49_2 := blk_frozen BK271.out 2
       have hfz49_3 := blk_frozen BK271.out 3
       have hfz49_4 := blk_frozen BK271.out 4
       go_upto_if 49 with (first | ((with_reducible refine gate_dst (N := 8) rfl ?_); (try (refine gate_guard (by rfl) ?_; dsimp only)); refine box_event ?hg (N := 8) ?hd (cs := #[.int .u64 0, .int .u64 0, .int .u64 0, .string (⟨#[]⟩ : ByteArray), .string (⟨#[]⟩ : ByteArray)]) (t := 26) ?hr ?_; (case hd => rfl); (case hg => rfl); (case hr => first | (go_simp; done) | (go_simp; rfl) | (go_simp; simp [u8w]; done)); intro gb289 hg w50 hbox hb; have n0_ := Aside0.mk (blk_below (g := gb271) (o := .cells #[.int .u64 t275, .int .u64 t276, .int .u64 t277, .string t278, .string t279] 26 (0, 0)) (by (with_reducible repeat (first | refine blk_drewN ?_ _ | refine blk_drew ?_ | refine blk_alloc ?_ _)); exact BK271.out) hb); have n1_ := Aside0.mk (blk_below (g := gb272) (o := .cells #[.int .u64 t280, .int .u64 t281, .int .u64 t282, .string t283, .string t284] 26 (0, 0)) (by (with_reducible repeat (first | refine blk_drewN ?_ _ | refine blk_drew ?_ | refine blk_alloc ?_ _)); exact BK272.out) hb); have n2_ := Aside0.mk (below_step (by repeat (first | (with_reducible first | exact HB.out | apply below_alloc | apply pw_below_drewN | apply below_drew1 | refine below_set ?_ GE271.out | refine below_set ?_ GE272.out) | exact HB.out)) hb); have n3_ := Aside0.mk (hbox); have n4_ := Aside0.mk ((by rw [hg]; exact (below_size (by repeat (first | (with_reducible first | exact HB.out | apply below_alloc | apply pw_below_drewN | apply below_drew1 | refine below_set ?_ GE271.out | refine below_set ?_ GE272.out) | exact HB.out))) : w.heap.size ≤ gb289)); have n5_ := Aside0.mk ((by rw [hg]; exact (below_size (by repeat (first | (with_reducible first | exact HB.out | apply below_alloc | apply pw_below_drewN | apply below_drew1 | refine below_set ?_ GE271.out | refine below_set ?_ GE272.out) | exact HB.out))) : w.heap.size ≤ gb289)); have n6_ := Aside0.mk ((by rw [hg]; exact Nat.ne_of_lt (blk_lt (g := gb271) (o := .cells #[.int .u64 t275, .int .u64 t276, .int .u64 t277, .string t278, .string t279] 26 (0, 0)) (by (with_reducible repeat (first | refine blk_drewN ?_ _ | refine blk_drew ?_ | refine blk_alloc ?_ _)); exact BK271.out)) : gb271 ≠ gb289)); have n7_ := Aside0.mk ((by rw [hg]; exact Nat.ne_of_gt (blk_lt (g := gb271) (o := .cells #[.int .u64 t275, .int .u64 t276, .int .u64 t277, .string t278, .string t279] 26 (0, 0)) (by (with_reducible repeat (first | refine blk_drewN ?_ _ | refine blk_drew ?_ | refine blk_alloc ?_ _)); exact BK271.out)) : gb289 ≠ gb271)); have n8_ := Aside0.mk ((by rw [hg]; exact Nat.ne_of_lt (blk_lt (g := gb272) (o := .cells #[.int .u64 t280, .int .u64 t281, .int .u64 t282, .string t283, .string t284] 26 (0, 0)) (by (with_reducible repeat (first | refine blk_drewN ?_ _ | refine blk_drew ?_ | refine blk_alloc ?_ _)); exact BK272.out)) : gb272 ≠ gb289)); have n9_ := Aside0.mk ((by rw [hg]; exact Nat.ne_of_gt (blk_lt (g := gb272) (o := .cells #[.int .u64 t280, .int .u64 t281, .int .u64 t282, .string t283, .string t284] 26 (0, 0)) (by (with_reducible repeat (first | refine blk_drewN ?_ _ | refine blk_drew ?_ | refine blk_alloc ?_ _)); exact BK272.out)) : gb289 ≠ gb272)); clear BK271; clear BK272; clear HB; have BK271 := n0_; have BK272 := n1_; have HB := n2_; have BK289 := n3_; have GW289 := n4_; have GE289 := n5_; have NB271_289 := n6_; have NB289_271 := n7_; have NB272_289 := n8_; have NB289_272 := n9_; clear n0_ n1_ n2_ n3_ n4_ n5_ n6_ n7_ n8_ n9_; clear hb hbox hg; have hnb51 := NB289_271.out; have hnc51 := NB271_289.out; have hnb52 := NB289_272.out; have hnc52 := NB272_289.out; have hcz53_0 : w50.cell? ⟨gb289, 0, none⟩ = some (.int .u64 0) := (blk_cell BK289.out 0).trans rfl; have hcz53_1 : w50.cell? ⟨gb289, 1, none⟩ = some (.int .u64 0) := (blk_cell BK289.out 1).trans rfl; have hcz53_2 : w50.cell? ⟨gb289, 2, none⟩ = some (.int .u64 0) := (blk_cell BK289.out 2).trans rfl; have hcz53_3 : w50.cell? ⟨gb289, 3, none⟩ = some (.string (⟨#[]⟩ : ByteArray)) := (blk_cell BK289.out 3).trans rfl; have hcz53_4 : w50.cell? ⟨gb289, 4, none⟩ = some (.string (⟨#[]⟩ : ByteArray)) := (blk_cell BK289.out 4).trans rfl; have hfz53_0 := blk_frozen BK289.out 0; have hfz53_1 := blk_frozen BK289.out 1; have hfz53_2 := blk_frozen BK289.out 2; have hfz53_3 := blk_frozen BK289.out 3; have hfz53_4 := blk_frozen BK289.out 4))
       (try simp only [Act.put, List.setIfInBounds_toArray, List.set_cons_zero, List.set_cons_succ])
       go_cut [] (fun wc => ∃ (kq : Nat) (x290000_46 : Int) (x290001_46 : Int) (x290002_46 : Int) (x290003_46 : ByteArray) (x290004_46 : ByteArray), Aside0 (laws_FnSemverTildeInterval.j2 kq a1 t275 t276 t277 t278 t279 t280 t281 t282 t283 t284 x290000_46 x290001_46 x290002_46 x290003_46 x290004_46 = some r) ∧ Aside0 (kq ≤ kj19) ∧ Aside0 (wc.heap[gb271]? = some (.cells #[.int .u64 t275, .int .u64 t276, .int .u64 t277, .string t278, .string t279] 26 (0, 0))) ∧ Aside0 (wc.heap[gb272]? = some (.cells #[.int .u64 t280, .int .u64 t281, .int .u64 t282, .string t283, .string t284] 26 (0, 0))) ∧ Aside0 (wc.heap[gb289]? = some (.cells #[.int .u64 x290000_46, .int .u64 x290001_46, .int .u64 x290002_46, .string x290003_46, .string x290004_46] 26 (0, 0))) ∧ Aside0 (Below w.heap.size w wc))
       case first =>
        have H := HC47.out
        clear HC47
        by_cases c54 : a1 > 1
        ·
         rw [if_pos c54] at H
         have c54b0 : decide (1 < a1) = true := decide_eq_true c54
         clear c54
         (first | rw [c54b0] | (simp only [i64_w, i32_w]; rw [c54b0]) | skip)
         have H' := Aside0.mk H
         clear H
         have hnb55 := NB271_272.out
         have hnc55 := NB272_271.out
         have hnb56 := NB271_289.out
         have hnc56 := NB289_271.out
         have hcz57_0 : w50.cell? ⟨gb271, 0, none⟩ = some (.int .u64 t275) := (blk_cell BK271.out 0).trans rfl
         have hcz57_1 : w50.cell? ⟨gb271, 1, none⟩ = some (.int .u64 t276) := (blk_cell BK271.out 1).trans rfl
         have hcz57_2 : w50.cell? ⟨gb271, 2, none⟩ = some (.int .u64 t277) := (blk_cell BK271.out 2).trans rfl
         have hcz57_3 : w50.cell? ⟨gb271, 3, none⟩ = some (.string t278) := (blk_cell BK271.out 3).trans rfl
         have hcz57_4 : w50.cell? ⟨gb271, 4, none⟩ = some (.string t279) := (blk_cell BK271.out 4).trans rfl
         have hfz57_0 := blk_frozen BK271.out 0
         have hfz57_1 := blk_frozen BK271.out 1
         have hfz57_2 := blk_frozen BK271.out 2
         have hfz57_3 := blk_frozen BK271.out 3
         have hfz57_4 := blk_frozen BK271.out 4
         have hnb58 := NB289_272.out
         have hnc58 := NB272_289.out
         have hcz59_0 : w50.cell? ⟨gb289, 0, none⟩ = some (.int .u64 0) := (blk_cell BK289.out 0).trans rfl
         have hcz59_1 : w50.cell? ⟨gb289, 1, none⟩ = some (.int .u64 0) := (blk_cell BK289.out 1).trans rfl
         have hcz59_2 : w50.cell? ⟨gb289, 2, none⟩ = some (.int .u64 0) := (blk_cell BK289.out 2).trans rfl
         have hcz59_3 : w50.cell? ⟨gb289, 3, none⟩ = some (.string (⟨#[]⟩ : ByteArray)) := (blk_cell BK289.out 3).trans rfl
         have hcz59_4 : w50.cell? ⟨gb289, 4, none⟩ = some (.string (⟨#[]⟩ : ByteArray)) := (blk_cell BK289.out 4).trans rfl
         have hfz59_0 := blk_frozen BK289.out 0
         have hfz59_1 := blk_frozen BK289.out 1
         have hfz59_2 := blk_frozen BK289.out 2
         have hfz59_3 := blk_frozen BK289.out 3
         have hfz59_4 := blk_frozen BK289.out 4
         go_wp2
         go_meet
         case rel => exact ⟨_, (t275), (IntKind.u64.wrap (t276 + 1)), (0), ((⟨#[]⟩ : ByteArray)), ((⟨#[]⟩ : ByteArray)), H', ⟨by have := HJ3.out; have := HJ19.out; first | omega | exact Nat.le_refl _⟩, ⟨by (with_reducible repeat (first | refine blk_drewN ?_ _ | refine blk_drew ?_ | refine blk_alloc ?_ _)); refine blk_far ?_ NB271_289.out _; (with_reducible repeat (first | refine blk_drewN ?_ _ | refine blk_drew ?_ | refine blk_alloc ?_ _)); refine blk_far ?_ NB271_289.out _; (with_reducible repeat (first | refine blk_drewN ?_ _ | refine blk_drew ?_ | refine blk_alloc ?_ _)); refine blk_far ?_ NB271_289.out _; (with_reducible repeat (first | refine blk_drewN ?_ _ | refine blk_drew ?_ | refine blk_alloc ?_ _)); refine blk_far ?_ NB271_289.out _; (with_reducible repeat (first | refine blk_drewN ?_ _ | refine blk_drew ?_ | refine blk_alloc ?_ _)); refine blk_far ?_ NB271_289.out _; (with_reducible repeat (first | refine blk_drewN ?_ _ | refine blk_drew ?_ | refine blk_alloc ?_ _)); refine blk_far ?_ NB271_289.out _; (with_reducible repeat (first | refine blk_drewN ?_ _ | refine blk_drew ?_ | refine blk_alloc ?_ _)); refine blk_far ?_ NB271_289.out _; (with_reducible repeat (first | refine blk_drewN ?_ _ | refine blk_drew ?_ | refine blk_alloc ?_ _)); refine blk_far ?_ NB271_289.out _; (with_reducible repeat (first | refine blk_drewN ?_ _ | refine blk_drew ?_ | refine blk_alloc ?_ _)); refine blk_far ?_ NB271_289.out _; (with_reducible repeat (first | refine blk_drewN ?_ _ | refine blk_drew ?_ | refine blk_alloc ?_ _)); refine blk_far ?_ NB271_289.out _; (with_reducible repeat (first | refine blk_drewN ?_ _ | refine blk_drew ?_ | refine blk_alloc ?_ _)); exact BK271.out⟩, ⟨by (with_reducible repeat (first | refine blk_drewN ?_ _ | refine blk_drew ?_ | refine blk_alloc ?_ _)); refine blk_far ?_ NB272_289.out _; (with_reducible repeat (first | refine blk_drewN ?_ _ | refine blk_drew ?_ | refine blk_alloc ?_ _)); refine blk_far ?_ NB272_289.out _; (with_reducible repeat (first | refine blk_drewN ?_ _ | refine blk_drew ?_ | refine blk_alloc ?_ _)); refine blk_far ?_ NB272_289.out _; (with_reducible repeat (first | refine blk_drewN ?_ _ | refine blk_drew ?_ | refine blk_alloc ?_ _)); refine blk_far ?_ NB272_289.out _; (with_reducible repeat (first | refine blk_drewN ?_ _ | refine blk_drew ?_ | refine blk_alloc ?_ _)); refine blk_far ?_ NB272_289.out _; (with_reducible repeat (first | refine blk_drewN ?_ _ | refine blk_drew ?_ | refine blk_alloc ?_ _)); refine blk_far ?_ NB272_289.out _; (with_reducible repeat (first | refine blk_drewN ?_ _ | refine blk_drew ?_ | refine blk_alloc ?_ _)); refine blk_far ?_ NB272_289.out _; (with_reducible repeat (first | refine blk_drewN ?_ _ | refine blk_drew ?_ | refine blk_alloc ?_ _)); refine blk_far ?_ NB272_289.out _; (with_reducible repeat (first | refine blk_drewN ?_ _ | refine blk_drew ?_ | refine blk_alloc ?_ _)); refine blk_far ?_ NB272_289.out _; (with_reducible repeat (first | refine blk_drewN ?_ _ | refine blk_drew ?_ | refine blk_alloc ?_ _)); refine blk_far ?_ NB272_289.out _; (with_reducible repeat (first | refine blk_drewN ?_ _ | refine blk_drew ?_ | refine blk_alloc ?_ _)); exact BK272.out⟩, ⟨by (with_reducible repeat (first | refine blk_drewN ?_ _ | refine blk_drew ?_ | refine blk_alloc ?_ _)); refine blk_put (cs := #[.int .u64 t275, .int .u64 (IntKind.u64.wrap (t276 + 1)), .int .u64 0, .string (⟨#[]⟩ : ByteArray), .string (⟨#[]⟩ : ByteArray)]) ?_ 4 _ rfl; (with_reducible repeat (first | refine blk_drewN ?_ _ | refine blk_drew ?_ | refine blk_alloc ?_ _)); refine blk_put (cs := #[.int .u64 t275, .int .u64 (IntKind.u64.wrap (t276 + 1)), .int .u64 0, .string (⟨#[]⟩ : ByteArray), .string (⟨#[]⟩ : ByteArray)]) ?_ 3 _ rfl; (with_reducible repeat (first | refine blk_drewN ?_ _ | refine blk_drew ?_ | refine blk_alloc ?_ _)); refine blk_put (cs := #[.int .u64 t275, .int .u64 (IntKind.u64.wrap (t276 + 1)), .int .u64 0, .string (⟨#[]⟩ : ByteArray), .string (⟨#[]⟩ : ByteArray)]) ?_ 2 _ rfl; (with_reducible repeat (first | refine blk_drewN ?_ _ | refine blk_drew ?_ | refine blk_alloc ?_ _)); refine blk_put (cs := #[.int .u64 t275, .int .u64 0, .int .u64 0, .string (⟨#[]⟩ : ByteArray), .string (⟨#[]⟩ : ByteArray)]) ?_ 1 _ rfl; (with_reducible repeat (first | refine blk_drewN ?_ _ | refine blk_drew ?_ | refine blk_alloc ?_ _)); refine blk_put (cs := #[.int .u64 (IntKind.u64.wrap (t275 + 1)), .int .u64 0, .int .u64 0, .string (⟨#[]⟩ : ByteArray), .string (⟨#[]⟩ : ByteArray)]) ?_ 0 _ rfl; (with_reducible repeat (first | refine blk_drewN ?_ _ | refine blk_drew ?_ | refine blk_alloc ?_ _)); refine blk_put (cs := #[.int .u64 (IntKind.u64.wrap (t275 + 1)), .int .u64 0, .int .u64 0, .string (⟨#[]⟩ : ByteArray), .string (⟨#[]⟩ : ByteArray)]) ?_ 4 _ rfl; (with_reducible repeat (first | refine blk_drewN ?_ _ | refine blk_drew ?_ | refine blk_alloc ?_ _)); refine blk_put (cs := #[.int .u64 (IntKind.u64.wrap (t275 + 1)), .int .u64 0, .int .u64 0, .string (⟨#[]⟩ : ByteArray), .string (⟨#[]⟩ : ByteArray)]) ?_ 3 _ rfl; (with_reducible repeat (first | refine blk_drewN ?_ _ | refine blk_drew ?_ | refine blk_alloc ?_ _)); refine blk_put (cs := #[.int .u64 (IntKind.u64.wrap (t275 + 1)), .int .u64 0, .int .u64 0, .string (⟨#[]⟩ : ByteArray), .string (⟨#[]⟩ : ByteArray)]) ?_ 2 _ rfl; (with_reducible repeat (first | refine blk_drewN ?_ _ | refine blk_drew ?_ | refine blk_alloc ?_ _)); refine blk_put (cs := #[.int .u64 (IntKind.u64.wrap (t275 + 1)), .int .u64 0, .int .u64 0, .string (⟨#[]⟩ : ByteArray), .string (⟨#[]⟩ : ByteArray)]) ?_ 1 _ rfl; (with_reducible repeat (first | refine blk_drewN ?_ _ | refine blk_drew ?_ | refine blk_alloc ?_ _)); refine blk_put (cs := #[.int .u64 0, .int .u64 0, .int .u64 0, .string (⟨#[]⟩ : ByteArray), .string (⟨#[]⟩ : ByteArray)]) ?_ 0 _ rfl; (with_reducible repeat (first | refine blk_drewN ?_ _ | refine blk_drew ?_ | refine blk_alloc ?_ _)); exact BK289.out⟩, ⟨by repeat (first | (with_reducible first | exact HB.out | apply below_alloc | apply pw_below_drewN | apply below_drew1 | refine below_set ?_ GE271.out | refine below_set ?_ GE272.out | refine below_set ?_ GE289.out) | exact HB.out)⟩⟩
        ·
         rw [if_neg c54] at H
         have c54b0 : decide (1 < a1) = false := decide_eq_false c54
         clear c54
         (first | rw [c54b0] | (simp only [i64_w, i32_w]; rw [c54b0]) | skip)
         have H' := Aside0.mk H
         clear H
         go_wp2
         go_meet
         case rel => exact ⟨_, (IntKind.u64.wrap (t275 + 1)), (0), (0), ((⟨#[]⟩ : ByteArray)), ((⟨#[]⟩ : ByteArray)), H', ⟨by have := HJ3.out; have := HJ19.out; first | omega | exact Nat.le_refl _⟩, ⟨by (with_reducible repeat (first | refine blk_drewN ?_ _ | refine blk_drew ?_ | refine blk_alloc ?_ _)); refine blk_far ?_ NB271_289.out _; (with_reducible repeat (first | refine blk_drewN ?_ _ | refine blk_drew ?_ | refine blk_alloc ?_ _)); refine blk_far ?_ NB271_289.out _; (with_reducible repeat (first | refine blk_drewN ?_ _ | refine blk_drew ?_ | refine blk_alloc ?_ _)); refine blk_far ?_ NB271_289.out _; (with_reducible repeat (first | refine blk_drewN ?_ _ | refine blk_drew ?_ | refine blk_alloc ?_ _)); refine blk_far ?_ NB271_289.out _; (with_reducible repeat (first | refine blk_drewN ?_ _ | refine blk_drew ?_ | refine blk_alloc ?_ _)); refine blk_far ?_ NB271_289.out _; (with_reducible repeat (first | refine blk_drewN ?_ _ | refine blk_drew ?_ | refine blk_alloc ?_ _)); exact BK271.out⟩, ⟨by (with_reducible repeat (first | refine blk_drewN ?_ _ | refine blk_drew ?_ | refine blk_alloc ?_ _)); refine blk_far ?_ NB272_289.out _; (with_reducible repeat (first | refine blk_drewN ?_ _ | refine blk_drew ?_ | refine blk_alloc ?_ _)); refine blk_far ?_ NB272_289.out _; (with_reducible repeat (first | refine blk_drewN ?_ _ | refine blk_drew ?_ | refine blk_alloc ?_ _)); refine blk_far ?_ NB272_289.out _; (with_reducible repeat (first | refine blk_drewN ?_ _ | refine blk_drew ?_ | refine blk_alloc ?_ _)); refine blk_far ?_ NB272_289.out _; (with_reducible repeat (first | refine blk_drewN ?_ _ | refine blk_drew ?_ | refine blk_alloc ?_ _)); refine blk_far ?_ NB272_289.out _; (with_reducible repeat (first | refine blk_drewN ?_ _ | refine blk_drew ?_ | refine blk_alloc ?_ _)); exact BK272.out⟩, ⟨by (with_reducible repeat (first | refine blk_drewN ?_ _ | refine blk_drew ?_ | refine blk_alloc ?_ _)); refine blk_put (cs := #[.int .u64 (IntKind.u64.wrap (t275 + 1)), .int .u64 0, .int .u64 0, .string (⟨#[]⟩ : ByteArray), .string (⟨#[]⟩ : ByteArray)]) ?_ 4 _ rfl; (with_reducible repeat (first | refine blk_drewN ?_ _ | refine blk_drew ?_ | refine blk_alloc ?_ _)); refine blk_put (cs := #[.int .u64 (IntKind.u64.wrap (t275 + 1)), .int .u64 0, .int .u64 0, .string (⟨#[]⟩ : ByteArray), .string (⟨#[]⟩ : ByteArray)]) ?_ 3 _ rfl; (with_reducible repeat (first | refine blk_drewN ?_ _ | refine blk_drew ?_ | refine blk_alloc ?_ _)); refine blk_put (cs := #[.int .u64 (IntKind.u64.wrap (t275 + 1)), .int .u64 0, .int .u64 0, .string (⟨#[]⟩ : ByteArray), .string (⟨#[]⟩ : ByteArray)]) ?_ 2 _ rfl; (with_reducible repeat (first | refine blk_drewN ?_ _ | refine blk_drew ?_ | refine blk_alloc ?_ _)); refine blk_put (cs := #[.int .u64 (IntKind.u64.wrap (t275 + 1)), .int .u64 0, .int .u64 0, .string (⟨#[]⟩ : ByteArray), .string (⟨#[]⟩ : ByteArray)]) ?_ 1 _ rfl; (with_reducible repeat (first | refine blk_drewN ?_ _ | refine blk_drew ?_ | refine blk_alloc ?_ _)); refine blk_put (cs := #[.int .u64 0, .int .u64 0, .int .u64 0, .string (⟨#[]⟩ : ByteArray), .string (⟨#[]⟩ : ByteArray)]) ?_ 0 _ rfl; (with_reducible repeat (first | refine blk_drewN ?_ _ | refine blk_drew ?_ | refine blk_alloc ?_ _)); exact BK289.out⟩, ⟨by repeat (first | (with_reducible first | exact HB.out | apply below_alloc | apply pw_below_drewN | apply below_drew1 | refine below_set ?_ GE271.out | refine below_set ?_ GE272.out | refine below_set ?_ GE289.out) | exact HB.out)⟩⟩
       case rest =>
        clear HC47
        try clear c1
        try clear c2
        try clear p2
        try clear c3
        try clear c4
        try clear c5
        try clear c8
        try clear c10
        try clear c14
        try clear c15
        try clear c18
        try clear c20
        try clear c21
        try clear c27
        try clear c28
        try clear c28b0
        try clear c28b1
        try clear c30
        try clear c31
        try clear c36
        try clear c43
        try clear c46
        try clear c48
        try clear c51
        try clear c52
        try clear c54
        try clear c54b0
        try clear c55
        try clear c56
        try clear c58
        try clear hcz11_0
        try clear hcz11_1
        try clear hcz11_2
        try clear hcz11_3
        try clear hcz11_4
        try clear hcz13_0
        try clear hcz13_1
        try clear hcz13_2
        try clear hcz13_3
        try clear hcz13_4
        try clear hcz16_0
        try clear hcz16_1
        try clear hcz16_2
        try clear hcz16_3
        try clear hcz16_4
        try clear hcz22_0
        try clear hcz22_1
        try clear hcz22_2
        try clear hcz22_3
        try clear hcz22_4
        try clear hcz23_0
        try clear hcz23_1
        try clear hcz23_2
        try clear hcz23_3
        try clear hcz23_4
        try clear hcz25_0
        try clear hcz25_1
        try clear hcz25_2
        try clear hcz25_3
        try clear hcz25_4
        try clear hcz26_0
        try clear hcz26_1
        try clear hcz26_2
        try clear hcz26_3
        try clear hcz26_4
        try clear hcz32_0
        try clear hcz32_1
        try clear hcz32_2
        try clear hcz32_3
        try clear hcz32_4
        try clear hcz37_0
        try clear hcz37_1
        try clear hcz37_2
        try clear hcz37_3
        try clear hcz37_4
        try clear hcz39_0
        try clear hcz39_1
        try clear hcz39_2
        try clear hcz39_3
        try clear hcz39_4
        try clear hcz44_0
        try clear hcz44_1
        try clear hcz44_2
        try clear hcz44_3
        try clear hcz44_4
        try clear hcz49_0
        try clear hcz49_1
        try clear hcz49_2
        try clear hcz49_3
        try clear hcz49_4
        try clear hcz53_0
        try clear hcz53_1
        try clear hcz53_2
        try clear hcz53_3
        try clear hcz53_4
        try clear hcz57_0
        try clear hcz57_1
        try clear hcz57_2
        try clear hcz57_3
        try clear hcz57_4
        try clear hcz59_0
        try clear hcz59_1
        try clear hcz59_2
        try clear hcz59_3
        try clear hcz59_4
        try clear hfz11_0
        try clear hfz11_1
        try clear hfz11_2
        try clear hfz11_3
        try clear hfz11_4
        try clear hfz13_0
        try clear hfz13_1
        try clear hfz13_2
        try clear hfz13_3
        try clear hfz13_4
        try clear hfz16_0
        try clear hfz16_1
        try clear hfz16_2
        try clear hfz16_3
        try clear hfz16_4
        try clear hfz22_0
        try clear hfz22_1
        try clear hfz22_2
        try clear hfz22_3
        try clear hfz22_4
        try clear hfz23_0
        try clear hfz23_1
        try clear hfz23_2
        try clear hfz23_3
        try clear hfz23_4
        try clear hfz25_0
        try clear hfz25_1
        try clear hfz25_2
        try clear hfz25_3
        try clear hfz25_4
        try clear hfz26_0
        try clear hfz26_1
        try clear hfz26_2
        try clear hfz26_3
        try clear hfz26_4
        try clear hfz32_0
        try clear hfz32_1
        try clear hfz32_2
        try clear hfz32_3
        try clear hfz32_4
        try clear hfz37_0
        try clear hfz37_1
        try clear hfz37_2
        try clear hfz37_3
        try clear hfz37_4
        try clear hfz39_0
        try clear hfz39_1
        try clear hfz39_2
        try clear hfz39_3
        try clear hfz39_4
        try clear hfz44_0
        try clear hfz44_1
        try clear hfz44_2
        try clear hfz44_3
        try clear hfz44_4
        try clear hfz49_0
        try clear hfz49_1
        try clear hfz49_2
        try clear hfz49_3
        try clear hfz49_4
        try clear hfz53_0
        try clear hfz53_1
        try clear hfz53_2
        try clear hfz53_3
        try clear hfz53_4
        try clear hfz57_0
        try clear hfz57_1
        try clear hfz57_2
        try clear hfz57_3
        try clear hfz57_4
        try clear hfz59_0
        try clear hfz59_1
        try clear hfz59_2
        try clear hfz59_3
        try clear hfz59_4
        try clear p2
        obtain ⟨kq, x290000_46, x290001_46, x290002_46, x290003_46, x290004_46, HA, HJ46, BK271, BK272, BK289, HB⟩ := hcut
        cases kq with
        | zero => exact absurd HA.out (by simp [laws_FnSemverTildeInterval.j2])
        | succ kj46 =>
         have H := HA.out
         clear HA
         simp only [laws_FnSemverTildeInterval.j2] at H
         replace H := Option.bind_eq_some_iff.mp H
         obtain ⟨⟨t290, t291, t292, t293, t294⟩, A600, H⟩ := H
         replace H : ((impl_VersionGreaterEqual.f t280 t281 t282 t283 t284 t290 t291 t292 t293 t294).bind fun t296 => (if t296 = true then ((impl_VersionLess.f t280 t281 t282 t283 t284 x290000_46 x290001_46 x290002_46 x290003_46 x290004_46).bind fun t297 => (laws_FnSemverTildeInterval.j3 kj46 a1 t297 t275 t276 t277 t278 t279 t280 t281 t282 t283 t284 t290 t291 t292 t293 t294)) else (laws_FnSemverTildeInterval.j3 kj46 a1 false t275 t276 t277 t278 t279 t280 t281 t282 t283 t284 t290 t291 t292 t293 t294))) = some r := H
         have A60 := Aside0.mk A600
         clear A600
         have HC61 := Aside0.mk H
         clear H
         have hnb62 := NB271_272.out
         have hnc62 := NB272_271.out
         have hnb63 := NB271_289.out
         have hnc63 := NB289_271.out
         have hcz64_0 : wc.cell? ⟨gb271, 0, none⟩ = some (.int .u64 t275) := (blk_cell BK271.out 0).trans rfl
         have hcz64_1 : wc.cell? ⟨gb271, 1, none⟩ = some (.int .u64 t276) := (blk_cell BK271.out 1).trans rfl
         have hcz64_2 : wc.cell? ⟨gb271, 2, none⟩ = some (.int .u64 t277) := (blk_cell BK271.out 2).trans rfl
         have hcz64_3 : wc.cell? ⟨gb271, 3, none⟩ = some (.string t278) := (blk_cell BK271.out 3).trans rfl
         have hcz64_4 : wc.cell? ⟨gb271, 4, none⟩ = some (.string t279) := (blk_cell BK271.out 4).trans rfl
         have hfz64_0 := blk_frozen BK271.out 0
         have hfz64_1 := blk_frozen BK271.out 1
         have hfz64_2 := blk_frozen BK271.out 2
         have hfz64_3 := blk_frozen BK271.out 3
         have hfz64_4 := blk_frozen BK271.out 4
         go_upto_region 10 with (first | ((with_reducible refine gate_callee (f := 24) rfl ?_); refine goesL_ (some 58) rfl rfl Tryd.func24 (by kernel_rfl) rfl #[.agg #[.int .u64 t275, .int .u64 t276, .int .u64 t277, .string t278, .string t279], .int .i64 a1] rfl (by (try simp only [List.map_toArray, List.map_cons, List.map_nil]); first | done | rfl | (simp only [List.length_drop, List.length_take]; rfl)) ?_; (with_reducible refine (laws_scFirst.calls t275 t276 t277 t278 t279 a1 t290 t291 t292 t293 t294 _ A60.out).mono ?_); rintro e w65 ⟨rfl, hb⟩; refine ⟨_, rfl, ?_⟩; have n0_ := Aside0.mk (blk_below (g := gb271) (o := .cells #[.int .u64 t275, .int .u64 t276, .int .u64 t277, .string t278, .string t279] 26 (0, 0)) (by (with_reducible repeat (first | refine blk_drewN ?_ _ | refine blk_drew ?_ | refine blk_alloc ?_ _)); exact BK271.out) hb); have n1_ := Aside0.mk (blk_below (g := gb272) (o := .cells #[.int .u64 t280, .int .u64 t281, .int .u64 t282, .string t283, .string t284] 26 (0, 0)) (by (with_reducible repeat (first | refine blk_drewN ?_ _ | refine blk_drew ?_ | refine blk_alloc ?_ _)); exact BK272.out) hb); have n2_ := Aside0.mk (blk_below (g := gb289) (o := .cells #[.int .u64 x290000_46, .int .u64 x290001_46, .int .u64 x290002_46, .string x290003_46, .string x290004_46] 26 (0, 0)) (by (with_reducible repeat (first | refine blk_drewN ?_ _ | refine blk_drew ?_ | refine blk_alloc ?_ _)); exact BK289.out) hb); have n3_ := Aside0.mk (below_step (by repeat (first | (with_reducible first | exact HB.out | apply below_alloc | apply pw_below_drewN | apply below_drew1 | refine below_set ?_ GE271.out | refine below_set ?_ GE272.out | refine below_set ?_ GE289.out) | exact HB.out)) hb); clear BK271; clear BK272; clear BK289; clear HB; have BK271 := n0_; have BK272 := n1_; have BK289 := n2_; have HB := n3_; clear n0_ n1_ n2_ n3_; (try clear hb); (try clear hb2); (try clear hk); (try clear hi)) | ((with_reducible refine gate_dst (N := 9) rfl ?_); (try (refine gate_guard (by rfl) ?_; dsimp only)); refine box_event ?hg (N := 9) ?hd (cs := #[.int .u64 0, .int .u64 0, .int .u64 0, .string (⟨#[]⟩ : ByteArray), .string (⟨#[]⟩ : ByteArray)]) (t := 26) ?hr ?_; (case hd => rfl); (case hg => rfl); (case hr => first | (go_simp; done) | (go_simp; rfl) | (go_simp; simp [u8w]; done)); intro gb295 hg w66 hbox hb; have n0_ := Aside0.mk (blk_below (g := gb271) (o := .cells #[.int .u64 t275, .int .u64 t276, .int .u64 t277, .string t278, .string t279] 26 (0, 0)) (by (with_reducible repeat (first | refine blk_drewN ?_ _ | refine blk_drew ?_ | refine blk_alloc ?_ _)); exact BK271.out) hb); have n1_ := Aside0.mk (blk_below (g := gb272) (o := .cells #[.int .u64 t280, .int .u64 t281, .int .u64 t282, .string t283, .string t284] 26 (0, 0)) (by (with_reducible repeat (first | refine blk_drewN ?_ _ | refine blk_drew ?_ | refine blk_alloc ?_ _)); exact BK272.out) hb); have n2_ := Aside0.mk (blk_below (g := gb289) (o := .cells #[.int .u64 x290000_46, .int .u64 x290001_46, .int .u64 x290002_46, .string x290003_46, .string x290004_46] 26 (0, 0)) (by (with_reducible repeat (first | refine blk_drewN ?_ _ | refine blk_drew ?_ | refine blk_alloc ?_ _)); exact BK289.out) hb); have n3_ := Aside0.mk (below_step (by repeat (first | (with_reducible first | exact HB.out | apply below_alloc | apply pw_below_drewN | apply below_drew1 | refine below_set ?_ GE271.out | refine below_set ?_ GE272.out | refine below_set ?_ GE289.out) | exact HB.out)) hb); have n4_ := Aside0.mk (hbox); have n5_ := Aside0.mk ((by rw [hg]; exact (below_size (by repeat (first | (with_reducible first | exact HB.out | apply below_alloc | apply pw_below_drewN | apply below_drew1 | refine below_set ?_ GE271.out | refine below_set ?_ GE272.out | refine below_set ?_ GE289.out) | exact HB.out))) : w.heap.size ≤ gb295)); have n6_ := Aside0.mk ((by rw [hg]; exact (below_size (by repeat (first | (with_reducible first | exact HB.out | apply below_alloc | apply pw_below_drewN | apply below_drew1 | refine below_set ?_ GE271.out | refine below_set ?_ GE272.out | refine below_set ?_ GE289.out) | exact HB.out))) : w.heap.size ≤ gb295)); have n7_ := Aside0.mk ((by rw [hg]; exact Nat.ne_of_lt (blk_lt (g := gb271) (o := .cells #[.int .u64 t275, .int .u64 t276, .int .u64 t277, .string t278, .string t279] 26 (0, 0)) (by (with_reducible repeat (first | refine blk_drewN ?_ _ | refine blk_drew ?_ | refine blk_alloc ?_ _)); exact BK271.out)) : gb271 ≠ gb295)); have n8_ := Aside0.mk ((by rw [hg]; exact Nat.ne_of_gt (blk_lt (g := gb271) (o := .cells #[.int .u64 t275, .int .u64 t276, .int .u64 t277, .string t278, .string t279] 26 (0, 0)) (by (with_reducible repeat (first | refine blk_drewN ?_ _ | refine blk_drew ?_ | refine blk_alloc ?_ _)); exact BK271.out)) : gb295 ≠ gb271)); have n9_ := Aside0.mk ((by rw [hg]; exact Nat.ne_of_lt (blk_lt (g := gb272) (o := .cells #[.int .u64 t280, .int .u64 t281, .int .u64 t282, .string t283, .string t284] 26 (0, 0)) (by (with_reducible repeat (first | refine blk_drewN ?_ _ | refine blk_drew ?_ | refine blk_alloc ?_ _)); exact BK272.out)) : gb272 ≠ gb295)); have n10_ := Aside0.mk ((by rw [hg]; exact Nat.ne_of_gt (blk_lt (g := gb272) (o := .cells #[.int .u64 t280, .int .u64 t281, .int .u64 t282, .string t283, .string t284] 26 (0, 0)) (by (with_reducible repeat (first | refine blk_drewN ?_ _ | refine blk_drew ?_ | refine blk_alloc ?_ _)); exact BK272.out)) : gb295 ≠ gb272)); have n11_ := Aside0.mk ((by rw [hg]; exact Nat.ne_of_lt (blk_lt (g := gb289) (o := .cells #[.int .u64 x290000_46, .int .u64 x290001_46, .int .u64 x290002_46, .string x290003_46, .string x290004_46] 26 (0, 0)) (by (with_reducible repeat (first | refine blk_drewN ?_ _ | refine blk_drew ?_ | refine blk_alloc ?_ _)); exact BK289.out)) : gb289 ≠ gb295)); have n12_ := Aside0.mk ((by rw [hg]; exact Nat.ne_of_gt (blk_lt (g := gb289) (o := .cells #[.int .u64 x290000_46, .int .u64 x290001_46, .int .u64 x290002_46, .string x290003_46, .string x290004_46] 26 (0, 0)) (by (with_reducible repeat (first | refine blk_drewN ?_ _ | refine blk_drew ?_ | refine blk_alloc ?_ _)); exact BK289.out)) : gb295 ≠ gb289)); clear BK271; clear BK272; clear BK289; clear HB; have BK271 := n0_; have BK272 := n1_; have BK289 := n2_; have HB := n3_; have BK295 := n4_; have GW295 := n5_; have GE295 := n6_; have NB271_295 := n7_; have NB295_271 := n8_; have NB272_295 := n9_; have NB295_272 := n10_; have NB289_295 := n11_; have NB295_289 := n12_; clear n0_ n1_ n2_ n3_ n4_ n5_ n6_ n7_ n8_ n9_ n10_ n11_ n12_; clear hb hbox hg; have hnb67 := NB295_271.out; have hnc67 := NB271_295.out; have hnb68 := NB295_272.out; have hnc68 := NB272_295.out; have hnb69 := NB295_289.out; have hnc69 := NB289_295.out; have hcz70_0 : w66.cell? ⟨gb295, 0, none⟩ = some (.int .u64 0) := (blk_cell BK295.out 0).trans rfl; have hcz70_1 : w66.cell? ⟨gb295, 1, none⟩ = some (.int .u64 0) := (blk_cell BK295.out 1).trans rfl; have hcz70_2 : w66.cell? ⟨gb295, 2, none⟩ = some (.int .u64 0) := (blk_cell BK295.out 2).trans rfl; have hcz70_3 : w66.cell? ⟨gb295, 3, none⟩ = some (.string (⟨#[]⟩ : ByteArray)) := (blk_cell BK295.out 3).trans rfl; have hcz70_4 : w66.cell? ⟨gb295, 4, none⟩ = some (.string (⟨#[]⟩ : ByteArray)) := (blk_cell BK295.out 4).trans rfl; have hfz70_0 := blk_frozen BK295.out 0; have hfz70_1 := blk_frozen BK295.out 1; have hfz70_2 := blk_frozen BK295.out 2; have hfz70_3 := blk_frozen BK295.out 3; have hfz70_4 := blk_frozen BK295.out 4))
         (try simp only [Act.put, List.setIfInBounds_toArray, List.set_cons_zero, List.set_cons_succ])
         go_cut [10] (fun v10 wc => ∃ (kq : Nat) (x10_60 : Bool), v10 = .bool x10_60 ∧ Aside0 (laws_FnSemverTildeInterval.j3 kq a1 x10_60 t275 t276 t277 t278 t279 t280 t281 t282 t283 t284 t290 t291 t292 t293 t294 = some r) ∧ Aside0 (kq ≤ kj46) ∧ Aside0 (wc.heap[gb271]? = some (.cells #[.int .u64 t275, .int .u64 t276, .int .u64 t277, .string t278, .string t279] 26 (0, 0))) ∧ Aside0 (wc.heap[gb272]? = some (.cells #[.int .u64 t280, .int .u64 t281, .int .u64 t282, .string t283, .string t284] 26 (0, 0))) ∧ Aside0 (wc.heap[gb289]? = some (.cells #[.int .u64 x290000_46, .int .u64 x290001_46, .int .u64 x290002_46, .string x290003_46, .string x290004_46] 26 (0, 0))) ∧ Aside0 (wc.heap[gb295]? = some (.cells #[.int .u64 t290, .int .u64 t291, .int .u64 t292, .string t293, .string t294] 26 (0, 0))) ∧ Aside0 (Below w.heap.size w wc))
         case first =>
          have H := HC61.out
          clear HC61
          replace H := Option.bind_eq_some_iff.mp H
          obtain ⟨t296, A710, H⟩ := H
          replace H : (if t296 = true then ((impl_VersionLess.f t280 t281 t282 t283 t284 x290000_46 x290001_46 x290002_46 x290003_46 x290004_46).bind fun t297 => (laws_FnSemverTildeInterval.j3 kj46 a1 t297 t275 t276 t277 t278 t279 t280 t281 t282 t283 t284 t290 t291 t292 t293 t294)) else (laws_FnSemverTildeInterval.j3 kj46 a1 false t275 t276 t277 t278 t279 t280 t281 t282 t283 t284 t290 t291 t292 t293 t294)) = some r := H
          have A71 := Aside0.mk A710
          clear A710
          by_cases c72 : t296 = true
          ·
           subst c72
           have H1 : ((impl_VersionLess.f t280 t281 t282 t283 t284 x290000_46 x290001_46 x290002_46 x290003_46 x290004_46).bind fun t297 => (laws_FnSemverTildeInterval.j3 kj46 a1 t297 t275 t276 t277 t278 t279 t280 t281 t282 t283 t284 t290 t291 t292 t293 t294)) = some r := by rw [if_pos rfl] at H; exact H
           clear H
           have H := H1
           clear H1
           replace H := Option.bind_eq_some_iff.mp H
           obtain ⟨t297, A730, H⟩ := H
           replace H : (laws_FnSemverTildeInterval.j3 kj46 a1 t297 t275 t276 t277 t278 t279 t280 t281 t282 t283 t284 t290 t291 t292 t293 t294) = some r := H
           have A73 := Aside0.mk A730
           clear A730
           have H' := Aside0.mk H
           clear H
           have hnb74 := NB272_271.out
           have hnc74 := NB271_272.out
           have hnb75 := NB272_289.out
           have hnc75 := NB289_272.out
           have hnb76 := NB272_295.out
           have hnc76 := NB295_272.out
           have hcz77_0 : w66.cell? ⟨gb272, 0, none⟩ = some (.int .u64 t280) := (blk_cell BK272.out 0).trans rfl
           have hcz77_1 : w66.cell? ⟨gb272, 1, none⟩ = some (.int .u64 t281) := (blk_cell BK272.out 1).trans rfl
           have hcz77_2 : w66.cell? ⟨gb272, 2, none⟩ = some (.int .u64 t282) := (blk_cell BK272.out 2).trans rfl
           have hcz77_3 : w66.cell? ⟨gb272, 3, none⟩ = some (.string t283) := (blk_cell BK272.out 3).trans rfl
           have hcz77_4 : w66.cell? ⟨gb272, 4, none⟩ = some (.string t284) := (blk_cell BK272.out 4).trans rfl
           have hfz77_0 := blk_frozen BK272.out 0
           have hfz77_1 := blk_frozen BK272.out 1
           have hfz77_2 := blk_frozen BK272.out 2
           have hfz77_3 := blk_frozen BK272.out 3
           have hfz77_4 := blk_frozen BK272.out 4
           have hnb78 := NB295_271.out
           have hnc78 := NB271_295.out
           have hnb79 := NB295_289.out
           have hnc79 := NB289_295.out
           have hcz80_0 : w66.cell? ⟨gb295, 0, none⟩ = some (.int .u64 0) := (blk_cell BK295.out 0).trans rfl
           have hcz80_1 : w66.cell? ⟨gb295, 1, none⟩ = some (.int .u64 0) := (blk_cell BK295.out 1).trans rfl
           have hcz80_2 : w66.cell? ⟨gb295, 2, none⟩ = some (.int .u64 0) := (blk_cell BK295.out 2).trans rfl
           have hcz80_3 : w66.cell? ⟨gb295, 3, none⟩ = some (.string (⟨#[]⟩ : ByteArray)) := (blk_cell BK295.out 3).trans rfl
           have hcz80_4 : w66.cell? ⟨gb295, 4, none⟩ = some (.string (⟨#[]⟩ : ByteArray)) := (blk_cell BK295.out 4).trans rfl
           have hfz80_0 := blk_frozen BK295.out 0
           have hfz80_1 := blk_frozen BK295.out 1
           have hfz80_2 := blk_frozen BK295.out 2
           have hfz80_3 := blk_frozen BK295.out 3
           have hfz80_4 := blk_frozen BK295.out 4
           go_wp2_with (first | ((with_reducible refine gate_callee (f := 25) rfl ?_); refine goesL_ (some 61) rfl rfl Tryd.func25 (by kernel_rfl) rfl #[.agg #[.int .u64 t280, .int .u64 t281, .int .u64 t282, .string t283, .string t284], .agg #[.int .u64 t290, .int .u64 t291, .int .u64 t292, .string t293, .string t294]] rfl (by (try simp only [List.map_toArray, List.map_cons, List.map_nil]); first | done | rfl | (simp only [List.length_drop, List.length_take]; rfl)) ?_; (with_reducible refine (impl_VersionGreaterEqual.calls t280 t281 t282 t283 t284 t290 t291 t292 t293 t294 true _ ?side1 A71.out).mono ?_); (case side1 => exact HStd.out.below (by repeat (first | (with_reducible first | exact HB.out | apply below_alloc | apply pw_below_drewN | apply below_drew1 | refine below_set ?_ GE271.out | refine below_set ?_ GE272.out | refine below_set ?_ GE289.out | refine below_set ?_ GE295.out) | exact HB.out))); rintro e w81 ⟨rfl, hb⟩; refine ⟨_, rfl, ?_⟩; have n0_ := Aside0.mk (blk_below (g := gb271) (o := .cells #[.int .u64 t275, .int .u64 t276, .int .u64 t277, .string t278, .string t279] 26 (0, 0)) (by (with_reducible repeat (first | refine blk_drewN ?_ _ | refine blk_drew ?_ | refine blk_alloc ?_ _)); refine blk_far ?_ NB271_295.out _; (with_reducible repeat (first | refine blk_drewN ?_ _ | refine blk_drew ?_ | refine blk_alloc ?_ _)); refine blk_far ?_ NB271_295.out _; (with_reducible repeat (first | refine blk_drewN ?_ _ | refine blk_drew ?_ | refine blk_alloc ?_ _)); refine blk_far ?_ NB271_295.out _; (with_reducible repeat (first | refine blk_drewN ?_ _ | refine blk_drew ?_ | refine blk_alloc ?_ _)); refine blk_far ?_ NB271_295.out _; (with_reducible repeat (first | refine blk_drewN ?_ _ | refine blk_drew ?_ | refine blk_alloc ?_ _)); refine blk_far ?_ NB271_295.out _; (with_reducible repeat (first | refine blk_drewN ?_ _ | refine blk_drew ?_ | refine blk_alloc ?_ _)); exact BK271.out) hb); have n1_ := Aside0.mk (blk_below (g := gb272) (o := .cells #[.int .u64 t280, .int .u64 t281, .int .u64 t282, .string t283, .string t284] 26 (0, 0)) (by (with_reducible repeat (first | refine blk_drewN ?_ _ | refine blk_drew ?_ | refine blk_alloc ?_ _)); refine blk_far ?_ NB272_295.out _; (with_reducible repeat (first | refine blk_drewN ?_ _ | refine blk_drew ?_ | refine blk_alloc ?_ _)); refine blk_far ?_ NB272_295.out _; (with_reducible repeat (first | refine blk_drewN ?_ _ | refine blk_drew ?_ | refine blk_alloc ?_ _)); refine blk_far ?_ NB272_295.out _; (with_reducible repeat (first | refine blk_drewN ?_ _ | refine blk_drew ?_ | refine blk_alloc ?_ _)); refine blk_far ?_ NB272_295.out _; (with_reducible repeat (first | refine blk_drewN ?_ _ | refine blk_drew ?_ | refine blk_alloc ?_ _)); refine blk_far ?_ NB272_295.out _; (with_reducible repeat (first | refine blk_drewN ?_ _ | refine blk_drew ?_ | refine blk_alloc ?_ _)); exact BK272.out) hb); have n2_ := Aside0.mk (blk_below (g := gb289) (o := .cells #[.int .u64 x290000_46, .int .u64 x290001_46, .int .u64 x290002_46, .string x290003_46, .string x290004_46] 26 (0, 0)) (by (with_reducible repeat (first | refine blk_drewN ?_ _ | refine blk_drew ?_ | refine blk_alloc ?_ _)); refine blk_far ?_ NB289_295.out _; (with_reducible repeat (first | refine blk_drewN ?_ _ | refine blk_drew ?_ | refine blk_alloc ?_ _)); refine blk_far ?_ NB289_295.out _; (with_reducible repeat (first | refine blk_drewN ?_ _ | refine blk_drew ?_ | refine blk_alloc ?_ _)); refine blk_far ?_ NB289_295.out _; (with_reducible repeat (first | refine blk_drewN ?_ _ | refine blk_drew ?_ | refine blk_alloc ?_ _)); refine blk_far ?_ NB289_295.out _; (with_reducible repeat (first | refine blk_drewN ?_ _ | refine blk_drew ?_ | refine blk_alloc ?_ _)); refine blk_far ?_ NB289_295.out _; (with_reducible repeat (first | refine blk_drewN ?_ _ | refine blk_drew ?_ | refine blk_alloc ?_ _)); exact BK289.out) hb); have n3_ := Aside0.mk (blk_below (g := gb295) (o := .cells #[.int .u64 t290, .int .u64 t291, .int .u64 t292, .string t293, .string t294] 26 (0, 0)) (by (with_reducible repeat (first | refine blk_drewN ?_ _ | refine blk_drew ?_ | refine blk_alloc ?_ _)); refine blk_put (cs := #[.int .u64 t290, .int .u64 t291, .int .u64 t292, .string t293, .string (⟨#[]⟩ : ByteArray)]) ?_ 4 _ rfl; (with_reducible repeat (first | refine blk_drewN ?_ _ | refine blk_drew ?_ | refine blk_alloc ?_ _)); refine blk_put (cs := #[.int .u64 t290, .int .u64 t291, .int .u64 t292, .string (⟨#[]⟩ : ByteArray), .string (⟨#[]⟩ : ByteArray)]) ?_ 3 _ rfl; (with_reducible repeat (first | refine blk_drewN ?_ _ | refine blk_drew ?_ | refine blk_alloc ?_ _)); refine blk_put (cs := #[.int .u64 t290, .int .u64 t291, .int .u64 0, .string (⟨#[]⟩ : ByteArray), .string (⟨#[]⟩ : ByteArray)]) ?_ 2 _ rfl; (with_reducible repeat (first | refine blk_drewN ?_ _ | refine blk_drew ?_ | refine blk_alloc ?_ _)); refine blk_put (cs := #[.int .u64 t290, .int .u64 0, .int .u64 0, .string (⟨#[]⟩ : ByteArray), .string (⟨#[]⟩ : ByteArray)]) ?_ 1 _ rfl; (with_reducible repeat (first | refine blk_drewN ?_ _ | refine blk_drew ?_ | refine blk_alloc ?_ _)); refine blk_put (cs := #[.int .u64 0, .int .u64 0, .int .u64 0, .string (⟨#[]⟩ : ByteArray), .string (⟨#[]⟩ : ByteArray)]) ?_ 0 _ rfl; (with_reducible repeat (first | refine blk_drewN ?_ _ | refine blk_drew ?_ | refine blk_alloc ?_ _)); exact BK295.out) hb); have n4_ := Aside0.mk (below_step (by repeat (first | (with_reducible first | exact HB.out | apply below_alloc | apply pw_below_drewN | apply below_drew1 | refine below_set ?_ GE271.out | refine below_set ?_ GE272.out | refine below_set ?_ GE289.out | refine below_set ?_ GE295.out) | exact HB.out)) hb); clear BK271; clear BK272; clear BK289; clear BK295; clear HB; have BK271 := n0_; have BK272 := n1_; have BK289 := n2_; have BK295 := n3_; have HB := n4_; clear n0_ n1_ n2_ n3_ n4_; (try clear hb); (try clear hb2); (try clear hk); (try clear hi); have hcz82_0 : w81.cell? ⟨gb272, 0, none⟩ = some (.int .u64 t280) := (blk_cell BK272.out 0).trans rfl; have hcz82_1 : w81.cell? ⟨gb272, 1, none⟩ = some (.int .u64 t281) := (blk_cell BK272.out 1).trans rfl; have hcz82_2 : w81.cell? ⟨gb272, 2, none⟩ = some (.int .u64 t282) := (blk_cell BK272.out 2).trans rfl; have hcz82_3 : w81.cell? ⟨gb272, 3, none⟩ = some (.string t283) := (blk_cell BK272.out 3).trans rfl; have hcz82_4 : w81.cell? ⟨gb272, 4, none⟩ = some (.string t284) := (blk_cell BK272.out 4).trans rfl; have hfz82_0 := blk_frozen BK272.out 0; have hfz82_1 := blk_frozen BK272.out 1; have hfz82_2 := blk_frozen BK272.out 2; have hfz82_3 := blk_frozen BK272.out 3; have hfz82_4 := blk_frozen BK272.out 4; have hnb83 := NB289_271.out; have hnc83 := NB271_289.out; have hcz84_0 : w81.cell? ⟨gb289, 0, none⟩ = some (.int .u64 x290000_46) := (blk_cell BK289.out 0).trans rfl; have hcz84_1 : w81.cell? ⟨gb289, 1, none⟩ = some (.int .u64 x290001_46) := (blk_cell BK289.out 1).trans rfl; have hcz84_2 : w81.cell? ⟨gb289, 2, none⟩ = some (.int .u64 x290002_46) := (blk_cell BK289.out 2).trans rfl; have hcz84_3 : w81.cell? ⟨gb289, 3, none⟩ = some (.string x290003_46) := (blk_cell BK289.out 3).trans rfl; have hcz84_4 : w81.cell? ⟨gb289, 4, none⟩ = some (.string x290004_46) := (blk_cell BK289.out 4).trans rfl; have hfz84_0 := blk_frozen BK289.out 0; have hfz84_1 := blk_frozen BK289.out 1; have hfz84_2 := blk_frozen BK289.out 2; have hfz84_3 := blk_frozen BK289.out 3; have hfz84_4 := blk_frozen BK289.out 4) | (go_at_call 26; (with_reducible refine (impl_VersionLess.calls t280 t281 t282 t283 t284 x290000_46 x290001_46 x290002_46 x290003_46 x290004_46 t297 _ ?side1 A73.out).mono ?_); (case side1 => exact HStd.out.below (by repeat (first | (with_reducible first | exact HB.out | apply below_alloc | apply pw_below_drewN | apply below_drew1 | refine below_set ?_ GE271.out | refine below_set ?_ GE272.out | refine below_set ?_ GE289.out | refine below_set ?_ GE295.out) | exact HB.out))); rintro e w85 ⟨rfl, hb⟩; have n0_ := Aside0.mk (blk_below (g := gb271) (o := .cells #[.int .u64 t275, .int .u64 t276, .int .u64 t277, .string t278, .string t279] 26 (0, 0)) (by (with_reducible repeat (first | refine blk_drewN ?_ _ | refine blk_drew ?_ | refine blk_alloc ?_ _)); exact BK271.out) hb); have n1_ := Aside0.mk (blk_below (g := gb272) (o := .cells #[.int .u64 t280, .int .u64 t281, .int .u64 t282, .string t283, .string t284] 26 (0, 0)) (by (with_reducible repeat (first | refine blk_drewN ?_ _ | refine blk_drew ?_ | refine blk_alloc ?_ _)); exact BK272.out) hb); have n2_ := Aside0.mk (blk_below (g := gb289) (o := .cells #[.int .u64 x290000_46, .int .u64 x290001_46, .int .u64 x290002_46, .string x290003_46, .string x290004_46] 26 (0, 0)) (by (with_reducible repeat (first | refine blk_drewN ?_ _ | refine blk_drew ?_ | refine blk_alloc ?_ _)); exact BK289.out) hb); have n3_ := Aside0.mk (blk_below (g := gb295) (o := .cells #[.int .u64 t290, .int .u64 t291, .int .u64 t292, .string t293, .string t294] 26 (0, 0)) (by (with_reducible repeat (first | refine blk_drewN ?_ _ | refine blk_drew ?_ | refine blk_alloc ?_ _)); exact BK295.out) hb); have n4_ := Aside0.mk (below_step (by repeat (first | (with_reducible first | exact HB.out | apply below_alloc | apply pw_below_drewN | apply below_drew1 | refine below_set ?_ GE271.out | refine below_set ?_ GE272.out | refine below_set ?_ GE289.out | refine below_set ?_ GE295.out) | exact HB.out)) hb); clear BK271; clear BK272; clear BK289; clear BK295; clear HB; have BK271 := n0_; have BK272 := n1_; have BK289 := n2_; have BK295 := n3_; have HB := n4_; clear n0_ n1_ n2_ n3_ n4_; (try clear hb); (try clear hb2); (try clear hk); (try clear hi)))
           go_meet
           case rel => exact ⟨_, (t297), (by first | rfl | (simp; done) | (simp [*]; done)), H', ⟨by have := HJ3.out; have := HJ19.out; have := HJ46.out; first | omega | exact Nat.le_refl _⟩, ⟨by (with_reducible repeat (first | refine blk_drewN ?_ _ | refine blk_drew ?_ | refine blk_alloc ?_ _)); exact BK271.out⟩, ⟨by (with_reducible repeat (first | refine blk_drewN ?_ _ | refine blk_drew ?_ | refine blk_alloc ?_ _)); exact BK272.out⟩, ⟨by (with_reducible repeat (first | refine blk_drewN ?_ _ | refine blk_drew ?_ | refine blk_alloc ?_ _)); exact BK289.out⟩, ⟨by (with_reducible repeat (first | refine blk_drewN ?_ _ | refine blk_drew ?_ | refine blk_alloc ?_ _)); exact BK295.out⟩, ⟨by repeat (first | (with_reducible first | exact HB.out | apply below_alloc | apply pw_below_drewN | apply below_drew1 | refine below_set ?_ GE271.out | refine below_set ?_ GE272.out | refine below_set ?_ GE289.out | refine below_set ?_ GE295.out) | exact HB.out)⟩⟩
          ·
           replace c72 := Bool.eq_false_iff.mpr c72
           subst c72
           have H1 : (laws_FnSemverTildeInterval.j3 kj46 a1 false t275 t276 t277 t278 t279 t280 t281 t282 t283 t284 t290 t291 t292 t293 t294) = some r := by rw [if_neg (show ¬ (false = true) by decide)] at H; exact H
           clear H
           have H := H1
           clear H1
           have H' := Aside0.mk H
           clear H
           have hnb86 := NB272_271.out
           have hnc86 := NB271_272.out
           have hnb87 := NB272_289.out
           have hnc87 := NB289_272.out
           have hnb88 := NB272_295.out
           have hnc88 := NB295_272.out
           have hcz89_0 : w66.cell? ⟨gb272, 0, none⟩ = some (.int .u64 t280) := (blk_cell BK272.out 0).trans rfl
           have hcz89_1 : w66.cell? ⟨gb272, 1, none⟩ = some (.int .u64 t281) := (blk_cell BK272.out 1).trans rfl
           have hcz89_2 : w66.cell? ⟨gb272, 2, none⟩ = some (.int .u64 t282) := (blk_cell BK272.out 2).trans rfl
           have hcz89_3 : w66.cell? ⟨gb272, 3, none⟩ = some (.string t283) := (blk_cell BK272.out 3).trans rfl
           have hcz89_4 : w66.cell? ⟨gb272, 4, none⟩ = some (.string t284) := (blk_cell BK272.out 4).trans rfl
           have hfz89_0 := blk_frozen BK272.out 0
           have hfz89_1 := blk_frozen BK272.out 1
           have hfz89_2 := blk_frozen BK272.out 2
           have hfz89_3 := blk_frozen BK272.out 3
           have hfz89_4 := blk_frozen BK272.out 4
           have hnb90 := NB295_271.out
           have hnc90 := NB271_295.out
           have hnb91 := NB295_289.out
           have hnc91 := NB289_295.out
           have hcz92_0 : w66.cell? ⟨gb295, 0, none⟩ = some (.int .u64 0) := (blk_cell BK295.out 0).trans rfl
           have hcz92_1 : w66.cell? ⟨gb295, 1, none⟩ = some (.int .u64 0) := (blk_cell BK295.out 1).trans rfl
           have hcz92_2 : w66.cell? ⟨gb295, 2, none⟩ = some (.int .u64 0) := (blk_cell BK295.out 2).trans rfl
           have hcz92_3 : w66.cell? ⟨gb295, 3, none⟩ = some (.string (⟨#[]⟩ : ByteArray)) := (blk_cell BK295.out 3).trans rfl
           have hcz92_4 : w66.cell? ⟨gb295, 4, none⟩ = some (.string (⟨#[]⟩ : ByteArray)) := (blk_cell BK295.out 4).trans rfl
           have hfz92_0 := blk_frozen BK295.out 0
           have hfz92_1 := blk_frozen BK295.out 1
           have hfz92_2 := blk_frozen BK295.out 2
           have hfz92_3 := blk_frozen BK295.out 3
           have hfz92_4 := blk_frozen BK295.out 4
           go_wp2_with (first | ((with_reducible refine gate_callee (f := 25) rfl ?_); refine goesL_ (some 61) rfl rfl Tryd.func25 (by kernel_rfl) rfl #[.agg #[.int .u64 t280, .int .u64 t281, .int .u64 t282, .string t283, .string t284], .agg #[.int .u64 t290, .int .u64 t291, .int .u64 t292, .string t293, .string t294]] rfl (by (try simp only [List.map_toArray, List.map_cons, List.map_nil]); first | done | rfl | (simp only [List.length_drop, List.length_take]; rfl)) ?_; (with_reducible refine (impl_VersionGreaterEqual.calls t280 t281 t282 t283 t284 t290 t291 t292 t293 t294 false _ ?side1 A71.out).mono ?_); (case side1 => exact HStd.out.below (by repeat (first | (with_reducible first | exact HB.out | apply below_alloc | apply pw_below_drewN | apply below_drew1 | refine below_set ?_ GE271.out | refine below_set ?_ GE272.out | refine below_set ?_ GE289.out | refine below_set ?_ GE295.out) | exact HB.out))); rintro e w93 ⟨rfl, hb⟩; refine ⟨_, rfl, ?_⟩; have n0_ := Aside0.mk (blk_below (g := gb271) (o := .cells #[.int .u64 t275, .int .u64 t276, .int .u64 t277, .string t278, .string t279] 26 (0, 0)) (by (with_reducible repeat (first | refine blk_drewN ?_ _ | refine blk_drew ?_ | refine blk_alloc ?_ _)); refine blk_far ?_ NB271_295.out _; (with_reducible repeat (first | refine blk_drewN ?_ _ | refine blk_drew ?_ | refine blk_alloc ?_ _)); refine blk_far ?_ NB271_295.out _; (with_reducible repeat (first | refine blk_drewN ?_ _ | refine blk_drew ?_ | refine blk_alloc ?_ _)); refine blk_far ?_ NB271_295.out _; (with_reducible repeat (first | refine blk_drewN ?_ _ | refine blk_drew ?_ | refine blk_alloc ?_ _)); refine blk_far ?_ NB271_295.out _; (with_reducible repeat (first | refine blk_drewN ?_ _ | refine blk_drew ?_ | refine blk_alloc ?_ _)); refine blk_far ?_ NB271_295.out _; (with_reducible repeat (first | refine blk_drewN ?_ _ | refine blk_drew ?_ | refine blk_alloc ?_ _)); exact BK271.out) hb); have n1_ := Aside0.mk (blk_below (g := gb272) (o := .cells #[.int .u64 t280, .int .u64 t281, .int .u64 t282, .string t283, .string t284] 26 (0, 0)) (by (with_reducible repeat (first | refine blk_drewN ?_ _ | refine blk_drew ?_ | refine blk_alloc ?_ _)); refine blk_far ?_ NB272_295.out _; (with_reducible repeat (first | refine blk_drewN ?_ _ | refine blk_drew ?_ | refine blk_alloc ?_ _)); refine blk_far ?_ NB272_295.out _; (with_reducible repeat (first | refine blk_drewN ?_ _ | refine blk_drew ?_ | refine blk_alloc ?_ _)); refine blk_far ?_ NB272_295.out _; (with_reducible repeat (first | refine blk_drewN ?_ _ | refine blk_drew ?_ | refine blk_alloc ?_ _)); refine blk_far ?_ NB272_295.out _; (with_reducible repeat (first | refine blk_drewN ?_ _ | refine blk_drew ?_ | refine blk_alloc ?_ _)); refine blk_far ?_ NB272_295.out _; (with_reducible repeat (first | refine blk_drewN ?_ _ | refine blk_drew ?_ | refine blk_alloc ?_ _)); exact BK272.out) hb); have n2_ := Aside0.mk (blk_below (g := gb289) (o := .cells #[.int .u64 x290000_46, .int .u64 x290001_46, .int .u64 x290002_46, .string x290003_46, .string x290004_46] 26 (0, 0)) (by (with_reducible repeat (first | refine blk_drewN ?_ _ | refine blk_drew ?_ | refine blk_alloc ?_ _)); refine blk_far ?_ NB289_295.out _; (with_reducible repeat (first | refine blk_drewN ?_ _ | refine blk_drew ?_ | refine blk_alloc ?_ _)); refine blk_far ?_ NB289_295.out _; (with_reducible repeat (first | refine blk_drewN ?_ _ | refine blk_drew ?_ | refine blk_alloc ?_ _)); refine blk_far ?_ NB289_295.out _; (with_reducible repeat (first | refine blk_drewN ?_ _ | refine blk_drew ?_ | refine blk_alloc ?_ _)); refine blk_far ?_ NB289_295.out _; (with_reducible repeat (first | refine blk_drewN ?_ _ | refine blk_drew ?_ | refine blk_alloc ?_ _)); refine blk_far ?_ NB289_295.out _; (with_reducible repeat (first | refine blk_drewN ?_ _ | refine blk_drew ?_ | refine blk_alloc ?_ _)); exact BK289.out) hb); have n3_ := Aside0.mk (blk_below (g := gb295) (o := .cells #[.int .u64 t290, .int .u64 t291, .int .u64 t292, .string t293, .string t294] 26 (0, 0)) (by (with_reducible repeat (first | refine blk_drewN ?_ _ | refine blk_drew ?_ | refine blk_alloc ?_ _)); refine blk_put (cs := #[.int .u64 t290, .int .u64 t291, .int .u64 t292, .string t293, .string (⟨#[]⟩ : ByteArray)]) ?_ 4 _ rfl; (with_reducible repeat (first | refine blk_drewN ?_ _ | refine blk_drew ?_ | refine blk_alloc ?_ _)); refine blk_put (cs := #[.int .u64 t290, .int .u64 t291, .int .u64 t292, .string (⟨#[]⟩ : ByteArray), .string (⟨#[]⟩ : ByteArray)]) ?_ 3 _ rfl; (with_reducible repeat (first | refine blk_drewN ?_ _ | refine blk_drew ?_ | refine blk_alloc ?_ _)); refine blk_put (cs := #[.int .u64 t290, .int .u64 t291, .int .u64 0, .string (⟨#[]⟩ : ByteArray), .string (⟨#[]⟩ : ByteArray)]) ?_ 2 _ rfl; (with_reducible repeat (first | refine blk_drewN ?_ _ | refine blk_drew ?_ | refine blk_alloc ?_ _)); refine blk_put (cs := #[.int .u64 t290, .int .u64 0, .int .u64 0, .string (⟨#[]⟩ : ByteArray), .string (⟨#[]⟩ : ByteArray)]) ?_ 1 _ rfl; (with_reducible repeat (first | refine blk_drewN ?_ _ | refine blk_drew ?_ | refine blk_alloc ?_ _)); refine blk_put (cs := #[.int .u64 0, .int .u64 0, .int .u64 0, .string (⟨#[]⟩ : ByteArray), .string (⟨#[]⟩ : ByteArray)]) ?_ 0 _ rfl; (with_reducible repeat (first | refine blk_drewN ?_ _ | refine blk_drew ?_ | refine blk_alloc ?_ _)); exact BK295.out) hb); have n4_ := Aside0.mk (below_step (by repeat (first | (with_reducible first | exact HB.out | apply below_alloc | apply pw_below_drewN | apply below_drew1 | refine below_set ?_ GE271.out | refine below_set ?_ GE272.out | refine below_set ?_ GE289.out | refine below_set ?_ GE295.out) | exact HB.out)) hb); clear BK271; clear BK272; clear BK289; clear BK295; clear HB; have BK271 := n0_; have BK272 := n1_; have BK289 := n2_; have BK295 := n3_; have HB := n4_; clear n0_ n1_ n2_ n3_ n4_; (try clear hb); (try clear hb2); (try clear hk); (try clear hi)))
           go_meet
           case rel => exact ⟨_, (false), (by first | rfl | (simp; done) | (simp [*]; done)), H', ⟨by have := HJ3.out; have := HJ19.out; have := HJ46.out; first | omega | exact Nat.le_refl _⟩, ⟨by (with_reducible repeat (first | refine blk_drewN ?_ _ | refine blk_drew ?_ | refine blk_alloc ?_ _)); exact BK271.out⟩, ⟨by (with_reducible repeat (first | refine blk_drewN ?_ _ | refine blk_drew ?_ | refine blk_alloc ?_ _)); exact BK272.out⟩, ⟨by (with_reducible repeat (first | refine blk_drewN ?_ _ | refine blk_drew ?_ | refine blk_alloc ?_ _)); exact BK289.out⟩, ⟨by (with_reducible repeat (first | refine blk_drewN ?_ _ | refine blk_drew ?_ | refine blk_alloc ?_ _)); exact BK295.out⟩, ⟨by repeat (first | (with_reducible first | exact HB.out | apply below_alloc | apply pw_below_drewN | apply below_drew1 | refine below_set ?_ GE271.out | refine below_set ?_ GE272.out | refine below_set ?_ GE289.out | refine below_set ?_ GE295.out) | exact HB.out)⟩⟩
         case rest =>
          clear HC61
          try clear c1
          try clear c2
          try clear p2
          try clear c3
          try clear c4
          try clear c5
          try clear c6
          try clear c7
          try clear c8
          try clear c9
          try clear c10
          try clear c14
          try clear c15
          try clear c18
          try clear c20
          try clear c21
          try clear c24
          try clear c25
          try clear c27
          try clear c28
          try clear c28b0
          try clear c28b1
          try clear c30
          try clear c31
          try clear c36
          try clear c43
          try clear c46
          try clear c48
          try clear c51
          try clear c52
          try clear c54
          try clear c54b0
          try clear c55
          try clear c56
          try clear c58
          try clear c62
          try clear c63
          try clear c67
          try clear c68
          try clear c69
          try clear c72
          try clear c74
          try clear c75
          try clear c76
          try clear c78
          try clear c79
          try clear c83
          try clear c86
          try clear c87
          try clear c88
          try clear c90
          try clear c91
          try clear hcz11_0
          try clear hcz11_1
          try clear hcz11_2
          try clear hcz11_3
          try clear hcz11_4
          try clear hcz13_0
          try clear hcz13_1
          try clear hcz13_2
          try clear hcz13_3
          try clear hcz13_4
          try clear hcz16_0
          try clear hcz16_1
          try clear hcz16_2
          try clear hcz16_3
          try clear hcz16_4
          try clear hcz22_0
          try clear hcz22_1
          try clear hcz22_2
          try clear hcz22_3
          try clear hcz22_4
          try clear hcz23_0
          try clear hcz23_1
          try clear hcz23_2
          try clear hcz23_3
          try clear hcz23_4
          try clear hcz25_0
          try clear hcz25_1
          try clear hcz25_2
          try clear hcz25_3
          try clear hcz25_4
          try clear hcz26_0
          try clear hcz26_1
          try clear hcz26_2
          try clear hcz26_3
          try clear hcz26_4
          try clear hcz32_0
          try clear hcz32_1
          try clear hcz32_2
          try clear hcz32_3
          try clear hcz32_4
          try clear hcz37_0
          try clear hcz37_1
          try clear hcz37_2
          try clear hcz37_3
          try clear hcz37_4
          try clear hcz39_0
          try clear hcz39_1
          try clear hcz39_2
          try clear hcz39_3
          try clear hcz39_4
          try clear hcz44_0
          try clear hcz44_1
          try clear hcz44_2
          try clear hcz44_3
          try clear hcz44_4
          try clear hcz49_0
          try clear hcz49_1
          try clear hcz49_2
          try clear hcz49_3
          try clear hcz49_4
          try clear hcz53_0
          try clear hcz53_1
          try clear hcz53_2
          try clear hcz53_3
          try clear hcz53_4
          try clear hcz57_0
          try clear hcz57_1
          try clear hcz57_2
          try clear hcz57_3
          try clear hcz57_4
          try clear hcz59_0
          try clear hcz59_1
          try clear hcz59_2
          try clear hcz59_3
          try clear hcz59_4
          try clear hcz64_0
          try clear hcz64_1
          try clear hcz64_2
          try clear hcz64_3
          try clear hcz64_4
          try clear hcz70_0
          try clear hcz70_1
          try clear hcz70_2
          try clear hcz70_3
          try clear hcz70_4
          try clear hcz77_0
          try clear hcz77_1
          try clear hcz77_2
          try clear hcz77_3
          try clear hcz77_4
          try clear hcz80_0
          try clear hcz80_1
          try clear hcz80_2
          try clear hcz80_3
          try clear hcz80_4
          try clear hcz82_0
          try clear hcz82_1
          try clear hcz82_2
          try clear hcz82_3
          try clear hcz82_4
          try clear hcz84_0
          try clear hcz84_1
          try clear hcz84_2
          try clear hcz84_3
          try clear hcz84_4
          try clear hcz89_0
          try clear hcz89_1
          try clear hcz89_2
          try clear hcz89_3
          try clear hcz89_4
          try clear hcz92_0
          try clear hcz92_1
          try clear hcz92_2
          try clear hcz92_3
          try clear hcz92_4
          try clear hfz11_0
          try clear hfz11_1
          try clear hfz11_2
          try clear hfz11_3
          try clear hfz11_4
          try clear hfz13_0
          try clear hfz13_1
          try clear hfz13_2
          try clear hfz13_3
          try clear hfz13_4
          try clear hfz16_0
          try clear hfz16_1
          try clear hfz16_2
          try clear hfz16_3
          try clear hfz16_4
          try clear hfz22_0
          try clear hfz22_1
          try clear hfz22_2
          try clear hfz22_3
          try clear hfz22_4
          try clear hfz23_0
          try clear hfz23_1
          try clear hfz23_2
          try clear hfz23_3
          try clear hfz23_4
          try clear hfz25_0
          try clear hfz25_1
          try clear hfz25_2
          try clear hfz25_3
          try clear hfz25_4
          try clear hfz26_0
          try clear hfz26_1
          try clear hfz26_2
          try clear hfz26_3
          try clear hfz26_4
          try clear hfz32_0
          try clear hfz32_1
          try clear hfz32_2
          try clear hfz32_3
          try clear hfz32_4
          try clear hfz37_0
          try clear hfz37_1
          try clear hfz37_2
          try clear hfz37_3
          try clear hfz37_4
          try clear hfz39_0
          try clear hfz39_1
          try clear hfz39_2
          try clear hfz39_3
          try clear hfz39_4
          try clear hfz44_0
          try clear hfz44_1
          try clear hfz44_2
          try clear hfz44_3
          try clear hfz44_4
          try clear hfz49_0
          try clear hfz49_1
          try clear hfz49_2
          try clear hfz49_3
          try clear hfz49_4
          try clear hfz53_0
          try clear hfz53_1
          try clear hfz53_2
          try clear hfz53_3
          try clear hfz53_4
          try clear hfz57_0
          try clear hfz57_1
          try clear hfz57_2
          try clear hfz57_3
          try clear hfz57_4
          try clear hfz59_0
          try clear hfz59_1
          try clear hfz59_2
          try clear hfz59_3
          try clear hfz59_4
          try clear hfz64_0
          try clear hfz64_1
          try clear hfz64_2
          try clear hfz64_3
          try clear hfz64_4
          try clear hfz70_0
          try clear hfz70_1
          try clear hfz70_2
          try clear hfz70_3
          try clear hfz70_4
          try clear hfz77_0
          try clear hfz77_1
          try clear hfz77_2
          try clear hfz77_3
          try clear hfz77_4
          try clear hfz80_0
          try clear hfz80_1
          try clear hfz80_2
          try clear hfz80_3
          try clear hfz80_4
          try clear hfz82_0
          try clear hfz82_1
          try clear hfz82_2
          try clear hfz82_3
          try clear hfz82_4
          try clear hfz84_0
          try clear hfz84_1
          try clear hfz84_2
          try clear hfz84_3
          try clear hfz84_4
          try clear hfz89_0
          try clear hfz89_1
          try clear hfz89_2
          try clear hfz89_3
          try clear hfz89_4
          try clear hfz92_0
          try clear hfz92_1
          try clear hfz92_2
          try clear hfz92_3
          try clear hfz92_4
          try clear p2
          obtain ⟨kq, x10_60, rfl, HA, HJ60, BK271, BK272, BK289, BK295, HB⟩ := hcut
          cases kq with
          | zero => exact absurd HA.out (by simp [laws_FnSemverTildeInterval.j3])
          | succ kj60 =>
           have H := HA.out
           clear HA
           simp only [laws_FnSemverTildeInterval.j3] at H
           replace H := Option.bind_eq_some_iff.mp H
           obtain ⟨⟨t298, t299, t300, t301, t302, t303⟩, A940, H⟩ := H
           replace H : ((impl_TildeHolds.f t298 t299 t300 t301 t302 t303 t280 t281 t282 t283 t284 false).bind fun t304 => (if (t304 == x10_60) = true then ((laws_stTerm.f 0 t275 t276 t277 t278 t279 a1).bind fun bt305 => ((impl_TildeHolds.f bt305.1 bt305.2.1 bt305.2.2.1 bt305.2.2.2.1 bt305.2.2.2.2.1 bt305.2.2.2.2.2 t290 t291 t292 t293 t294 false).bind fun t311 => (some t311))) else (some false))) = some r := H
           have A94 := Aside0.mk A940
           clear A940
           replace H := Option.bind_eq_some_iff.mp H
           obtain ⟨t304, A950, H⟩ := H
           replace H : (if (t304 == x10_60) = true then ((laws_stTerm.f 0 t275 t276 t277 t278 t279 a1).bind fun bt305 => ((impl_TildeHolds.f bt305.1 bt305.2.1 bt305.2.2.1 bt305.2.2.2.1 bt305.2.2.2.2.1 bt305.2.2.2.2.2 t290 t291 t292 t293 t294 false).bind fun t311 => (some t311))) else (some false)) = some r := H
           have A95 := Aside0.mk A950
           clear A950
           by_cases c96 : (t304 == x10_60) = true
           ·
            rw [if_pos c96] at H
            have c96b0 : (t304 == x10_60) = true := c96
            (try (have c96b1 : decide (t304 = x10_60) = true := by simpa using c96))
            (try (have c96b2 : (t304 == x10_60) = true := by simpa using c96))
            clear c96
            replace H := Option.bind_eq_some_iff.mp H
            obtain ⟨⟨t305, t306, t307, t308, t309, t310⟩, A970, H⟩ := H
            replace H : ((impl_TildeHolds.f t305 t306 t307 t308 t309 t310 t290 t291 t292 t293 t294 false).bind fun t311 => (some t311)) = some r := H
            have A97 := Aside0.mk A970
            clear A970
            replace H := Option.bind_eq_some_iff.mp H
            obtain ⟨t311, A980, H⟩ := H
            replace H : (some t311) = some r := H
            have A98 := Aside0.mk A980
            clear A980
            obtain rfl := Option.some.inj H
            try go_wp2
            have n0_ := Aside0.mk (blk_drew BK271.out)
            have n1_ := Aside0.mk (blk_drew BK272.out)
            have n2_ := Aside0.mk (blk_drew BK289.out)
            have n3_ := Aside0.mk (blk_drew BK295.out)
            have n4_ := Aside0.mk (below_drew1 HB.out)
            clear BK271
            clear BK272
            clear BK289
            clear BK295
            clear HB
            have BK271 := n0_
            have BK272 := n1_
            have BK289 := n2_
            have BK295 := n3_
            have HB := n4_
            clear n0_ n1_ n2_ n3_ n4_
            refine start_ (n := 15) (S := fun w' => w'.cell? ⟨gb271, 0, none⟩ = some (.int .u64 t275) ∧ w'.cell? ⟨gb271, 1, none⟩ = some (.int .u64 t276) ∧ w'.cell? ⟨gb271, 2, none⟩ = some (.int .u64 t277) ∧ w'.cell? ⟨gb271, 3, none⟩ = some (.string t278) ∧ w'.cell? ⟨gb271, 4, none⟩ = some (.string t279) ∧ w'.cell? ⟨gb272, 0, none⟩ = some (.int .u64 t280) ∧ w'.cell? ⟨gb272, 1, none⟩ = some (.int .u64 t281) ∧ w'.cell? ⟨gb272, 2, none⟩ = some (.int .u64 t282) ∧ w'.cell? ⟨gb272, 3, none⟩ = some (.string t283) ∧ w'.cell? ⟨gb272, 4, none⟩ = some (.string t284) ∧ w'.cell? ⟨gb295, 0, none⟩ = some (.int .u64 t290) ∧ w'.cell? ⟨gb295, 1, none⟩ = some (.int .u64 t291) ∧ w'.cell? ⟨gb295, 2, none⟩ = some (.int .u64 t292) ∧ w'.cell? ⟨gb295, 3, none⟩ = some (.string t293) ∧ w'.cell? ⟨gb295, 4, none⟩ = some (.string t294)) (ds := []) #[false, false, false, false, false, false, false, false, false, false, false, false, false, false, false] (by kernel_rfl) rfl rfl ⟨(blk_cell BK271.out 0).trans rfl, (blk_cell BK271.out 1).trans rfl, (blk_cell BK271.out 2).trans rfl, (blk_cell BK271.out 3).trans rfl, (blk_cell BK271.out 4).trans rfl, (blk_cell BK272.out 0).trans rfl, (blk_cell BK272.out 1).trans rfl, (blk_cell BK272.out 2).trans rfl, (blk_cell BK272.out 3).trans rfl, (blk_cell BK272.out 4).trans rfl, (blk_cell BK295.out 0).trans rfl, (blk_cell BK295.out 1).trans rfl, (blk_cell BK295.out 2).trans rfl, (blk_cell BK295.out 3).trans rfl, (blk_cell BK295.out 4).trans rfl⟩ (fun hHeld => ?_); refine with_tabW laws_FnSemverTildeInterval.tab11 laws_FnSemverTildeInterval.bits11 (fun HT_ HW_ => ?_)
            generalize wc.drew = w99 at BK271 BK272 BK289 BK295 HB hHeld ⊢
            refine pure_ (i := 1) (N := some 68) (v := ?_) (a' := ?_) #[false, true, false, false, false, false, false, false, false, false, false, false, false, false, false] rfl rfl (any_of HT_.out (by kernel_rfl)) (fun _ _ _ h => h) (Or.inl ⟨by rfl, ?_⟩) ?_ ?_
            rotate_left
            ·
             intro w'
             go_simp
             with_reducible rfl
            rotate_left
            ·
             simp only [Act.put, List.setIfInBounds_toArray, List.set_cons_zero, List.set_cons_succ, i64_w, i32_w]
             rfl
            refine pure_ (i := 5) (N := some 72) (v := ?_) (a' := ?_) #[false, true, false, false, false, true, false, false, false, false, false, false, false, false, false] rfl rfl (any_of HT_.out (by kernel_rfl)) (fun _ _ _ h => h) (Or.inl ⟨by rfl, ?_⟩) ?_ ?_
            rotate_left
            ·
             intro w'
             go_simp
             with_reducible rfl
            rotate_left
            ·
             simp only [Act.put, List.setIfInBounds_toArray, List.set_cons_zero, List.set_cons_succ, i64_w, i32_w]
             rfl
            refine take_ (i := 0) (N := some 67) (v := ?_) (a' := ?_) #[true, true, false, false, false, true, false, false, false, false, false, false, false, false, false] rfl rfl (take_ofW HT_.out HW_.out (by kernel_rfl)) (fun _ _ _ h => h) (Or.inl ⟨by rfl, ?_⟩) hHeld ?_ ?_
            rotate_left
            ·
             rintro w' ⟨s0, s1, s2, s3, s4, s5, s6, s7, s8, s9, s10, s11, s12, s13, s14⟩
             go_simp
             with_reducible rfl
            rotate_left
            ·
             simp only [Act.put, List.setIfInBounds_toArray, List.set_cons_zero, List.set_cons_succ, i64_w, i32_w]
             rfl
            refine take_ (i := 3) (N := some 70) (v := ?_) (a' := ?_) #[true, true, false, true, false, true, false, false, false, false, false, false, false, false, false] rfl rfl (take_ofW HT_.out HW_.out (by kernel_rfl)) (fun _ _ _ h => h) (Or.inl ⟨by rfl, ?_⟩) hHeld ?_ ?_
            rotate_left
            ·
             rintro w' ⟨s0, s1, s2, s3, s4, s5, s6, s7, s8, s9, s10, s11, s12, s13, s14⟩
             go_simp
             with_reducible rfl
            rotate_left
            ·
             simp only [Act.put, List.setIfInBounds_toArray, List.set_cons_zero, List.set_cons_succ, i64_w, i32_w]
             rfl
            refine one_ (i := 2) (N := some 69) #[true, true, true, true, false, true, false, false, false, false, false, false, false, false, false] rfl rfl (one_of HT_.out (by kernel_rfl)) (by decide) (fun K hK => ?_)
            refine goes_ Tryd.func28 (by kernel_rfl) rfl #[.int .i64 0, .agg #[.int .u64 t275, .int .u64 t276, .int .u64 t277, .string t278, .string t279], .int .i64 a1] (by rfl) rfl rfl (by (try simp only [List.map_toArray, List.map_cons, List.map_nil]); first | done | rfl | (simp only [List.length_drop, List.length_take]; rfl)) ?_
            with_reducible refine (laws_stTerm.calls 0 t275 t276 t277 t278 t279 a1 t298 t299 t300 t301 t302 t303 _ A94.out).mono ?_
            rintro e w100 ⟨rfl, hb⟩
            refine ⟨_, rfl, ?_⟩
            have n0_ := Aside0.mk (blk_below (g := gb271) (o := .cells #[.int .u64 t275, .int .u64 t276, .int .u64 t277, .string t278, .string t279] 26 (0, 0)) (by (with_reducible repeat (first | refine blk_drewN ?_ _ | refine blk_drew ?_ | refine blk_alloc ?_ _)); exact BK271.out) hb)
            have n1_ := Aside0.mk (blk_below (g := gb272) (o := .cells #[.int .u64 t280, .int .u64 t281, .int .u64 t282, .string t283, .string t284] 26 (0, 0)) (by (with_reducible repeat (first | refine blk_drewN ?_ _ | refine blk_drew ?_ | refine blk_alloc ?_ _)); exact BK272.out) hb)
            have n2_ := Aside0.mk (blk_below (g := gb289) (o := .cells #[.int .u64 x290000_46, .int .u64 x290001_46, .int .u64 x290002_46, .string x290003_46, .string x290004_46] 26 (0, 0)) (by (with_reducible repeat (first | refine blk_drewN ?_ _ | refine blk_drew ?_ | refine blk_alloc ?_ _)); exact BK289.out) hb)
            have n3_ := Aside0.mk (blk_below (g := gb295) (o := .cells #[.int .u64 t290, .int .u64 t291, .int .u64 t292, .string t293, .string t294] 26 (0, 0)) (by (with_reducible repeat (first | refine blk_drewN ?_ _ | refine blk_drew ?_ | refine blk_alloc ?_ _)); exact BK295.out) hb)
            have n4_ := Aside0.mk (below_step (by repeat (first | (with_reducible first | exact HB.out | apply below_alloc | apply pw_below_drewN | apply below_drew1 | refine below_set ?_ GE271.out | refine below_set ?_ GE272.out | refine below_set ?_ GE289.out | refine below_set ?_ GE295.out) | exact HB.out)) hb)
            clear BK271
            clear BK272
            clear BK289
            clear BK295
            clear HB
            have BK271 := n0_
            have BK272 := n1_
            have BK289 := n2_
            have BK295 := n3_
            have HB := n4_
            clear n0_ n1_ n2_ n3_ n4_
            (try clear hb)
            (try clear hb2)
            (try clear hk)
            (try clear hi)
            refine hK.out _ _ ⟨(blk_cell BK271.out 0).trans rfl, (blk_cell BK271.out 1).trans rfl, (blk_cell BK271.out 2).trans rfl, (blk_cell BK271.out 3).trans rfl, (blk_cell BK271.out 4).trans rfl, (blk_cell BK272.out 0).trans rfl, (blk_cell BK272.out 1).trans rfl, (blk_cell BK272.out 2).trans rfl, (blk_cell BK272.out 3).trans rfl, (blk_cell BK272.out 4).trans rfl, (blk_cell BK295.out 0).trans rfl, (blk_cell BK295.out 1).trans rfl, (blk_cell BK295.out 2).trans rfl, (blk_cell BK295.out 3).trans rfl, (blk_cell BK295.out 4).trans rfl⟩ (fun hHeld => ?_)
            clear hK K
            refine norm_ (a' := ?_) ?_ ?_
            rotate_left
            ·
             show Act.put _ (some 69) _ = _
             simp only [Act.put, List.setIfInBounds_toArray, List.set_cons_zero, List.set_cons_succ, i64_w, i32_w]
             rfl
            refine one_ (i := 4) (N := some 71) #[true, true, true, true, true, true, false, false, false, false, false, false, false, false, false] rfl rfl (one_of HT_.out (by kernel_rfl)) (by decide) (fun K hK => ?_)
            refine goes_ Tryd.func27 (by kernel_rfl) rfl #[.agg #[.int .i64 t298, .int .i64 t299, .int .u64 t300, .int .u64 t301, .int .u64 t302, .string t303], .agg #[.int .u64 t280, .int .u64 t281, .int .u64 t282, .string t283, .string t284], .bool false] (by rfl) rfl rfl (by (try simp only [List.map_toArray, List.map_cons, List.map_nil]); first | done | rfl | (simp only [List.length_drop, List.length_take]; rfl)) ?_
            with_reducible refine (impl_TildeHolds.calls t298 t299 t300 t301 t302 t303 t280 t281 t282 t283 t284 false t304 _ ?side1 A95.out).mono ?_
            (case side1 => exact HStd.out.below (by repeat (first | (with_reducible first | exact HB.out | apply below_alloc | apply pw_below_drewN | apply below_drew1 | refine below_set ?_ GE271.out | refine below_set ?_ GE272.out | refine below_set ?_ GE289.out | refine below_set ?_ GE295.out) | exact HB.out)))
            rintro e w101 ⟨rfl, hb⟩
            refine ⟨_, rfl, ?_⟩
            have n0_ := Aside0.mk (blk_below (g := gb271) (o := .cells #[.int .u64 t275, .int .u64 t276, .int .u64 t277, .string t278, .string t279] 26 (0, 0)) (by (with_reducible repeat (first | refine blk_drewN ?_ _ | refine blk_drew ?_ | refine blk_alloc ?_ _)); exact BK271.out) hb)
            have n1_ := Aside0.mk (blk_below (g := gb272) (o := .cells #[.int .u64 t280, .int .u64 t281, .int .u64 t282, .string t283, .string t284] 26 (0, 0)) (by (with_reducible repeat (first | refine blk_drewN ?_ _ | refine blk_drew ?_ | refine blk_alloc ?_ _)); exact BK272.out) hb)
            have n2_ := Aside0.mk (blk_below (g := gb289) (o := .cells #[.int .u64 x290000_46, .int .u64 x290001_46, .int .u64 x290002_46, .string x290003_46, .string x290004_46] 26 (0, 0)) (by (with_reducible repeat (first | refine blk_drewN ?_ _ | refine blk_drew ?_ | refine blk_alloc ?_ _)); exact BK289.out) hb)
            have n3_ := Aside0.mk (blk_below (g := gb295) (o := .cells #[.int .u64 t290, .int .u64 t291, .int .u64 t292, .string t293, .string t294] 26 (0, 0)) (by (with_reducible repeat (first | refine blk_drewN ?_ _ | refine blk_drew ?_ | refine blk_alloc ?_ _)); exact BK295.out) hb)
            have n4_ := Aside0.mk (below_step (by repeat (first | (with_reducible first | exact HB.out | apply below_alloc | apply pw_below_drewN | apply below_drew1 | refine below_set ?_ GE271.out | refine below_set ?_ GE272.out | refine below_set ?_ GE289.out | refine below_set ?_ GE295.out) | exact HB.out)) hb)
            clear BK271
            clear BK272
            clear BK289
            clear BK295
            clear HB
            have BK271 := n0_
            have BK272 := n1_
            have BK289 := n2_
            have BK295 := n3_
            have HB := n4_
            clear n0_ n1_ n2_ n3_ n4_
            (try clear hb)
            (try clear hb2)
            (try clear hk)
            (try clear hi)
            refine hK.out _ _ ⟨(blk_cell BK271.out 0).trans rfl, (blk_cell BK271.out 1).trans rfl, (blk_cell BK271.out 2).trans rfl, (blk_cell BK271.out 3).trans rfl, (blk_cell BK271.out 4).trans rfl, (blk_cell BK272.out 0).trans rfl, (blk_cell BK272.out 1).trans rfl, (blk_cell BK272.out 2).trans rfl, (blk_cell BK272.out 3).trans rfl, (blk_cell BK272.out 4).trans rfl, (blk_cell BK295.out 0).trans rfl, (blk_cell BK295.out 1).trans rfl, (blk_cell BK295.out 2).trans rfl, (blk_cell BK295.out 3).trans rfl, (blk_cell BK295.out 4).trans rfl⟩ (fun hHeld => ?_)
            clear hK K
            refine norm_ (a' := ?_) ?_ ?_
            rotate_left
            ·
             show Act.put _ (some 71) _ = _
             simp only [Act.put, List.setIfInBounds_toArray, List.set_cons_zero, List.set_cons_succ, i64_w, i32_w]
             rfl
            refine pure_ (i := 6) (N := some 73) (v := ?_) (a' := ?_) #[true, true, true, true, true, true, true, false, false, false, false, false, false, false, false] rfl rfl (any_of HT_.out (by kernel_rfl)) (fun _ _ _ h => h) (Or.inl ⟨by rfl, ?_⟩) ?_ ?_
            rotate_left
            ·
             intro w'
             go_simp
             with_reducible rfl
            rotate_left
            ·
             simp only [Act.put, List.setIfInBounds_toArray, List.set_cons_zero, List.set_cons_succ, i64_w, i32_w]
             rfl
            refine pure_ (i := 7) (N := some 74) (v := ?_) (a' := ?_) #[true, true, true, true, true, true, true, true, false, false, false, false, false, false, false] rfl rfl (any_of HT_.out (by kernel_rfl)) (fun _ _ _ h => h) (Or.inl ⟨by rfl, ?_⟩) ?_ ?_
            rotate_left
            ·
             intro w'
             go_simp
             with_reducible rfl
            rotate_left
            ·
             simp only [Act.put, List.setIfInBounds_toArray, List.set_cons_zero, List.set_cons_succ, i64_w, i32_w]
             rfl
            refine pure_ (i := 9) (N := some 76) (v := ?_) (a' := ?_) #[true, true, true, true, true, true, true, true, false, true, false, false, false, false, false] rfl rfl (any_of HT_.out (by kernel_rfl)) (fun _ _ _ h => h) (Or.inl ⟨by rfl, ?_⟩) ?_ ?_
            rotate_left
            ·
             intro w'
             go_simp
             with_reducible rfl
            rotate_left
            ·
             simp only [Act.put, List.setIfInBounds_toArray, List.set_cons_zero, List.set_cons_succ, i64_w, i32_w]
             rfl
            refine take_ (i := 8) (N := some 75) (v := ?_) (a' := ?_) #[true, true, true, true, true, true, true, true, true, true, false, false, false, false, false] rfl rfl (take_ofW HT_.out HW_.out (by kernel_rfl)) (fun _ _ _ h => h) (Or.inl ⟨by rfl, ?_⟩) hHeld ?_ ?_
            rotate_left
            ·
             rintro w' ⟨s0, s1, s2, s3, s4, s5, s6, s7, s8, s9, s10, s11, s12, s13, s14⟩
             go_simp
             with_reducible rfl
            rotate_left
            ·
             simp only [Act.put, List.setIfInBounds_toArray, List.set_cons_zero, List.set_cons_succ, i64_w, i32_w]
             rfl
            refine take_ (i := 11) (N := some 78) (v := ?_) (a' := ?_) #[true, true, true, true, true, true, true, true, true, true, false, true, false, false, false] rfl rfl (take_ofW HT_.out HW_.out (by kernel_rfl)) (fun _ _ _ h => h) (Or.inl ⟨by rfl, ?_⟩) hHeld ?_ ?_
            rotate_left
            ·
             rintro w' ⟨s0, s1, s2, s3, s4, s5, s6, s7, s8, s9, s10, s11, s12, s13, s14⟩
             go_simp
             with_reducible rfl
            rotate_left
            ·
             simp only [Act.put, List.setIfInBounds_toArray, List.set_cons_zero, List.set_cons_succ, i64_w, i32_w]
             rfl
            refine one_ (i := 10) (N := some 77) #[true, true, true, true, true, true, true, true, true, true, true, true, false, false, false] rfl rfl (one_of HT_.out (by kernel_rfl)) (by decide) (fun K hK => ?_)
            refine goes_ Tryd.func28 (by kernel_rfl) rfl #[.int .i64 0, .agg #[.int .u64 t275, .int .u64 t276, .int .u64 t277, .string t278, .string t279], .int .i64 a1] (by rfl) rfl rfl (by (try simp only [List.map_toArray, List.map_cons, List.map_nil]); first | done | rfl | (simp only [List.length_drop, List.length_take]; rfl)) ?_
            with_reducible refine (laws_stTerm.calls 0 t275 t276 t277 t278 t279 a1 t305 t306 t307 t308 t309 t310 _ A97.out).mono ?_
            rintro e w102 ⟨rfl, hb⟩
            refine ⟨_, rfl, ?_⟩
            have n0_ := Aside0.mk (blk_below (g := gb271) (o := .cells #[.int .u64 t275, .int .u64 t276, .int .u64 t277, .string t278, .string t279] 26 (0, 0)) (by (with_reducible repeat (first | refine blk_drewN ?_ _ | refine blk_drew ?_ | refine blk_alloc ?_ _)); exact BK271.out) hb)
            have n1_ := Aside0.mk (blk_below (g := gb272) (o := .cells #[.int .u64 t280, .int .u64 t281, .int .u64 t282, .string t283, .string t284] 26 (0, 0)) (by (with_reducible repeat (first | refine blk_drewN ?_ _ | refine blk_drew ?_ | refine blk_alloc ?_ _)); exact BK272.out) hb)
            have n2_ := Aside0.mk (blk_below (g := gb289) (o := .cells #[.int .u64 x290000_46, .int .u64 x290001_46, .int .u64 x290002_46, .string x290003_46, .string x290004_46] 26 (0, 0)) (by (with_reducible repeat (first | refine blk_drewN ?_ _ | refine blk_drew ?_ | refine blk_alloc ?_ _)); exact BK289.out) hb)
            have n3_ := Aside0.mk (blk_below (g := gb295) (o := .cells #[.int .u64 t290, .int .u64 t291, .int .u64 t292, .string t293, .string t294] 26 (0, 0)) (by (with_reducible repeat (first | refine blk_drewN ?_ _ | refine blk_drew ?_ | refine blk_alloc ?_ _)); exact BK295.out) hb)
            have n4_ := Aside0.mk (below_step (by repeat (first | (with_reducible first | exact HB.out | apply below_alloc | apply pw_below_drewN | apply below_drew1 | refine below_set ?_ GE271.out | refine below_set ?_ GE272.out | refine below_set ?_ GE289.out | refine below_set ?_ GE295.out) | exact HB.out)) hb)
            clear BK271
            clear BK272
            clear BK289
            clear BK295
            clear HB
            have BK271 := n0_
            have BK272 := n1_
            have BK289 := n2_
            have BK295 := n3_
            have HB := n4_
            clear n0_ n1_ n2_ n3_ n4_
            (try clear hb)
            (try clear hb2)
            (try clear hk)
            (try clear hi)
            refine hK.out _ _ ⟨(blk_cell BK271.out 0).trans rfl, (blk_cell BK271.out 1).trans rfl, (blk_cell BK271.out 2).trans rfl, (blk_cell BK271.out 3).trans rfl, (blk_cell BK271.out 4).trans rfl, (blk_cell BK272.out 0).trans rfl, (blk_cell BK272.out 1).trans rfl, (blk_cell BK272.out 2).trans rfl, (blk_cell BK272.out 3).trans rfl, (blk_cell BK272.out 4).trans rfl, (blk_cell BK295.out 0).trans rfl, (blk_cell BK295.out 1).trans rfl, (blk_cell BK295.out 2).trans rfl, (blk_cell BK295.out 3).trans rfl, (blk_cell BK295.out 4).trans rfl⟩ (fun hHeld => ?_)
            clear hK K
            refine norm_ (a' := ?_) ?_ ?_
            rotate_left
            ·
             show Act.put _ (some 77) _ = _
             simp only [Act.put, List.setIfInBounds_toArray, List.set_cons_zero, List.set_cons_succ, i64_w, i32_w]
             rfl
            refine one_ (i := 12) (N := some 79) #[true, true, true, true, true, true, true, true, true, true, true, true, true, false, false] rfl rfl (one_of HT_.out (by kernel_rfl)) (by decide) (fun K hK => ?_)
            refine goes_ Tryd.func27 (by kernel_rfl) rfl #[.agg #[.int .i64 t305, .int .i64 t306, .int .u64 t307, .int .u64 t308, .int .u64 t309, .string t310], .agg #[.int .u64 t290, .int .u64 t291, .int .u64 t292, .string t293, .string t294], .bool false] (by rfl) rfl rfl (by (try simp only [List.map_toArray, List.map_cons, List.map_nil]); first | done | rfl | (simp only [List.length_drop, List.length_take]; rfl)) ?_
            with_reducible refine (impl_TildeHolds.calls t305 t306 t307 t308 t309 t310 t290 t291 t292 t293 t294 false t311 _ ?side1 A98.out).mono ?_
            (case side1 => exact HStd.out.below (by repeat (first | (with_reducible first | exact HB.out | apply below_alloc | apply pw_below_drewN | apply below_drew1 | refine below_set ?_ GE271.out | refine below_set ?_ GE272.out | refine below_set ?_ GE289.out | refine below_set ?_ GE295.out) | exact HB.out)))
            rintro e w103 ⟨rfl, hb⟩
            refine ⟨_, rfl, ?_⟩
            have n0_ := Aside0.mk (blk_below (g := gb271) (o := .cells #[.int .u64 t275, .int .u64 t276, .int .u64 t277, .string t278, .string t279] 26 (0, 0)) (by (with_reducible repeat (first | refine blk_drewN ?_ _ | refine blk_drew ?_ | refine blk_alloc ?_ _)); exact BK271.out) hb)
            have n1_ := Aside0.mk (blk_below (g := gb272) (o := .cells #[.int .u64 t280, .int .u64 t281, .int .u64 t282, .string t283, .string t284] 26 (0, 0)) (by (with_reducible repeat (first | refine blk_drewN ?_ _ | refine blk_drew ?_ | refine blk_alloc ?_ _)); exact BK272.out) hb)
            have n2_ := Aside0.mk (blk_below (g := gb289) (o := .cells #[.int .u64 x290000_46, .int .u64 x290001_46, .int .u64 x290002_46, .string x290003_46, .string x290004_46] 26 (0, 0)) (by (with_reducible repeat (first | refine blk_drewN ?_ _ | refine blk_drew ?_ | refine blk_alloc ?_ _)); exact BK289.out) hb)
            have n3_ := Aside0.mk (blk_below (g := gb295) (o := .cells #[.int .u64 t290, .int .u64 t291, .int .u64 t292, .string t293, .string t294] 26 (0, 0)) (by (with_reducible repeat (first | refine blk_drewN ?_ _ | refine blk_drew ?_ | refine blk_alloc ?_ _)); exact BK295.out) hb)
            have n4_ := Aside0.mk (below_step (by repeat (first | (with_reducible first | exact HB.out | apply below_alloc | apply pw_below_drewN | apply below_drew1 | refine below_set ?_ GE271.out | refine below_set ?_ GE272.out | refine below_set ?_ GE289.out | refine below_set ?_ GE295.out) | exact HB.out)) hb)
            clear BK271
            clear BK272
            clear BK289
            clear BK295
            clear HB
            have BK271 := n0_
            have BK272 := n1_
            have BK289 := n2_
            have BK295 := n3_
            have HB := n4_
            clear n0_ n1_ n2_ n3_ n4_
            (try clear hb)
            (try clear hb2)
            (try clear hk)
            (try clear hi)
            refine hK.out _ _ ⟨(blk_cell BK271.out 0).trans rfl, (blk_cell BK271.out 1).trans rfl, (blk_cell BK271.out 2).trans rfl, (blk_cell BK271.out 3).trans rfl, (blk_cell BK271.out 4).trans rfl, (blk_cell BK272.out 0).trans rfl, (blk_cell BK272.out 1).trans rfl, (blk_cell BK272.out 2).trans rfl, (blk_cell BK272.out 3).trans rfl, (blk_cell BK272.out 4).trans rfl, (blk_cell BK295.out 0).trans rfl, (blk_cell BK295.out 1).trans rfl, (blk_cell BK295.out 2).trans rfl, (blk_cell BK295.out 3).trans rfl, (blk_cell BK295.out 4).trans rfl⟩ (fun hHeld => ?_)
            clear hK K
            refine norm_ (a' := ?_) ?_ ?_
            rotate_left
            ·
             show Act.put _ (some 79) _ = _
             simp only [Act.put, List.setIfInBounds_toArray, List.set_cons_zero, List.set_cons_succ, i64_w, i32_w]
             rfl
            refine pure_ (i := 13) (N := some 80) (v := ?_) (a' := ?_) #[true, true, true, true, true, true, true, true, true, true, true, true, true, true, false] rfl rfl (any_of HT_.out (by kernel_rfl)) (fun _ _ _ h => h) (Or.inl ⟨by rfl, ?_⟩) ?_ ?_
            rotate_left
            ·
             intro w'
             go_simp
             with_reducible rfl
            rotate_left
            ·
             simp only [Act.put, List.setIfInBounds_toArray, List.set_cons_zero, List.set_cons_succ, i64_w, i32_w]
             rfl
            refine pure_ (i := 14) (N := some 6) (v := ?_) (a' := ?_) #[true, true, true, true, true, true, true, true, true, true, true, true, true, true, true] rfl rfl (any_of HT_.out (by kernel_rfl)) (fun _ _ _ h => h) (Or.inl ⟨by rfl, ?_⟩) ?_ ?_
            rotate_left
            ·
             intro w'
             go_simp
             with_reducible rfl
            rotate_left
            ·
             simp only [Act.put, List.setIfInBounds_toArray, List.set_cons_zero, List.set_cons_succ, i64_w, i32_w]
             rfl
            refine done_ (done_of HT_.out (by kernel_rfl)) ?_
            try go_wp2
            go_ret
            exact ⟨by first | rfl | (simp [errW_none, errW_some] <;> rfl) | (simp [*, errW_none, errW_some] <;> rfl) | (simp [bneNil]; done), by repeat (first | (with_reducible first | exact HB.out | apply below_alloc | apply pw_below_drewN | apply below_drew1 | refine below_set ?_ GE271.out | refine below_set ?_ GE272.out | refine below_set ?_ GE289.out | refine below_set ?_ GE295.out) | exact HB.out)⟩
           ·
            rw [if_neg c96] at H
            have c96b0 : (t304 == x10_60) = false := by simpa using c96
            (try (have c96b1 : decide (t304 = x10_60) = false := by simpa using c96))
            (try (have c96b2 : (t304 == x10_60) = false := by simpa using c96))
            (try (have c96b3 : ¬ (t304 = x10_60) := by simpa using c96))
            clear c96
            obtain rfl := Option.some.inj H
            try go_wp2
            have n0_ := Aside0.mk (blk_drew BK271.out)
            have n1_ := Aside0.mk (blk_drew BK272.out)
            have n2_ := Aside0.mk (blk_drew BK289.out)
            have n3_ := Aside0.mk (blk_drew BK295.out)
            have n4_ := Aside0.mk (below_drew1 HB.out)
            clear BK271
            clear BK272
            clear BK289
            clear BK295
            clear HB
            have BK271 := n0_
            have BK272 := n1_
            have BK289 := n2_
            have BK295 := n3_
            have HB := n4_
            clear n0_ n1_ n2_ n3_ n4_
            refine start_ (n := 15) (S := fun w' => w'.cell? ⟨gb271, 0, none⟩ = some (.int .u64 t275) ∧ w'.cell? ⟨gb271, 1, none⟩ = some (.int .u64 t276) ∧ w'.cell? ⟨gb271, 2, none⟩ = some (.int .u64 t277) ∧ w'.cell? ⟨gb271, 3, none⟩ = some (.string t278) ∧ w'.cell? ⟨gb271, 4, none⟩ = some (.string t279) ∧ w'.cell? ⟨gb272, 0, none⟩ = some (.int .u64 t280) ∧ w'.cell? ⟨gb272, 1, none⟩ = some (.int .u64 t281) ∧ w'.cell? ⟨gb272, 2, none⟩ = some (.int .u64 t282) ∧ w'.cell? ⟨gb272, 3, none⟩ = some (.string t283) ∧ w'.cell? ⟨gb272, 4, none⟩ = some (.string t284)) (ds := []) #[false, false, false, false, false, false, false, false, false, false, false, false, false, false, false] (by kernel_rfl) rfl rfl ⟨(blk_cell BK271.out 0).trans rfl, (blk_cell BK271.out 1).trans rfl, (blk_cell BK271.out 2).trans rfl, (blk_cell BK271.out 3).trans rfl, (blk_cell BK271.out 4).trans rfl, (blk_cell BK272.out 0).trans rfl, (blk_cell BK272.out 1).trans rfl, (blk_cell BK272.out 2).trans rfl, (blk_cell BK272.out 3).trans rfl, (blk_cell BK272.out 4).trans rfl⟩ (fun hHeld => ?_); refine with_tabW laws_FnSemverTildeInterval.tab11 laws_FnSemverTildeInterval.bits11 (fun HT_ HW_ => ?_)
            generalize wc.drew = w104 at BK271 BK272 BK289 BK295 HB hHeld ⊢
            refine pure_ (i := 1) (N := some 68) (v := ?_) (a' := ?_) #[false, true, false, false, false, false, false, false, false, false, false, false, false, false, false] rfl rfl (any_of HT_.out (by kernel_rfl)) (fun _ _ _ h => h) (Or.inl ⟨by rfl, ?_⟩) ?_ ?_
            rotate_left
            ·
             intro w'
             go_simp
             with_reducible rfl
            rotate_left
            ·
             simp only [Act.put, List.setIfInBounds_toArray, List.set_cons_zero, List.set_cons_succ, i64_w, i32_w]
             rfl
            refine pure_ (i := 5) (N := some 72) (v := ?_) (a' := ?_) #[false, true, false, false, false, true, false, false, false, false, false, false, false, false, false] rfl rfl (any_of HT_.out (by kernel_rfl)) (fun _ _ _ h => h) (Or.inl ⟨by rfl, ?_⟩) ?_ ?_
            rotate_left
            ·
             intro w'
             go_simp
             with_reducible rfl
            rotate_left
            ·
             simp only [Act.put, List.setIfInBounds_toArray, List.set_cons_zero, List.set_cons_succ, i64_w, i32_w]
             rfl
            refine take_ (i := 0) (N := some 67) (v := ?_) (a' := ?_) #[true, true, false, false, false, true, false, false, false, false, false, false, false, false, false] rfl rfl (take_ofW HT_.out HW_.out (by kernel_rfl)) (fun _ _ _ h => h) (Or.inl ⟨by rfl, ?_⟩) hHeld ?_ ?_
            rotate_left
            ·
             rintro w' ⟨s0, s1, s2, s3, s4, s5, s6, s7, s8, s9⟩
             go_simp
             with_reducible rfl
            rotate_left
            ·
             simp only [Act.put, List.setIfInBounds_toArray, List.set_cons_zero, List.set_cons_succ, i64_w, i32_w]
             rfl
            refine take_ (i := 3) (N := some 70) (v := ?_) (a' := ?_) #[true, true, false, true, false, true, false, false, false, false, false, false, false, false, false] rfl rfl (take_ofW HT_.out HW_.out (by kernel_rfl)) (fun _ _ _ h => h) (Or.inl ⟨by rfl, ?_⟩) hHeld ?_ ?_
            rotate_left
            ·
             rintro w' ⟨s0, s1, s2, s3, s4, s5, s6, s7, s8, s9⟩
             go_simp
             with_reducible rfl
            rotate_left
            ·
             simp only [Act.put, List.setIfInBounds_toArray, List.set_cons_zero, List.set_cons_succ, i64_w, i32_w]
             rfl
            refine one_ (i := 2) (N := some 69) #[true, true, true, true, false, true, false, false, false, false, false, false, false, false, false] rfl rfl (one_of HT_.out (by kernel_rfl)) (by decide) (fun K hK => ?_)
            refine goes_ Tryd.func28 (by kernel_rfl) rfl #[.int .i64 0, .agg #[.int .u64 t275, .int .u64 t276, .int .u64 t277, .string t278, .string t279], .int .i64 a1] (by rfl) rfl rfl (by (try simp only [List.map_toArray, List.map_cons, List.map_nil]); first | done | rfl | (simp only [List.length_drop, List.length_take]; rfl)) ?_
            with_reducible refine (laws_stTerm.calls 0 t275 t276 t277 t278 t279 a1 t298 t299 t300 t301 t302 t303 _ A94.out).mono ?_
            rintro e w105 ⟨rfl, hb⟩
            refine ⟨_, rfl, ?_⟩
            have n0_ := Aside0.mk (blk_below (g := gb271) (o := .cells #[.int .u64 t275, .int .u64 t276, .int .u64 t277, .string t278, .string t279] 26 (0, 0)) (by (with_reducible repeat (first | refine blk_drewN ?_ _ | refine blk_drew ?_ | refine blk_alloc ?_ _)); exact BK271.out) hb)
            have n1_ := Aside0.mk (blk_below (g := gb272) (o := .cells #[.int .u64 t280, .int .u64 t281, .int .u64 t282, .string t283, .string t284] 26 (0, 0)) (by (with_reducible repeat (first | refine blk_drewN ?_ _ | refine blk_drew ?_ | refine blk_alloc ?_ _)); exact BK272.out) hb)
            have n2_ := Aside0.mk (blk_below (g := gb289) (o := .cells #[.int .u64 x290000_46, .int .u64 x290001_46, .int .u64 x290002_46, .string x290003_46, .string x290004_46] 26 (0, 0)) (by (with_reducible repeat (first | refine blk_drewN ?_ _ | refine blk_drew ?_ | refine blk_alloc ?_ _)); exact BK289.out) hb)
            have n3_ := Aside0.mk (blk_below (g := gb295) (o := .cells #[.int .u64 t290, .int .u64 t291, .int .u64 t292, .string t293, .string t294] 26 (0, 0)) (by (with_reducible repeat (first | refine blk_drewN ?_ _ | refine blk_drew ?_ | refine blk_alloc ?_ _)); exact BK295.out) hb)
            have n4_ := Aside0.mk (below_step (by repeat (first | (with_reducible first | exact HB.out | apply below_alloc | apply pw_below_drewN | apply below_drew1 | refine below_set ?_ GE271.out | refine below_set ?_ GE272.out | refine below_set ?_ GE289.out | refine below_set ?_ GE295.out) | exact HB.out)) hb)
            clear BK271
            clear BK272
            clear BK289
            clear BK295
            clear HB
            have BK271 := n0_
            have BK272 := n1_
            have BK289 := n2_
            have BK295 := n3_
            have HB := n4_
            clear n0_ n1_ n2_ n3_ n4_
            (try clear hb)
            (try clear hb2)
            (try clear hk)
            (try clear hi)
            refine hK.out _ _ ⟨(blk_cell BK271.out 0).trans rfl, (blk_cell BK271.out 1).trans rfl, (blk_cell BK271.out 2).trans rfl, (blk_cell BK271.out 3).trans rfl, (blk_cell BK271.out 4).trans rfl, (blk_cell BK272.out 0).trans rfl, (blk_cell BK272.out 1).trans rfl, (blk_cell BK272.out 2).trans rfl, (blk_cell BK272.out 3).trans rfl, (blk_cell BK272.out 4).trans rfl⟩ (fun hHeld => ?_)
            clear hK K
            refine norm_ (a' := ?_) ?_ ?_
            rotate_left
            ·
             show Act.put _ (some 69) _ = _
             simp only [Act.put, List.setIfInBounds_toArray, List.set_cons_zero, List.set_cons_succ, i64_w, i32_w]
             rfl
            refine one_ (i := 4) (N := some 71) #[true, true, true, true, true, true, false, false, false, false, false, false, false, false, false] rfl rfl (one_of HT_.out (by kernel_rfl)) (by decide) (fun K hK => ?_)
            refine goes_ Tryd.func27 (by kernel_rfl) rfl #[.agg #[.int .i64 t298, .int .i64 t299, .int .u64 t300, .int .u64 t301, .int .u64 t302, .string t303], .agg #[.int .u64 t280, .int .u64 t281, .int .u64 t282, .string t283, .string t284], .bool false] (by rfl) rfl rfl (by (try simp only [List.map_toArray, List.map_cons, List.map_nil]); first | done | rfl | (simp only [List.length_drop, List.length_take]; rfl)) ?_
            with_reducible refine (impl_TildeHolds.calls t298 t299 t300 t301 t302 t303 t280 t281 t282 t283 t284 false t304 _ ?side1 A95.out).mono ?_
            (case side1 => exact HStd.out.below (by repeat (first | (with_reducible first | exact HB.out | apply below_alloc | apply pw_below_drewN | apply below_drew1 | refine below_set ?_ GE271.out | refine below_set ?_ GE272.out | refine below_set ?_ GE289.out | refine below_set ?_ GE295.out) | exact HB.out)))
            rintro e w106 ⟨rfl, hb⟩
            refine ⟨_, rfl, ?_⟩
            have n0_ := Aside0.mk (blk_below (g := gb271) (o := .cells #[.int .u64 t275, .int .u64 t276, .int .u64 t277, .string t278, .string t279] 26 (0, 0)) (by (with_reducible repeat (first | refine blk_drewN ?_ _ | refine blk_drew ?_ | refine blk_alloc ?_ _)); exact BK271.out) hb)
            have n1_ := Aside0.mk (blk_below (g := gb272) (o := .cells #[.int .u64 t280, .int .u64 t281, .int .u64 t282, .string t283, .string t284] 26 (0, 0)) (by (with_reducible repeat (first | refine blk_drewN ?_ _ | refine blk_drew ?_ | refine blk_alloc ?_ _)); exact BK272.out) hb)
            have n2_ := Aside0.mk (blk_below (g := gb289) (o := .cells #[.int .u64 x290000_46, .int .u64 x290001_46, .int .u64 x290002_46, .string x290003_46, .string x290004_46] 26 (0, 0)) (by (with_reducible repeat (first | refine blk_drewN ?_ _ | refine blk_drew ?_ | refine blk_alloc ?_ _)); exact BK289.out) hb)
            have n3_ := Aside0.mk (blk_below (g := gb295) (o := .cells #[.int .u64 t290, .int .u64 t291, .int .u64 t292, .string t293, .string t294] 26 (0, 0)) (by (with_reducible repeat (first | refine blk_drewN ?_ _ | refine blk_drew ?_ | refine blk_alloc ?_ _)); exact BK295.out) hb)
            have n4_ := Aside0.mk (below_step (by repeat (first | (with_reducible first | exact HB.out | apply below_alloc | apply pw_below_drewN | apply below_drew1 | refine below_set ?_ GE271.out | refine below_set ?_ GE272.out | refine below_set ?_ GE289.out | refine below_set ?_ GE295.out) | exact HB.out)) hb)
            clear BK271
            clear BK272
            clear BK289
            clear BK295
            clear HB
            have BK271 := n0_
            have BK272 := n1_
            have BK289 := n2_
            have BK295 := n3_
            have HB := n4_
            clear n0_ n1_ n2_ n3_ n4_
            (try clear hb)
            (try clear hb2)
            (try clear hk)
            (try clear hi)
            refine hK.out _ _ ⟨(blk_cell BK271.out 0).trans rfl, (blk_cell BK271.out 1).trans rfl, (blk_cell BK271.out 2).trans rfl, (blk_cell BK271.out 3).trans rfl, (blk_cell BK271.out 4).trans rfl, (blk_cell BK272.out 0).trans rfl, (blk_cell BK272.out 1).trans rfl, (blk_cell BK272.out 2).trans rfl, (blk_cell BK272.out 3).trans rfl, (blk_cell BK272.out 4).trans rfl⟩ (fun hHeld => ?_)
            clear hK K
            refine norm_ (a' := ?_) ?_ ?_
            rotate_left
            ·
             show Act.put _ (some 71) _ = _
             simp only [Act.put, List.setIfInBounds_toArray, List.set_cons_zero, List.set_cons_succ, i64_w, i32_w]
             rfl
            refine pure_ (i := 6) (N := some 73) (v := ?_) (a' := ?_) #[true, true, true, true, true, true, true, false, false, false, false, false, false, false, false] rfl rfl (any_of HT_.out (by kernel_rfl)) (fun _ _ _ h => h) (Or.inl ⟨by rfl, ?_⟩) ?_ ?_
            rotate_left
            ·
             intro w'
             go_simp
             with_reducible rfl
            rotate_left
            ·
             simp only [Act.put, List.setIfInBounds_toArray, List.set_cons_zero, List.set_cons_succ, i64_w, i32_w]
             rfl
            refine pure_ (i := 7) (N := some 74) (v := ?_) (a' := ?_) #[true, true, true, true, true, true, true, true, false, false, false, false, false, false, false] rfl rfl (any_of HT_.out (by kernel_rfl)) (fun _ _ _ h => h) (Or.inl ⟨by rfl, ?_⟩) ?_ ?_
            rotate_left
            ·
             intro w'
             go_simp
             with_reducible rfl
            rotate_left
            ·
             simp only [Act.put, List.setIfInBounds_toArray, List.set_cons_zero, List.set_cons_succ, i64_w, i32_w]
             rfl
            refine pure_ (i := 8) (N := some 75) (v := undef) (a' := ?_) #[true, true, true, true, true, true, true, true, true, false, false, false, false, false, false] rfl rfl (any_of HT_.out (by kernel_rfl)) (fun _ _ _ h => h) (Or.inr ⟨by rfl, rfl⟩) ?_ ?_
            rotate_left
            ·
             simp only [Act.put, List.setIfInBounds_toArray, List.set_cons_zero, List.set_cons_succ, i64_w, i32_w]
             rfl
            refine pure_ (i := 9) (N := some 76) (v := undef) (a' := ?_) #[true, true, true, true, true, true, true, true, true, true, false, false, false, false, false] rfl rfl (any_of HT_.out (by kernel_rfl)) (fun _ _ _ h => h) (Or.inr ⟨by rfl, rfl⟩) ?_ ?_
            rotate_left
            ·
             simp only [Act.put, List.setIfInBounds_toArray, List.set_cons_zero, List.set_cons_succ, i64_w, i32_w]
             rfl
            refine pure_ (i := 10) (N := some 77) (v := undef) (a' := ?_) #[true, true, true, true, true, true, true, true, true, true, true, false, false, false, false] rfl rfl (any_of HT_.out (by kernel_rfl)) (fun _ _ _ h => h) (Or.inr ⟨by rfl, rfl⟩) ?_ ?_
            rotate_left
            ·
             simp only [Act.put, List.setIfInBounds_toArray, List.set_cons_zero, List.set_cons_succ, i64_w, i32_w]
             rfl
            refine pure_ (i := 11) (N := some 78) (v := undef) (a' := ?_) #[true, true, true, true, true, true, true, true, true, true, true, true, false, false, false] rfl rfl (any_of HT_.out (by kernel_rfl)) (fun _ _ _ h => h) (Or.inr ⟨by rfl, rfl⟩) ?_ ?_
            rotate_left
            ·
             simp only [Act.put, List.setIfInBounds_toArray, List.set_cons_zero, List.set_cons_succ, i64_w, i32_w]
             rfl
            refine pure_ (i := 12) (N := some 79) (v := undef) (a' := ?_) #[true, true, true, true, true, true, true, true, true, true, true, true, true, false, false] rfl rfl (any_of HT_.out (by kernel_rfl)) (fun _ _ _ h => h) (Or.inr ⟨by rfl, rfl⟩) ?_ ?_
            rotate_left
            ·
             simp only [Act.put, List.setIfInBounds_toArray, List.set_cons_zero, List.set_cons_succ, i64_w, i32_w]
             rfl
            refine pure_ (i := 13) (N := some 80) (v := ?_) (a' := ?_) #[true, true, true, true, true, true, true, true, true, true, true, true, true, true, false] rfl rfl (any_of HT_.out (by kernel_rfl)) (fun _ _ _ h => h) (Or.inl ⟨by rfl, ?_⟩) ?_ ?_
            rotate_left
            ·
             intro w'
             go_simp
             with_reducible rfl
            rotate_left
            ·
             simp only [Act.put, List.setIfInBounds_toArray, List.set_cons_zero, List.set_cons_succ, i64_w, i32_w]
             rfl
            refine pure_ (i := 14) (N := some 6) (v := ?_) (a' := ?_) #[true, true, true, true, true, true, true, true, true, true, true, true, true, true, true] rfl rfl (any_of HT_.out (by kernel_rfl)) (fun _ _ _ h => h) (Or.inl ⟨by rfl, ?_⟩) ?_ ?_
            rotate_left
            ·
             intro w'
             go_simp
             with_reducible rfl
            rotate_left
            ·
             simp only [Act.put, List.setIfInBounds_toArray, List.set_cons_zero, List.set_cons_succ, i64_w, i32_w]
             rfl
            refine done_ (done_of HT_.out (by kernel_rfl)) ?_
            try go_wp2
            go_ret
            exact ⟨by first | rfl | (simp [errW_none, errW_some] <;> rfl) | (simp [*, errW_none, errW_some] <;> rfl) | (simp [bneNil]; done), by repeat (first | (with_reducible first | exact HB.out | apply below_alloc | apply pw_below_drewN | apply below_drew1 | refine below_set ?_ GE271.out | refine below_set ?_ GE272.out | refine below_set ?_ GE289.out | refine below_set ?_ GE295.out) | exact HB.out)⟩

end Go.Proofs.YtllkoadcpobdaaaDoor.PX
