/- The row and the tied card of FnSemverTermsNamed, out of its printed walk and its plain law. For every input that the statement lets in. -/
import Derived.Test.YtllkoadcpobdaaaDoorZCardSemverTermsNamed6
namespace Go.Proofs.YtllkoadcpobdaaaDoor.PX

open Go.RowKit Go.Proofs.YtllkoadcpobdaaaDoorW.PrintWords Go.Proofs.YtllkoadcpobdaaaDoorW.PrintLast Go.Proofs.YtllkoadcpobdaaaDoorW.PrintMore

attribute [local go_sem] max2_int min2_int max_two min_two max_three min_three max_four min_four   -- for this text's walks alone

set_option linter.unusedVariables false

set_option linter.unusedSimpArgs false

set_option maxHeartbeats 80000000 in
set_option maxRecDepth 100000 in
theorem laws_zzFits12.calls (k : Nat) (A0 : Option Addr) (c0 : Nat) (l0 : List (S24)) (r : Bool) (w : World) (hr0 : Kd.C k24 w A0 l0.length l0) (hc0 : l0.length ≤ c0) (h : laws_zzFits12.f k l0 = some r) :
  Calls Tryd.prog 34 #[.slice A0 l0.length c0] w fun e w' => e = .returned (.bool r) ∧ Below w.heap.size w w' := by
 have hu24 := Tryd.underlying24
 have HR0 := Aside0.mk hr0
 have HC0 := Aside0.mk hc0
 clear hr0 hc0
 have HB := Aside0.mk (Below.refl w.heap.size w)
 have H : (if (l0.length : Int) > 2147483647 then (some false) else (laws_zzFits12.l0 k l0 (l0.length : Int) 0)) = some r := h
 clear h
 by_cases c2 : (l0.length : Int) > 2147483647
 ·
  rw [if_pos c2] at H
  have c2b0 : decide (2147483647 < (l0.length : Int)) = true := decide_eq_true c2
  have c2b1 : decide (2147483647 < l0.length) = true := decide_eq_true (by omega)
  clear c2
  obtain rfl := Option.some.inj H
  go_enter Tryd.func34, Tryd.ntmps34
  go_wp2
  go_ret
  exact ⟨by first | rfl | (simp [errW_none, errW_some] <;> rfl) | (simp [*, errW_none, errW_some] <;> rfl) | (simp [bneNil]; done), by repeat (first | (with_reducible first | exact HB.out | apply below_alloc | apply pw_below_drewN | apply below_drew1) | exact HB.out)⟩
 ·
  rw [if_neg c2] at H
  have c2b0 : decide (2147483647 < (l0.length : Int)) = false := decide_eq_false c2
  have c2b1 : decide (2147483647 < l0.length) = false := decide_eq_false (by omega)
  clear c2
  have H' := Aside0.mk H
  clear H
  go_enter Tryd.func34, Tryd.ntmps34
  go_wp2
  go_loopg [10] k (fun kq v10 w' => ∃ (x10_1 : Int), v10 = .int .i64 x10_1 ∧ Aside0 (laws_zzFits12.l0 kq l0 (l0.length : Int) x10_1 = some r) ∧ Aside0 (kq ≤ k) ∧ Aside0 (Below w.heap.size w w'))
  case atStart => exact ⟨(0), (by first | rfl | (simp; done) | (simp [*]; done)), H', ⟨Nat.le_refl _⟩, ⟨by repeat (first | (with_reducible first | exact HB.out | apply below_alloc | apply pw_below_drewN | apply below_drew1) | exact HB.out)⟩⟩
  case round =>
   clear H'
   try clear c2
   try clear c2b0
   try clear c2b1
   try clear p2
   obtain ⟨x10_1, rfl, HA, HK1, HB⟩ := hrel
   cases gk with
   | zero => exact absurd HA.out (by simp [laws_zzFits12.l0])
   | succ k1 =>
    have H := HA.out
    clear HA
    simp only [laws_zzFits12.l0] at H
    by_cases c3 : x10_1 < (l0.length : Int)
    ·
     rw [if_pos c3] at H
     have c3b0 : decide (x10_1 < (l0.length : Int)) = true := decide_eq_true c3
     clear c3
     by_cases c4 : 0 ≤ x10_1
     ·
      rw [if_pos c4] at H
      have c4b0 : decide (0 ≤ x10_1) = true := decide_eq_true c4
      clear c4
      by_cases c5 : x10_1 < (l0.length : Int)
      ·
       rw [if_pos c5] at H
       have c5b0 : decide (x10_1 < (l0.length : Int)) = true := decide_eq_true c5
       clear c5
       replace H := Option.bind_eq_some_iff.mp H
       obtain ⟨t372, A60, H⟩ := H
       replace H : (if t372 = true then (laws_zzFits12.l0 k1 l0 (l0.length : Int) (wrap64 (x10_1 + 1))) else (some false)) = some r := H
       have A6 := Aside0.mk A60
       clear A60
       by_cases c7 : t372 = true
       ·
        subst c7
        have H1 : (laws_zzFits12.l0 k1 l0 (l0.length : Int) (wrap64 (x10_1 + 1))) = some r := by rw [if_pos rfl] at H; exact H
        clear H
        have H := H1
        clear H1
        have H' := Aside0.mk H
        clear H
        have p370 : 0 ≤ (x10_1 : Int) := of_decide_eq_true (by first | (with_reducible assumption) | assumption)
        have q370 : x10_1 < (l0.length : Int) := of_decide_eq_true (by first | (with_reducible assumption) | assumption)
        obtain ⟨ad370, e370, hx370_0, hx370_1, hx370_2, hx370_3, hx370_4, hx370_5⟩ := at_T24 HR0.out x10_1 p370 q370
        cases e370
        replace hx370_0 := (HB.out.cell (World.block_lt_of_cell? w _ hx370_0)).trans hx370_0
        replace hx370_1 := (HB.out.cell (World.block_lt_of_cell? w _ hx370_1)).trans hx370_1
        replace hx370_2 := (HB.out.cell (World.block_lt_of_cell? w _ hx370_2)).trans hx370_2
        replace hx370_3 := (HB.out.cell (World.block_lt_of_cell? w _ hx370_3)).trans hx370_3
        replace hx370_4 := (HB.out.cell (World.block_lt_of_cell? w _ hx370_4)).trans hx370_4
        replace hx370_5 := (HB.out.cell (World.block_lt_of_cell? w _ hx370_5)).trans hx370_5
        replace p370 := eq_true p370
        replace q370 := eq_true q370
        go_wp2_with (first | ((with_reducible refine gate_dst (N := 4) rfl ?_); refine box_event ?hg (N := 4) ?hd (cs := #[.int .i64 0, .int .i64 0, .int .u64 0, .int .u64 0, .int .u64 0, .string (⟨#[]⟩ : ByteArray)]) (t := 24) ?hr ?_; (case hd => rfl); (case hg => rfl); (case hr => first | (go_simp; done) | (go_simp; rfl) | (go_simp; simp [u8w]; done)); intro gb371 hg w8 hbox hb; have n0_ := Aside0.mk (below_step (by repeat (first | (with_reducible first | exact HB.out | apply below_alloc | apply pw_below_drewN | apply below_drew1) | exact HB.out)) hb); have n1_ := Aside0.mk (hbox); have n2_ := Aside0.mk ((by rw [hg]; exact (below_size (by repeat (first | (with_reducible first | exact HB.out | apply below_alloc | apply pw_below_drewN | apply below_drew1) | exact HB.out))) : w.heap.size ≤ gb371)); have n3_ := Aside0.mk ((by rw [hg]; exact (below_size (by repeat (first | (with_reducible first | exact HB.out | apply below_alloc | apply pw_below_drewN | apply below_drew1) | exact HB.out))) : w.heap.size ≤ gb371)); clear HB; have HB := n0_; have BK371 := n1_; have GW371 := n2_; have GE371 := n3_; clear n0_ n1_ n2_ n3_; clear hb hbox hg; have hcz9_0 : w8.cell? ⟨gb371, 0, none⟩ = some (.int .i64 0) := (blk_cell BK371.out 0).trans rfl; have hcz9_1 : w8.cell? ⟨gb371, 1, none⟩ = some (.int .i64 0) := (blk_cell BK371.out 1).trans rfl; have hcz9_2 : w8.cell? ⟨gb371, 2, none⟩ = some (.int .u64 0) := (blk_cell BK371.out 2).trans rfl; have hcz9_3 : w8.cell? ⟨gb371, 3, none⟩ = some (.int .u64 0) := (blk_cell BK371.out 3).trans rfl; have hcz9_4 : w8.cell? ⟨gb371, 4, none⟩ = some (.int .u64 0) := (blk_cell BK371.out 4).trans rfl; have hcz9_5 : w8.cell? ⟨gb371, 5, none⟩ = some (.string (⟨#[]⟩ : ByteArray)) := (blk_cell BK371.out 5).trans rfl; have hfz9_0 := blk_frozen BK371.out 0; have hfz9_1 := blk_frozen BK371.out 1; have hfz9_2 := blk_frozen BK371.out 2; have hfz9_3 := blk_frozen BK371.out 3; have hfz9_4 := blk_frozen BK371.out 4; have hfz9_5 := blk_frozen BK371.out 5) | ((with_reducible refine gate_callee (f := 13) rfl ?_); refine goesL_ (some 15) rfl rfl Tryd.func13 (by kernel_rfl) rfl #[.agg #[.int .i64 ((rd_T24 l0 x10_1).f0), .int .i64 ((rd_T24 l0 x10_1).f1), .int .u64 ((rd_T24 l0 x10_1).f2), .int .u64 ((rd_T24 l0 x10_1).f3), .int .u64 ((rd_T24 l0 x10_1).f4), .string ((rd_T24 l0 x10_1).f5)]] rfl (by (try simp only [List.map_toArray, List.map_cons, List.map_nil]); first | done | rfl | (simp only [List.length_drop, List.length_take]; rfl)) ?_; (with_reducible refine (laws_zzFits13.calls ((rd_T24 l0 x10_1).f0) ((rd_T24 l0 x10_1).f1) ((rd_T24 l0 x10_1).f2) ((rd_T24 l0 x10_1).f3) ((rd_T24 l0 x10_1).f4) ((rd_T24 l0 x10_1).f5) true _ A6.out).mono ?_); rintro e w10 ⟨rfl, hb⟩; refine ⟨_, rfl, ?_⟩; have n0_ := Aside0.mk (blk_below (g := gb371) (o := .cells #[.int .i64 ((rd_T24 l0 x10_1).f0), .int .i64 ((rd_T24 l0 x10_1).f1), .int .u64 ((rd_T24 l0 x10_1).f2), .int .u64 ((rd_T24 l0 x10_1).f3), .int .u64 ((rd_T24 l0 x10_1).f4), .string ((rd_T24 l0 x10_1).f5)] 24 (0, 0)) (by (with_reducible repeat (first | refine blk_drewN ?_ _ | refine blk_drew ?_ | refine blk_alloc ?_ _)); refine blk_put (cs := #[.int .i64 ((rd_T24 l0 x10_1).f0), .int .i64 ((rd_T24 l0 x10_1).f1), .int .u64 ((rd_T24 l0 x10_1).f2), .int .u64 ((rd_T24 l0 x10_1).f3), .int .u64 ((rd_T24 l0 x10_1).f4), .string (⟨#[]⟩ : ByteArray)]) ?_ 5 _ rfl; (with_reducible repeat (first | refine blk_drewN ?_ _ | refine blk_drew ?_ | refine blk_alloc ?_ _)); refine blk_put (cs := #[.int .i64 ((rd_T24 l0 x10_1).f0), .int .i64 ((rd_T24 l0 x10_1).f1), .int .u64 ((rd_T24 l0 x10_1).f2), .int .u64 ((rd_T24 l0 x10_1).f3), .int .u64 0, .string (⟨#[]⟩ : ByteArray)]) ?_ 4 _ rfl; (with_reducible repeat (first | refine blk_drewN ?_ _ | refine blk_drew ?_ | refine blk_alloc ?_ _)); refine blk_put (cs := #[.int .i64 ((rd_T24 l0 x10_1).f0), .int .i64 ((rd_T24 l0 x10_1).f1), .int .u64 ((rd_T24 l0 x10_1).f2), .int .u64 0, .int .u64 0, .string (⟨#[]⟩ : ByteArray)]) ?_ 3 _ rfl; (with_reducible repeat (first | refine blk_drewN ?_ _ | refine blk_drew ?_ | refine blk_alloc ?_ _)); refine blk_put (cs := #[.int .i64 ((rd_T24 l0 x10_1).f0), .int .i64 ((rd_T24 l0 x10_1).f1), .int .u64 0, .int .u64 0, .int .u64 0, .string (⟨#[]⟩ : ByteArray)]) ?_ 2 _ rfl; (with_reducible repeat (first | refine blk_drewN ?_ _ | refine blk_drew ?_ | refine blk_alloc ?_ _)); refine blk_put (cs := #[.int .i64 ((rd_T24 l0 x10_1).f0), .int .i64 0, .int .u64 0, .int .u64 0, .int .u64 0, .string (⟨#[]⟩ : ByteArray)]) ?_ 1 _ rfl; (with_reducible repeat (first | refine blk_drewN ?_ _ | refine blk_drew ?_ | refine blk_alloc ?_ _)); refine blk_put (cs := #[.int .i64 0, .int .i64 0, .int .u64 0, .int .u64 0, .int .u64 0, .string (⟨#[]⟩ : ByteArray)]) ?_ 0 _ rfl; (with_reducible repeat (first | refine blk_drewN ?_ _ | refine blk_drew ?_ | refine blk_alloc ?_ _)); exact BK371.out) hb); have n1_ := Aside0.mk (below_step (by repeat (first | (with_reducible first | exact HB.out | apply below_alloc | apply pw_below_drewN | apply below_drew1 | refine below_set ?_ GE371.out) | exact HB.out)) hb); clear BK371; clear HB; have BK371 := n0_; have HB := n1_; clear n0_ n1_; (try clear hb); (try clear hb2); (try clear hk); (try clear hi)))
        go_roundg k1
        case measure => have := HK1.out; omega
        case rel => exact ⟨(wrap64 (x10_1 + 1)), (by first | rfl | (simp; done) | (simp [*]; done)), H', ⟨by have := HK1.out; omega⟩, ⟨by repeat (first | (with_reducible first | exact HB.out | apply below_alloc | apply pw_below_drewN | apply below_drew1 | refine below_set ?_ GE371.out) | exact HB.out)⟩⟩
       ·
        replace c7 := Bool.eq_false_iff.mpr c7
        subst c7
        have H1 : (some false) = some r := by rw [if_neg (show ¬ (false = true) by decide)] at H; exact H
        clear H
        have H := H1
        clear H1
        obtain rfl := Option.some.inj H
        have p370 : 0 ≤ (x10_1 : Int) := of_decide_eq_true (by first | (with_reducible assumption) | assumption)
        have q370 : x10_1 < (l0.length : Int) := of_decide_eq_true (by first | (with_reducible assumption) | assumption)
        obtain ⟨ad370, e370, hx370_0, hx370_1, hx370_2, hx370_3, hx370_4, hx370_5⟩ := at_T24 HR0.out x10_1 p370 q370
        cases e370
        replace hx370_0 := (HB.out.cell (World.block_lt_of_cell? w _ hx370_0)).trans hx370_0
        replace hx370_1 := (HB.out.cell (World.block_lt_of_cell? w _ hx370_1)).trans hx370_1
        replace hx370_2 := (HB.out.cell (World.block_lt_of_cell? w _ hx370_2)).trans hx370_2
        replace hx370_3 := (HB.out.cell (World.block_lt_of_cell? w _ hx370_3)).trans hx370_3
        replace hx370_4 := (HB.out.cell (World.block_lt_of_cell? w _ hx370_4)).trans hx370_4
        replace hx370_5 := (HB.out.cell (World.block_lt_of_cell? w _ hx370_5)).trans hx370_5
        replace p370 := eq_true p370
        replace q370 := eq_true q370
        go_wp2_with (first | ((with_reducible refine gate_dst (N := 4) rfl ?_); refine box_event ?hg (N := 4) ?hd (cs := #[.int .i64 0, .int .i64 0, .int .u64 0, .int .u64 0, .int .u64 0, .string (⟨#[]⟩ : ByteArray)]) (t := 24) ?hr ?_; (case hd => rfl); (case hg => rfl); (case hr => first | (go_simp; done) | (go_simp; rfl) | (go_simp; simp [u8w]; done)); intro gb371 hg w11 hbox hb; have n0_ := Aside0.mk (below_step (by repeat (first | (with_reducible first | exact HB.out | apply below_alloc | apply pw_below_drewN | apply below_drew1) | exact HB.out)) hb); have n1_ := Aside0.mk (hbox); have n2_ := Aside0.mk ((by rw [hg]; exact (below_size (by repeat (first | (with_reducible first | exact HB.out | apply below_alloc | apply pw_below_drewN | apply below_drew1) | exact HB.out))) : w.heap.size ≤ gb371)); have n3_ := Aside0.mk ((by rw [hg]; exact (below_size (by repeat (first | (with_reducible first | exact HB.out | apply below_alloc | apply pw_below_drewN | apply below_drew1) | exact HB.out))) : w.heap.size ≤ gb371)); clear HB; have HB := n0_; have BK371 := n1_; have GW371 := n2_; have GE371 := n3_; clear n0_ n1_ n2_ n3_; clear hb hbox hg; have hcz12_0 : w11.cell? ⟨gb371, 0, none⟩ = some (.int .i64 0) := (blk_cell BK371.out 0).trans rfl; have hcz12_1 : w11.cell? ⟨gb371, 1, none⟩ = some (.int .i64 0) := (blk_cell BK371.out 1).trans rfl; have hcz12_2 : w11.cell? ⟨gb371, 2, none⟩ = some (.int .u64 0) := (blk_cell BK371.out 2).trans rfl; have hcz12_3 : w11.cell? ⟨gb371, 3, none⟩ = some (.int .u64 0) := (blk_cell BK371.out 3).trans rfl; have hcz12_4 : w11.cell? ⟨gb371, 4, none⟩ = some (.int .u64 0) := (blk_cell BK371.out 4).trans rfl; have hcz12_5 : w11.cell? ⟨gb371, 5, none⟩ = some (.string (⟨#[]⟩ : ByteArray)) := (blk_cell BK371.out 5).trans rfl; have hfz12_0 := blk_frozen BK371.out 0; have hfz12_1 := blk_frozen BK371.out 1; have hfz12_2 := blk_frozen BK371.out 2; have hfz12_3 := blk_frozen BK371.out 3; have hfz12_4 := blk_frozen BK371.out 4; have hfz12_5 := blk_frozen BK371.out 5) | ((with_reducible refine gate_callee (f := 13) rfl ?_); refine goesL_ (some 15) rfl rfl Tryd.func13 (by kernel_rfl) rfl #[.agg #[.int .i64 ((rd_T24 l0 x10_1).f0), .int .i64 ((rd_T24 l0 x10_1).f1), .int .u64 ((rd_T24 l0 x10_1).f2), .int .u64 ((rd_T24 l0 x10_1).f3), .int .u64 ((rd_T24 l0 x10_1).f4), .string ((rd_T24 l0 x10_1).f5)]] rfl (by (try simp only [List.map_toArray, List.map_cons, List.map_nil]); first | done | rfl | (simp only [List.length_drop, List.length_take]; rfl)) ?_; (with_reducible refine (laws_zzFits13.calls ((rd_T24 l0 x10_1).f0) ((rd_T24 l0 x10_1).f1) ((rd_T24 l0 x10_1).f2) ((rd_T24 l0 x10_1).f3) ((rd_T24 l0 x10_1).f4) ((rd_T24 l0 x10_1).f5) false _ A6.out).mono ?_); rintro e w13 ⟨rfl, hb⟩; refine ⟨_, rfl, ?_⟩; have n0_ := Aside0.mk (blk_below (g := gb371) (o := .cells #[.int .i64 ((rd_T24 l0 x10_1).f0), .int .i64 ((rd_T24 l0 x10_1).f1), .int .u64 ((rd_T24 l0 x10_1).f2), .int .u64 ((rd_T24 l0 x10_1).f3), .int .u64 ((rd_T24 l0 x10_1).f4), .string ((rd_T24 l0 x10_1).f5)] 24 (0, 0)) (by (with_reducible repeat (first | refine blk_drewN ?_ _ | refine blk_drew ?_ | refine blk_alloc ?_ _)); refine blk_put (cs := #[.int .i64 ((rd_T24 l0 x10_1).f0), .int .i64 ((rd_T24 l0 x10_1).f1), .int .u64 ((rd_T24 l0 x10_1).f2), .int .u64 ((rd_T24 l0 x10_1).f3), .int .u64 ((rd_T24 l0 x10_1).f4), .string (⟨#[]⟩ : ByteArray)]) ?_ 5 _ rfl; (with_reducible repeat (first | refine blk_drewN ?_ _ | refine blk_drew ?_ | refine blk_alloc ?_ _)); refine blk_put (cs := #[.int .i64 ((rd_T24 l0 x10_1).f0), .int .i64 ((rd_T24 l0 x10_1).f1), .int .u64 ((rd_T24 l0 x10_1).f2), .int .u64 ((rd_T24 l0 x10_1).f3), .int .u64 0, .string (⟨#[]⟩ : ByteArray)]) ?_ 4 _ rfl; (with_reducible repeat (first | refine blk_drewN ?_ _ | refine blk_drew ?_ | refine blk_alloc ?_ _)); refine blk_put (cs := #[.int .i64 ((rd_T24 l0 x10_1).f0), .int .i64 ((rd_T24 l0 x10_1).f1), .int .u64 ((rd_T24 l0 x10_1).f2), .int .u64 0, .int .u64 0, .string (⟨#[]⟩ : ByteArray)]) ?_ 3 _ rfl; (with_reducible repeat (first | refine blk_drewN ?_ _ | refine blk_drew ?_ | refine blk_alloc ?_ _)); refine blk_put (cs := #[.int .i64 ((rd_T24 l0 x10_1).f0), .int .i64 ((rd_T24 l0 x10_1).f1), .int .u64 0, .int .u64 0, .int .u64 0, .string (⟨#[]⟩ : ByteArray)]) ?_ 2 _ rfl; (with_reducible repeat (first | refine blk_drewN ?_ _ | refine blk_drew ?_ | refine blk_alloc ?_ _)); refine blk_put (cs := #[.int .i64 ((rd_T24 l0 x10_1).f0), .int .i64 0, .int .u64 0, .int .u64 0, .int .u64 0, .string (⟨#[]⟩ : ByteArray)]) ?_ 1 _ rfl; (with_reducible repeat (first | refine blk_drewN ?_ _ | refine blk_drew ?_ | refine blk_alloc ?_ _)); refine blk_put (cs := #[.int .i64 0, .int .i64 0, .int .u64 0, .int .u64 0, .int .u64 0, .string (⟨#[]⟩ : ByteArray)]) ?_ 0 _ rfl; (with_reducible repeat (first | refine blk_drewN ?_ _ | refine blk_drew ?_ | refine blk_alloc ?_ _)); exact BK371.out) hb); have n1_ := Aside0.mk (below_step (by repeat (first | (with_reducible first | exact HB.out | apply below_alloc | apply pw_below_drewN | apply below_drew1 | refine below_set ?_ GE371.out) | exact HB.out)) hb); clear BK371; clear HB; have BK371 := n0_; have HB := n1_; clear n0_ n1_; (try clear hb); (try clear hb2); (try clear hk); (try clear hi)))
        go_ret
        exact ⟨by first | rfl | (simp [errW_none, errW_some] <;> rfl) | (simp [*, errW_none, errW_some] <;> rfl) | (simp [bneNil]; done), by repeat (first | (with_reducible first | exact HB.out | apply below_alloc | apply pw_below_drewN | apply below_drew1 | refine below_set ?_ GE371.out) | exact HB.out)⟩
      ·
       rw [if_neg c5] at H
       exact absurd H (by simp)
     ·
      rw [if_neg c4] at H
      exact absurd H (by simp)
    ·
     rw [if_neg c3] at H
     have c3b0 : decide (x10_1 < (l0.length : Int)) = false := decide_eq_false c3
     clear c3
     obtain rfl := Option.some.inj H
     go_wp2
     go_ret
     exact ⟨by first | rfl | (simp [errW_none, errW_some] <;> rfl) | (simp [*, errW_none, errW_some] <;> rfl) | (simp [bneNil]; done), by repeat (first | (with_reducible first | exact HB.out | apply below_alloc | apply pw_below_drewN | apply below_drew1) | exact HB.out)⟩

end Go.Proofs.YtllkoadcpobdaaaDoor.PX
namespace Go.Proofs.YtllkoadcpobdaaaDoor.PX

open Go.RowKit Go.Proofs.YtllkoadcpobdaaaDoorW.PrintWords Go.Proofs.YtllkoadcpobdaaaDoorW.PrintLast Go.Proofs.YtllkoadcpobdaaaDoorW.PrintMore

attribute [local go_sem] max2_int min2_int max_two min_two max_three min_three max_four min_four   -- for this text's walks alone

set_option linter.unusedVariables false

set_option linter.unusedSimpArgs false

mutual
def spec_GoodTerms.l0 : Nat → Int → Int → List (List (S24)) → Int → Int → Option (Bool)
  | 0, _, _, _, _, _ => none
  | k + 1, x1, x5, x10, x11, x12 => if x12 < x11 then (if 0 ≤ x12 then (if x12 < (x10.length : Int) then (spec_GoodTerms.l1 k x1 x5 (rd_L5 x10 x12) x10 x11 x12 (rd_L5 x10 x12) ((rd_L5 x10 x12).length : Int) 0) else (none)) else (none)) else (some (decide (x5 > 0)))
def spec_GoodTerms.l1 : Nat → Int → Int → List (S24) → List (List (S24)) → Int → Int → List (S24) → Int → Int → Option (Bool)
  | 0, _, _, _, _, _, _, _, _, _ => none
  | k + 1, x1, x5, x7, x10, x11, x12, x16, x17, x18 => if x18 < x17 then (if 0 ≤ x18 then (if x18 < (x16.length : Int) then ((spec_GoodTerm.f k ((rd_T24 x16 x18).f0) ((rd_T24 x16 x18).f1) ((rd_T24 x16 x18).f2) ((rd_T24 x16 x18).f3) ((rd_T24 x16 x18).f4) ((rd_T24 x16 x18).f5)).bind fun t376 => (if t376 = true then (spec_GoodTerms.l1 k x1 x5 x7 x10 x11 x12 x16 x17 (wrap64 (x18 + 1))) else (some false))) else (none)) else (none)) else (if (x7.length : Int) = 0 then (some false) else (if (wrap64 (x5 + (x7.length : Int))) > x1 then (some false) else (spec_GoodTerms.l0 k x1 (wrap64 (x5 + (x7.length : Int))) x10 x11 (wrap64 (x12 + 1)))))
end

def spec_GoodTerms.f (k : Nat) (l0 : List (List (S24))) (a1 : Int) : Option (Bool) := spec_GoodTerms.l0 k a1 0 l0 (l0.length : Int) 0

set_option maxHeartbeats 80000000 in
set_option maxRecDepth 100000 in
theorem spec_GoodTerms.calls (k : Nat) (A0 : Option Addr) (c0 : Nat) (l0 : List (List (S24))) (a1 : Int) (r : Bool) (w : World) (hr0 : Kd.C (Kd.slice 24 k24) w A0 l0.length l0) (hc0 : l0.length ≤ c0) (h : spec_GoodTerms.f k l0 a1 = some r) :
  Calls Tryd.prog 72 #[.slice A0 l0.length c0, .int .i64 a1] w fun e w' => e = .returned (.bool r) ∧ Below w.heap.size w w' := by
 have hu24 := Tryd.underlying24
 have HR0 := Aside0.mk hr0
 have HC0 := Aside0.mk hc0
 clear hr0 hc0
 have HB := Aside0.mk (Below.refl w.heap.size w)
 have H : (spec_GoodTerms.l0 k a1 0 l0 (l0.length : Int) 0) = some r := h
 clear h
 have H' := Aside0.mk H
 clear H
 go_enter Tryd.func72, Tryd.ntmps72
 go_wp2
 go_loopg [5, 12] k (fun kq v5 v12 w' => ∃ (x5_1 : Int) (x12_1 : Int), v5 = .int .i64 x5_1 ∧ v12 = .int .i64 x12_1 ∧ Aside0 (spec_GoodTerms.l0 kq a1 x5_1 l0 (l0.length : Int) x12_1 = some r) ∧ Aside0 (kq ≤ k) ∧ Aside0 (Below w.heap.size w w'))
 case atStart => exact ⟨(0), (0), (by first | rfl | (simp; done) | (simp [*]; done)), (by first | rfl | (simp; done) | (simp [*]; done)), H', ⟨Nat.le_refl _⟩, ⟨by repeat (first | (with_reducible first | exact HB.out | apply below_alloc | apply pw_below_drewN | apply below_drew1) | exact HB.out)⟩⟩
 case round =>
  clear H'
  try clear p2
  obtain ⟨x5_1, x12_1, rfl, rfl, HA, HK1, HB⟩ := hrel
  cases gk with
  | zero => exact absurd HA.out (by simp [spec_GoodTerms.l0])
  | succ k1 =>
   have H := HA.out
   clear HA
   simp only [spec_GoodTerms.l0] at H
   by_cases c3 : x12_1 < (l0.length : Int)
   ·
    rw [if_pos c3] at H
    have c3b0 : decide (x12_1 < (l0.length : Int)) = true := decide_eq_true c3
    clear c3
    by_cases c4 : 0 ≤ x12_1
    ·
     rw [if_pos c4] at H
     have c4b0 : decide (0 ≤ x12_1) = true := decide_eq_true c4
     clear c4
     by_cases c5 : x12_1 < (l0.length : Int)
     ·
      rw [if_pos c5] at H
      have c5b0 : decide (x12_1 < (l0.length : Int)) = true := decide_eq_true c5
      clear c5
      have H' := Aside0.mk H
      clear H
      have p373 : 0 ≤ (x12_1 : Int) := of_decide_eq_true (by first | (with_reducible assumption) | assumption)
      have q373 : x12_1 < (l0.length : Int) := of_decide_eq_true (by first | (with_reducible assumption) | assumption)
      obtain ⟨ad373, A373_0, c373_0, e373, hx373_0, hl373_0, hi373_0⟩ := at_L5 HR0.out x12_1 p373 q373
      cases e373
      replace hx373_0 := (HB.out.cell (World.block_lt_of_cell? w _ hx373_0)).trans hx373_0
      have HR373_0 := Aside0.mk hi373_0
      have HC373_0 := Aside0.mk hl373_0
      clear hi373_0 hl373_0
      replace p373 := eq_true p373
      replace q373 := eq_true q373
      go_wp2
      go_loopg [18] k1 (fun kq v18 w' => ∃ (x18_2 : Int), v18 = .int .i64 x18_2 ∧ Aside0 (spec_GoodTerms.l1 kq a1 x5_1 (rd_L5 l0 x12_1) l0 (l0.length : Int) x12_1 (rd_L5 l0 x12_1) ((rd_L5 l0 x12_1).length : Int) x18_2 = some r) ∧ Aside0 (kq ≤ k1) ∧ Aside0 (Below w.heap.size w w'))
      case atStart => exact ⟨(0), (by first | rfl | (simp; done) | (simp [*]; done)), H', ⟨Nat.le_refl _⟩, ⟨by repeat (first | (with_reducible first | exact HB.out | apply below_alloc | apply pw_below_drewN | apply below_drew1) | exact HB.out)⟩⟩
      case round =>
       clear H'
       try clear p2
       try clear c3
       try clear c3b0
       try clear p3
       try clear q3
       try clear hx3
       try clear c4
       try clear c4b0
       try clear c5
       try clear c5b0
       try clear hx373_0
       try clear p2
       try clear p373
       try clear q373
       obtain ⟨x18_2, rfl, HA, HK2, HB⟩ := hrel
       cases gk with
       | zero => exact absurd HA.out (by simp [spec_GoodTerms.l1])
       | succ k2 =>
        have H := HA.out
        clear HA
        simp only [spec_GoodTerms.l1] at H
        by_cases c6 : x18_2 < ((rd_L5 l0 x12_1).length : Int)
        ·
         rw [if_pos c6] at H
         have c6b0 : decide (x18_2 < ((rd_L5 l0 x12_1).length : Int)) = true := decide_eq_true c6
         clear c6
         by_cases c7 : 0 ≤ x18_2
         ·
          rw [if_pos c7] at H
          have c7b0 : decide (0 ≤ x18_2) = true := decide_eq_true c7
          clear c7
          by_cases c8 : x18_2 < ((rd_L5 l0 x12_1).length : Int)
          ·
           rw [if_pos c8] at H
           have c8b0 : decide (x18_2 < ((rd_L5 l0 x12_1).length : Int)) = true := decide_eq_true c8
           clear c8
           replace H := Option.bind_eq_some_iff.mp H
           obtain ⟨t376, A90, H⟩ := H
           replace H : (if t376 = true then (spec_GoodTerms.l1 k2 a1 x5_1 (rd_L5 l0 x12_1) l0 (l0.length : Int) x12_1 (rd_L5 l0 x12_1) ((rd_L5 l0 x12_1).length : Int) (wrap64 (x18_2 + 1))) else (some false)) = some r := H
           have A9 := Aside0.mk A90
           clear A90
           by_cases c10 : t376 = true
           ·
            subst c10
            have H1 : (spec_GoodTerms.l1 k2 a1 x5_1 (rd_L5 l0 x12_1) l0 (l0.length : Int) x12_1 (rd_L5 l0 x12_1) ((rd_L5 l0 x12_1).length : Int) (wrap64 (x18_2 + 1))) = some r := by rw [if_pos rfl] at H; exact H
            clear H
            have H := H1
            clear H1
            have H' := Aside0.mk H
            clear H
            have p374 : 0 ≤ (x18_2 : Int) := of_decide_eq_true (by first | (with_reducible assumption) | assumption)
            have q374 : x18_2 < ((rd_L5 l0 x12_1).length : Int) := of_decide_eq_true (by first | (with_reducible assumption) | assumption)
            obtain ⟨ad374, e374, hx374_0, hx374_1, hx374_2, hx374_3, hx374_4, hx374_5⟩ := at_T24 HR373_0.out x18_2 p374 q374
            cases e374
            replace hx374_0 := (HB.out.cell (World.block_lt_of_cell? w _ hx374_0)).trans hx374_0
            replace hx374_1 := (HB.out.cell (World.block_lt_of_cell? w _ hx374_1)).trans hx374_1
            replace hx374_2 := (HB.out.cell (World.block_lt_of_cell? w _ hx374_2)).trans hx374_2
            replace hx374_3 := (HB.out.cell (World.block_lt_of_cell? w _ hx374_3)).trans hx374_3
            replace hx374_4 := (HB.out.cell (World.block_lt_of_cell? w _ hx374_4)).trans hx374_4
            replace hx374_5 := (HB.out.cell (World.block_lt_of_cell? w _ hx374_5)).trans hx374_5
            replace p374 := eq_true p374
            replace q374 := eq_true q374
            go_wp2_with (first | ((with_reducible refine gate_dst (N := 9) rfl ?_); refine box_event ?hg (N := 9) ?hd (cs := #[.int .i64 0, .int .i64 0, .int .u64 0, .int .u64 0, .int .u64 0, .string (⟨#[]⟩ : ByteArray)]) (t := 24) ?hr ?_; (case hd => rfl); (case hg => rfl); (case hr => first | (go_simp; done) | (go_simp; rfl) | (go_simp; simp [u8w]; done)); intro gb375 hg w11 hbox hb; have n0_ := Aside0.mk (below_step (by repeat (first | (with_reducible first | exact HB.out | apply below_alloc | apply pw_below_drewN | apply below_drew1) | exact HB.out)) hb); have n1_ := Aside0.mk (hbox); have n2_ := Aside0.mk ((by rw [hg]; exact (below_size (by repeat (first | (with_reducible first | exact HB.out | apply below_alloc | apply pw_below_drewN | apply below_drew1) | exact HB.out))) : w.heap.size ≤ gb375)); have n3_ := Aside0.mk ((by rw [hg]; exact (below_size (by repeat (first | (with_reducible first | exact HB.out | apply below_alloc | apply pw_below_drewN | apply below_drew1) | exact HB.out))) : w.heap.size ≤ gb375)); clear HB; have HB := n0_; have BK375 := n1_; have GW375 := n2_; have GE375 := n3_; clear n0_ n1_ n2_ n3_; clear hb hbox hg; have hcz12_0 : w11.cell? ⟨gb375, 0, none⟩ = some (.int .i64 0) := (blk_cell BK375.out 0).trans rfl; have hcz12_1 : w11.cell? ⟨gb375, 1, none⟩ = some (.int .i64 0) := (blk_cell BK375.out 1).trans rfl; have hcz12_2 : w11.cell? ⟨gb375, 2, none⟩ = some (.int .u64 0) := (blk_cell BK375.out 2).trans rfl; have hcz12_3 : w11.cell? ⟨gb375, 3, none⟩ = some (.int .u64 0) := (blk_cell BK375.out 3).trans rfl; have hcz12_4 : w11.cell? ⟨gb375, 4, none⟩ = some (.int .u64 0) := (blk_cell BK375.out 4).trans rfl; have hcz12_5 : w11.cell? ⟨gb375, 5, none⟩ = some (.string (⟨#[]⟩ : ByteArray)) := (blk_cell BK375.out 5).trans rfl; have hfz12_0 := blk_frozen BK375.out 0; have hfz12_1 := blk_frozen BK375.out 1; have hfz12_2 := blk_frozen BK375.out 2; have hfz12_3 := blk_frozen BK375.out 3; have hfz12_4 := blk_frozen BK375.out 4; have hfz12_5 := blk_frozen BK375.out 5) | ((with_reducible refine gate_callee (f := 15) rfl ?_); refine goesL_ (some 23) rfl rfl Tryd.func15 (by kernel_rfl) rfl #[.agg #[.int .i64 ((rd_T24 (rd_L5 l0 x12_1) x18_2).f0), .int .i64 ((rd_T24 (rd_L5 l0 x12_1) x18_2).f1), .int .u64 ((rd_T24 (rd_L5 l0 x12_1) x18_2).f2), .int .u64 ((rd_T24 (rd_L5 l0 x12_1) x18_2).f3), .int .u64 ((rd_T24 (rd_L5 l0 x12_1) x18_2).f4), .string ((rd_T24 (rd_L5 l0 x12_1) x18_2).f5)]] rfl (by (try simp only [List.map_toArray, List.map_cons, List.map_nil]); first | done | rfl | (simp only [List.length_drop, List.length_take]; rfl)) ?_; (with_reducible refine (spec_GoodTerm.calls k2 ((rd_T24 (rd_L5 l0 x12_1) x18_2).f0) ((rd_T24 (rd_L5 l0 x12_1) x18_2).f1) ((rd_T24 (rd_L5 l0 x12_1) x18_2).f2) ((rd_T24 (rd_L5 l0 x12_1) x18_2).f3) ((rd_T24 (rd_L5 l0 x12_1) x18_2).f4) ((rd_T24 (rd_L5 l0 x12_1) x18_2).f5) true _ A9.out).mono ?_); rintro e w13 ⟨rfl, hb⟩; refine ⟨_, rfl, ?_⟩; have n0_ := Aside0.mk (blk_below (g := gb375) (o := .cells #[.int .i64 ((rd_T24 (rd_L5 l0 x12_1) x18_2).f0), .int .i64 ((rd_T24 (rd_L5 l0 x12_1) x18_2).f1), .int .u64 ((rd_T24 (rd_L5 l0 x12_1) x18_2).f2), .int .u64 ((rd_T24 (rd_L5 l0 x12_1) x18_2).f3), .int .u64 ((rd_T24 (rd_L5 l0 x12_1) x18_2).f4), .string ((rd_T24 (rd_L5 l0 x12_1) x18_2).f5)] 24 (0, 0)) (by (with_reducible repeat (first | refine blk_drewN ?_ _ | refine blk_drew ?_ | refine blk_alloc ?_ _)); refine blk_put (cs := #[.int .i64 ((rd_T24 (rd_L5 l0 x12_1) x18_2).f0), .int .i64 ((rd_T24 (rd_L5 l0 x12_1) x18_2).f1), .int .u64 ((rd_T24 (rd_L5 l0 x12_1) x18_2).f2), .int .u64 ((rd_T24 (rd_L5 l0 x12_1) x18_2).f3), .int .u64 ((rd_T24 (rd_L5 l0 x12_1) x18_2).f4), .string (⟨#[]⟩ : ByteArray)]) ?_ 5 _ rfl; (with_reducible repeat (first | refine blk_drewN ?_ _ | refine blk_drew ?_ | refine blk_alloc ?_ _)); refine blk_put (cs := #[.int .i64 ((rd_T24 (rd_L5 l0 x12_1) x18_2).f0), .int .i64 ((rd_T24 (rd_L5 l0 x12_1) x18_2).f1), .int .u64 ((rd_T24 (rd_L5 l0 x12_1) x18_2).f2), .int .u64 ((rd_T24 (rd_L5 l0 x12_1) x18_2).f3), .int .u64 0, .string (⟨#[]⟩ : ByteArray)]) ?_ 4 _ rfl; (with_reducible repeat (first | refine blk_drewN ?_ _ | refine blk_drew ?_ | refine blk_alloc ?_ _)); refine blk_put (cs := #[.int .i64 ((rd_T24 (rd_L5 l0 x12_1) x18_2).f0), .int .i64 ((rd_T24 (rd_L5 l0 x12_1) x18_2).f1), .int .u64 ((rd_T24 (rd_L5 l0 x12_1) x18_2).f2), .int .u64 0, .int .u64 0, .string (⟨#[]⟩ : ByteArray)]) ?_ 3 _ rfl; (with_reducible repeat (first | refine blk_drewN ?_ _ | refine blk_drew ?_ | refine blk_alloc ?_ _)); refine blk_put (cs := #[.int .i64 ((rd_T24 (rd_L5 l0 x12_1) x18_2).f0), .int .i64 ((rd_T24 (rd_L5 l0 x12_1) x18_2).f1), .int .u64 0, .int .u64 0, .int .u64 0, .string (⟨#[]⟩ : ByteArray)]) ?_ 2 _ rfl; (with_reducible repeat (first | refine blk_drewN ?_ _ | refine blk_drew ?_ | refine blk_alloc ?_ _)); refine blk_put (cs := #[.int .i64 ((rd_T24 (rd_L5 l0 x12_1) x18_2).f0), .int .i64 0, .int .u64 0, .int .u64 0, .int .u64 0, .string (⟨#[]⟩ : ByteArray)]) ?_ 1 _ rfl; (with_reducible repeat (first | refine blk_drewN ?_ _ | refine blk_drew ?_ | refine blk_alloc ?_ _)); refine blk_put (cs := #[.int .i64 0, .int .i64 0, .int .u64 0, .int .u64 0, .int .u64 0, .string (⟨#[]⟩ : ByteArray)]) ?_ 0 _ rfl; (with_reducible repeat (first | refine blk_drewN ?_ _ | refine blk_drew ?_ | refine blk_alloc ?_ _)); exact BK375.out) hb); have n1_ := Aside0.mk (below_step (by repeat (first | (with_reducible first | exact HB.out | apply below_alloc | apply pw_below_drewN | apply below_drew1 | refine below_set ?_ GE375.out) | exact HB.out)) hb); clear BK375; clear HB; have BK375 := n0_; have HB := n1_; clear n0_ n1_; (try clear hb); (try clear hb2); (try clear hk); (try clear hi)))
            go_roundg k2
            case measure => have := HK1.out; have := HK2.out; omega
            case rel => exact ⟨(wrap64 (x18_2 + 1)), (by first | rfl | (simp; done) | (simp [*]; done)), H', ⟨by have := HK1.out; have := HK2.out; omega⟩, ⟨by repeat (first | (with_reducible first | exact HB.out | apply below_alloc | apply pw_below_drewN | apply below_drew1 | refine below_set ?_ GE375.out) | exact HB.out)⟩⟩
           ·
            replace c10 := Bool.eq_false_iff.mpr c10
            subst c10
            have H1 : (some false) = some r := by rw [if_neg (show ¬ (false = true) by decide)] at H; exact H
            clear H
            have H := H1
            clear H1
            obtain rfl := Option.some.inj H
            have p374 : 0 ≤ (x18_2 : Int) := of_decide_eq_true (by first | (with_reducible assumption) | assumption)
            have q374 : x18_2 < ((rd_L5 l0 x12_1).length : Int) := of_decide_eq_true (by first | (with_reducible assumption) | assumption)
            obtain ⟨ad374, e374, hx374_0, hx374_1, hx374_2, hx374_3, hx374_4, hx374_5⟩ := at_T24 HR373_0.out x18_2 p374 q374
            cases e374
            replace hx374_0 := (HB.out.cell (World.block_lt_of_cell? w _ hx374_0)).trans hx374_0
            replace hx374_1 := (HB.out.cell (World.block_lt_of_cell? w _ hx374_1)).trans hx374_1
            replace hx374_2 := (HB.out.cell (World.block_lt_of_cell? w _ hx374_2)).trans hx374_2
            replace hx374_3 := (HB.out.cell (World.block_lt_of_cell? w _ hx374_3)).trans hx374_3
            replace hx374_4 := (HB.out.cell (World.block_lt_of_cell? w _ hx374_4)).trans hx374_4
            replace hx374_5 := (HB.out.cell (World.block_lt_of_cell? w _ hx374_5)).trans hx374_5
            replace p374 := eq_true p374
            replace q374 := eq_true q374
            go_wp2_with (first | ((with_reducible refine gate_dst (N := 9) rfl ?_); refine box_event ?hg (N := 9) ?hd (cs := #[.int .i64 0, .int .i64 0, .int .u64 0, .int .u64 0, .int .u64 0, .string (⟨#[]⟩ : ByteArray)]) (t := 24) ?hr ?_; (case hd => rfl); (case hg => rfl); (case hr => first | (go_simp; done) | (go_simp; rfl) | (go_simp; simp [u8w]; done)); intro gb375 hg w14 hbox hb; have n0_ := Aside0.mk (below_step (by repeat (first | (with_reducible first | exact HB.out | apply below_alloc | apply pw_below_drewN | apply below_drew1) | exact HB.out)) hb); have n1_ := Aside0.mk (hbox); have n2_ := Aside0.mk ((by rw [hg]; exact (below_size (by repeat (first | (with_reducible first | exact HB.out | apply below_alloc | apply pw_below_drewN | apply below_drew1) | exact HB.out))) : w.heap.size ≤ gb375)); have n3_ := Aside0.mk ((by rw [hg]; exact (below_size (by repeat (first | (with_reducible first | exact HB.out | apply below_alloc | apply pw_below_drewN | apply below_drew1) | exact HB.out))) : w.heap.size ≤ gb375)); clear HB; have HB := n0_; have BK375 := n1_; have GW375 := n2_; have GE375 := n3_; clear n0_ n1_ n2_ n3_; clear hb hbox hg; have hcz15_0 : w14.cell? ⟨gb375, 0, none⟩ = some (.int .i64 0) := (blk_cell BK375.out 0).trans rfl; have hcz15_1 : w14.cell? ⟨gb375, 1, none⟩ = some (.int .i64 0) := (blk_cell BK375.out 1).trans rfl; have hcz15_2 : w14.cell? ⟨gb375, 2, none⟩ = some (.int .u64 0) := (blk_cell BK375.out 2).trans rfl; have hcz15_3 : w14.cell? ⟨gb375, 3, none⟩ = some (.int .u64 0) := (blk_cell BK375.out 3).trans rfl; have hcz15_4 : w14.cell? ⟨gb375, 4, none⟩ = some (.int .u64 0) := (blk_cell BK375.out 4).trans rfl; have hcz15_5 : w14.cell? ⟨gb375, 5, none⟩ = some (.string (⟨#[]⟩ : ByteArray)) := (blk_cell BK375.out 5).trans rfl; have hfz15_0 := blk_frozen BK375.out 0; have hfz15_1 := blk_frozen BK375.out 1; have hfz15_2 := blk_frozen BK375.out 2; have hfz15_3 := blk_frozen BK375.out 3; have hfz15_4 := blk_frozen BK375.out 4; have hfz15_5 := blk_frozen BK375.out 5) | ((with_reducible refine gate_callee (f := 15) rfl ?_); refine goesL_ (some 23) rfl rfl Tryd.func15 (by kernel_rfl) rfl #[.agg #[.int .i64 ((rd_T24 (rd_L5 l0 x12_1) x18_2).f0), .int .i64 ((rd_T24 (rd_L5 l0 x12_1) x18_2).f1), .int .u64 ((rd_T24 (rd_L5 l0 x12_1) x18_2).f2), .int .u64 ((rd_T24 (rd_L5 l0 x12_1) x18_2).f3), .int .u64 ((rd_T24 (rd_L5 l0 x12_1) x18_2).f4), .string ((rd_T24 (rd_L5 l0 x12_1) x18_2).f5)]] rfl (by (try simp only [List.map_toArray, List.map_cons, List.map_nil]); first | done | rfl | (simp only [List.length_drop, List.length_take]; rfl)) ?_; (with_reducible refine (spec_GoodTerm.calls k2 ((rd_T24 (rd_L5 l0 x12_1) x18_2).f0) ((rd_T24 (rd_L5 l0 x12_1) x18_2).f1) ((rd_T24 (rd_L5 l0 x12_1) x18_2).f2) ((rd_T24 (rd_L5 l0 x12_1) x18_2).f3) ((rd_T24 (rd_L5 l0 x12_1) x18_2).f4) ((rd_T24 (rd_L5 l0 x12_1) x18_2).f5) false _ A9.out).mono ?_); rintro e w16 ⟨rfl, hb⟩; refine ⟨_, rfl, ?_⟩; have n0_ := Aside0.mk (blk_below (g := gb375) (o := .cells #[.int .i64 ((rd_T24 (rd_L5 l0 x12_1) x18_2).f0), .int .i64 ((rd_T24 (rd_L5 l0 x12_1) x18_2).f1), .int .u64 ((rd_T24 (rd_L5 l0 x12_1) x18_2).f2), .int .u64 ((rd_T24 (rd_L5 l0 x12_1) x18_2).f3), .int .u64 ((rd_T24 (rd_L5 l0 x12_1) x18_2).f4), .string ((rd_T24 (rd_L5 l0 x12_1) x18_2).f5)] 24 (0, 0)) (by (with_reducible repeat (first | refine blk_drewN ?_ _ | refine blk_drew ?_ | refine blk_alloc ?_ _)); refine blk_put (cs := #[.int .i64 ((rd_T24 (rd_L5 l0 x12_1) x18_2).f0), .int .i64 ((rd_T24 (rd_L5 l0 x12_1) x18_2).f1), .int .u64 ((rd_T24 (rd_L5 l0 x12_1) x18_2).f2), .int .u64 ((rd_T24 (rd_L5 l0 x12_1) x18_2).f3), .int .u64 ((rd_T24 (rd_L5 l0 x12_1) x18_2).f4), .string (⟨#[]⟩ : ByteArray)]) ?_ 5 _ rfl; (with_reducible repeat (first | refine blk_drewN ?_ _ | refine blk_drew ?_ | refine blk_alloc ?_ _)); refine blk_put (cs := #[.int .i64 ((rd_T24 (rd_L5 l0 x12_1) x18_2).f0), .int .i64 ((rd_T24 (rd_L5 l0 x12_1) x18_2).f1), .int .u64 ((rd_T24 (rd_L5 l0 x12_1) x18_2).f2), .int .u64 ((rd_T24 (rd_L5 l0 x12_1) x18_2).f3), .int .u64 0, .string (⟨#[]⟩ : ByteArray)]) ?_ 4 _ rfl; (with_reducible repeat (first | refine blk_drewN ?_ _ | refine blk_drew ?_ | refine blk_alloc ?_ _)); refine blk_put (cs := #[.int .i64 ((rd_T24 (rd_L5 l0 x12_1) x18_2).f0), .int .i64 ((rd_T24 (rd_L5 l0 x12_1) x18_2).f1), .int .u64 ((rd_T24 (rd_L5 l0 x12_1) x18_2).f2), .int .u64 0, .int .u64 0, .string (⟨#[]⟩ : ByteArray)]) ?_ 3 _ rfl; (with_reducible repeat (first | refine blk_drewN ?_ _ | refine blk_drew ?_ | refine blk_alloc ?_ _)); refine blk_put (cs := #[.int .i64 ((rd_T24 (rd_L5 l0 x12_1) x18_2).f0), .int .i64 ((rd_T24 (rd_L5 l0 x12_1) x18_2).f1), .int .u64 0, .int .u64 0, .int .u64 0, .string (⟨#[]⟩ : ByteArray)]) ?_ 2 _ rfl; (with_reducible repeat (first | refine blk_drewN ?_ _ | refine blk_drew ?_ | refine blk_alloc ?_ _)); refine blk_put (cs := #[.int .i64 ((rd_T24 (rd_L5 l0 x12_1) x18_2).f0), .int .i64 0, .int .u64 0, .int .u64 0, .int .u64 0, .string (⟨#[]⟩ : ByteArray)]) ?_ 1 _ rfl; (with_reducible repeat (first | refine blk_drewN ?_ _ | refine blk_drew ?_ | refine blk_alloc ?_ _)); refine blk_put (cs := #[.int .i64 0, .int .i64 0, .int .u64 0, .int .u64 0, .int .u64 0, .string (⟨#[]⟩ : ByteArray)]) ?_ 0 _ rfl; (with_reducible repeat (first | refine blk_drewN ?_ _ | refine blk_drew ?_ | refine blk_alloc ?_ _)); exact BK375.out) hb); have n1_ := Aside0.mk (below_step (by repeat (first | (with_reducible first | exact HB.out | apply below_alloc | apply pw_below_drewN | apply below_drew1 | refine below_set ?_ GE375.out) | exact HB.out)) hb); clear BK375; clear HB; have BK375 := n0_; have HB := n1_; clear n0_ n1_; (try clear hb); (try clear hb2); (try clear hk); (try clear hi)))
            go_ret
            exact ⟨by first | rfl | (simp [errW_none, errW_some] <;> rfl) | (simp [*, errW_none, errW_some] <;> rfl) | (simp [bneNil]; done), by repeat (first | (with_reducible first | exact HB.out | apply below_alloc | apply pw_below_drewN | apply below_drew1 | refine below_set ?_ GE375.out) | exact HB.out)⟩
          ·
           rw [if_neg c8] at H
           exact absurd H (by simp)
         ·
          rw [if_neg c7] at H
          exact absurd H (by simp)
        ·
         rw [if_neg c6] at H
         have c6b0 : decide (x18_2 < ((rd_L5 l0 x12_1).length : Int)) = false := decide_eq_false c6
         clear c6
         by_cases c17 : ((rd_L5 l0 x12_1).length : Int) = 0
         ·
          rw [if_pos c17] at H
          have c17b0 : (((rd_L5 l0 x12_1).length : Int) == 0) = true := beq_iff_eq.mpr c17
          have c17b1 : (((rd_L5 l0 x12_1).length : Int) != 0) = false := bne_eq_false_iff_eq.mpr c17
          clear c17
          obtain rfl := Option.some.inj H
          go_wp2
          go_ret
          exact ⟨by first | rfl | (simp [errW_none, errW_some] <;> rfl) | (simp [*, errW_none, errW_some] <;> rfl) | (simp [bneNil]; done), by repeat (first | (with_reducible first | exact HB.out | apply below_alloc | apply pw_below_drewN | apply below_drew1) | exact HB.out)⟩
         ·
          rw [if_neg c17] at H
          have c17b0 : (((rd_L5 l0 x12_1).length : Int) == 0) = false := beq_eq_false_iff_ne.mpr c17
          have c17b1 : (((rd_L5 l0 x12_1).length : Int) != 0) = true := bne_iff_ne.mpr c17
          have c17b2 : ¬ ((rd_L5 l0 x12_1) = []) := fun h_ => c17 (by rw [h_]; rfl)
          by_cases c18 : (wrap64 (x5_1 + ((rd_L5 l0 x12_1).length : Int))) > a1
          ·
           rw [if_pos c18] at H
           have c18b0 : decide (a1 < (wrap64 (x5_1 + ((rd_L5 l0 x12_1).length : Int)))) = true := decide_eq_true c18
           clear c18
           obtain rfl := Option.some.inj H
           go_wp2
           go_ret
           exact ⟨by first | rfl | (simp [errW_none, errW_some] <;> rfl) | (simp [*, errW_none, errW_some] <;> rfl) | (simp [bneNil]; done), by repeat (first | (with_reducible first | exact HB.out | apply below_alloc | apply pw_below_drewN | apply below_drew1) | exact HB.out)⟩
          ·
           rw [if_neg c18] at H
           have c18b0 : decide (a1 < (wrap64 (x5_1 + ((rd_L5 l0 x12_1).length : Int)))) = false := decide_eq_false c18
           clear c18
           have H' := Aside0.mk H
           clear H
           go_wp2
           go_roundg k2
           case measure => have := HK1.out; have := HK2.out; omega
           case rel => exact ⟨(wrap64 (x5_1 + ((rd_L5 l0 x12_1).length : Int))), (wrap64 (x12_1 + 1)), (by first | rfl | (simp; done) | (simp [*]; done)), (by first | rfl | (simp; done) | (simp [*]; done)), H', ⟨by have := HK1.out; have := HK2.out; omega⟩, ⟨by repeat (first | (with_reducible first | exact HB.out | apply below_alloc | apply pw_below_drewN | apply below_drew1) | exact HB.out)⟩⟩
     ·
      rw [if_neg c5] at H
      exact absurd H (by simp)
    ·
     rw [if_neg c4] at H
     exact absurd H (by simp)
   ·
    rw [if_neg c3] at H
    have c3b0 : decide (x12_1 < (l0.length : Int)) = false := decide_eq_false c3
    clear c3
    obtain rfl := Option.some.inj H
    go_wp2
    go_ret
    exact ⟨by first | rfl | (simp [errW_none, errW_some] <;> rfl) | (simp [*, errW_none, errW_some] <;> rfl) | (simp [bneNil]; done), by repeat (first | (with_reducible first | exact HB.out | apply below_alloc | apply pw_below_drewN | apply below_drew1) | exact HB.out)⟩

mutual
def laws_scGood.l0 : Nat → List (List (S24)) → Int → Int → Option (Bool)
  | 0, _, _, _ => none
  | k + 1, x10, x11, x12 => if x12 < x11 then (if 0 ≤ x12 then (if x12 < (x10.length : Int) then (laws_scGood.l1 k x10 x11 x12 (rd_L5 x10 x12) ((rd_L5 x10 x12).length : Int) 0) else (none)) else (none)) else (some true)
def laws_scGood.l1 : Nat → List (List (S24)) → Int → Int → List (S24) → Int → Int → Option (Bool)
  | 0, _, _, _, _, _, _ => none
  | k + 1, x10, x11, x12, x16, x17, x18 => if x18 < x17 then (if 0 ≤ x18 then (if x18 < (x16.length : Int) then (if (((rd_T24 x16 x18).f5).size : Int) > 64 then (some false) else (laws_scGood.l1 k x10 x11 x12 x16 x17 (wrap64 (x18 + 1)))) else (none)) else (none)) else (laws_scGood.l0 k x10 x11 (wrap64 (x12 + 1)))
end

def laws_scGood.f (k : Nat) (l0 : List (List (S24))) : Option (Bool) := (spec_GoodTerms.f k l0 24).bind fun t377 => (if t377 = true then (laws_scGood.l0 k l0 (l0.length : Int) 0) else (some false))

set_option maxHeartbeats 80000000 in
set_option maxRecDepth 100000 in
theorem laws_scGood.calls (k : Nat) (A0 : Option Addr) (c0 : Nat) (l0 : List (List (S24))) (r : Bool) (w : World) (hr0 : Kd.C (Kd.slice 24 k24) w A0 l0.length l0) (hc0 : l0.length ≤ c0) (h : laws_scGood.f k l0 = some r) :
  Calls Tryd.prog 67 #[.slice A0 l0.length c0] w fun e w' => e = .returned (.bool r) ∧ Below w.heap.size w w' := by
 have hu24 := Tryd.underlying24
 have HR0 := Aside0.mk hr0
 have HC0 := Aside0.mk hc0
 clear hr0 hc0
 have HB := Aside0.mk (Below.refl w.heap.size w)
 have H : ((spec_GoodTerms.f k l0 24).bind fun t377 => (if t377 = true then (laws_scGood.l0 k l0 (l0.length : Int) 0) else (some false))) = some r := h
 clear h
 replace H := Option.bind_eq_some_iff.mp H
 obtain ⟨t377, A20, H⟩ := H
 replace H : (if t377 = true then (laws_scGood.l0 k l0 (l0.length : Int) 0) else (some false)) = some r := H
 have A2 := Aside0.mk A20
 clear A20
 by_cases c3 : t377 = true
 ·
  subst c3
  have H1 : (laws_scGood.l0 k l0 (l0.length : Int) 0) = some r := by rw [if_pos rfl] at H; exact H
  clear H
  have H := H1
  clear H1
  have H' := Aside0.mk H
  clear H
  go_enter Tryd.func67, Tryd.ntmps67
  go_wp2_with (first | ((with_reducible refine gate_callee (f := 72) rfl ?_); refine goesL_ (some 8) rfl rfl Tryd.func72 (by kernel_rfl) rfl #[.slice A0 l0.length c0, .int .i64 24] rfl (by (try simp only [List.map_toArray, List.map_cons, List.map_nil]); first | done | rfl | (simp only [List.length_drop, List.length_take]; rfl)) ?_; (with_reducible refine (spec_GoodTerms.calls k _ _ l0 24 true _ ?side1 ?side2 A2.out).mono ?_); (case side1 => repeat (first | exact HR0.out | (with_reducible refine Kd.C_alloc ?_ _) | (with_reducible refine Kd.C_drewN ?_ _) | (with_reducible refine Kd.C_drew ?_))); (case side2 => exact HC0.out); rintro e w4 ⟨rfl, hb⟩; refine ⟨_, rfl, ?_⟩; have n0_ := Aside0.mk (below_step (by repeat (first | (with_reducible first | exact HB.out | apply below_alloc | apply pw_below_drewN | apply below_drew1) | exact HB.out)) hb); clear HB; have HB := n0_; clear n0_; (try clear hb); (try clear hb2); (try clear hk); (try clear hi)))
  go_loopg [12] k (fun kq v12 w' => ∃ (x12_1 : Int), v12 = .int .i64 x12_1 ∧ Aside0 (laws_scGood.l0 kq l0 (l0.length : Int) x12_1 = some r) ∧ Aside0 (kq ≤ k) ∧ Aside0 (Below w.heap.size w w'))
  case atStart => exact ⟨(0), (by first | rfl | (simp; done) | (simp [*]; done)), H', ⟨Nat.le_refl _⟩, ⟨by repeat (first | (with_reducible first | exact HB.out | apply below_alloc | apply pw_below_drewN | apply below_drew1) | exact HB.out)⟩⟩
  case round =>
   clear H'
   try clear p2
   try clear c3
   obtain ⟨x12_1, rfl, HA, HK1, HB⟩ := hrel
   cases gk with
   | zero => exact absurd HA.out (by simp [laws_scGood.l0])
   | succ k1 =>
    have H := HA.out
    clear HA
    simp only [laws_scGood.l0] at H
    by_cases c5 : x12_1 < (l0.length : Int)
    ·
     rw [if_pos c5] at H
     have c5b0 : decide (x12_1 < (l0.length : Int)) = true := decide_eq_true c5
     clear c5
     by_cases c6 : 0 ≤ x12_1
     ·
      rw [if_pos c6] at H
      have c6b0 : decide (0 ≤ x12_1) = true := decide_eq_true c6
      clear c6
      by_cases c7 : x12_1 < (l0.length : Int)
      ·
       rw [if_pos c7] at H
       have c7b0 : decide (x12_1 < (l0.length : Int)) = true := decide_eq_true c7
       clear c7
       have H' := Aside0.mk H
       clear H
       have p378 : 0 ≤ (x12_1 : Int) := of_decide_eq_true (by first | (with_reducible assumption) | assumption)
       have q378 : x12_1 < (l0.length : Int) := of_decide_eq_true (by first | (with_reducible assumption) | assumption)
       obtain ⟨ad378, A378_0, c378_0, e378, hx378_0, hl378_0, hi378_0⟩ := at_L5 HR0.out x12_1 p378 q378
       cases e378
       replace hx378_0 := (HB.out.cell (World.block_lt_of_cell? w _ hx378_0)).trans hx378_0
       have HR378_0 := Aside0.mk hi378_0
       have HC378_0 := Aside0.mk hl378_0
       clear hi378_0 hl378_0
       replace p378 := eq_true p378
       replace q378 := eq_true q378
       go_wp2
       go_loopg [18] k1 (fun kq v18 w' => ∃ (x18_2 : Int), v18 = .int .i64 x18_2 ∧ Aside0 (laws_scGood.l1 kq l0 (l0.length : Int) x12_1 (rd_L5 l0 x12_1) ((rd_L5 l0 x12_1).length : Int) x18_2 = some r) ∧ Aside0 (kq ≤ k1) ∧ Aside0 (Below w.heap.size w w'))
       case atStart => exact ⟨(0), (by first | rfl | (simp; done) | (simp [*]; done)), H', ⟨Nat.le_refl _⟩, ⟨by repeat (first | (with_reducible first | exact HB.out | apply below_alloc | apply pw_below_drewN | apply below_drew1) | exact HB.out)⟩⟩
       case round =>
        clear H'
        try clear p2
        try clear c3
        try clear p3
        try clear q3
        try clear hx3
        try clear c5
        try clear c5b0
        try clear c6
        try clear c6b0
        try clear c7
        try clear c7b0
        try clear hx378_0
        try clear p2
        try clear p378
        try clear q378
        obtain ⟨x18_2, rfl, HA, HK2, HB⟩ := hrel
        cases gk with
        | zero => exact absurd HA.out (by simp [laws_scGood.l1])
        | succ k2 =>
         have H := HA.out
         clear HA
         simp only [laws_scGood.l1] at H
         by_cases c8 : x18_2 < ((rd_L5 l0 x12_1).length : Int)
         ·
          rw [if_pos c8] at H
          have c8b0 : decide (x18_2 < ((rd_L5 l0 x12_1).length : Int)) = true := decide_eq_true c8
          clear c8
          by_cases c9 : 0 ≤ x18_2
          ·
           rw [if_pos c9] at H
           have c9b0 : decide (0 ≤ x18_2) = true := decide_eq_true c9
           clear c9
           by_cases c10 : x18_2 < ((rd_L5 l0 x12_1).length : Int)
           ·
            rw [if_pos c10] at H
            have c10b0 : decide (x18_2 < ((rd_L5 l0 x12_1).length : Int)) = true := decide_eq_true c10
            clear c10
            by_cases c11 : (((rd_T24 (rd_L5 l0 x12_1) x18_2).f5).size : Int) > 64
            ·
             rw [if_pos c11] at H
             have c11b0 : decide (64 < (((rd_T24 (rd_L5 l0 x12_1) x18_2).f5).size : Int)) = true := decide_eq_true c11
             have c11b1 : decide (64 < ((rd_T24 (rd_L5 l0 x12_1) x18_2).f5).size) = true := decide_eq_true (by omega)
             clear c11
             obtain rfl := Option.some.inj H
             have p379 : 0 ≤ (x18_2 : Int) := of_decide_eq_true (by first | (with_reducible assumption) | assumption)
             have q379 : x18_2 < ((rd_L5 l0 x12_1).length : Int) := of_decide_eq_true (by first | (with_reducible assumption) | assumption)
             obtain ⟨ad379, e379, hx379_0, hx379_1, hx379_2, hx379_3, hx379_4, hx379_5⟩ := at_T24 HR378_0.out x18_2 p379 q379
             cases e379
             replace hx379_0 := (HB.out.cell (World.block_lt_of_cell? w _ hx379_0)).trans hx379_0
             replace hx379_1 := (HB.out.cell (World.block_lt_of_cell? w _ hx379_1)).trans hx379_1
             replace hx379_2 := (HB.out.cell (World.block_lt_of_cell? w _ hx379_2)).trans hx379_2
             replace hx379_3 := (HB.out.cell (World.block_lt_of_cell? w _ hx379_3)).trans hx379_3
             replace hx379_4 := (HB.out.cell (World.block_lt_of_cell? w _ hx379_4)).trans hx379_4
             replace hx379_5 := (HB.out.cell (World.block_lt_of_cell? w _ hx379_5)).trans hx379_5
             replace p379 := eq_true p379
             replace q379 := eq_true q379
             go_wp2_with (first | ((with_reducible refine gate_dst (N := 6) rfl ?_); refine box_event ?hg (N := 6) ?hd (cs := #[.int .i64 0, .int .i64 0, .int .u64 0, .int .u64 0, .int .u64 0, .string (⟨#[]⟩ : ByteArray)]) (t := 24) ?hr ?_; (case hd => rfl); (case hg => rfl); (case hr => first | (go_simp; done) | (go_simp; rfl) | (go_simp; simp [u8w]; done)); intro gb380 hg w12 hbox hb; have n0_ := Aside0.mk (below_step (by repeat (first | (with_reducible first | exact HB.out | apply below_alloc | apply pw_below_drewN | apply below_drew1) | exact HB.out)) hb); have n1_ := Aside0.mk (hbox); have n2_ := Aside0.mk ((by rw [hg]; exact (below_size (by repeat (first | (with_reducible first | exact HB.out | apply below_alloc | apply pw_below_drewN | apply below_drew1) | exact HB.out))) : w.heap.size ≤ gb380)); have n3_ := Aside0.mk ((by rw [hg]; exact (below_size (by repeat (first | (with_reducible first | exact HB.out | apply below_alloc | apply pw_below_drewN | apply below_drew1) | exact HB.out))) : w.heap.size ≤ gb380)); clear HB; have HB := n0_; have BK380 := n1_; have GW380 := n2_; have GE380 := n3_; clear n0_ n1_ n2_ n3_; clear hb hbox hg; have hcz13_0 : w12.cell? ⟨gb380, 0, none⟩ = some (.int .i64 0) := (blk_cell BK380.out 0).trans rfl; have hcz13_1 : w12.cell? ⟨gb380, 1, none⟩ = some (.int .i64 0) := (blk_cell BK380.out 1).trans rfl; have hcz13_2 : w12.cell? ⟨gb380, 2, none⟩ = some (.int .u64 0) := (blk_cell BK380.out 2).trans rfl; have hcz13_3 : w12.cell? ⟨gb380, 3, none⟩ = some (.int .u64 0) := (blk_cell BK380.out 3).trans rfl; have hcz13_4 : w12.cell? ⟨gb380, 4, none⟩ = some (.int .u64 0) := (blk_cell BK380.out 4).trans rfl; have hcz13_5 : w12.cell? ⟨gb380, 5, none⟩ = some (.string (⟨#[]⟩ : ByteArray)) := (blk_cell BK380.out 5).trans rfl; have hfz13_0 := blk_frozen BK380.out 0; have hfz13_1 := blk_frozen BK380.out 1; have hfz13_2 := blk_frozen BK380.out 2; have hfz13_3 := blk_frozen BK380.out 3; have hfz13_4 := blk_frozen BK380.out 4; have hfz13_5 := blk_frozen BK380.out 5))
             go_ret
             exact ⟨by first | rfl | (simp [errW_none, errW_some] <;> rfl) | (simp [*, errW_none, errW_some] <;> rfl) | (simp [bneNil]; done), by repeat (first | (with_reducible first | exact HB.out | apply below_alloc | apply pw_below_drewN | apply below_drew1 | refine below_set ?_ GE380.out) | exact HB.out)⟩
            ·
             rw [if_neg c11] at H
             have c11b0 : decide (64 < (((rd_T24 (rd_L5 l0 x12_1) x18_2).f5).size : Int)) = false := decide_eq_false c11
             have c11b1 : decide (64 < ((rd_T24 (rd_L5 l0 x12_1) x18_2).f5).size) = false := decide_eq_false (by omega)
             clear c11
             have H' := Aside0.mk H
             clear H
             have p379 : 0 ≤ (x18_2 : Int) := of_decide_eq_true (by first | (with_reducible assumption) | assumption)
             have q379 : x18_2 < ((rd_L5 l0 x12_1).length : Int) := of_decide_eq_true (by first | (with_reducible assumption) | assumption)
             obtain ⟨ad379, e379, hx379_0, hx379_1, hx379_2, hx379_3, hx379_4, hx379_5⟩ := at_T24 HR378_0.out x18_2 p379 q379
             cases e379
             replace hx379_0 := (HB.out.cell (World.block_lt_of_cell? w _ hx379_0)).trans hx379_0
             replace hx379_1 := (HB.out.cell (World.block_lt_of_cell? w _ hx379_1)).trans hx379_1
             replace hx379_2 := (HB.out.cell (World.block_lt_of_cell? w _ hx379_2)).trans hx379_2
             replace hx379_3 := (HB.out.cell (World.block_lt_of_cell? w _ hx379_3)).trans hx379_3
             replace hx379_4 := (HB.out.cell (World.block_lt_of_cell? w _ hx379_4)).trans hx379_4
             replace hx379_5 := (HB.out.cell (World.block_lt_of_cell? w _ hx379_5)).trans hx379_5
             replace p379 := eq_true p379
             replace q379 := eq_true q379
             go_wp2_with (first | ((with_reducible refine gate_dst (N := 6) rfl ?_); refine box_event ?hg (N := 6) ?hd (cs := #[.int .i64 0, .int .i64 0, .int .u64 0, .int .u64 0, .int .u64 0, .string (⟨#[]⟩ : ByteArray)]) (t := 24) ?hr ?_; (case hd => rfl); (case hg => rfl); (case hr => first | (go_simp; done) | (go_simp; rfl) | (go_simp; simp [u8w]; done)); intro gb380 hg w14 hbox hb; have n0_ := Aside0.mk (below_step (by repeat (first | (with_reducible first | exact HB.out | apply below_alloc | apply pw_below_drewN | apply below_drew1) | exact HB.out)) hb); have n1_ := Aside0.mk (hbox); have n2_ := Aside0.mk ((by rw [hg]; exact (below_size (by repeat (first | (with_reducible first | exact HB.out | apply below_alloc | apply pw_below_drewN | apply below_drew1) | exact HB.out))) : w.heap.size ≤ gb380)); have n3_ := Aside0.mk ((by rw [hg]; exact (below_size (by repeat (first | (with_reducible first | exact HB.out | apply below_alloc | apply pw_below_drewN | apply below_drew1) | exact HB.out))) : w.heap.size ≤ gb380)); clear HB; have HB := n0_; have BK380 := n1_; have GW380 := n2_; have GE380 := n3_; clear n0_ n1_ n2_ n3_; clear hb hbox hg; have hcz15_0 : w14.cell? ⟨gb380, 0, none⟩ = some (.int .i64 0) := (blk_cell BK380.out 0).trans rfl; have hcz15_1 : w14.cell? ⟨gb380, 1, none⟩ = some (.int .i64 0) := (blk_cell BK380.out 1).trans rfl; have hcz15_2 : w14.cell? ⟨gb380, 2, none⟩ = some (.int .u64 0) := (blk_cell BK380.out 2).trans rfl; have hcz15_3 : w14.cell? ⟨gb380, 3, none⟩ = some (.int .u64 0) := (blk_cell BK380.out 3).trans rfl; have hcz15_4 : w14.cell? ⟨gb380, 4, none⟩ = some (.int .u64 0) := (blk_cell BK380.out 4).trans rfl; have hcz15_5 : w14.cell? ⟨gb380, 5, none⟩ = some (.string (⟨#[]⟩ : ByteArray)) := (blk_cell BK380.out 5).trans rfl; have hfz15_0 := blk_frozen BK380.out 0; have hfz15_1 := blk_frozen BK380.out 1; have hfz15_2 := blk_frozen BK380.out 2; have hfz15_3 := blk_frozen BK380.out 3; have hfz15_4 := blk_frozen BK380.out 4; have hfz15_5 := blk_frozen BK380.out 5))
             go_roundg k2
             case measure => have := HK1.out; have := HK2.out; omega
             case rel => exact ⟨(wrap64 (x18_2 + 1)), (by first | rfl | (simp; done) | (simp [*]; done)), H', ⟨by have := HK1.out; have := HK2.out; omega⟩, ⟨by repeat (first | (with_reducible first | exact HB.out | apply below_alloc | apply pw_below_drewN | apply below_drew1 | refine below_set ?_ GE380.out) | exact HB.out)⟩⟩
           ·
            rw [if_neg c10] at H
            exact absurd H (by simp)
          ·
           rw [if_neg c9] at H
           exact absurd H (by simp)
         ·
          rw [if_neg c8] at H
          have c8b0 : decide (x18_2 < ((rd_L5 l0 x12_1).length : Int)) = false := decide_eq_false c8
          clear c8
          have H' := Aside0.mk H
          clear H
          go_wp2
          go_roundg k2
          case measure => have := HK1.out; have := HK2.out; omega
          case rel => exact ⟨(wrap64 (x12_1 + 1)), (by first | rfl | (simp; done) | (simp [*]; done)), H', ⟨by have := HK1.out; have := HK2.out; omega⟩, ⟨by repeat (first | (with_reducible first | exact HB.out | apply below_alloc | apply pw_below_drewN | apply below_drew1) | exact HB.out)⟩⟩
      ·
       rw [if_neg c7] at H
       exact absurd H (by simp)
     ·
      rw [if_neg c6] at H
      exact absurd H (by simp)
    ·
     rw [if_neg c5] at H
     have c5b0 : decide (x12_1 < (l0.length : Int)) = false := decide_eq_false c5
     clear c5
     obtain rfl := Option.some.inj H
     go_wp2
     go_ret
     exact ⟨by first | rfl | (simp [errW_none, errW_some] <;> rfl) | (simp [*, errW_none, errW_some] <;> rfl) | (simp [bneNil]; done), by repeat (first | (with_reducible first | exact HB.out | apply below_alloc | apply pw_below_drewN | apply below_drew1) | exact HB.out)⟩
 ·
  replace c3 := Bool.eq_false_iff.mpr c3
  subst c3
  have H1 : (some false) = some r := by rw [if_neg (show ¬ (false = true) by decide)] at H; exact H
  clear H
  have H := H1
  clear H1
  obtain rfl := Option.some.inj H
  go_enter Tryd.func67, Tryd.ntmps67
  go_wp2_with (first | ((with_reducible refine gate_callee (f := 72) rfl ?_); refine goesL_ (some 8) rfl rfl Tryd.func72 (by kernel_rfl) rfl #[.slice A0 l0.length c0, .int .i64 24] rfl (by (try simp only [List.map_toArray, List.map_cons, List.map_nil]); first | done | rfl | (simp only [List.length_drop, List.length_take]; rfl)) ?_; (with_reducible refine (spec_GoodTerms.calls k _ _ l0 24 false _ ?side1 ?side2 A2.out).mono ?_); (case side1 => repeat (first | exact HR0.out | (with_reducible refine Kd.C_alloc ?_ _) | (with_reducible refine Kd.C_drewN ?_ _) | (with_reducible refine Kd.C_drew ?_))); (case side2 => exact HC0.out); rintro e w16 ⟨rfl, hb⟩; refine ⟨_, rfl, ?_⟩; have n0_ := Aside0.mk (below_step (by repeat (first | (with_reducible first | exact HB.out | apply below_alloc | apply pw_below_drewN | apply below_drew1) | exact HB.out)) hb); clear HB; have HB := n0_; clear n0_; (try clear hb); (try clear hb2); (try clear hk); (try clear hi)))
  go_ret
  exact ⟨by first | rfl | (simp [errW_none, errW_some] <;> rfl) | (simp [*, errW_none, errW_some] <;> rfl) | (simp [bneNil]; done), by repeat (first | (with_reducible first | exact HB.out | apply below_alloc | apply pw_below_drewN | apply below_drew1) | exact HB.out)⟩

def laws_scList.f (k : Nat) (l0 : List (S24)) : Option (Bool) := (laws_scGood.f k (([l0] : List (List (S24))))).bind fun t384 => (some t384)

set_option maxHeartbeats 80000000 in
set_option maxRecDepth 100000 in
theorem laws_scList.calls (k : Nat) (P0_ : Nat → Prop) (A0 : Option Addr) (c0 : Nat) (l0 : List (S24)) (r : Bool) (w : World) (hs0 : Kd.V k24 24 w w.heap.size (fun k_ => P0_ k_) (.slice A0 l0.length c0) l0) (h : laws_scList.f k l0 = some r) :
    Calls Tryd.prog 35 #[.slice A0 l0.length c0] w fun e w' => e = .returned (.bool r) ∧ Below w.heap.size w w' := by
  have HO0 := Aside0.mk (show Kd.V k24 24 w w.heap.size (fun k_ => (P0_ k_ ∨ w.heap.size ≤ k_)) (.slice A0 l0.length c0) l0 from Kd.V_mono hs0 (fun k_ hk => .inl hk))
  have HB := Aside0.mk (Below.refl w.heap.size w)
  have H : ((laws_scGood.f k (([l0] : List (List (S24))))).bind fun t384 => (some t384)) = some r := h
  clear h
  obtain ⟨y381, hy381⟩ : ∃ y_ : List (List (S24)), y_ = (([l0] : List (List (S24)))) := ⟨_, rfl⟩
  replace H : ((laws_scGood.f k y381).bind fun t384 => (some t384)) = some r := by first | (rw [hy381]; with_reducible exact H) | (have H2_ := (Option.bind_some _ _).symm.trans H; rw [hy381]; with_reducible exact H2_) | (have H2_ := (Option.bind_some _ _).symm.trans H; with_reducible exact H2_) | with_reducible exact H | (rw [hy381]; exact H) | exact H
  have Ny381 := Aside0.mk hy381
  clear hy381
  replace H := Option.bind_eq_some_iff.mp H
  obtain ⟨t384, A20, H⟩ := H
  replace H : (some t384) = some r := H
  have A2 := Aside0.mk A20
  clear A20
  obtain rfl := Option.some.inj H
  go_enter Tryd.func35, Tryd.ntmps35
  go_wp2_with (first | ((with_reducible refine gate_dst (N := 4) rfl ?_); refine Kd.N_lit (Kd.slice 24 k24) _ 42 ?hg (N' := 4) ?hd (xs := ([l0] : List (List (S24)))) (inner := [.slice A0 l0.length c0]) (ok := (fun k_ => (P0_ k_ ∨ w.heap.size ≤ k_))) (okp := (fun k_ => (P0_ k_ ∨ w.heap.size ≤ k_))) ?hr ?hp (fun _ hk => hk) ((show ∀ k_, w.heap.size ≤ k_ → (fun k_ => (P0_ k_ ∨ w.heap.size ≤ k_)) k_ from fun k_ hk => (.inr (Nat.le_trans (below_size (by repeat (first | (with_reducible first | exact HB.out | apply below_alloc | apply pw_below_drewN | apply below_drew1) | exact HB.out))) hk))) _ (Nat.le_refl _)) (Below.refl _ _) (Nat.le_refl _) (by simp) ?_; (case hd => rfl); (case hg => rfl); (case hr => first | (go_simp; done) | (go_simp; rfl) | (go_simp; simp [u8w]; done)); (case hp => exact (Reps.one (show Kd.FK (Kd.slice 24 k24) _ _ l0 [.slice A0 l0.length c0] from (Kd.FK_slice_mk (Kd.V_reads' (Kd.V_mono (ok' := (fun k_ => (P0_ k_ ∨ w.heap.size ≤ k_))) (HO0.out) (fun k_ hk => hk))).2.1 (Kd.V_F (Kd.V_mono (ok' := (fun k_ => (P0_ k_ ∨ w.heap.size ≤ k_))) (HO0.out) (fun k_ hk => hk))))) (Reps.none _ _))); intro v382 w3 ho4 hb hg_ hnew_; clear hg_ hnew_; (first | rw [← Ny381.out] at ho4 | (simp only [Int.reduceToNat] at ho4; rw [← Ny381.out] at ho4)); have n0_ := Aside0.mk (Kd.V_elder' (by (with_reducible repeat (first | apply Kd.V_alloc | apply Kd.V_drewN | apply Kd.V_drew)); exact HO0.out) (Kd.N_base ho4) hb); have n1_ := Aside0.mk (Kd.N_lower ho4 (below_size (by repeat (first | (with_reducible first | exact HB.out | apply below_alloc | apply pw_below_drewN | apply below_drew1) | exact HB.out)))); have n2_ := Aside0.mk (below_step (by repeat (first | (with_reducible first | exact HB.out | apply below_alloc | apply pw_below_drewN | apply below_drew1) | exact HB.out)) hb); clear HO0; clear HB; have HO0 := n0_; have HO383 := n1_; have HB := n2_; clear n0_ n1_ n2_; clear hb ho4; obtain ⟨Ao5, co5, eo5⟩ := Kd.N_slice HO383.out; subst eo5) | ((with_reducible refine gate_callee (f := 67) rfl ?_); refine goesL_ (some 5) rfl rfl Tryd.func67 (by kernel_rfl) rfl #[.slice Ao5 y381.length co5] rfl (by (try simp only [List.map_toArray, List.map_cons, List.map_nil]); first | done | rfl | (simp only [List.length_drop, List.length_take]; rfl)) ?_; (with_reducible refine (laws_scGood.calls k _ _ y381 t384 _ ?side1 ?side2 A2.out).mono ?_); (case side1 => repeat (first | exact (Kd.N_reads' HO383.out).2.2 | (with_reducible refine Kd.C_alloc ?_ _) | (with_reducible refine Kd.C_drewN ?_ _) | (with_reducible refine Kd.C_drew ?_))); (case side2 => exact (Kd.N_reads' HO383.out).2.1); rintro e w6 ⟨rfl, hb⟩; refine ⟨_, rfl, ?_⟩; have n0_ := Aside0.mk (Kd.V_below (by (with_reducible repeat (first | apply Kd.V_alloc | apply Kd.V_drewN | apply Kd.V_drew)); exact HO0.out) hb); have n1_ := Aside0.mk (Kd.N_below (by (with_reducible repeat (first | apply Kd.N_alloc | apply Kd.N_drewN | apply Kd.N_drew)); exact HO383.out) hb); have n2_ := Aside0.mk (below_step (by repeat (first | (with_reducible first | exact HB.out | apply below_alloc | apply pw_below_drewN | apply below_drew1) | exact HB.out)) hb); clear HO0; clear HO383; clear HB; have HO0 := n0_; have HO383 := n1_; have HB := n2_; clear n0_ n1_ n2_; (try clear hb); (try clear hb2); (try clear hk); (try clear hi)))
  go_ret
  exact ⟨by first | rfl | (simp [errW_none, errW_some] <;> rfl) | (simp [*, errW_none, errW_some] <;> rfl) | (simp [bneNil]; done), by repeat (first | (with_reducible first | exact HB.out | apply below_alloc | apply pw_below_drewN | apply below_drew1) | exact HB.out)⟩

def spec_HasPre.l0 : Nat → List (S24) → Int → Int → Option (Bool)
  | 0, _, _, _ => none
  | k + 1, x5, x6, x7 => if x7 < x6 then (if 0 ≤ x7 then (if x7 < (x5.length : Int) then (if ((rd_T24 x5 x7).f5).toList = ([] : List UInt8) then (spec_HasPre.l0 k x5 x6 (wrap64 (x7 + 1))) else (some true)) else (none)) else (none)) else (some false)

def spec_HasPre.f (k : Nat) (l0 : List (S24)) : Option (Bool) := spec_HasPre.l0 k l0 (l0.length : Int) 0

set_option maxHeartbeats 80000000 in
set_option maxRecDepth 100000 in
theorem spec_HasPre.calls (k : Nat) (A0 : Option Addr) (c0 : Nat) (l0 : List (S24)) (r : Bool) (w : World) (hr0 : Kd.C k24 w A0 l0.length l0) (hc0 : l0.length ≤ c0) (h : spec_HasPre.f k l0 = some r) :
  Calls Tryd.prog 36 #[.slice A0 l0.length c0] w fun e w' => e = .returned (.bool r) ∧ Below w.heap.size w w' := by
 have hu24 := Tryd.underlying24
 have HR0 := Aside0.mk hr0
 have HC0 := Aside0.mk hc0
 clear hr0 hc0
 have HB := Aside0.mk (Below.refl w.heap.size w)
 have H : (spec_HasPre.l0 k l0 (l0.length : Int) 0) = some r := h
 clear h
 have H' := Aside0.mk H
 clear H
 go_enter Tryd.func36, Tryd.ntmps36
 go_wp2
 go_loopg [7] k (fun kq v7 w' => ∃ (x7_1 : Int), v7 = .int .i64 x7_1 ∧ Aside0 (spec_HasPre.l0 kq l0 (l0.length : Int) x7_1 = some r) ∧ Aside0 (kq ≤ k) ∧ Aside0 (Below w.heap.size w w'))
 case atStart => exact ⟨(0), (by first | rfl | (simp; done) | (simp [*]; done)), H', ⟨Nat.le_refl _⟩, ⟨by repeat (first | (with_reducible first | exact HB.out | apply below_alloc | apply pw_below_drewN | apply below_drew1) | exact HB.out)⟩⟩
 case round =>
  clear H'
  obtain ⟨x7_1, rfl, HA, HK1, HB⟩ := hrel
  cases gk with
  | zero => exact absurd HA.out (by simp [spec_HasPre.l0])
  | succ k1 =>
   have H := HA.out
   clear HA
   simp only [spec_HasPre.l0] at H
   by_cases c2 : x7_1 < (l0.length : Int)
   ·
    rw [if_pos c2] at H
    have c2b0 : decide (x7_1 < (l0.length : Int)) = true := decide_eq_true c2
    clear c2
    by_cases c3 : 0 ≤ x7_1
    ·
     rw [if_pos c3] at H
     have c3b0 : decide (0 ≤ x7_1) = true := decide_eq_true c3
     clear c3
     by_cases c4 : x7_1 < (l0.length : Int)
     ·
      rw [if_pos c4] at H
      have c4b0 : decide (x7_1 < (l0.length : Int)) = true := decide_eq_true c4
      clear c4
      by_cases c5 : ((rd_T24 l0 x7_1).f5).toList = ([] : List UInt8)
      ·
       rw [if_pos c5] at H
       have c5b0 : (((rd_T24 l0 x7_1).f5).toList == ([] : List UInt8)) = true := beq_iff_eq.mpr c5
       have c5b1 : (((rd_T24 l0 x7_1).f5).toList != ([] : List UInt8)) = false := bne_eq_false_iff_eq.mpr c5
       clear c5
       have H' := Aside0.mk H
       clear H
       have p385 : 0 ≤ (x7_1 : Int) := of_decide_eq_true (by first | (with_reducible assumption) | assumption)
       have q385 : x7_1 < (l0.length : Int) := of_decide_eq_true (by first | (with_reducible assumption) | assumption)
       obtain ⟨ad385, e385, hx385_0, hx385_1, hx385_2, hx385_3, hx385_4, hx385_5⟩ := at_T24 HR0.out x7_1 p385 q385
       cases e385
       replace hx385_0 := (HB.out.cell (World.block_lt_of_cell? w _ hx385_0)).trans hx385_0
       replace hx385_1 := (HB.out.cell (World.block_lt_of_cell? w _ hx385_1)).trans hx385_1
       replace hx385_2 := (HB.out.cell (World.block_lt_of_cell? w _ hx385_2)).trans hx385_2
       replace hx385_3 := (HB.out.cell (World.block_lt_of_cell? w _ hx385_3)).trans hx385_3
       replace hx385_4 := (HB.out.cell (World.block_lt_of_cell? w _ hx385_4)).trans hx385_4
       replace hx385_5 := (HB.out.cell (World.block_lt_of_cell? w _ hx385_5)).trans hx385_5
       replace p385 := eq_true p385
       replace q385 := eq_true q385
       go_wp2_with (first | ((with_reducible refine gate_dst (N := 4) rfl ?_); refine box_event ?hg (N := 4) ?hd (cs := #[.int .i64 0, .int .i64 0, .int .u64 0, .int .u64 0, .int .u64 0, .string (⟨#[]⟩ : ByteArray)]) (t := 24) ?hr ?_; (case hd => rfl); (case hg => rfl); (case hr => first | (go_simp; done) | (go_simp; rfl) | (go_simp; simp [u8w]; done)); intro gb386 hg w6 hbox hb; have n0_ := Aside0.mk (below_step (by repeat (first | (with_reducible first | exact HB.out | apply below_alloc | apply pw_below_drewN | apply below_drew1) | exact HB.out)) hb); have n1_ := Aside0.mk (hbox); have n2_ := Aside0.mk ((by rw [hg]; exact (below_size (by repeat (first | (with_reducible first | exact HB.out | apply below_alloc | apply pw_below_drewN | apply below_drew1) | exact HB.out))) : w.heap.size ≤ gb386)); have n3_ := Aside0.mk ((by rw [hg]; exact (below_size (by repeat (first | (with_reducible first | exact HB.out | apply below_alloc | apply pw_below_drewN | apply below_drew1) | exact HB.out))) : w.heap.size ≤ gb386)); clear HB; have HB := n0_; have BK386 := n1_; have GW386 := n2_; have GE386 := n3_; clear n0_ n1_ n2_ n3_; clear hb hbox hg; have hcz7_0 : w6.cell? ⟨gb386, 0, none⟩ = some (.int .i64 0) := (blk_cell BK386.out 0).trans rfl; have hcz7_1 : w6.cell? ⟨gb386, 1, none⟩ = some (.int .i64 0) := (blk_cell BK386.out 1).trans rfl; have hcz7_2 : w6.cell? ⟨gb386, 2, none⟩ = some (.int .u64 0) := (blk_cell BK386.out 2).trans rfl; have hcz7_3 : w6.cell? ⟨gb386, 3, none⟩ = some (.int .u64 0) := (blk_cell BK386.out 3).trans rfl; have hcz7_4 : w6.cell? ⟨gb386, 4, none⟩ = some (.int .u64 0) := (blk_cell BK386.out 4).trans rfl; have hcz7_5 : w6.cell? ⟨gb386, 5, none⟩ = some (.string (⟨#[]⟩ : ByteArray)) := (blk_cell BK386.out 5).trans rfl; have hfz7_0 := blk_frozen BK386.out 0; have hfz7_1 := blk_frozen BK386.out 1; have hfz7_2 := blk_frozen BK386.out 2; have hfz7_3 := blk_frozen BK386.out 3; have hfz7_4 := blk_frozen BK386.out 4; have hfz7_5 := blk_frozen BK386.out 5))
       go_roundg k1
       case measure => have := HK1.out; omega
       case rel => exact ⟨(wrap64 (x7_1 + 1)), (by first | rfl | (simp; done) | (simp [*]; done)), H', ⟨by have := HK1.out; omega⟩, ⟨by repeat (first | (with_reducible first | exact HB.out | apply below_alloc | apply pw_below_drewN | apply below_drew1 | refine below_set ?_ GE386.out) | exact HB.out)⟩⟩
      ·
       rw [if_neg c5] at H
       have c5b0 : (((rd_T24 l0 x7_1).f5).toList == ([] : List UInt8)) = false := beq_eq_false_iff_ne.mpr c5
       have c5b1 : (((rd_T24 l0 x7_1).f5).toList != ([] : List UInt8)) = true := bne_iff_ne.mpr c5
       obtain rfl := Option.some.inj H
       have p385 : 0 ≤ (x7_1 : Int) := of_decide_eq_true (by first | (with_reducible assumption) | assumption)
       have q385 : x7_1 < (l0.length : Int) := of_decide_eq_true (by first | (with_reducible assumption) | assumption)
       obtain ⟨ad385, e385, hx385_0, hx385_1, hx385_2, hx385_3, hx385_4, hx385_5⟩ := at_T24 HR0.out x7_1 p385 q385
       cases e385
       replace hx385_0 := (HB.out.cell (World.block_lt_of_cell? w _ hx385_0)).trans hx385_0
       replace hx385_1 := (HB.out.cell (World.block_lt_of_cell? w _ hx385_1)).trans hx385_1
       replace hx385_2 := (HB.out.cell (World.block_lt_of_cell? w _ hx385_2)).trans hx385_2
       replace hx385_3 := (HB.out.cell (World.block_lt_of_cell? w _ hx385_3)).trans hx385_3
       replace hx385_4 := (HB.out.cell (World.block_lt_of_cell? w _ hx385_4)).trans hx385_4
       replace hx385_5 := (HB.out.cell (World.block_lt_of_cell? w _ hx385_5)).trans hx385_5
       replace p385 := eq_true p385
       replace q385 := eq_true q385
       go_wp2_with (first | ((with_reducible refine gate_dst (N := 4) rfl ?_); refine box_event ?hg (N := 4) ?hd (cs := #[.int .i64 0, .int .i64 0, .int .u64 0, .int .u64 0, .int .u64 0, .string (⟨#[]⟩ : ByteArray)]) (t := 24) ?hr ?_; (case hd => rfl); (case hg => rfl); (case hr => first | (go_simp; done) | (go_simp; rfl) | (go_simp; simp [u8w]; done)); intro gb386 hg w8 hbox hb; have n0_ := Aside0.mk (below_step (by repeat (first | (with_reducible first | exact HB.out | apply below_alloc | apply pw_below_drewN | apply below_drew1) | exact HB.out)) hb); have n1_ := Aside0.mk (hbox); have n2_ := Aside0.mk ((by rw [hg]; exact (below_size (by repeat (first | (with_reducible first | exact HB.out | apply below_alloc | apply pw_below_drewN | apply below_drew1) | exact HB.out))) : w.heap.size ≤ gb386)); have n3_ := Aside0.mk ((by rw [hg]; exact (below_size (by repeat (first | (with_reducible first | exact HB.out | apply below_alloc | apply pw_below_drewN | apply below_drew1) | exact HB.out))) : w.heap.size ≤ gb386)); clear HB; have HB := n0_; have BK386 := n1_; have GW386 := n2_; have GE386 := n3_; clear n0_ n1_ n2_ n3_; clear hb hbox hg; have hcz9_0 : w8.cell? ⟨gb386, 0, none⟩ = some (.int .i64 0) := (blk_cell BK386.out 0).trans rfl; have hcz9_1 : w8.cell? ⟨gb386, 1, none⟩ = some (.int .i64 0) := (blk_cell BK386.out 1).trans rfl; have hcz9_2 : w8.cell? ⟨gb386, 2, none⟩ = some (.int .u64 0) := (blk_cell BK386.out 2).trans rfl; have hcz9_3 : w8.cell? ⟨gb386, 3, none⟩ = some (.int .u64 0) := (blk_cell BK386.out 3).trans rfl; have hcz9_4 : w8.cell? ⟨gb386, 4, none⟩ = some (.int .u64 0) := (blk_cell BK386.out 4).trans rfl; have hcz9_5 : w8.cell? ⟨gb386, 5, none⟩ = some (.string (⟨#[]⟩ : ByteArray)) := (blk_cell BK386.out 5).trans rfl; have hfz9_0 := blk_frozen BK386.out 0; have hfz9_1 := blk_frozen BK386.out 1; have hfz9_2 := blk_frozen BK386.out 2; have hfz9_3 := blk_frozen BK386.out 3; have hfz9_4 := blk_frozen BK386.out 4; have hfz9_5 := blk_frozen BK386.out 5))
       go_ret
       exact ⟨by first | rfl | (simp [errW_none, errW_some] <;> rfl) | (simp [*, errW_none, errW_some] <;> rfl) | (simp [bneNil]; done), by repeat (first | (with_reducible first | exact HB.out | apply below_alloc | apply pw_below_drewN | apply below_drew1 | refine below_set ?_ GE386.out) | exact HB.out)⟩
     ·
      rw [if_neg c4] at H
      exact absurd H (by simp)
    ·
     rw [if_neg c3] at H
     exact absurd H (by simp)
   ·
    rw [if_neg c2] at H
    have c2b0 : decide (x7_1 < (l0.length : Int)) = false := decide_eq_false c2
    clear c2
    obtain rfl := Option.some.inj H
    go_wp2
    go_ret
    exact ⟨by first | rfl | (simp [errW_none, errW_some] <;> rfl) | (simp [*, errW_none, errW_some] <;> rfl) | (simp [bneNil]; done), by repeat (first | (with_reducible first | exact HB.out | apply below_alloc | apply pw_below_drewN | apply below_drew1) | exact HB.out)⟩

def semver_zzIndex.l0 : Nat → ByteArray → ByteArray → Int → Option (Int)
  | 0, _, _, _ => none
  | k + 1, x0, x1, x5 => if (wrap64 (x5 + (x1.size : Int))) ≤ (x0.size : Int) then (if 0 ≤ x5 then (if x5 ≤ (wrap64 (x5 + (x1.size : Int))) then (if (x0.extract (x5 : Int).toNat ((wrap64 (x5 + (x1.size : Int))) : Int).toNat).toList = x1.toList then (some x5) else (semver_zzIndex.l0 k x0 x1 (wrap64 (x5 + 1)))) else (none)) else (none)) else (some (-1))

def semver_zzIndex.f (k : Nat) (a0 : ByteArray) (a1 : ByteArray) : Option (Int) := semver_zzIndex.l0 k a0 a1 0

set_option maxHeartbeats 80000000 in
set_option maxRecDepth 100000 in
theorem semver_zzIndex.calls (k : Nat) (a0 : ByteArray) (a1 : ByteArray) (r : Int) (w : World) (h : semver_zzIndex.f k a0 a1 = some r) :
    Calls Tryd.prog 128 #[.string a0, .string a1] w fun e w' => e = .returned (.int .i64 r) ∧ Drawn0 w w' := by
  have H : (semver_zzIndex.l0 k a0 a1 0) = some r := h
  clear h
  have H' := Aside0.mk H
  clear H
  go_enter Tryd.func128, Tryd.ntmps128
  go_wp2
  go_loopg [5] k (fun kq v5 w' => ∃ (x5_1 : Int), v5 = .int .i64 x5_1 ∧ Aside0 (semver_zzIndex.l0 kq a0 a1 x5_1 = some r) ∧ Aside0 (kq ≤ k) ∧ Drawn0 w w')
  case atStart => exact ⟨(0), (by first | rfl | (simp; done) | (simp [*]; done)), H', ⟨Nat.le_refl _⟩, by repeat (first | exact Drawn0.refl _ | apply Drawn0.step)⟩
  case round =>
    clear H'
    try clear c1
    try clear p2
    obtain ⟨x5_1, rfl, HA, HK1, ⟨m1, rfl⟩⟩ := hrel
    cases gk with
    | zero => exact absurd HA.out (by simp [semver_zzIndex.l0])
    | succ k1 =>
      have H := HA.out
      clear HA
      simp only [semver_zzIndex.l0] at H
      by_cases c3 : (wrap64 (x5_1 + (a1.size : Int))) ≤ (a0.size : Int)
      · rw [if_pos c3] at H
        have c3b0 : decide ((wrap64 (x5_1 + (a1.size : Int))) ≤ (a0.size : Int)) = true := decide_eq_true c3
        clear c3
        by_cases c4 : 0 ≤ x5_1
        · rw [if_pos c4] at H
          have c4b0 := eq_true c4
          have c4b1 : decide (0 ≤ x5_1) = true := decide_eq_true c4
          clear c4
          by_cases c5 : x5_1 ≤ (wrap64 (x5_1 + (a1.size : Int)))
          · rw [if_pos c5] at H
            have c5b0 := eq_true c5
            have c5b1 : decide (x5_1 ≤ (wrap64 (x5_1 + (a1.size : Int)))) = true := decide_eq_true c5
            have c6b0 := eq_true (of_decide_eq_true (by first | (with_reducible assumption) | assumption) : (wrap64 (x5_1 + (a1.size : Int))) ≤ (a0.size : Int))
            by_cases c7 : (a0.extract (x5_1 : Int).toNat ((wrap64 (x5_1 + (a1.size : Int))) : Int).toNat).toList = a1.toList
            · rw [if_pos c7] at H
              have c7b0 : ((a0.extract (x5_1 : Int).toNat ((wrap64 (x5_1 + (a1.size : Int))) : Int).toNat).toList == a1.toList) = true := beq_iff_eq.mpr c7
              have c7b1 : ((a0.extract (x5_1 : Int).toNat ((wrap64 (x5_1 + (a1.size : Int))) : Int).toNat).toList != a1.toList) = false := bne_eq_false_iff_eq.mpr c7
              clear c7
              obtain rfl := Option.some.inj H
              go_wp2
              go_ret
              exact ⟨by first | rfl | (simp; done) | (simp [*]; done) | (simp [bneNil]; done), by repeat (first | exact Drawn0.refl _ | apply Drawn0.step)⟩
            · rw [if_neg c7] at H
              have c7b0 : ((a0.extract (x5_1 : Int).toNat ((wrap64 (x5_1 + (a1.size : Int))) : Int).toNat).toList == a1.toList) = false := beq_eq_false_iff_ne.mpr c7
              have c7b1 : ((a0.extract (x5_1 : Int).toNat ((wrap64 (x5_1 + (a1.size : Int))) : Int).toNat).toList != a1.toList) = true := bne_iff_ne.mpr c7
              have H' := Aside0.mk H
              clear H
              go_wp2
              go_roundg k1
              case measure => have := HK1.out; omega
              case rel => exact ⟨(wrap64 (x5_1 + 1)), (by first | rfl | (simp; done) | (simp [*]; done)), H', ⟨by have := HK1.out; omega⟩, by repeat (first | exact Drawn0.refl _ | apply Drawn0.step)⟩
          · rw [if_neg c5] at H
            exact absurd H (by simp)
        · rw [if_neg c4] at H
          exact absurd H (by simp)
      · rw [if_neg c3] at H
        have c3b0 : decide ((wrap64 (x5_1 + (a1.size : Int))) ≤ (a0.size : Int)) = false := decide_eq_false c3
        clear c3
        obtain rfl := Option.some.inj H
        go_wp2
        go_ret
        exact ⟨by first | rfl | (simp; done) | (simp [*]; done) | (simp [bneNil]; done), by repeat (first | exact Drawn0.refl _ | apply Drawn0.step)⟩

def semver_zzSplit.l0 : Nat → ByteArray → ByteArray → List ByteArray → Option (List ByteArray)
  | 0, _, _, _ => none
  | k + 1, x0, x1, x5 => (semver_zzIndex.f k x0 x1).bind fun t564 => (if t564 < 0 then (if x5.length < 8796093022208 then (some (x5 ++ [x0])) else (none)) else (if 0 ≤ t564 then (if t564 ≤ (x0.size : Int) then (if x5.length < 8796093022208 then (if 0 ≤ (wrap64 (t564 + (x1.size : Int))) then (if (wrap64 (t564 + (x1.size : Int))) ≤ (x0.size : Int) then (semver_zzSplit.l0 k (x0.extract ((wrap64 (t564 + (x1.size : Int))) : Int).toNat x0.size) x1 (x5 ++ [x0.extract 0 (t564 : Int).toNat])) else (none)) else (none)) else (none)) else (none)) else (none)))

def semver_zzSplit.f (k : Nat) (a0 : ByteArray) (a1 : ByteArray) : Option (List ByteArray) := semver_zzSplit.l0 k a0 a1 ([] : List ByteArray)

set_option maxHeartbeats 80000000 in
set_option maxRecDepth 100000 in
theorem semver_zzSplit.calls (k : Nat) (a0 : ByteArray) (a1 : ByteArray) (r : List ByteArray) (w : World) (h : semver_zzSplit.f k a0 a1 = some r) :
  Calls Tryd.prog 121 #[.string a0, .string a1] w fun e w' => ∃ v0_ : Value, e = .returned (v0_) ∧ Kd.R Kd.string 9 w' w.heap.size (fun _ => True) v0_ r ∧ Below w.heap.size w w' := by
 have HB := Aside0.mk (Below.refl w.heap.size w)
 have H : (semver_zzSplit.l0 k a0 a1 ([] : List ByteArray)) = some r := h
 clear h
 have H' := Aside0.mk H
 clear H
 go_enter Tryd.func121, Tryd.ntmps121
 go_wp2
 go_loopg [0, 5] k (fun kq v0 v5 w' => ∃ (x0_1 : ByteArray) (x5_1 : List ByteArray), v0 = .string x0_1 ∧ Aside0 (semver_zzSplit.l0 kq x0_1 a1 x5_1 = some r) ∧ Aside0 (kq ≤ k) ∧ Aside0 (Kd.R Kd.string 9 w' w.heap.size (fun _ => True) v5 x5_1) ∧ Aside0 (Below w.heap.size w w'))
 case atStart => exact ⟨(a0), (([] : List ByteArray)), (by first | rfl | (simp; done) | (simp [*]; done)), H', ⟨Nat.le_refl _⟩, ⟨by first | exact Kd.R_nil _ _ _ _ _ | exact Kd.N_nil _ _ _ _ _ | exact Kd.V_nil _ _ _ _ _ | exact Kd.Q_nil _ _ _ _ _ | exact Kd.S_nil _ _ _ _ _⟩, ⟨by repeat (first | (with_reducible first | exact HB.out | apply below_alloc | apply pw_below_drewN | apply below_drew1) | exact HB.out)⟩⟩
 case round =>
  clear H'
  try clear c1
  try clear p2
  obtain ⟨x0_1, x5_1, rfl, HA, HK1, HO_5, HB⟩ := hrel
  cases gk with
  | zero => exact absurd HA.out (by simp [semver_zzSplit.l0])
  | succ k1 =>
   have H := HA.out
   clear HA
   simp only [semver_zzSplit.l0] at H
   replace H := Option.bind_eq_some_iff.mp H
   obtain ⟨t564, A30, H⟩ := H
   replace H : (if t564 < 0 then (if x5_1.length < 8796093022208 then (some (x5_1 ++ [x0_1])) else (none)) else (if 0 ≤ t564 then (if t564 ≤ (x0_1.size : Int) then (if x5_1.length < 8796093022208 then (if 0 ≤ (wrap64 (t564 + (a1.size : Int))) then (if (wrap64 (t564 + (a1.size : Int))) ≤ (x0_1.size : Int) then (semver_zzSplit.l0 k1 (x0_1.extract ((wrap64 (t564 + (a1.size : Int))) : Int).toNat x0_1.size) a1 (x5_1 ++ [x0_1.extract 0 (t564 : Int).toNat])) else (none)) else (none)) else (none)) else (none)) else (none))) = some r := H
   have A3 := Aside0.mk A30
   clear A30
   by_cases c4 : t564 < 0
   ·
    rw [if_pos c4] at H
    have c4b0 : decide (t564 < 0) = true := decide_eq_true c4
    clear c4
    by_cases c5 : x5_1.length < 8796093022208
    ·
     rw [if_pos c5] at H
     have LMc5 := Aside0.mk c5
     clear c5
     obtain ⟨y565, hy565⟩ : ∃ y_ : List ByteArray, y_ = (x5_1 ++ [x0_1]) := ⟨_, rfl⟩
     replace H : (some y565) = some r := by first | (rw [hy565]; with_reducible exact H) | (have H2_ := (Option.bind_some _ _).symm.trans H; rw [hy565]; with_reducible exact H2_) | (have H2_ := (Option.bind_some _ _).symm.trans H; with_reducible exact H2_) | with_reducible exact H | (rw [hy565]; exact H) | exact H
     have Ny565 := Aside0.mk hy565
     clear hy565
     obtain rfl := Option.some.inj H
     go_wp2_with (first | ((with_reducible refine gate_callee (f := 128) rfl ?_); refine goesL_ (some 9) rfl rfl Tryd.func128 (by kernel_rfl) rfl #[.string x0_1, .string a1] rfl (by (try simp only [List.map_toArray, List.map_cons, List.map_nil]); first | done | rfl | (simp only [List.length_drop, List.length_take]; rfl)) ?_; (with_reducible refine (semver_zzIndex.calls k1 x0_1 a1 t564 _ A3.out).mono ?_); rintro e w' ⟨rfl, ⟨nd, rfl⟩⟩; refine ⟨_, rfl, ?_⟩) | ((with_reducible refine gate_builtin (b := .append) (xs := #[.tmp 12, .tmp 14]) rfl ?_); at_builtin; refine Kd.R_append Kd.string (w0 := w) w.heap.size rfl (.tmp 12) (.tmp 14) 92 9 (.string ⟨#[]⟩) 16 rfl Tryd.underlying92 info9 rfl (by decide) (by omega) u5 x5_1 x0_1 [.string x0_1] (fun _ => True) (fun _ => False) rfl rfl ?aP (fun _ hk => hk.elim) ?aF ?aO ?aB ?aS ?aL ?_; (case aP => exact rfl); (case aB => exact (by repeat (first | (with_reducible first | exact HB.out | apply below_alloc | apply pw_below_drewN | apply below_drew1) | exact HB.out))); (case aF => exact (fun _ _ => trivial)); (case aO => exact (by (with_reducible repeat (first | apply Kd.R_alloc | apply Kd.R_drewN | apply Kd.R_drew)); exact HO_5.out)); (case aS => exact (below_size (by repeat (first | (with_reducible first | exact HB.out | apply below_alloc | apply pw_below_drewN | apply below_drew1) | exact HB.out)))); (case aL => have := LMc5.out; omega); intro v566 w6 ho hb hg hat; rw [← Ny565.out] at ho; have n0_ := Aside0.mk (hb); have n1_ := Aside0.mk (ho); clear HB; clear HO_5; have HB := n0_; have HO567 := n1_; clear n0_ n1_; clear ho hb hg hat))
     go_ret
     exact ⟨_, by first | rfl | (simp [errW_none, errW_some] <;> rfl) | (simp [*, errW_none, errW_some] <;> rfl), by (with_reducible repeat (first | apply Kd.R_alloc | apply Kd.R_drewN | apply Kd.R_drew)); exact HO567.out, by repeat (first | (with_reducible first | exact HB.out | apply below_alloc | apply pw_below_drewN | apply below_drew1) | exact HB.out)⟩
    ·
     rw [if_neg c5] at H
     exact absurd H (by simp)
   ·
    rw [if_neg c4] at H
    have c4b0 : decide (t564 < 0) = false := decide_eq_false c4
    clear c4
    by_cases c7 : 0 ≤ t564
    ·
     rw [if_pos c7] at H
     have c7b0 := eq_true c7
     have c7b1 : decide (0 ≤ t564) = true := decide_eq_true c7
     clear c7
     by_cases c8 : t564 ≤ (x0_1.size : Int)
     ·
      rw [if_pos c8] at H
      have c8b0 := eq_true c8
      have c8b1 : decide (t564 ≤ (x0_1.size : Int)) = true := decide_eq_true c8
      clear c8
      by_cases c9 : x5_1.length < 8796093022208
      ·
       rw [if_pos c9] at H
       have LMc9 := Aside0.mk c9
       clear c9
       obtain ⟨y568, hy568⟩ : ∃ y_ : List ByteArray, y_ = (x5_1 ++ [x0_1.extract 0 (t564 : Int).toNat]) := ⟨_, rfl⟩
       replace H : (if 0 ≤ (wrap64 (t564 + (a1.size : Int))) then (if (wrap64 (t564 + (a1.size : Int))) ≤ (x0_1.size : Int) then (semver_zzSplit.l0 k1 (x0_1.extract ((wrap64 (t564 + (a1.size : Int))) : Int).toNat x0_1.size) a1 y568) else (none)) else (none)) = some r := by first | (rw [hy568]; with_reducible exact H) | (have H2_ := (Option.bind_some _ _).symm.trans H; rw [hy568]; with_reducible exact H2_) | (have H2_ := (Option.bind_some _ _).symm.trans H; with_reducible exact H2_) | with_reducible exact H | (rw [hy568]; exact H) | exact H
       have Ny568 := Aside0.mk hy568
       clear hy568
       obtain ⟨ji10, hji10⟩ : ∃ j_ : Int, (wrap64 (t564 + (a1.size : Int))) = j_ := ⟨_, rfl⟩
       replace H : (if 0 ≤ (ji10) then (if (ji10) ≤ (x0_1.size : Int) then (semver_zzSplit.l0 k1 (x0_1.extract ((ji10) : Int).toNat x0_1.size) a1 y568) else (none)) else (none)) = some r := by first | (rw [hji10] at H; exact H) | (simp only [hji10] at H ⊢; exact H)
       (try rw [hji10] at A3)
       have hji10w : (IntKind.i64.wrap (t564 + (a1.size : Int))) = ji10 := (i64_w _).trans hji10
       by_cases c11 : 0 ≤ (ji10)
       ·
        rw [if_pos c11] at H
        have c11b0 := eq_true c11
        have c11b1 : decide (0 ≤ (ji10)) = true := decide_eq_true c11
        clear c11
        by_cases c12 : (ji10) ≤ (x0_1.size : Int)
        ·
         rw [if_pos c12] at H
         have c12b0 := eq_true c12
         have c12b1 : decide ((ji10) ≤ (x0_1.size : Int)) = true := decide_eq_true c12
         clear c12
         have H' := Aside0.mk H
         clear H
         go_wp2_with (first | ((with_reducible refine gate_callee (f := 128) rfl ?_); refine goesL_ (some 9) rfl rfl Tryd.func128 (by kernel_rfl) rfl #[.string x0_1, .string a1] rfl (by (try simp only [List.map_toArray, List.map_cons, List.map_nil]); first | done | rfl | (simp only [List.length_drop, List.length_take]; rfl)) ?_; (with_reducible refine (semver_zzIndex.calls k1 x0_1 a1 t564 _ A3.out).mono ?_); rintro e w' ⟨rfl, ⟨nd, rfl⟩⟩; refine ⟨_, rfl, ?_⟩) | ((with_reducible refine gate_builtin (b := .append) (xs := #[.tmp 16, .tmp 20]) rfl ?_); at_builtin; refine Kd.R_append Kd.string (w0 := w) w.heap.size rfl (.tmp 16) (.tmp 20) 92 9 (.string ⟨#[]⟩) 16 rfl Tryd.underlying92 info9 rfl (by decide) (by omega) u5 x5_1 (x0_1.extract 0 (t564 : Int).toNat) [.string (x0_1.extract 0 (t564 : Int).toNat)] (fun _ => True) (fun _ => False) rfl rfl ?aP (fun _ hk => hk.elim) ?aF ?aO ?aB ?aS ?aL ?_; (case aP => exact rfl); (case aB => exact (by repeat (first | (with_reducible first | exact HB.out | apply below_alloc | apply pw_below_drewN | apply below_drew1) | exact HB.out))); (case aF => exact (fun _ _ => trivial)); (case aO => exact (by (with_reducible repeat (first | apply Kd.R_alloc | apply Kd.R_drewN | apply Kd.R_drew)); exact HO_5.out)); (case aS => exact (below_size (by repeat (first | (with_reducible first | exact HB.out | apply below_alloc | apply pw_below_drewN | apply below_drew1) | exact HB.out)))); (case aL => have := LMc9.out; omega); intro v569 w13 ho hb hg hat; rw [← Ny568.out] at ho; have n0_ := Aside0.mk (hb); have n1_ := Aside0.mk (ho); clear HB; clear HO_5; have HB := n0_; have HO570 := n1_; clear n0_ n1_; clear ho hb hg hat))
         go_roundg k1
         case measure => have := HK1.out; omega
         case rel => exact ⟨(x0_1.extract ((ji10) : Int).toNat x0_1.size), (y568), (by first | rfl | (simp; done) | (simp only [← hji10] <;> (first | rfl | simp)) | (simp [*]; done)), H', ⟨by have := HK1.out; omega⟩, ⟨by (with_reducible repeat (first | apply Kd.R_alloc | apply Kd.R_drewN | apply Kd.R_drew)); exact HO570.out⟩, ⟨by repeat (first | (with_reducible first | exact HB.out | apply below_alloc | apply pw_below_drewN | apply below_drew1) | exact HB.out)⟩⟩
        ·
         rw [if_neg c12] at H
         exact absurd H (by simp)
       ·
        rw [if_neg c11] at H
        exact absurd H (by simp)
      ·
       rw [if_neg c9] at H
       exact absurd H (by simp)
     ·
      rw [if_neg c8] at H
      exact absurd H (by simp)
    ·
     rw [if_neg c7] at H
     exact absurd H (by simp)

def semver_compareSegment.f (a0 : Int) (a1 : Int) : Option (Int) := if a0 < a1 then (some (-1)) else (if a0 > a1 then (some 1) else (some 0))

set_option maxHeartbeats 80000000 in
set_option maxRecDepth 100000 in
theorem semver_compareSegment.calls (a0 : Int) (a1 : Int) (r : Int) (w : World) (h : semver_compareSegment.f a0 a1 = some r) :
    Calls Tryd.prog 107 #[.int .u64 a0, .int .u64 a1] w fun e w' => e = .returned (.int .i64 r) ∧ Drawn0 w w' := by
  have H : (if a0 < a1 then (some (-1)) else (if a0 > a1 then (some 1) else (some 0))) = some r := h
  clear h
  by_cases c3 : a0 < a1
  · rw [if_pos c3] at H
    have c3b0 : decide (a0 < a1) = true := decide_eq_true c3
    clear c3
    obtain rfl := Option.some.inj H
    go_enter Tryd.func107, Tryd.ntmps107
    go_wp2
    go_ret
    exact ⟨by first | rfl | (simp; done) | (simp [*]; done) | (simp [bneNil]; done), by repeat (first | exact Drawn0.refl _ | apply Drawn0.step)⟩
  · rw [if_neg c3] at H
    have c3b0 : decide (a0 < a1) = false := decide_eq_false c3
    clear c3
    by_cases c4 : a0 > a1
    · rw [if_pos c4] at H
      have c4b0 : decide (a1 < a0) = true := decide_eq_true c4
      clear c4
      obtain rfl := Option.some.inj H
      go_enter Tryd.func107, Tryd.ntmps107
      go_wp2
      go_ret
      exact ⟨by first | rfl | (simp; done) | (simp [*]; done) | (simp [bneNil]; done), by repeat (first | exact Drawn0.refl _ | apply Drawn0.step)⟩
    · rw [if_neg c4] at H
      have c4b0 : decide (a1 < a0) = false := decide_eq_false c4
      clear c4
      obtain rfl := Option.some.inj H
      go_enter Tryd.func107, Tryd.ntmps107
      go_wp2
      go_ret
      exact ⟨by first | rfl | (simp; done) | (simp [*]; done) | (simp [bneNil]; done), by repeat (first | exact Drawn0.refl _ | apply Drawn0.step)⟩

def semver_Version_Major.f (a0_0 : Int) (a0_1 : Int) (a0_2 : Int) (a0_3 : ByteArray) (a0_4 : ByteArray) (a0_5 : ByteArray) : Option (Int) := some a0_0

set_option maxHeartbeats 80000000 in
set_option maxRecDepth 100000 in
theorem semver_Version_Major.calls (a0_0 : Int) (a0_1 : Int) (a0_2 : Int) (a0_3 : ByteArray) (a0_4 : ByteArray) (a0_5 : ByteArray) (r : Int) (w : World) (h : semver_Version_Major.f a0_0 a0_1 a0_2 a0_3 a0_4 a0_5 = some r) :
    Calls Tryd.prog 94 #[.agg #[.int .u64 a0_0, .int .u64 a0_1, .int .u64 a0_2, .string a0_3, .string a0_4, .string a0_5]] w fun e w' => e = .returned (.int .u64 r) ∧ Below w.heap.size w w' := by
  have hu106 := Tryd.underlying106
  have HB := Aside0.mk (Below.refl w.heap.size w)
  have H : (some a0_0) = some r := h
  clear h
  obtain rfl := Option.some.inj H
  go_enter Tryd.func94, Tryd.ntmps94
  go_wp2_with (first | ((with_reducible refine gate_dst (N := 1) rfl ?_); refine box_event ?hg (N := 1) ?hd (cs := #[.int .u64 a0_0, .int .u64 a0_1, .int .u64 a0_2, .string a0_3, .string a0_4, .string a0_5]) (t := 106) ?hr ?_; (case hd => rfl); (case hg => rfl); (case hr => first | (go_simp; done) | (go_simp; rfl) | (go_simp; simp [u8w]; done)); intro gb571 hg w2 hbox hb; have n0_ := Aside0.mk (below_step (by repeat (first | (with_reducible first | exact HB.out | apply below_alloc | apply pw_below_drewN | apply below_drew1) | exact HB.out)) hb); have n1_ := Aside0.mk (hbox); have n2_ := Aside0.mk ((by rw [hg]; exact (below_size (by repeat (first | (with_reducible first | exact HB.out | apply below_alloc | apply pw_below_drewN | apply below_drew1) | exact HB.out))) : w.heap.size ≤ gb571)); have n3_ := Aside0.mk ((by rw [hg]; exact (below_size (by repeat (first | (with_reducible first | exact HB.out | apply below_alloc | apply pw_below_drewN | apply below_drew1) | exact HB.out))) : w.heap.size ≤ gb571)); clear HB; have HB := n0_; have BK571 := n1_; have GW571 := n2_; have GE571 := n3_; clear n0_ n1_ n2_ n3_; clear hb hbox hg; have hcz3_0 : w2.cell? ⟨gb571, 0, none⟩ = some (.int .u64 a0_0) := (blk_cell BK571.out 0).trans rfl; have hcz3_1 : w2.cell? ⟨gb571, 1, none⟩ = some (.int .u64 a0_1) := (blk_cell BK571.out 1).trans rfl; have hcz3_2 : w2.cell? ⟨gb571, 2, none⟩ = some (.int .u64 a0_2) := (blk_cell BK571.out 2).trans rfl; have hcz3_3 : w2.cell? ⟨gb571, 3, none⟩ = some (.string a0_3) := (blk_cell BK571.out 3).trans rfl; have hcz3_4 : w2.cell? ⟨gb571, 4, none⟩ = some (.string a0_4) := (blk_cell BK571.out 4).trans rfl; have hcz3_5 : w2.cell? ⟨gb571, 5, none⟩ = some (.string a0_5) := (blk_cell BK571.out 5).trans rfl; have hfz3_0 := blk_frozen BK571.out 0; have hfz3_1 := blk_frozen BK571.out 1; have hfz3_2 := blk_frozen BK571.out 2; have hfz3_3 := blk_frozen BK571.out 3; have hfz3_4 := blk_frozen BK571.out 4; have hfz3_5 := blk_frozen BK571.out 5))
  go_ret
  exact ⟨by first | rfl | (simp [errW_none, errW_some] <;> rfl) | (simp [*, errW_none, errW_some] <;> rfl) | (simp [bneNil]; done), by repeat (first | (with_reducible first | exact HB.out | apply below_alloc | apply pw_below_drewN | apply below_drew1 | refine below_set ?_ GE571.out) | exact HB.out)⟩

def semver_Version_Minor.f (a0_0 : Int) (a0_1 : Int) (a0_2 : Int) (a0_3 : ByteArray) (a0_4 : ByteArray) (a0_5 : ByteArray) : Option (Int) := some a0_1

set_option maxHeartbeats 80000000 in
set_option maxRecDepth 100000 in
theorem semver_Version_Minor.calls (a0_0 : Int) (a0_1 : Int) (a0_2 : Int) (a0_3 : ByteArray) (a0_4 : ByteArray) (a0_5 : ByteArray) (r : Int) (w : World) (h : semver_Version_Minor.f a0_0 a0_1 a0_2 a0_3 a0_4 a0_5 = some r) :
    Calls Tryd.prog 95 #[.agg #[.int .u64 a0_0, .int .u64 a0_1, .int .u64 a0_2, .string a0_3, .string a0_4, .string a0_5]] w fun e w' => e = .returned (.int .u64 r) ∧ Below w.heap.size w w' := by
  have hu106 := Tryd.underlying106
  have HB := Aside0.mk (Below.refl w.heap.size w)
  have H : (some a0_1) = some r := h
  clear h
  obtain rfl := Option.some.inj H
  go_enter Tryd.func95, Tryd.ntmps95
  go_wp2_with (first | ((with_reducible refine gate_dst (N := 1) rfl ?_); refine box_event ?hg (N := 1) ?hd (cs := #[.int .u64 a0_0, .int .u64 a0_1, .int .u64 a0_2, .string a0_3, .string a0_4, .string a0_5]) (t := 106) ?hr ?_; (case hd => rfl); (case hg => rfl); (case hr => first | (go_simp; done) | (go_simp; rfl) | (go_simp; simp [u8w]; done)); intro gb572 hg w2 hbox hb; have n0_ := Aside0.mk (below_step (by repeat (first | (with_reducible first | exact HB.out | apply below_alloc | apply pw_below_drewN | apply below_drew1) | exact HB.out)) hb); have n1_ := Aside0.mk (hbox); have n2_ := Aside0.mk ((by rw [hg]; exact (below_size (by repeat (first | (with_reducible first | exact HB.out | apply below_alloc | apply pw_below_drewN | apply below_drew1) | exact HB.out))) : w.heap.size ≤ gb572)); have n3_ := Aside0.mk ((by rw [hg]; exact (below_size (by repeat (first | (with_reducible first | exact HB.out | apply below_alloc | apply pw_below_drewN | apply below_drew1) | exact HB.out))) : w.heap.size ≤ gb572)); clear HB; have HB := n0_; have BK572 := n1_; have GW572 := n2_; have GE572 := n3_; clear n0_ n1_ n2_ n3_; clear hb hbox hg; have hcz3_0 : w2.cell? ⟨gb572, 0, none⟩ = some (.int .u64 a0_0) := (blk_cell BK572.out 0).trans rfl; have hcz3_1 : w2.cell? ⟨gb572, 1, none⟩ = some (.int .u64 a0_1) := (blk_cell BK572.out 1).trans rfl; have hcz3_2 : w2.cell? ⟨gb572, 2, none⟩ = some (.int .u64 a0_2) := (blk_cell BK572.out 2).trans rfl; have hcz3_3 : w2.cell? ⟨gb572, 3, none⟩ = some (.string a0_3) := (blk_cell BK572.out 3).trans rfl; have hcz3_4 : w2.cell? ⟨gb572, 4, none⟩ = some (.string a0_4) := (blk_cell BK572.out 4).trans rfl; have hcz3_5 : w2.cell? ⟨gb572, 5, none⟩ = some (.string a0_5) := (blk_cell BK572.out 5).trans rfl; have hfz3_0 := blk_frozen BK572.out 0; have hfz3_1 := blk_frozen BK572.out 1; have hfz3_2 := blk_frozen BK572.out 2; have hfz3_3 := blk_frozen BK572.out 3; have hfz3_4 := blk_frozen BK572.out 4; have hfz3_5 := blk_frozen BK572.out 5))
  go_ret
  exact ⟨by first | rfl | (simp [errW_none, errW_some] <;> rfl) | (simp [*, errW_none, errW_some] <;> rfl) | (simp [bneNil]; done), by repeat (first | (with_reducible first | exact HB.out | apply below_alloc | apply pw_below_drewN | apply below_drew1 | refine below_set ?_ GE572.out) | exact HB.out)⟩

def semver_Version_Patch.f (a0_0 : Int) (a0_1 : Int) (a0_2 : Int) (a0_3 : ByteArray) (a0_4 : ByteArray) (a0_5 : ByteArray) : Option (Int) := some a0_2

set_option maxHeartbeats 80000000 in
set_option maxRecDepth 100000 in
theorem semver_Version_Patch.calls (a0_0 : Int) (a0_1 : Int) (a0_2 : Int) (a0_3 : ByteArray) (a0_4 : ByteArray) (a0_5 : ByteArray) (r : Int) (w : World) (h : semver_Version_Patch.f a0_0 a0_1 a0_2 a0_3 a0_4 a0_5 = some r) :
    Calls Tryd.prog 96 #[.agg #[.int .u64 a0_0, .int .u64 a0_1, .int .u64 a0_2, .string a0_3, .string a0_4, .string a0_5]] w fun e w' => e = .returned (.int .u64 r) ∧ Below w.heap.size w w' := by
  have hu106 := Tryd.underlying106
  have HB := Aside0.mk (Below.refl w.heap.size w)
  have H : (some a0_2) = some r := h
  clear h
  obtain rfl := Option.some.inj H
  go_enter Tryd.func96, Tryd.ntmps96
  go_wp2_with (first | ((with_reducible refine gate_dst (N := 1) rfl ?_); refine box_event ?hg (N := 1) ?hd (cs := #[.int .u64 a0_0, .int .u64 a0_1, .int .u64 a0_2, .string a0_3, .string a0_4, .string a0_5]) (t := 106) ?hr ?_; (case hd => rfl); (case hg => rfl); (case hr => first | (go_simp; done) | (go_simp; rfl) | (go_simp; simp [u8w]; done)); intro gb573 hg w2 hbox hb; have n0_ := Aside0.mk (below_step (by repeat (first | (with_reducible first | exact HB.out | apply below_alloc | apply pw_below_drewN | apply below_drew1) | exact HB.out)) hb); have n1_ := Aside0.mk (hbox); have n2_ := Aside0.mk ((by rw [hg]; exact (below_size (by repeat (first | (with_reducible first | exact HB.out | apply below_alloc | apply pw_below_drewN | apply below_drew1) | exact HB.out))) : w.heap.size ≤ gb573)); have n3_ := Aside0.mk ((by rw [hg]; exact (below_size (by repeat (first | (with_reducible first | exact HB.out | apply below_alloc | apply pw_below_drewN | apply below_drew1) | exact HB.out))) : w.heap.size ≤ gb573)); clear HB; have HB := n0_; have BK573 := n1_; have GW573 := n2_; have GE573 := n3_; clear n0_ n1_ n2_ n3_; clear hb hbox hg; have hcz3_0 : w2.cell? ⟨gb573, 0, none⟩ = some (.int .u64 a0_0) := (blk_cell BK573.out 0).trans rfl; have hcz3_1 : w2.cell? ⟨gb573, 1, none⟩ = some (.int .u64 a0_1) := (blk_cell BK573.out 1).trans rfl; have hcz3_2 : w2.cell? ⟨gb573, 2, none⟩ = some (.int .u64 a0_2) := (blk_cell BK573.out 2).trans rfl; have hcz3_3 : w2.cell? ⟨gb573, 3, none⟩ = some (.string a0_3) := (blk_cell BK573.out 3).trans rfl; have hcz3_4 : w2.cell? ⟨gb573, 4, none⟩ = some (.string a0_4) := (blk_cell BK573.out 4).trans rfl; have hcz3_5 : w2.cell? ⟨gb573, 5, none⟩ = some (.string a0_5) := (blk_cell BK573.out 5).trans rfl; have hfz3_0 := blk_frozen BK573.out 0; have hfz3_1 := blk_frozen BK573.out 1; have hfz3_2 := blk_frozen BK573.out 2; have hfz3_3 := blk_frozen BK573.out 3; have hfz3_4 := blk_frozen BK573.out 4; have hfz3_5 := blk_frozen BK573.out 5))
  go_ret
  exact ⟨by first | rfl | (simp [errW_none, errW_some] <;> rfl) | (simp [*, errW_none, errW_some] <;> rfl) | (simp [bneNil]; done), by repeat (first | (with_reducible first | exact HB.out | apply below_alloc | apply pw_below_drewN | apply below_drew1 | refine below_set ?_ GE573.out) | exact HB.out)⟩

def semver_Version_Prerelease.f (a0_0 : Int) (a0_1 : Int) (a0_2 : Int) (a0_3 : ByteArray) (a0_4 : ByteArray) (a0_5 : ByteArray) : Option (ByteArray) := some a0_3

set_option maxHeartbeats 80000000 in
set_option maxRecDepth 100000 in
theorem semver_Version_Prerelease.calls (a0_0 : Int) (a0_1 : Int) (a0_2 : Int) (a0_3 : ByteArray) (a0_4 : ByteArray) (a0_5 : ByteArray) (r : ByteArray) (w : World) (h : semver_Version_Prerelease.f a0_0 a0_1 a0_2 a0_3 a0_4 a0_5 = some r) :
    Calls Tryd.prog 97 #[.agg #[.int .u64 a0_0, .int .u64 a0_1, .int .u64 a0_2, .string a0_3, .string a0_4, .string a0_5]] w fun e w' => e = .returned (.string r) ∧ Below w.heap.size w w' := by
  have hu106 := Tryd.underlying106
  have HB := Aside0.mk (Below.refl w.heap.size w)
  have H : (some a0_3) = some r := h
  clear h
  obtain rfl := Option.some.inj H
  go_enter Tryd.func97, Tryd.ntmps97
  go_wp2_with (first | ((with_reducible refine gate_dst (N := 1) rfl ?_); refine box_event ?hg (N := 1) ?hd (cs := #[.int .u64 a0_0, .int .u64 a0_1, .int .u64 a0_2, .string a0_3, .string a0_4, .string a0_5]) (t := 106) ?hr ?_; (case hd => rfl); (case hg => rfl); (case hr => first | (go_simp; done) | (go_simp; rfl) | (go_simp; simp [u8w]; done)); intro gb574 hg w2 hbox hb; have n0_ := Aside0.mk (below_step (by repeat (first | (with_reducible first | exact HB.out | apply below_alloc | apply pw_below_drewN | apply below_drew1) | exact HB.out)) hb); have n1_ := Aside0.mk (hbox); have n2_ := Aside0.mk ((by rw [hg]; exact (below_size (by repeat (first | (with_reducible first | exact HB.out | apply below_alloc | apply pw_below_drewN | apply below_drew1) | exact HB.out))) : w.heap.size ≤ gb574)); have n3_ := Aside0.mk ((by rw [hg]; exact (below_size (by repeat (first | (with_reducible first | exact HB.out | apply below_alloc | apply pw_below_drewN | apply below_drew1) | exact HB.out))) : w.heap.size ≤ gb574)); clear HB; have HB := n0_; have BK574 := n1_; have GW574 := n2_; have GE574 := n3_; clear n0_ n1_ n2_ n3_; clear hb hbox hg; have hcz3_0 : w2.cell? ⟨gb574, 0, none⟩ = some (.int .u64 a0_0) := (blk_cell BK574.out 0).trans rfl; have hcz3_1 : w2.cell? ⟨gb574, 1, none⟩ = some (.int .u64 a0_1) := (blk_cell BK574.out 1).trans rfl; have hcz3_2 : w2.cell? ⟨gb574, 2, none⟩ = some (.int .u64 a0_2) := (blk_cell BK574.out 2).trans rfl; have hcz3_3 : w2.cell? ⟨gb574, 3, none⟩ = some (.string a0_3) := (blk_cell BK574.out 3).trans rfl; have hcz3_4 : w2.cell? ⟨gb574, 4, none⟩ = some (.string a0_4) := (blk_cell BK574.out 4).trans rfl; have hcz3_5 : w2.cell? ⟨gb574, 5, none⟩ = some (.string a0_5) := (blk_cell BK574.out 5).trans rfl; have hfz3_0 := blk_frozen BK574.out 0; have hfz3_1 := blk_frozen BK574.out 1; have hfz3_2 := blk_frozen BK574.out 2; have hfz3_3 := blk_frozen BK574.out 3; have hfz3_4 := blk_frozen BK574.out 4; have hfz3_5 := blk_frozen BK574.out 5))
  go_ret
  exact ⟨by first | rfl | (simp [errW_none, errW_some] <;> rfl) | (simp [*, errW_none, errW_some] <;> rfl) | (simp [bneNil]; done), by repeat (first | (with_reducible first | exact HB.out | apply below_alloc | apply pw_below_drewN | apply below_drew1 | refine below_set ?_ GE574.out) | exact HB.out)⟩

def impl_operator.f (a0 : Int) : Option (ByteArray) := if (Go.bits .and .i64 a0 7) = 0 then (some (⟨#[61]⟩ : ByteArray)) else (if (Go.bits .and .i64 a0 7) = 1 then (some (⟨#[33, 61]⟩ : ByteArray)) else (if (Go.bits .and .i64 a0 7) = 2 then (some (⟨#[62]⟩ : ByteArray)) else (if (Go.bits .and .i64 a0 7) = 3 then (some (⟨#[60]⟩ : ByteArray)) else (if (Go.bits .and .i64 a0 7) = 4 then (some (⟨#[62, 61]⟩ : ByteArray)) else (if (Go.bits .and .i64 a0 7) = 5 then (some (⟨#[60, 61]⟩ : ByteArray)) else (if (Go.bits .and .i64 a0 7) = 6 then (some (⟨#[126]⟩ : ByteArray)) else (some (⟨#[94]⟩ : ByteArray))))))))

set_option maxHeartbeats 80000000 in
set_option maxRecDepth 100000 in
theorem impl_operator.calls (a0 : Int) (r : ByteArray) (w : World) (h : impl_operator.f a0 = some r) :
  Calls Tryd.prog 83 #[.int .i64 a0] w fun e w' => e = .returned (.string r) ∧ Drawn0 w w' := by
 have H : (if (Go.bits .and .i64 a0 7) = 0 then (some (⟨#[61]⟩ : ByteArray)) else (if (Go.bits .and .i64 a0 7) = 1 then (some (⟨#[33, 61]⟩ : ByteArray)) else (if (Go.bits .and .i64 a0 7) = 2 then (some (⟨#[62]⟩ : ByteArray)) else (if (Go.bits .and .i64 a0 7) = 3 then (some (⟨#[60]⟩ : ByteArray)) else (if (Go.bits .and .i64 a0 7) = 4 then (some (⟨#[62, 61]⟩ : ByteArray)) else (if (Go.bits .and .i64 a0 7) = 5 then (some (⟨#[60, 61]⟩ : ByteArray)) else (if (Go.bits .and .i64 a0 7) = 6 then (some (⟨#[126]⟩ : ByteArray)) else (some (⟨#[94]⟩ : ByteArray))))))))) = some r := h
 clear h
 by_cases c2 : (Go.bits .and .i64 a0 7) = 0
 ·
  rw [if_pos c2] at H
  have c2b0 : ((Go.bits .and .i64 a0 7) == 0) = true := beq_iff_eq.mpr c2
  have c2b1 : ((Go.bits .and .i64 a0 7) != 0) = false := bne_eq_false_iff_eq.mpr c2
  clear c2
  obtain rfl := Option.some.inj H
  go_enter Tryd.func83, Tryd.ntmps83
  go_wp2
  go_ret
  exact ⟨by first | rfl | (simp; done) | (simp [*]; done) | (simp [bneNil]; done), by repeat (first | exact Drawn0.refl _ | apply Drawn0.step)⟩
 ·
  rw [if_neg c2] at H
  have c2b0 : ((Go.bits .and .i64 a0 7) == 0) = false := beq_eq_false_iff_ne.mpr c2
  have c2b1 : ((Go.bits .and .i64 a0 7) != 0) = true := bne_iff_ne.mpr c2
  by_cases c3 : (Go.bits .and .i64 a0 7) = 1
  ·
   rw [if_pos c3] at H
   have c3b0 : ((Go.bits .and .i64 a0 7) == 1) = true := beq_iff_eq.mpr c3
   have c3b1 : ((Go.bits .and .i64 a0 7) != 1) = false := bne_eq_false_iff_eq.mpr c3
   clear c3
   obtain rfl := Option.some.inj H
   go_enter Tryd.func83, Tryd.ntmps83
   go_wp2
   go_ret
   exact ⟨by first | rfl | (simp; done) | (simp [*]; done) | (simp [bneNil]; done), by repeat (first | exact Drawn0.refl _ | apply Drawn0.step)⟩
  ·
   rw [if_neg c3] at H
   have c3b0 : ((Go.bits .and .i64 a0 7) == 1) = false := beq_eq_false_iff_ne.mpr c3
   have c3b1 : ((Go.bits .and .i64 a0 7) != 1) = true := bne_iff_ne.mpr c3
   by_cases c4 : (Go.bits .and .i64 a0 7) = 2
   ·
    rw [if_pos c4] at H
    have c4b0 : ((Go.bits .and .i64 a0 7) == 2) = true := beq_iff_eq.mpr c4
    have c4b1 : ((Go.bits .and .i64 a0 7) != 2) = false := bne_eq_false_iff_eq.mpr c4
    clear c4
    obtain rfl := Option.some.inj H
    go_enter Tryd.func83, Tryd.ntmps83
    go_wp2
    go_ret
    exact ⟨by first | rfl | (simp; done) | (simp [*]; done) | (simp [bneNil]; done), by repeat (first | exact Drawn0.refl _ | apply Drawn0.step)⟩
   ·
    rw [if_neg c4] at H
    have c4b0 : ((Go.bits .and .i64 a0 7) == 2) = false := beq_eq_false_iff_ne.mpr c4
    have c4b1 : ((Go.bits .and .i64 a0 7) != 2) = true := bne_iff_ne.mpr c4
    by_cases c5 : (Go.bits .and .i64 a0 7) = 3
    ·
     rw [if_pos c5] at H
     have c5b0 : ((Go.bits .and .i64 a0 7) == 3) = true := beq_iff_eq.mpr c5
     have c5b1 : ((Go.bits .and .i64 a0 7) != 3) = false := bne_eq_false_iff_eq.mpr c5
     clear c5
     obtain rfl := Option.some.inj H
     go_enter Tryd.func83, Tryd.ntmps83
     go_wp2
     go_ret
     exact ⟨by first | rfl | (simp; done) | (simp [*]; done) | (simp [bneNil]; done), by repeat (first | exact Drawn0.refl _ | apply Drawn0.step)⟩
    ·
     rw [if_neg c5] at H
     have c5b0 : ((Go.bits .and .i64 a0 7) == 3) = false := beq_eq_false_iff_ne.mpr c5
     have c5b1 : ((Go.bits .and .i64 a0 7) != 3) = true := bne_iff_ne.mpr c5
     by_cases c6 : (Go.bits .and .i64 a0 7) = 4
     ·
      rw [if_pos c6] at H
      have c6b0 : ((Go.bits .and .i64 a0 7) == 4) = true := beq_iff_eq.mpr c6
      have c6b1 : ((Go.bits .and .i64 a0 7) != 4) = false := bne_eq_false_iff_eq.mpr c6
      clear c6
      obtain rfl := Option.some.inj H
      go_enter Tryd.func83, Tryd.ntmps83
      go_wp2
      go_ret
      exact ⟨by first | rfl | (simp; done) | (simp [*]; done) | (simp [bneNil]; done), by repeat (first | exact Drawn0.refl _ | apply Drawn0.step)⟩
     ·
      rw [if_neg c6] at H
      have c6b0 : ((Go.bits .and .i64 a0 7) == 4) = false := beq_eq_false_iff_ne.mpr c6
      have c6b1 : ((Go.bits .and .i64 a0 7) != 4) = true := bne_iff_ne.mpr c6
      by_cases c7 : (Go.bits .and .i64 a0 7) = 5
      ·
       rw [if_pos c7] at H
       have c7b0 : ((Go.bits .and .i64 a0 7) == 5) = true := beq_iff_eq.mpr c7
       have c7b1 : ((Go.bits .and .i64 a0 7) != 5) = false := bne_eq_false_iff_eq.mpr c7
       clear c7
       obtain rfl := Option.some.inj H
       go_enter Tryd.func83, Tryd.ntmps83
       go_wp2
       go_ret
       exact ⟨by first | rfl | (simp; done) | (simp [*]; done) | (simp [bneNil]; done), by repeat (first | exact Drawn0.refl _ | apply Drawn0.step)⟩
      ·
       rw [if_neg c7] at H
       have c7b0 : ((Go.bits .and .i64 a0 7) == 5) = false := beq_eq_false_iff_ne.mpr c7
       have c7b1 : ((Go.bits .and .i64 a0 7) != 5) = true := bne_iff_ne.mpr c7
       by_cases c8 : (Go.bits .and .i64 a0 7) = 6
       ·
        rw [if_pos c8] at H
        have c8b0 : ((Go.bits .and .i64 a0 7) == 6) = true := beq_iff_eq.mpr c8
        have c8b1 : ((Go.bits .and .i64 a0 7) != 6) = false := bne_eq_false_iff_eq.mpr c8
        clear c8
        obtain rfl := Option.some.inj H
        go_enter Tryd.func83, Tryd.ntmps83
        go_wp2
        go_ret
        exact ⟨by first | rfl | (simp; done) | (simp [*]; done) | (simp [bneNil]; done), by repeat (first | exact Drawn0.refl _ | apply Drawn0.step)⟩
       ·
        rw [if_neg c8] at H
        have c8b0 : ((Go.bits .and .i64 a0 7) == 6) = false := beq_eq_false_iff_ne.mpr c8
        have c8b1 : ((Go.bits .and .i64 a0 7) != 6) = true := bne_iff_ne.mpr c8
        obtain rfl := Option.some.inj H
        go_enter Tryd.func83, Tryd.ntmps83
        go_wp2
        go_ret
        exact ⟨by first | rfl | (simp; done) | (simp [*]; done) | (simp [bneNil]; done), by repeat (first | exact Drawn0.refl _ | apply Drawn0.step)⟩

end Go.Proofs.YtllkoadcpobdaaaDoor.PX
