/- The row and the tied card of FnSemverTermsOne, out of its printed walk and its plain law. For every input that the statement lets in. -/
import Derived.Test.YtllkoadcpobdaaaDoorZCardSemverTermsOne6
namespace Go.Proofs.YtllkoadcpobdaaaDoor.PX

open Go.RowKit Go.Proofs.YtllkoadcpobdaaaDoorW.PrintWords Go.Proofs.YtllkoadcpobdaaaDoorW.PrintLast Go.Proofs.YtllkoadcpobdaaaDoorW.PrintMore

attribute [local go_sem] max2_int min2_int max_two min_two max_three min_three max_four min_four   -- for this text's walks alone

set_option linter.unusedVariables false

set_option linter.unusedSimpArgs false

set_option maxHeartbeats 80000000 in
set_option maxRecDepth 100000 in
theorem semver_Version_Patch.calls (a0_0 : Int) (a0_1 : Int) (a0_2 : Int) (a0_3 : ByteArray) (a0_4 : ByteArray) (a0_5 : ByteArray) (r : Int) (w : World) (h : semver_Version_Patch.f a0_0 a0_1 a0_2 a0_3 a0_4 a0_5 = some r) :
    Calls Tryd.prog 96 #[.agg #[.int .u64 a0_0, .int .u64 a0_1, .int .u64 a0_2, .string a0_3, .string a0_4, .string a0_5]] w fun e w' => e = .returned (.int .u64 r) ∧ Below w.heap.size w w' := by
  have hu106 := Tryd.underlying106
  have HB := Aside0.mk (Below.refl w.heap.size w)
  have H : (some a0_2) = some r := h
  clear h
  obtain rfl := Option.some.inj H
  go_enter Tryd.func96, Tryd.ntmps96
  go_wp2_with (first | ((with_reducible refine gate_dst (N := 1) rfl ?_); refine box_event ?hg (N := 1) ?hd (cs := #[.int .u64 a0_0, .int .u64 a0_1, .int .u64 a0_2, .string a0_3, .string a0_4, .string a0_5]) (t := 106) ?hr ?_; (case hd => rfl); (case hg => rfl); (case hr => first | (go_simp; done) | (go_simp; rfl) | (go_simp; simp [u8w]; done)); intro gb573 hg w2 hbox hb; have n0_ := Aside0.mk (below_step (by repeat (first | (with_reducible first | exact HB.out | apply below_alloc | apply pw_below_drewN | apply below_drew1) | exact HB.out)) hb); have n1_ := Aside0.mk (hbox); have n2_ := Aside0.mk ((by rw [hg]; exact (below_size (by repeat (first | (with_reducible first | exact HB.out | apply below_alloc | apply pw_below_drewN | apply below_drew1) | exact HB.out))) : w.heap.size ≤ gb573)); have n3_ := Aside0.mk ((by rw [hg]; exact (below_size (by repeat (first | (with_reducible first | exact HB.out | apply below_alloc | apply pw_below_drewN | apply below_drew1) | exact HB.out))) : w.heap.size ≤ gb573)); clear HB; have HB := n0_; have BK573 := n1_; have GW573 := n2_; have GE573 := n3_; clear n0_ n1_ n2_ n3_; clear hb hbox hg; have hcz3_0 : w2.cell? ⟨gb573, 0, none⟩ = some (.int .u64 a0_0) := (blk_cell BK573.out 0).trans rfl; have hcz3_1 : w2.cell? ⟨gb573, 1, none⟩ = some (.int .u64 a0_1) := (blk_cell BK573.out 1).trans rfl; have hcz3_2 : w2.cell? ⟨gb573, 2, none⟩ = some (.int .u64 a0_2) := (blk_cell BK573.out 2).trans rfl; have hcz3_3 : w2.cell? ⟨gb573, 3, none⟩ = some (.string a0_3) := (blk_cell BK573.out 3).trans rfl; have hcz3_4 : w2.cell? ⟨gb573, 4, none⟩ = some (.string a0_4) := (blk_cell BK573.out 4).trans rfl; have hcz3_5 : w2.cell? ⟨gb573, 5, none⟩ = some (.string a0_5) := (blk_cell BK573.out 5).trans rfl; have hfz3_0 := blk_frozen BK573.out 0; have hfz3_1 := blk_frozen BK573.out 1; have hfz3_2 := blk_frozen BK573.out 2; have hfz3_3 := blk_frozen BK573.out 3; have hfz3_4 := blk_frozen BK573.out 4; have hfz3_5 := blk_frozen BK573.out 5))
  go_ret
  exact ⟨by first | rfl | (simp [errW_none, errW_some] <;> rfl) | (simp [*, errW_none, errW_some] <;> rfl) | (simp [bneNil]; done), by repeat (first | (with_reducible first | exact HB.out | apply below_alloc | apply pw_below_drewN | apply below_drew1 | refine below_set ?_ GE573.out) | exact HB.out)⟩

def semver_Version_Prerelease.f (a0_0 : Int) (a0_1 : Int) (a0_2 : Int) (a0_3 : ByteArray) (a0_4 : ByteArray) (a0_5 : ByteArray) : Option (ByteArray) := some a0_3

set_option maxHeartbeats 80000000 in
set_option maxRecDepth 100000 in
theorem semver_Version_Prerelease.calls (a0_0 : Int) (a0_1 : Int) (a0_2 : Int) (a0_3 : ByteArray) (a0_4 : ByteArray) (a0_5 : ByteArray) (r : ByteArray) (w : World) (h : semver_Version_Prerelease.f a0_0 a0_1 a0_2 a0_3 a0_4 a0_5 = some r) :
    Calls Tryd.prog 97 #[.agg #[.int .u64 a0_0, .int .u64 a0_1, .int .u64 a0_2, .string a0_3, .string a0_4, .string a0_5]] w fun e w' => e = .returned (.string r) ∧ Below w.heap.size w w' := by
  have hu106 := Tryd.underlying106
  have HB := Aside0.mk (Below.refl w.heap.size w)
  have H : (some a0_3) = some r := h
  clear h
  obtain rfl := Option.some.inj H
  go_enter Tryd.func97, Tryd.ntmps97
  go_wp2_with (first | ((with_reducible refine gate_dst (N := 1) rfl ?_); refine box_event ?hg (N := 1) ?hd (cs := #[.int .u64 a0_0, .int .u64 a0_1, .int .u64 a0_2, .string a0_3, .string a0_4, .string a0_5]) (t := 106) ?hr ?_; (case hd => rfl); (case hg => rfl); (case hr => first | (go_simp; done) | (go_simp; rfl) | (go_simp; simp [u8w]; done)); intro gb574 hg w2 hbox hb; have n0_ := Aside0.mk (below_step (by repeat (first | (with_reducible first | exact HB.out | apply below_alloc | apply pw_below_drewN | apply below_drew1) | exact HB.out)) hb); have n1_ := Aside0.mk (hbox); have n2_ := Aside0.mk ((by rw [hg]; exact (below_size (by repeat (first | (with_reducible first | exact HB.out | apply below_alloc | apply pw_below_drewN | apply below_drew1) | exact HB.out))) : w.heap.size ≤ gb574)); have n3_ := Aside0.mk ((by rw [hg]; exact (below_size (by repeat (first | (with_reducible first | exact HB.out | apply below_alloc | apply pw_below_drewN | apply below_drew1) | exact HB.out))) : w.heap.size ≤ gb574)); clear HB; have HB := n0_; have BK574 := n1_; have GW574 := n2_; have GE574 := n3_; clear n0_ n1_ n2_ n3_; clear hb hbox hg; have hcz3_0 : w2.cell? ⟨gb574, 0, none⟩ = some (.int .u64 a0_0) := (blk_cell BK574.out 0).trans rfl; have hcz3_1 : w2.cell? ⟨gb574, 1, none⟩ = some (.int .u64 a0_1) := (blk_cell BK574.out 1).trans rfl; have hcz3_2 : w2.cell? ⟨gb574, 2, none⟩ = some (.int .u64 a0_2) := (blk_cell BK574.out 2).trans rfl; have hcz3_3 : w2.cell? ⟨gb574, 3, none⟩ = some (.string a0_3) := (blk_cell BK574.out 3).trans rfl; have hcz3_4 : w2.cell? ⟨gb574, 4, none⟩ = some (.string a0_4) := (blk_cell BK574.out 4).trans rfl; have hcz3_5 : w2.cell? ⟨gb574, 5, none⟩ = some (.string a0_5) := (blk_cell BK574.out 5).trans rfl; have hfz3_0 := blk_frozen BK574.out 0; have hfz3_1 := blk_frozen BK574.out 1; have hfz3_2 := blk_frozen BK574.out 2; have hfz3_3 := blk_frozen BK574.out 3; have hfz3_4 := blk_frozen BK574.out 4; have hfz3_5 := blk_frozen BK574.out 5))
  go_ret
  exact ⟨by first | rfl | (simp [errW_none, errW_some] <;> rfl) | (simp [*, errW_none, errW_some] <;> rfl) | (simp [bneNil]; done), by repeat (first | (with_reducible first | exact HB.out | apply below_alloc | apply pw_below_drewN | apply below_drew1 | refine below_set ?_ GE574.out) | exact HB.out)⟩

def impl_operator.f (a0 : Int) : Option (ByteArray) := if (Go.bits .and .i64 a0 7) = 0 then (some (⟨#[61]⟩ : ByteArray)) else (if (Go.bits .and .i64 a0 7) = 1 then (some (⟨#[33, 61]⟩ : ByteArray)) else (if (Go.bits .and .i64 a0 7) = 2 then (some (⟨#[62]⟩ : ByteArray)) else (if (Go.bits .and .i64 a0 7) = 3 then (some (⟨#[60]⟩ : ByteArray)) else (if (Go.bits .and .i64 a0 7) = 4 then (some (⟨#[62, 61]⟩ : ByteArray)) else (if (Go.bits .and .i64 a0 7) = 5 then (some (⟨#[60, 61]⟩ : ByteArray)) else (if (Go.bits .and .i64 a0 7) = 6 then (some (⟨#[126]⟩ : ByteArray)) else (some (⟨#[94]⟩ : ByteArray))))))))

set_option maxHeartbeats 80000000 in
set_option maxRecDepth 100000 in
theorem impl_operator.calls (a0 : Int) (r : ByteArray) (w : World) (h : impl_operator.f a0 = some r) :
  Calls Tryd.prog 83 #[.int .i64 a0] w fun e w' => e = .returned (.string r) ∧ Drawn0 w w' := by
 have H : (if (Go.bits .and .i64 a0 7) = 0 then (some (⟨#[61]⟩ : ByteArray)) else (if (Go.bits .and .i64 a0 7) = 1 then (some (⟨#[33, 61]⟩ : ByteArray)) else (if (Go.bits .and .i64 a0 7) = 2 then (some (⟨#[62]⟩ : ByteArray)) else (if (Go.bits .and .i64 a0 7) = 3 then (some (⟨#[60]⟩ : ByteArray)) else (if (Go.bits .and .i64 a0 7) = 4 then (some (⟨#[62, 61]⟩ : ByteArray)) else (if (Go.bits .and .i64 a0 7) = 5 then (some (⟨#[60, 61]⟩ : ByteArray)) else (if (Go.bits .and .i64 a0 7) = 6 then (some (⟨#[126]⟩ : ByteArray)) else (some (⟨#[94]⟩ : ByteArray))))))))) = some r := h
 clear h
 by_cases c2 : (Go.bits .and .i64 a0 7) = 0
 ·
  rw [if_pos c2] at H
  have c2b0 : ((Go.bits .and .i64 a0 7) == 0) = true := beq_iff_eq.mpr c2
  have c2b1 : ((Go.bits .and .i64 a0 7) != 0) = false := bne_eq_false_iff_eq.mpr c2
  clear c2
  obtain rfl := Option.some.inj H
  go_enter Tryd.func83, Tryd.ntmps83
  go_wp2
  go_ret
  exact ⟨by first | rfl | (simp; done) | (simp [*]; done) | (simp [bneNil]; done), by repeat (first | exact Drawn0.refl _ | apply Drawn0.step)⟩
 ·
  rw [if_neg c2] at H
  have c2b0 : ((Go.bits .and .i64 a0 7) == 0) = false := beq_eq_false_iff_ne.mpr c2
  have c2b1 : ((Go.bits .and .i64 a0 7) != 0) = true := bne_iff_ne.mpr c2
  by_cases c3 : (Go.bits .and .i64 a0 7) = 1
  ·
   rw [if_pos c3] at H
   have c3b0 : ((Go.bits .and .i64 a0 7) == 1) = true := beq_iff_eq.mpr c3
   have c3b1 : ((Go.bits .and .i64 a0 7) != 1) = false := bne_eq_false_iff_eq.mpr c3
   clear c3
   obtain rfl := Option.some.inj H
   go_enter Tryd.func83, Tryd.ntmps83
   go_wp2
   go_ret
   exact ⟨by first | rfl | (simp; done) | (simp [*]; done) | (simp [bneNil]; done), by repeat (first | exact Drawn0.refl _ | apply Drawn0.step)⟩
  ·
   rw [if_neg c3] at H
   have c3b0 : ((Go.bits .and .i64 a0 7) == 1) = false := beq_eq_false_iff_ne.mpr c3
   have c3b1 : ((Go.bits .and .i64 a0 7) != 1) = true := bne_iff_ne.mpr c3
   by_cases c4 : (Go.bits .and .i64 a0 7) = 2
   ·
    rw [if_pos c4] at H
    have c4b0 : ((Go.bits .and .i64 a0 7) == 2) = true := beq_iff_eq.mpr c4
    have c4b1 : ((Go.bits .and .i64 a0 7) != 2) = false := bne_eq_false_iff_eq.mpr c4
    clear c4
    obtain rfl := Option.some.inj H
    go_enter Tryd.func83, Tryd.ntmps83
    go_wp2
    go_ret
    exact ⟨by first | rfl | (simp; done) | (simp [*]; done) | (simp [bneNil]; done), by repeat (first | exact Drawn0.refl _ | apply Drawn0.step)⟩
   ·
    rw [if_neg c4] at H
    have c4b0 : ((Go.bits .and .i64 a0 7) == 2) = false := beq_eq_false_iff_ne.mpr c4
    have c4b1 : ((Go.bits .and .i64 a0 7) != 2) = true := bne_iff_ne.mpr c4
    by_cases c5 : (Go.bits .and .i64 a0 7) = 3
    ·
     rw [if_pos c5] at H
     have c5b0 : ((Go.bits .and .i64 a0 7) == 3) = true := beq_iff_eq.mpr c5
     have c5b1 : ((Go.bits .and .i64 a0 7) != 3) = false := bne_eq_false_iff_eq.mpr c5
     clear c5
     obtain rfl := Option.some.inj H
     go_enter Tryd.func83, Tryd.ntmps83
     go_wp2
     go_ret
     exact ⟨by first | rfl | (simp; done) | (simp [*]; done) | (simp [bneNil]; done), by repeat (first | exact Drawn0.refl _ | apply Drawn0.step)⟩
    ·
     rw [if_neg c5] at H
     have c5b0 : ((Go.bits .and .i64 a0 7) == 3) = false := beq_eq_false_iff_ne.mpr c5
     have c5b1 : ((Go.bits .and .i64 a0 7) != 3) = true := bne_iff_ne.mpr c5
     by_cases c6 : (Go.bits .and .i64 a0 7) = 4
     ·
      rw [if_pos c6] at H
      have c6b0 : ((Go.bits .and .i64 a0 7) == 4) = true := beq_iff_eq.mpr c6
      have c6b1 : ((Go.bits .and .i64 a0 7) != 4) = false := bne_eq_false_iff_eq.mpr c6
      clear c6
      obtain rfl := Option.some.inj H
      go_enter Tryd.func83, Tryd.ntmps83
      go_wp2
      go_ret
      exact ⟨by first | rfl | (simp; done) | (simp [*]; done) | (simp [bneNil]; done), by repeat (first | exact Drawn0.refl _ | apply Drawn0.step)⟩
     ·
      rw [if_neg c6] at H
      have c6b0 : ((Go.bits .and .i64 a0 7) == 4) = false := beq_eq_false_iff_ne.mpr c6
      have c6b1 : ((Go.bits .and .i64 a0 7) != 4) = true := bne_iff_ne.mpr c6
      by_cases c7 : (Go.bits .and .i64 a0 7) = 5
      ·
       rw [if_pos c7] at H
       have c7b0 : ((Go.bits .and .i64 a0 7) == 5) = true := beq_iff_eq.mpr c7
       have c7b1 : ((Go.bits .and .i64 a0 7) != 5) = false := bne_eq_false_iff_eq.mpr c7
       clear c7
       obtain rfl := Option.some.inj H
       go_enter Tryd.func83, Tryd.ntmps83
       go_wp2
       go_ret
       exact ⟨by first | rfl | (simp; done) | (simp [*]; done) | (simp [bneNil]; done), by repeat (first | exact Drawn0.refl _ | apply Drawn0.step)⟩
      ·
       rw [if_neg c7] at H
       have c7b0 : ((Go.bits .and .i64 a0 7) == 5) = false := beq_eq_false_iff_ne.mpr c7
       have c7b1 : ((Go.bits .and .i64 a0 7) != 5) = true := bne_iff_ne.mpr c7
       by_cases c8 : (Go.bits .and .i64 a0 7) = 6
       ·
        rw [if_pos c8] at H
        have c8b0 : ((Go.bits .and .i64 a0 7) == 6) = true := beq_iff_eq.mpr c8
        have c8b1 : ((Go.bits .and .i64 a0 7) != 6) = false := bne_eq_false_iff_eq.mpr c8
        clear c8
        obtain rfl := Option.some.inj H
        go_enter Tryd.func83, Tryd.ntmps83
        go_wp2
        go_ret
        exact ⟨by first | rfl | (simp; done) | (simp [*]; done) | (simp [bneNil]; done), by repeat (first | exact Drawn0.refl _ | apply Drawn0.step)⟩
       ·
        rw [if_neg c8] at H
        have c8b0 : ((Go.bits .and .i64 a0 7) == 6) = false := beq_eq_false_iff_ne.mpr c8
        have c8b1 : ((Go.bits .and .i64 a0 7) != 6) = true := bne_iff_ne.mpr c8
        obtain rfl := Option.some.inj H
        go_enter Tryd.func83, Tryd.ntmps83
        go_wp2
        go_ret
        exact ⟨by first | rfl | (simp; done) | (simp [*]; done) | (simp [bneNil]; done), by repeat (first | exact Drawn0.refl _ | apply Drawn0.step)⟩

end Go.Proofs.YtllkoadcpobdaaaDoor.PX
