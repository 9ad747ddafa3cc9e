/- The row of FnRefTextOne, out of its printed walk and its plain law. For every input that the statement lets in. -/
import Derived.Test.YtmlcpnehihmhaaaZCardRefTextOne0
import Derived.Test.YtmlcpnehihmhaaaZCardRefTextOne3
import Derived.Test.YtmlcpnehihmhaaaZCardRefTextOne4
import Derived.Test.YtmlcpnehihmhaaaZCardRefTextOne9
import Derived.Test.YtmlcpnehihmhaaaProg
import Derived.Below
import Derived.Deep.Draws
import Derived.Deep.AppendLies
import Derived.Maps.AppendAt
import Derived.OwnWalk
import Derived.Laws.BytesArg
import Derived.Laws.MakeOwn
import Derived.Laws.OwnMore
import Derived.Deep.OwnRows
import Derived.Tactics
import Derived.Lib.ConvBytes
import Derived.Laws.Slices
import Derived.WalkKit
import Derived.KernelRfl
import Derived.RowKit3
import Derived.Deep.LoopGhost
import Derived.Deep.QuietTactic
import Derived.BigQuiet
import Derived.WideLaws
import Derived.Deep.DeepCutAuto
import Derived.Deep.CutBlock
import Derived.Deep.RegionHeld3
import Derived.Laws.Rows
import Derived.Lib.AppendStr
import Derived.ArgAppend
import Derived.Laws.IdiomCopy
import Derived.OrdersHeld
import Derived.Laws.BitsLemmas
import Derived.RowKit
namespace Go.Proofs.Ytmlcpnehihmhaaa.PX

open Go.RowKit Go.Proofs.YtmlcpnehihmhaaaW.PrintWords Go.Proofs.YtmlcpnehihmhaaaW.PrintLast Go.Proofs.YtmlcpnehihmhaaaW.PrintMore

attribute [local go_sem] max2_int min2_int max_two min_two max_three min_three max_four min_four   -- for this text's walks alone

set_option linter.unusedVariables false

set_option linter.unusedSimpArgs false

def errW : Option Int → Value
  | none => .nilIface
  | some c => .iface 0 (.int .i64 c)

theorem errW_none : errW none = .nilIface := rfl

theorem errW_some (c : Int) : errW (some c) = .iface 0 (.int .i64 c) := rfl

theorem info5 : (Try.prog.info? 5).map (fun i => (i.zero, i.size, i.bytes)) = some (some (.int .u8 0), 1, 1) := by kernel_rfl

theorem info9 : (Try.prog.info? 9).map (fun i => (i.zero, i.size, i.bytes)) = some (some (.string ⟨#[]⟩), 1, 16) := by kernel_rfl

theorem bneNil (l : List UInt8) : (l != []) = !l.isEmpty := by cases l <;> rfl

theorem u8w (x : Int) : IntKind.u8.wrap x = x % 256 := by simp [IntKind.wrap, IntKind.bits, IntKind.signed]

theorem szL1 (a : UInt8) : (⟨#[a]⟩ : ByteArray).size = 1 := rfl

theorem szL2 (a b : UInt8) : (⟨#[a, b]⟩ : ByteArray).size = 2 := rfl

theorem szL3 (a b c : UInt8) : (⟨#[a, b, c]⟩ : ByteArray).size = 3 := rfl

end Go.Proofs.Ytmlcpnehihmhaaa.PX
namespace Go.Proofs.Ytmlcpnehihmhaaa.PX

open Go.RowKit Go.Proofs.YtmlcpnehihmhaaaW.PrintWords Go.Proofs.YtmlcpnehihmhaaaW.PrintLast Go.Proofs.YtmlcpnehihmhaaaW.PrintMore

attribute [local go_sem] max2_int min2_int max_two min_two max_three min_three max_four min_four   -- for this text's walks alone

set_option linter.unusedVariables false

set_option linter.unusedSimpArgs false

def laws_zzFits7.f (a0_0 : ByteArray) (a0_1 : ByteArray) (a0_2 : ByteArray) (a0_3 : ByteArray) : Option (Bool) := if (a0_0.size : Int) > 2147483647 then (some false) else (if (a0_1.size : Int) > 2147483647 then (some false) else (if (a0_2.size : Int) > 2147483647 then (some false) else (if (a0_3.size : Int) > 2147483647 then (some false) else (some true))))

set_option maxHeartbeats 80000000 in
set_option maxRecDepth 100000 in
theorem laws_zzFits7.calls (a0_0 : ByteArray) (a0_1 : ByteArray) (a0_2 : ByteArray) (a0_3 : ByteArray) (r : Bool) (w : World) (h : laws_zzFits7.f a0_0 a0_1 a0_2 a0_3 = some r) :
  Calls Try.prog 4 #[.agg #[.string a0_0, .string a0_1, .string a0_2, .string a0_3]] w fun e w' => e = .returned (.bool r) ∧ Below w.heap.size w w' := by
 have hu23 := Try.underlying23
 have HB := Aside0.mk (Below.refl w.heap.size w)
 have H : (if (a0_0.size : Int) > 2147483647 then (some false) else (if (a0_1.size : Int) > 2147483647 then (some false) else (if (a0_2.size : Int) > 2147483647 then (some false) else (if (a0_3.size : Int) > 2147483647 then (some false) else (some true))))) = some r := h
 clear h
 by_cases c2 : (a0_0.size : Int) > 2147483647
 ·
  rw [if_pos c2] at H
  have c2b0 : decide (2147483647 < (a0_0.size : Int)) = true := decide_eq_true c2
  have c2b1 : decide (2147483647 < a0_0.size) = true := decide_eq_true (by omega)
  clear c2
  obtain rfl := Option.some.inj H
  go_enter Try.func4, Try.ntmps4
  go_wp2_with (first | ((with_reducible refine gate_dst (N := 1) rfl ?_); refine box_event ?hg (N := 1) ?hd (cs := #[.string a0_0, .string a0_1, .string a0_2, .string a0_3]) (t := 23) ?hr ?_; (case hd => rfl); (case hg => rfl); (case hr => first | (go_simp; done) | (go_simp; rfl) | (go_simp; simp [u8w]; done)); intro gb101 hg w3 hbox hb; have n0_ := Aside0.mk (below_step (by repeat (first | (with_reducible first | exact HB.out | apply below_alloc | apply pw_below_drewN | apply below_drew1) | exact HB.out)) hb); have n1_ := Aside0.mk (hbox); have n2_ := Aside0.mk ((by rw [hg]; exact (below_size (by repeat (first | (with_reducible first | exact HB.out | apply below_alloc | apply pw_below_drewN | apply below_drew1) | exact HB.out))) : w.heap.size ≤ gb101)); have n3_ := Aside0.mk ((by rw [hg]; exact (below_size (by repeat (first | (with_reducible first | exact HB.out | apply below_alloc | apply pw_below_drewN | apply below_drew1) | exact HB.out))) : w.heap.size ≤ gb101)); clear HB; have HB := n0_; have BK101 := n1_; have GW101 := n2_; have GE101 := n3_; clear n0_ n1_ n2_ n3_; clear hb hbox hg; have hcz4_0 : w3.cell? ⟨gb101, 0, none⟩ = some (.string a0_0) := (blk_cell BK101.out 0).trans rfl; have hcz4_1 : w3.cell? ⟨gb101, 1, none⟩ = some (.string a0_1) := (blk_cell BK101.out 1).trans rfl; have hcz4_2 : w3.cell? ⟨gb101, 2, none⟩ = some (.string a0_2) := (blk_cell BK101.out 2).trans rfl; have hcz4_3 : w3.cell? ⟨gb101, 3, none⟩ = some (.string a0_3) := (blk_cell BK101.out 3).trans rfl; have hfz4_0 := blk_frozen BK101.out 0; have hfz4_1 := blk_frozen BK101.out 1; have hfz4_2 := blk_frozen BK101.out 2; have hfz4_3 := blk_frozen BK101.out 3))
  go_ret
  exact ⟨by first | rfl | (simp [errW_none, errW_some] <;> rfl) | (simp [*, errW_none, errW_some] <;> rfl) | (simp [bneNil]; done), by repeat (first | (with_reducible first | exact HB.out | apply below_alloc | apply pw_below_drewN | apply below_drew1 | refine below_set ?_ GE101.out) | exact HB.out)⟩
 ·
  rw [if_neg c2] at H
  have c2b0 : decide (2147483647 < (a0_0.size : Int)) = false := decide_eq_false c2
  have c2b1 : decide (2147483647 < a0_0.size) = false := decide_eq_false (by omega)
  clear c2
  by_cases c5 : (a0_1.size : Int) > 2147483647
  ·
   rw [if_pos c5] at H
   have c5b0 : decide (2147483647 < (a0_1.size : Int)) = true := decide_eq_true c5
   have c5b1 : decide (2147483647 < a0_1.size) = true := decide_eq_true (by omega)
   clear c5
   obtain rfl := Option.some.inj H
   go_enter Try.func4, Try.ntmps4
   go_wp2_with (first | ((with_reducible refine gate_dst (N := 1) rfl ?_); refine box_event ?hg (N := 1) ?hd (cs := #[.string a0_0, .string a0_1, .string a0_2, .string a0_3]) (t := 23) ?hr ?_; (case hd => rfl); (case hg => rfl); (case hr => first | (go_simp; done) | (go_simp; rfl) | (go_simp; simp [u8w]; done)); intro gb101 hg w6 hbox hb; have n0_ := Aside0.mk (below_step (by repeat (first | (with_reducible first | exact HB.out | apply below_alloc | apply pw_below_drewN | apply below_drew1) | exact HB.out)) hb); have n1_ := Aside0.mk (hbox); have n2_ := Aside0.mk ((by rw [hg]; exact (below_size (by repeat (first | (with_reducible first | exact HB.out | apply below_alloc | apply pw_below_drewN | apply below_drew1) | exact HB.out))) : w.heap.size ≤ gb101)); have n3_ := Aside0.mk ((by rw [hg]; exact (below_size (by repeat (first | (with_reducible first | exact HB.out | apply below_alloc | apply pw_below_drewN | apply below_drew1) | exact HB.out))) : w.heap.size ≤ gb101)); clear HB; have HB := n0_; have BK101 := n1_; have GW101 := n2_; have GE101 := n3_; clear n0_ n1_ n2_ n3_; clear hb hbox hg; have hcz7_0 : w6.cell? ⟨gb101, 0, none⟩ = some (.string a0_0) := (blk_cell BK101.out 0).trans rfl; have hcz7_1 : w6.cell? ⟨gb101, 1, none⟩ = some (.string a0_1) := (blk_cell BK101.out 1).trans rfl; have hcz7_2 : w6.cell? ⟨gb101, 2, none⟩ = some (.string a0_2) := (blk_cell BK101.out 2).trans rfl; have hcz7_3 : w6.cell? ⟨gb101, 3, none⟩ = some (.string a0_3) := (blk_cell BK101.out 3).trans rfl; have hfz7_0 := blk_frozen BK101.out 0; have hfz7_1 := blk_frozen BK101.out 1; have hfz7_2 := blk_frozen BK101.out 2; have hfz7_3 := blk_frozen BK101.out 3))
   go_ret
   exact ⟨by first | rfl | (simp [errW_none, errW_some] <;> rfl) | (simp [*, errW_none, errW_some] <;> rfl) | (simp [bneNil]; done), by repeat (first | (with_reducible first | exact HB.out | apply below_alloc | apply pw_below_drewN | apply below_drew1 | refine below_set ?_ GE101.out) | exact HB.out)⟩
  ·
   rw [if_neg c5] at H
   have c5b0 : decide (2147483647 < (a0_1.size : Int)) = false := decide_eq_false c5
   have c5b1 : decide (2147483647 < a0_1.size) = false := decide_eq_false (by omega)
   clear c5
   by_cases c8 : (a0_2.size : Int) > 2147483647
   ·
    rw [if_pos c8] at H
    have c8b0 : decide (2147483647 < (a0_2.size : Int)) = true := decide_eq_true c8
    have c8b1 : decide (2147483647 < a0_2.size) = true := decide_eq_true (by omega)
    clear c8
    obtain rfl := Option.some.inj H
    go_enter Try.func4, Try.ntmps4
    go_wp2_with (first | ((with_reducible refine gate_dst (N := 1) rfl ?_); refine box_event ?hg (N := 1) ?hd (cs := #[.string a0_0, .string a0_1, .string a0_2, .string a0_3]) (t := 23) ?hr ?_; (case hd => rfl); (case hg => rfl); (case hr => first | (go_simp; done) | (go_simp; rfl) | (go_simp; simp [u8w]; done)); intro gb101 hg w9 hbox hb; have n0_ := Aside0.mk (below_step (by repeat (first | (with_reducible first | exact HB.out | apply below_alloc | apply pw_below_drewN | apply below_drew1) | exact HB.out)) hb); have n1_ := Aside0.mk (hbox); have n2_ := Aside0.mk ((by rw [hg]; exact (below_size (by repeat (first | (with_reducible first | exact HB.out | apply below_alloc | apply pw_below_drewN | apply below_drew1) | exact HB.out))) : w.heap.size ≤ gb101)); have n3_ := Aside0.mk ((by rw [hg]; exact (below_size (by repeat (first | (with_reducible first | exact HB.out | apply below_alloc | apply pw_below_drewN | apply below_drew1) | exact HB.out))) : w.heap.size ≤ gb101)); clear HB; have HB := n0_; have BK101 := n1_; have GW101 := n2_; have GE101 := n3_; clear n0_ n1_ n2_ n3_; clear hb hbox hg; have hcz10_0 : w9.cell? ⟨gb101, 0, none⟩ = some (.string a0_0) := (blk_cell BK101.out 0).trans rfl; have hcz10_1 : w9.cell? ⟨gb101, 1, none⟩ = some (.string a0_1) := (blk_cell BK101.out 1).trans rfl; have hcz10_2 : w9.cell? ⟨gb101, 2, none⟩ = some (.string a0_2) := (blk_cell BK101.out 2).trans rfl; have hcz10_3 : w9.cell? ⟨gb101, 3, none⟩ = some (.string a0_3) := (blk_cell BK101.out 3).trans rfl; have hfz10_0 := blk_frozen BK101.out 0; have hfz10_1 := blk_frozen BK101.out 1; have hfz10_2 := blk_frozen BK101.out 2; have hfz10_3 := blk_frozen BK101.out 3))
    go_ret
    exact ⟨by first | rfl | (simp [errW_none, errW_some] <;> rfl) | (simp [*, errW_none, errW_some] <;> rfl) | (simp [bneNil]; done), by repeat (first | (with_reducible first | exact HB.out | apply below_alloc | apply pw_below_drewN | apply below_drew1 | refine below_set ?_ GE101.out) | exact HB.out)⟩
   ·
    rw [if_neg c8] at H
    have c8b0 : decide (2147483647 < (a0_2.size : Int)) = false := decide_eq_false c8
    have c8b1 : decide (2147483647 < a0_2.size) = false := decide_eq_false (by omega)
    clear c8
    by_cases c11 : (a0_3.size : Int) > 2147483647
    ·
     rw [if_pos c11] at H
     have c11b0 : decide (2147483647 < (a0_3.size : Int)) = true := decide_eq_true c11
     have c11b1 : decide (2147483647 < a0_3.size) = true := decide_eq_true (by omega)
     clear c11
     obtain rfl := Option.some.inj H
     go_enter Try.func4, Try.ntmps4
     go_wp2_with (first | ((with_reducible refine gate_dst (N := 1) rfl ?_); refine box_event ?hg (N := 1) ?hd (cs := #[.string a0_0, .string a0_1, .string a0_2, .string a0_3]) (t := 23) ?hr ?_; (case hd => rfl); (case hg => rfl); (case hr => first | (go_simp; done) | (go_simp; rfl) | (go_simp; simp [u8w]; done)); intro gb101 hg w12 hbox hb; have n0_ := Aside0.mk (below_step (by repeat (first | (with_reducible first | exact HB.out | apply below_alloc | apply pw_below_drewN | apply below_drew1) | exact HB.out)) hb); have n1_ := Aside0.mk (hbox); have n2_ := Aside0.mk ((by rw [hg]; exact (below_size (by repeat (first | (with_reducible first | exact HB.out | apply below_alloc | apply pw_below_drewN | apply below_drew1) | exact HB.out))) : w.heap.size ≤ gb101)); have n3_ := Aside0.mk ((by rw [hg]; exact (below_size (by repeat (first | (with_reducible first | exact HB.out | apply below_alloc | apply pw_below_drewN | apply below_drew1) | exact HB.out))) : w.heap.size ≤ gb101)); clear HB; have HB := n0_; have BK101 := n1_; have GW101 := n2_; have GE101 := n3_; clear n0_ n1_ n2_ n3_; clear hb hbox hg; have hcz13_0 : w12.cell? ⟨gb101, 0, none⟩ = some (.string a0_0) := (blk_cell BK101.out 0).trans rfl; have hcz13_1 : w12.cell? ⟨gb101, 1, none⟩ = some (.string a0_1) := (blk_cell BK101.out 1).trans rfl; have hcz13_2 : w12.cell? ⟨gb101, 2, none⟩ = some (.string a0_2) := (blk_cell BK101.out 2).trans rfl; have hcz13_3 : w12.cell? ⟨gb101, 3, none⟩ = some (.string a0_3) := (blk_cell BK101.out 3).trans rfl; have hfz13_0 := blk_frozen BK101.out 0; have hfz13_1 := blk_frozen BK101.out 1; have hfz13_2 := blk_frozen BK101.out 2; have hfz13_3 := blk_frozen BK101.out 3))
     go_ret
     exact ⟨by first | rfl | (simp [errW_none, errW_some] <;> rfl) | (simp [*, errW_none, errW_some] <;> rfl) | (simp [bneNil]; done), by repeat (first | (with_reducible first | exact HB.out | apply below_alloc | apply pw_below_drewN | apply below_drew1 | refine below_set ?_ GE101.out) | exact HB.out)⟩
    ·
     rw [if_neg c11] at H
     have c11b0 : decide (2147483647 < (a0_3.size : Int)) = false := decide_eq_false c11
     have c11b1 : decide (2147483647 < a0_3.size) = false := decide_eq_false (by omega)
     clear c11
     obtain rfl := Option.some.inj H
     go_enter Try.func4, Try.ntmps4
     go_wp2_with (first | ((with_reducible refine gate_dst (N := 1) rfl ?_); refine box_event ?hg (N := 1) ?hd (cs := #[.string a0_0, .string a0_1, .string a0_2, .string a0_3]) (t := 23) ?hr ?_; (case hd => rfl); (case hg => rfl); (case hr => first | (go_simp; done) | (go_simp; rfl) | (go_simp; simp [u8w]; done)); intro gb101 hg w14 hbox hb; have n0_ := Aside0.mk (below_step (by repeat (first | (with_reducible first | exact HB.out | apply below_alloc | apply pw_below_drewN | apply below_drew1) | exact HB.out)) hb); have n1_ := Aside0.mk (hbox); have n2_ := Aside0.mk ((by rw [hg]; exact (below_size (by repeat (first | (with_reducible first | exact HB.out | apply below_alloc | apply pw_below_drewN | apply below_drew1) | exact HB.out))) : w.heap.size ≤ gb101)); have n3_ := Aside0.mk ((by rw [hg]; exact (below_size (by repeat (first | (with_reducible first | exact HB.out | apply below_alloc | apply pw_below_drewN | apply below_drew1) | exact HB.out))) : w.heap.size ≤ gb101)); clear HB; have HB := n0_; have BK101 := n1_; have GW101 := n2_; have GE101 := n3_; clear n0_ n1_ n2_ n3_; clear hb hbox hg; have hcz15_0 : w14.cell? ⟨gb101, 0, none⟩ = some (.string a0_0) := (blk_cell BK101.out 0).trans rfl; have hcz15_1 : w14.cell? ⟨gb101, 1, none⟩ = some (.string a0_1) := (blk_cell BK101.out 1).trans rfl; have hcz15_2 : w14.cell? ⟨gb101, 2, none⟩ = some (.string a0_2) := (blk_cell BK101.out 2).trans rfl; have hcz15_3 : w14.cell? ⟨gb101, 3, none⟩ = some (.string a0_3) := (blk_cell BK101.out 3).trans rfl; have hfz15_0 := blk_frozen BK101.out 0; have hfz15_1 := blk_frozen BK101.out 1; have hfz15_2 := blk_frozen BK101.out 2; have hfz15_3 := blk_frozen BK101.out 3))
     go_ret
     exact ⟨by first | rfl | (simp [errW_none, errW_some] <;> rfl) | (simp [*, errW_none, errW_some] <;> rfl) | (simp [bneNil]; done), by repeat (first | (with_reducible first | exact HB.out | apply below_alloc | apply pw_below_drewN | apply below_drew1 | refine below_set ?_ GE101.out) | exact HB.out)⟩

def spec_RefFirst.l0 : Nat → ByteArray → Int → Int → Option (Int)
  | 0, _, _, _ => none
  | k + 1, x0, x1, x5 => if x5 < (x0.size : Int) then (if 0 ≤ x5 then (if (bt x0 x5) = x1 then (some x5) else (spec_RefFirst.l0 k x0 x1 (wrap64 (x5 + 1)))) else (none)) else (some (-1))

def spec_RefFirst.f (k : Nat) (a0 : ByteArray) (a1 : Int) : Option (Int) := spec_RefFirst.l0 k a0 a1 0

set_option maxHeartbeats 80000000 in
set_option maxRecDepth 100000 in
theorem spec_RefFirst.calls (k : Nat) (a0 : ByteArray) (a1 : Int) (r : Int) (w : World) (h : spec_RefFirst.f k a0 a1 = some r) :
    Calls Try.prog 16 #[.string a0, .int .u8 a1] w fun e w' => e = .returned (.int .i64 r) ∧ Drawn0 w w' := by
  have H : (spec_RefFirst.l0 k a0 a1 0) = some r := h
  clear h
  have H' := Aside0.mk H
  clear H
  go_enter Try.func16, Try.ntmps16
  go_wp2
  go_loopg [5] k (fun kq v5 w' => ∃ (x5_1 : Int), v5 = .int .i64 x5_1 ∧ Aside0 (spec_RefFirst.l0 kq a0 a1 x5_1 = some r) ∧ Aside0 (kq ≤ k) ∧ Drawn0 w w')
  case atStart => exact ⟨(0), (by first | rfl | (simp; done) | (simp [*]; done)), H', ⟨Nat.le_refl _⟩, by repeat (first | exact Drawn0.refl _ | apply Drawn0.step)⟩
  case round =>
    clear H'
    try clear c1
    try clear p2
    obtain ⟨x5_1, rfl, HA, HK1, ⟨m1, rfl⟩⟩ := hrel
    cases gk with
    | zero => exact absurd HA.out (by simp [spec_RefFirst.l0])
    | succ k1 =>
      have H := HA.out
      clear HA
      simp only [spec_RefFirst.l0] at H
      by_cases c3 : x5_1 < (a0.size : Int)
      · rw [if_pos c3] at H
        have c3b0 : decide (x5_1 < (a0.size : Int)) = true := decide_eq_true c3
        clear c3
        by_cases c4 : 0 ≤ x5_1
        · rw [if_pos c4] at H
          have c4b0 : decide (0 ≤ x5_1) = true := decide_eq_true c4
          clear c4
          by_cases c6 : (bt a0 x5_1) = a1
          · rw [if_pos c6] at H
            have c6b0 : ((bt a0 x5_1) == a1) = true := beq_iff_eq.mpr c6
            have c6b1 : ((bt a0 x5_1) != a1) = false := bne_eq_false_iff_eq.mpr c6
            clear c6
            obtain rfl := Option.some.inj H
            have p5 : 0 ≤ (x5_1 : Int) := of_decide_eq_true (by first | (with_reducible assumption) | assumption)
            have q5 : x5_1 < (a0.size : Int) := of_decide_eq_true (by first | (with_reducible assumption) | assumption)
            have hx5 := bt_at a0 x5_1
            replace p5 := eq_true p5
            replace q5 := eq_true q5
            go_wp2
            go_ret
            exact ⟨by first | rfl | (simp; done) | (simp [*]; done) | (simp [bneNil]; done), by repeat (first | exact Drawn0.refl _ | apply Drawn0.step)⟩
          · rw [if_neg c6] at H
            have c6b0 : ((bt a0 x5_1) == a1) = false := beq_eq_false_iff_ne.mpr c6
            have c6b1 : ((bt a0 x5_1) != a1) = true := bne_iff_ne.mpr c6
            have H' := Aside0.mk H
            clear H
            have p5 : 0 ≤ (x5_1 : Int) := of_decide_eq_true (by first | (with_reducible assumption) | assumption)
            have q5 : x5_1 < (a0.size : Int) := of_decide_eq_true (by first | (with_reducible assumption) | assumption)
            have hx5 := bt_at a0 x5_1
            replace p5 := eq_true p5
            replace q5 := eq_true q5
            go_wp2
            go_roundg k1
            case measure => have := HK1.out; omega
            case rel => exact ⟨(wrap64 (x5_1 + 1)), (by first | rfl | (simp; done) | (simp [*]; done)), H', ⟨by have := HK1.out; omega⟩, by repeat (first | exact Drawn0.refl _ | apply Drawn0.step)⟩
        · rw [if_neg c4] at H
          exact absurd H (by simp)
      · rw [if_neg c3] at H
        have c3b0 : decide (x5_1 < (a0.size : Int)) = false := decide_eq_false c3
        clear c3
        obtain rfl := Option.some.inj H
        go_wp2
        go_ret
        exact ⟨by first | rfl | (simp; done) | (simp [*]; done) | (simp [bneNil]; done), by repeat (first | exact Drawn0.refl _ | apply Drawn0.step)⟩

def spec_RefSmall.l0 : Nat → ByteArray → List Int → Int → Int → Option (ByteArray)
  | 0, _, _, _, _ => none
  | k + 1, x0, x3, x9, x10 => if x10 < x9 then (if 0 ≤ x10 then (if x10 < (x0.size : Int) then (if x10 < (x3.length : Int) then ((some (x3.set (x10 : Int).toNat (bt x0 x10) : List Int)).bind fun y117 => (if 65 ≤ (bt x0 x10) then (if (bt x0 x10) ≤ 90 then (spec_RefSmall.l0 k x0 (y117.set (x10 : Int).toNat (((rd y117 x10) + 32) % 256)) x9 (wrap64 (x10 + 1))) else (spec_RefSmall.l0 k x0 y117 x9 (wrap64 (x10 + 1)))) else (spec_RefSmall.l0 k x0 y117 x9 (wrap64 (x10 + 1))))) else (none)) else (none)) else (none)) else (some (strOfNums x3))

def spec_RefSmall.f (k : Nat) (a0 : ByteArray) : Option (ByteArray) := if 0 ≤ (a0.size : Int) then (if ((a0.size : Int) : Int).toNat ≤ 281474976710656 then ((some (List.replicate ((a0.size : Int) : Int).toNat 0 : List Int)).bind fun y114 => (spec_RefSmall.l0 k a0 y114 (y114.length : Int) 0)) else (none)) else (none)

set_option maxHeartbeats 80000000 in
set_option maxRecDepth 100000 in
theorem spec_RefSmall.calls (k : Nat) (a0 : ByteArray) (r : ByteArray) (w : World) (h : spec_RefSmall.f k a0 = some r) :
  Calls Try.prog 20 #[.string a0] w fun e w' => e = .returned (.string r) ∧ Below w.heap.size w w' := by
 have HB := Aside0.mk (Below.refl w.heap.size w)
 have H : (if 0 ≤ (a0.size : Int) then (if ((a0.size : Int) : Int).toNat ≤ 281474976710656 then ((some (List.replicate ((a0.size : Int) : Int).toNat 0 : List Int)).bind fun y114 => (spec_RefSmall.l0 k a0 y114 (y114.length : Int) 0)) else (none)) else (none)) = some r := h
 clear h
 by_cases c2 : 0 ≤ (a0.size : Int)
 ·
  rw [if_pos c2] at H
  have c2b0 := eq_true c2
  have c2b1 : decide (0 ≤ (a0.size : Int)) = true := decide_eq_true c2
  clear c2
  by_cases c3 : ((a0.size : Int) : Int).toNat ≤ 281474976710656
  ·
   rw [if_pos c3] at H
   have c3b0 := eq_true c3
   have c3b1 : decide (((a0.size : Int) : Int).toNat ≤ 281474976710656) = true := decide_eq_true c3
   clear c3
   obtain ⟨y114, hy114⟩ : ∃ y_ : List Int, y_ = (List.replicate ((a0.size : Int) : Int).toNat 0) := ⟨_, rfl⟩
   replace H : (spec_RefSmall.l0 k a0 y114 (y114.length : Int) 0) = some r := by first | (rw [hy114]; with_reducible exact H) | (have H2_ := (Option.bind_some _ _).symm.trans H; rw [hy114]; with_reducible exact H2_) | (have H2_ := (Option.bind_some _ _).symm.trans H; with_reducible exact H2_) | with_reducible exact H | (rw [hy114]; exact H) | exact H
   have Ny114 := Aside0.mk hy114
   clear hy114
   have H' := Aside0.mk H
   clear H
   go_enter Try.func20, Try.ntmps20
   go_wp2_with (first | ((with_reducible refine gate_dst (N := 7) rfl ?_); refine Kd.R_make (Kd.int .u8) _ 5 rfl (N := 7) rfl 53 _ _ rfl (a0.size : Int) rfl rfl Try.underlying53 (.int .u8 0) 1 info5 rfl (by decide) (by omega) 0 (ok := fun _ => True) (okp := fun _ => True) rfl (fun _ hk => hk) trivial (of_decide_eq_true (by first | (with_reducible assumption) | assumption)) (Nat.le_trans (Nat.mul_le_mul_right _ (of_decide_eq_true (by first | (with_reducible assumption) | assumption) : (a0.size : Int).toNat ≤ 281474976710656)) (by omega)) (Below.refl _ _) (Nat.le_refl _) ?_; intro v115 w4 ho5 hb hg_ hnew_; clear hg_ hnew_; (first | rw [← Ny114.out] at ho5 | (simp only [Int.reduceToNat] at ho5; rw [← Ny114.out] at ho5)); have n0_ := Aside0.mk (Kd.R_lower ho5 (below_size (by repeat (first | (with_reducible first | exact HB.out | apply below_alloc | apply pw_below_drewN | apply below_drew1) | exact HB.out)))); have n1_ := Aside0.mk (below_step (by repeat (first | (with_reducible first | exact HB.out | apply below_alloc | apply pw_below_drewN | apply below_drew1) | exact HB.out)) hb); clear HB; have HO116 := n0_; have HB := n1_; clear n0_ n1_; clear hb ho5; obtain ⟨Ao6, co6, eo6⟩ := Kd.R_slice HO116.out; subst eo6))
   go_loopg [10] k (fun kq v10 w' => ∃ (x3_1 : List Int) (x10_1 : Int), v10 = .int .i64 x10_1 ∧ Aside0 (spec_RefSmall.l0 kq a0 x3_1 (y114.length : Int) x10_1 = some r) ∧ Aside0 (kq ≤ k) ∧ Aside0 (Kd.R (Kd.int .u8) 5 w' w.heap.size (fun _ => True) (.slice Ao6 y114.length co6) x3_1) ∧ Aside0 (Below w.heap.size w w'))
   case atStart => exact ⟨(y114), (0), (by first | rfl | (simp; done) | (simp [*]; done)), H', ⟨Nat.le_refl _⟩, ⟨by (with_reducible repeat (first | apply Kd.R_alloc | apply Kd.R_drewN | apply Kd.R_drew)); exact HO116.out⟩, ⟨by repeat (first | (with_reducible first | exact HB.out | apply below_alloc | apply pw_below_drewN | apply below_drew1) | exact HB.out)⟩⟩
   case round =>
    clear H'
    try clear c2
    try clear c2b0
    try clear c2b1
    try clear p2
    try clear c3
    try clear c3b0
    try clear c3b1
    obtain ⟨x3_1, x10_1, rfl, HA, HK1, HO_3, HB⟩ := hrel
    have hl3_1 := (Kd.R_reads' HO_3.out).1
    rw [hl3_1] at HO_3
    (try simp only [hl3_1])
    cases gk with
    | zero => exact absurd HA.out (by simp [spec_RefSmall.l0])
    | succ k1 =>
     have H := HA.out
     clear HA
     simp only [spec_RefSmall.l0] at H
     by_cases c7 : x10_1 < (y114.length : Int)
     ·
      rw [if_pos c7] at H
      have c7b0 : decide (x10_1 < (y114.length : Int)) = true := decide_eq_true c7
      try (have c7b0h3_1 := c7b0; rw [hl3_1] at c7b0h3_1)
      clear c7
      by_cases c8 : 0 ≤ x10_1
      ·
       rw [if_pos c8] at H
       have c8b0 : decide (0 ≤ x10_1) = true := decide_eq_true c8
       clear c8
       by_cases c9 : x10_1 < (a0.size : Int)
       ·
        rw [if_pos c9] at H
        have c9b0 : decide (x10_1 < (a0.size : Int)) = true := decide_eq_true c9
        clear c9
        by_cases c11 : x10_1 < (x3_1.length : Int)
        ·
         rw [if_pos c11] at H
         have c11b0 : decide (x10_1 < (x3_1.length : Int)) = true := decide_eq_true c11
         try (have c11b0h3_1 := c11b0; rw [hl3_1] at c11b0h3_1)
         clear c11
         obtain ⟨y117, hy117⟩ : ∃ y_ : List Int, y_ = (x3_1.set (x10_1 : Int).toNat (bt a0 x10_1)) := ⟨_, rfl⟩
         replace H : (if 65 ≤ (bt a0 x10_1) then (if (bt a0 x10_1) ≤ 90 then (spec_RefSmall.l0 k1 a0 (y117.set (x10_1 : Int).toNat (((rd y117 x10_1) + 32) % 256)) (y114.length : Int) (wrap64 (x10_1 + 1))) else (spec_RefSmall.l0 k1 a0 y117 (y114.length : Int) (wrap64 (x10_1 + 1)))) else (spec_RefSmall.l0 k1 a0 y117 (y114.length : Int) (wrap64 (x10_1 + 1)))) = some r := by first | (rw [hy117]; with_reducible exact H) | (have H2_ := (Option.bind_some _ _).symm.trans H; rw [hy117]; with_reducible exact H2_) | (have H2_ := (Option.bind_some _ _).symm.trans H; with_reducible exact H2_) | with_reducible exact H | (rw [hy117]; exact H) | exact H
         have Ny117 := Aside0.mk hy117
         clear hy117
         by_cases c14 : 65 ≤ (bt a0 x10_1)
         ·
          rw [if_pos c14] at H
          have c14b0 : decide (65 ≤ (bt a0 x10_1)) = true := decide_eq_true c14
          clear c14
          by_cases c16 : (bt a0 x10_1) ≤ 90
          ·
           rw [if_pos c16] at H
           have c16b0 : decide ((bt a0 x10_1) ≤ 90) = true := decide_eq_true c16
           clear c16
           obtain ⟨y119, hy119⟩ : ∃ y_ : List Int, y_ = (y117.set (x10_1 : Int).toNat (((rd y117 x10_1) + 32) % 256)) := ⟨_, rfl⟩
           replace H : (spec_RefSmall.l0 k1 a0 y119 (y114.length : Int) (wrap64 (x10_1 + 1))) = some r := by first | (rw [hy119]; with_reducible exact H) | (have H2_ := (Option.bind_some _ _).symm.trans H; rw [hy119]; with_reducible exact H2_) | (have H2_ := (Option.bind_some _ _).symm.trans H; with_reducible exact H2_) | with_reducible exact H | (rw [hy119]; exact H) | exact H
           have Ny119 := Aside0.mk hy119
           clear hy119
           have H' := Aside0.mk H
           clear H
           have p10 : 0 ≤ (x10_1 : Int) := of_decide_eq_true (by first | (with_reducible assumption) | assumption)
           have q10 : x10_1 < (a0.size : Int) := of_decide_eq_true (by first | (with_reducible assumption) | assumption)
           have hx10 := bt_at a0 x10_1
           replace p10 := eq_true p10
           replace q10 := eq_true q10
           have p12 : 0 ≤ (x10_1 : Int) := of_decide_eq_true (by first | (with_reducible assumption) | assumption)
           have q12 : (x10_1 : Int) < ((x3_1.length : Int) : Int) := of_decide_eq_true (by first | (with_reducible assumption) | assumption)
           obtain ⟨go12, co12, eo12, gb12, gl12, cl12, HG12⟩ := Kd.R_form HO_3.out (by omega)
           (first | cases eo12 | (injection eo12 with ea_ en_ ec_; (first | subst ea_ | (injection ea_ with ea_; subst ea_)); subst ec_; clear en_))
           have GB12 := Aside0.mk gb12
           have GG12 := Aside0.mk HG12
           clear gb12 gl12 HG12
           obtain ⟨hx12_0, hf12_0⟩ := Kd.R_celln 0 HO_3.out (x10_1 : Int) p12 q12
           replace p12 := eq_true p12
           replace q12 := eq_true q12
           have HP18 := Kd.R_putg HO_3.out (x10_1 : Int) (bt a0 x10_1)
           go_wp2_with (first | ((with_reducible refine gate_store (t := 5) (p := 18) rfl ?_); refine store_event (t := 5) (p := 18) (v := ?vo_w19) (w1 := (wr.setCell ⟨go12, (x10_1 : Int).toNat, none⟩ (.int .u8 (bt a0 x10_1)))) ?hg ?ho ?hn ?hr ?_; (case ho => rfl); (case hg => rfl); (case hn => rfl); (case hr => first | (go_simp; done) | (go_simp; rfl) | (go_simp; simp [u8w]; done)); intro w19 hw; have hg : wr.grownBy w19 (some go12) := (by rw [hw]; exact HP18.2); have hp_ : Kd.R (Kd.int .u8) 5 w19 w.heap.size (fun _ => True) (.slice (some ⟨go12, 0, none⟩) x3_1.length co6) y117 := (by rw [hw, Ny117.out]; exact HP18.1); clear HP18; have n0_ := Aside0.mk (hp_); have n1_ := Aside0.mk ((by rw [hw]; exact below_set (HB.out) GB12.out : Below w.heap.size w w19)); clear HO_3; clear HB; have HO_3 := n0_; have HB := n1_; clear n0_ n1_; clear hg hw hp_; have p13 : 0 ≤ (x10_1 : Int) := of_decide_eq_true (by first | (with_reducible assumption) | assumption); have q13 : x10_1 < (a0.size : Int) := of_decide_eq_true (by first | (with_reducible assumption) | assumption); have hx13 := bt_at a0 x10_1; replace p13 := eq_true p13; replace q13 := eq_true q13; have p15 : 0 ≤ (x10_1 : Int) := of_decide_eq_true (by first | (with_reducible assumption) | assumption); have q15 : x10_1 < (a0.size : Int) := of_decide_eq_true (by first | (with_reducible assumption) | assumption); have hx15 := bt_at a0 x10_1; replace p15 := eq_true p15; replace q15 := eq_true q15; have p118 : 0 ≤ (x10_1 : Int) := of_decide_eq_true (by first | (with_reducible assumption) | assumption); have q118 : x10_1 < (y117.length : Int) := (by have h_ : (x10_1 : Int) < ((x3_1.length : Int) : Int) := of_decide_eq_true (by first | (with_reducible assumption) | assumption); first | (have e_ := (Kd.R_reads' HO_3.out).1; omega) | simpa only [Ny117.out, List.length_set] using h_); have ql118 : ((x10_1 : Int) < ((x3_1.length : Int) : Int)) = True := eq_true (of_decide_eq_true (by first | (with_reducible assumption) | assumption)); obtain ⟨ad118, e118, hx118_0⟩ := Kd.at_int (Kd.R_reads' HO_3.out).2.2 x10_1 p118 q118; obtain rfl : (⟨go12, 0, none⟩ : Addr) = ad118 := (by injection e118); (first | simp only [add_plain] at hx118_0 | simp only [add_at] at hx118_0 | simp only [Addr.add, Nat.zero_add] at hx118_0 | skip); replace p118 := eq_true p118; replace q118 := eq_true q118; have p17 : 0 ≤ (x10_1 : Int) := of_decide_eq_true (by first | (with_reducible assumption) | assumption); have q17 : (x10_1 : Int) < ((x3_1.length : Int) : Int) := of_decide_eq_true (by first | (with_reducible assumption) | assumption); obtain ⟨hx17_0, hf17_0⟩ := Kd.R_celln 0 HO_3.out (x10_1 : Int) p17 q17; replace p17 := eq_true p17; replace q17 := eq_true q17; obtain ⟨hy20_, hz20_⟩ := Kd.R_celln 0 HO_3.out (x10_1 : Int) (of_decide_eq_true (by first | (with_reducible assumption) | assumption)) (of_decide_eq_true (by first | (with_reducible assumption) | assumption)); have HP20 := Kd.R_putg HO_3.out (x10_1 : Int) (((rd y117 x10_1) + 32) % 256)) | ((with_reducible refine gate_store (t := 5) (p := 34) rfl ?_); refine store_event (t := 5) (p := 34) (v := ?vo_w21) (w1 := (w19.setCell ⟨go12, (x10_1 : Int).toNat, none⟩ (.int .u8 (((rd y117 x10_1) + 32) % 256)))) ?hg ?ho ?hn ?hr ?_; (case ho => rfl); (case hg => rfl); (case hn => rfl); (case hr => first | (go_simp; done) | (go_simp; rfl) | (go_simp; simp [u8w]; done)); intro w21 hw; have hg : w19.grownBy w21 (some go12) := (by rw [hw]; exact HP20.2); have hp_ : Kd.R (Kd.int .u8) 5 w21 w.heap.size (fun _ => True) (.slice (some ⟨go12, 0, none⟩) x3_1.length co6) y119 := (by rw [hw, Ny119.out]; exact HP20.1); clear HP20; have n0_ := Aside0.mk (hp_); have n1_ := Aside0.mk ((by rw [hw]; exact below_set (HB.out) GB12.out : Below w.heap.size w w21)); clear HO_3; clear HB; have HO_3 := n0_; have HB := n1_; clear n0_ n1_; clear hg hw hp_))
           (try simp only [← hl3_1])
           go_roundg k1
           case measure => have := HK1.out; omega
           case rel => exact ⟨(y119), (wrap64 (x10_1 + 1)), (by first | rfl | (simp; done) | (simp [*]; done)), H', ⟨by have := HK1.out; omega⟩, ⟨by (try simp only [hl3_1]); (with_reducible repeat (first | apply Kd.R_alloc | apply Kd.R_drewN | apply Kd.R_drew)); exact HO_3.out⟩, ⟨by repeat (first | (with_reducible first | exact HB.out | apply below_alloc | apply pw_below_drewN | apply below_drew1) | exact HB.out)⟩⟩
          ·
           rw [if_neg c16] at H
           have c16b0 : decide ((bt a0 x10_1) ≤ 90) = false := decide_eq_false c16
           clear c16
           have H' := Aside0.mk H
           clear H
           have p10 : 0 ≤ (x10_1 : Int) := of_decide_eq_true (by first | (with_reducible assumption) | assumption)
           have q10 : x10_1 < (a0.size : Int) := of_decide_eq_true (by first | (with_reducible assumption) | assumption)
           have hx10 := bt_at a0 x10_1
           replace p10 := eq_true p10
           replace q10 := eq_true q10
           have p12 : 0 ≤ (x10_1 : Int) := of_decide_eq_true (by first | (with_reducible assumption) | assumption)
           have q12 : (x10_1 : Int) < ((x3_1.length : Int) : Int) := of_decide_eq_true (by first | (with_reducible assumption) | assumption)
           obtain ⟨go12, co12, eo12, gb12, gl12, cl12, HG12⟩ := Kd.R_form HO_3.out (by omega)
           (first | cases eo12 | (injection eo12 with ea_ en_ ec_; (first | subst ea_ | (injection ea_ with ea_; subst ea_)); subst ec_; clear en_))
           have GB12 := Aside0.mk gb12
           have GG12 := Aside0.mk HG12
           clear gb12 gl12 HG12
           obtain ⟨hx12_0, hf12_0⟩ := Kd.R_celln 0 HO_3.out (x10_1 : Int) p12 q12
           replace p12 := eq_true p12
           replace q12 := eq_true q12
           have HP22 := Kd.R_putg HO_3.out (x10_1 : Int) (bt a0 x10_1)
           go_wp2_with (first | ((with_reducible refine gate_store (t := 5) (p := 18) rfl ?_); refine store_event (t := 5) (p := 18) (v := ?vo_w23) (w1 := (wr.setCell ⟨go12, (x10_1 : Int).toNat, none⟩ (.int .u8 (bt a0 x10_1)))) ?hg ?ho ?hn ?hr ?_; (case ho => rfl); (case hg => rfl); (case hn => rfl); (case hr => first | (go_simp; done) | (go_simp; rfl) | (go_simp; simp [u8w]; done)); intro w23 hw; have hg : wr.grownBy w23 (some go12) := (by rw [hw]; exact HP22.2); have hp_ : Kd.R (Kd.int .u8) 5 w23 w.heap.size (fun _ => True) (.slice (some ⟨go12, 0, none⟩) x3_1.length co6) y117 := (by rw [hw, Ny117.out]; exact HP22.1); clear HP22; have n0_ := Aside0.mk (hp_); have n1_ := Aside0.mk ((by rw [hw]; exact below_set (HB.out) GB12.out : Below w.heap.size w w23)); clear HO_3; clear HB; have HO_3 := n0_; have HB := n1_; clear n0_ n1_; clear hg hw hp_; have p13 : 0 ≤ (x10_1 : Int) := of_decide_eq_true (by first | (with_reducible assumption) | assumption); have q13 : x10_1 < (a0.size : Int) := of_decide_eq_true (by first | (with_reducible assumption) | assumption); have hx13 := bt_at a0 x10_1; replace p13 := eq_true p13; replace q13 := eq_true q13; have p15 : 0 ≤ (x10_1 : Int) := of_decide_eq_true (by first | (with_reducible assumption) | assumption); have q15 : x10_1 < (a0.size : Int) := of_decide_eq_true (by first | (with_reducible assumption) | assumption); have hx15 := bt_at a0 x10_1; replace p15 := eq_true p15; replace q15 := eq_true q15))
           (try simp only [← hl3_1])
           go_roundg k1
           case measure => have := HK1.out; omega
           case rel => exact ⟨(y117), (wrap64 (x10_1 + 1)), (by first | rfl | (simp; done) | (simp [*]; done)), H', ⟨by have := HK1.out; omega⟩, ⟨by (try simp only [hl3_1]); (with_reducible repeat (first | apply Kd.R_alloc | apply Kd.R_drewN | apply Kd.R_drew)); exact HO_3.out⟩, ⟨by repeat (first | (with_reducible first | exact HB.out | apply below_alloc | apply pw_below_drewN | apply below_drew1) | exact HB.out)⟩⟩
         ·
          rw [if_neg c14] at H
          have c14b0 : decide (65 ≤ (bt a0 x10_1)) = false := decide_eq_false c14
          clear c14
          have H' := Aside0.mk H
          clear H
          have p10 : 0 ≤ (x10_1 : Int) := of_decide_eq_true (by first | (with_reducible assumption) | assumption)
          have q10 : x10_1 < (a0.size : Int) := of_decide_eq_true (by first | (with_reducible assumption) | assumption)
          have hx10 := bt_at a0 x10_1
          replace p10 := eq_true p10
          replace q10 := eq_true q10
          have p12 : 0 ≤ (x10_1 : Int) := of_decide_eq_true (by first | (with_reducible assumption) | assumption)
          have q12 : (x10_1 : Int) < ((x3_1.length : Int) : Int) := of_decide_eq_true (by first | (with_reducible assumption) | assumption)
          obtain ⟨go12, co12, eo12, gb12, gl12, cl12, HG12⟩ := Kd.R_form HO_3.out (by omega)
          (first | cases eo12 | (injection eo12 with ea_ en_ ec_; (first | subst ea_ | (injection ea_ with ea_; subst ea_)); subst ec_; clear en_))
          have GB12 := Aside0.mk gb12
          have GG12 := Aside0.mk HG12
          clear gb12 gl12 HG12
          obtain ⟨hx12_0, hf12_0⟩ := Kd.R_celln 0 HO_3.out (x10_1 : Int) p12 q12
          replace p12 := eq_true p12
          replace q12 := eq_true q12
          have HP24 := Kd.R_putg HO_3.out (x10_1 : Int) (bt a0 x10_1)
          go_wp2_with (first | ((with_reducible refine gate_store (t := 5) (p := 18) rfl ?_); refine store_event (t := 5) (p := 18) (v := ?vo_w25) (w1 := (wr.setCell ⟨go12, (x10_1 : Int).toNat, none⟩ (.int .u8 (bt a0 x10_1)))) ?hg ?ho ?hn ?hr ?_; (case ho => rfl); (case hg => rfl); (case hn => rfl); (case hr => first | (go_simp; done) | (go_simp; rfl) | (go_simp; simp [u8w]; done)); intro w25 hw; have hg : wr.grownBy w25 (some go12) := (by rw [hw]; exact HP24.2); have hp_ : Kd.R (Kd.int .u8) 5 w25 w.heap.size (fun _ => True) (.slice (some ⟨go12, 0, none⟩) x3_1.length co6) y117 := (by rw [hw, Ny117.out]; exact HP24.1); clear HP24; have n0_ := Aside0.mk (hp_); have n1_ := Aside0.mk ((by rw [hw]; exact below_set (HB.out) GB12.out : Below w.heap.size w w25)); clear HO_3; clear HB; have HO_3 := n0_; have HB := n1_; clear n0_ n1_; clear hg hw hp_; have p13 : 0 ≤ (x10_1 : Int) := of_decide_eq_true (by first | (with_reducible assumption) | assumption); have q13 : x10_1 < (a0.size : Int) := of_decide_eq_true (by first | (with_reducible assumption) | assumption); have hx13 := bt_at a0 x10_1; replace p13 := eq_true p13; replace q13 := eq_true q13))
          (try simp only [← hl3_1])
          go_roundg k1
          case measure => have := HK1.out; omega
          case rel => exact ⟨(y117), (wrap64 (x10_1 + 1)), (by first | rfl | (simp; done) | (simp [*]; done)), H', ⟨by have := HK1.out; omega⟩, ⟨by (try simp only [hl3_1]); (with_reducible repeat (first | apply Kd.R_alloc | apply Kd.R_drewN | apply Kd.R_drew)); exact HO_3.out⟩, ⟨by repeat (first | (with_reducible first | exact HB.out | apply below_alloc | apply pw_below_drewN | apply below_drew1) | exact HB.out)⟩⟩
        ·
         rw [if_neg c11] at H
         exact absurd H (by simp)
       ·
        rw [if_neg c9] at H
        exact absurd H (by simp)
      ·
       rw [if_neg c8] at H
       exact absurd H (by simp)
     ·
      rw [if_neg c7] at H
      have c7b0 : decide (x10_1 < (y114.length : Int)) = false := decide_eq_false c7
      try (have c7b0h3_1 := c7b0; rw [hl3_1] at c7b0h3_1)
      clear c7
      obtain rfl := Option.some.inj H
      have hcv26 := own_string (P := Try.prog) Try.underlying53 Try.underlying5 Try.underlying9 (Kd.own_of_R HO_3.out)
      go_wp2
      go_ret
      exact ⟨by first | rfl | (simp [errW_none, errW_some] <;> rfl) | (simp [*, errW_none, errW_some] <;> rfl) | (simp [bneNil]; done), by repeat (first | (with_reducible first | exact HB.out | apply below_alloc | apply pw_below_drewN | apply below_drew1) | exact HB.out)⟩
  ·
   rw [if_neg c3] at H
   exact absurd H (by simp)
 ·
  rw [if_neg c2] at H
  exact absurd H (by simp)

def spec_DigestSize.f (a0 : ByteArray) : Option (Int) := if a0.toList = ([115, 104, 97, 50, 53, 54] : List UInt8) then (some 32) else (if a0.toList = ([115, 104, 97, 51, 56, 52] : List UInt8) then (some 48) else (if a0.toList = ([115, 104, 97, 53, 49, 50] : List UInt8) then (some 64) else (some 0)))

set_option maxHeartbeats 80000000 in
set_option maxRecDepth 100000 in
theorem spec_DigestSize.calls (a0 : ByteArray) (r : Int) (w : World) (h : spec_DigestSize.f a0 = some r) :
    Calls Try.prog 23 #[.string a0] w fun e w' => e = .returned (.int .i64 r) ∧ Drawn0 w w' := by
  have H : (if a0.toList = ([115, 104, 97, 50, 53, 54] : List UInt8) then (some 32) else (if a0.toList = ([115, 104, 97, 51, 56, 52] : List UInt8) then (some 48) else (if a0.toList = ([115, 104, 97, 53, 49, 50] : List UInt8) then (some 64) else (some 0)))) = some r := h
  clear h
  by_cases c2 : a0.toList = ([115, 104, 97, 50, 53, 54] : List UInt8)
  · rw [if_pos c2] at H
    have c2b0 : (a0.toList == ([115, 104, 97, 50, 53, 54] : List UInt8)) = true := beq_iff_eq.mpr c2
    have c2b1 : (a0.toList != ([115, 104, 97, 50, 53, 54] : List UInt8)) = false := bne_eq_false_iff_eq.mpr c2
    clear c2
    obtain rfl := Option.some.inj H
    go_enter Try.func23, Try.ntmps23
    go_wp2
    go_ret
    exact ⟨by first | rfl | (simp; done) | (simp [*]; done) | (simp [bneNil]; done), by repeat (first | exact Drawn0.refl _ | apply Drawn0.step)⟩
  · rw [if_neg c2] at H
    have c2b0 : (a0.toList == ([115, 104, 97, 50, 53, 54] : List UInt8)) = false := beq_eq_false_iff_ne.mpr c2
    have c2b1 : (a0.toList != ([115, 104, 97, 50, 53, 54] : List UInt8)) = true := bne_iff_ne.mpr c2
    by_cases c3 : a0.toList = ([115, 104, 97, 51, 56, 52] : List UInt8)
    · rw [if_pos c3] at H
      have c3b0 : (a0.toList == ([115, 104, 97, 51, 56, 52] : List UInt8)) = true := beq_iff_eq.mpr c3
      have c3b1 : (a0.toList != ([115, 104, 97, 51, 56, 52] : List UInt8)) = false := bne_eq_false_iff_eq.mpr c3
      clear c3
      obtain rfl := Option.some.inj H
      go_enter Try.func23, Try.ntmps23
      go_wp2
      go_ret
      exact ⟨by first | rfl | (simp; done) | (simp [*]; done) | (simp [bneNil]; done), by repeat (first | exact Drawn0.refl _ | apply Drawn0.step)⟩
    · rw [if_neg c3] at H
      have c3b0 : (a0.toList == ([115, 104, 97, 51, 56, 52] : List UInt8)) = false := beq_eq_false_iff_ne.mpr c3
      have c3b1 : (a0.toList != ([115, 104, 97, 51, 56, 52] : List UInt8)) = true := bne_iff_ne.mpr c3
      by_cases c4 : a0.toList = ([115, 104, 97, 53, 49, 50] : List UInt8)
      · rw [if_pos c4] at H
        have c4b0 : (a0.toList == ([115, 104, 97, 53, 49, 50] : List UInt8)) = true := beq_iff_eq.mpr c4
        have c4b1 : (a0.toList != ([115, 104, 97, 53, 49, 50] : List UInt8)) = false := bne_eq_false_iff_eq.mpr c4
        clear c4
        obtain rfl := Option.some.inj H
        go_enter Try.func23, Try.ntmps23
        go_wp2
        go_ret
        exact ⟨by first | rfl | (simp; done) | (simp [*]; done) | (simp [bneNil]; done), by repeat (first | exact Drawn0.refl _ | apply Drawn0.step)⟩
      · rw [if_neg c4] at H
        have c4b0 : (a0.toList == ([115, 104, 97, 53, 49, 50] : List UInt8)) = false := beq_eq_false_iff_ne.mpr c4
        have c4b1 : (a0.toList != ([115, 104, 97, 53, 49, 50] : List UInt8)) = true := bne_iff_ne.mpr c4
        obtain rfl := Option.some.inj H
        go_enter Try.func23, Try.ntmps23
        go_wp2
        go_ret
        exact ⟨by first | rfl | (simp; done) | (simp [*]; done) | (simp [bneNil]; done), by repeat (first | exact Drawn0.refl _ | apply Drawn0.step)⟩

def spec_RefName.f (a0_0 : ByteArray) (a0_1 : ByteArray) (a0_2 : ByteArray) (a0_3 : ByteArray) : Option (ByteArray) := if a0_0.toList = ([] : List UInt8) then (some a0_1) else (if a0_0.size + 1 ≤ 9223372036854775807 then (if (a0_0 ++ (⟨#[47]⟩ : ByteArray)).size + a0_1.size ≤ 9223372036854775807 then (some ((a0_0 ++ (⟨#[47]⟩ : ByteArray)) ++ a0_1)) else (none)) else (none))

set_option maxHeartbeats 80000000 in
set_option maxRecDepth 100000 in
theorem spec_RefName.calls (a0_0 : ByteArray) (a0_1 : ByteArray) (a0_2 : ByteArray) (a0_3 : ByteArray) (r : ByteArray) (w : World) (h : spec_RefName.f a0_0 a0_1 a0_2 a0_3 = some r) :
  Calls Try.prog 14 #[.agg #[.string a0_0, .string a0_1, .string a0_2, .string a0_3]] w fun e w' => e = .returned (.string r) ∧ Below w.heap.size w w' := by
 have hu23 := Try.underlying23
 have HB := Aside0.mk (Below.refl w.heap.size w)
 have H : (if a0_0.toList = ([] : List UInt8) then (some a0_1) else (if a0_0.size + 1 ≤ 9223372036854775807 then (if (a0_0 ++ (⟨#[47]⟩ : ByteArray)).size + a0_1.size ≤ 9223372036854775807 then (some ((a0_0 ++ (⟨#[47]⟩ : ByteArray)) ++ a0_1)) else (none)) else (none))) = some r := h
 clear h
 by_cases c2 : a0_0.toList = ([] : List UInt8)
 ·
  rw [if_pos c2] at H
  have c2b0 : (a0_0.toList == ([] : List UInt8)) = true := beq_iff_eq.mpr c2
  have c2b1 : (a0_0.toList != ([] : List UInt8)) = false := bne_eq_false_iff_eq.mpr c2
  clear c2
  obtain rfl := Option.some.inj H
  go_enter Try.func14, Try.ntmps14
  go_wp2_with (first | ((with_reducible refine gate_dst (N := 1) rfl ?_); refine box_event ?hg (N := 1) ?hd (cs := #[.string a0_0, .string a0_1, .string a0_2, .string a0_3]) (t := 23) ?hr ?_; (case hd => rfl); (case hg => rfl); (case hr => first | (go_simp; done) | (go_simp; rfl) | (go_simp; simp [u8w]; done)); intro gb140 hg w3 hbox hb; have n0_ := Aside0.mk (below_step (by repeat (first | (with_reducible first | exact HB.out | apply below_alloc | apply pw_below_drewN | apply below_drew1) | exact HB.out)) hb); have n1_ := Aside0.mk (hbox); have n2_ := Aside0.mk ((by rw [hg]; exact (below_size (by repeat (first | (with_reducible first | exact HB.out | apply below_alloc | apply pw_below_drewN | apply below_drew1) | exact HB.out))) : w.heap.size ≤ gb140)); have n3_ := Aside0.mk ((by rw [hg]; exact (below_size (by repeat (first | (with_reducible first | exact HB.out | apply below_alloc | apply pw_below_drewN | apply below_drew1) | exact HB.out))) : w.heap.size ≤ gb140)); clear HB; have HB := n0_; have BK140 := n1_; have GW140 := n2_; have GE140 := n3_; clear n0_ n1_ n2_ n3_; clear hb hbox hg; have hcz4_0 : w3.cell? ⟨gb140, 0, none⟩ = some (.string a0_0) := (blk_cell BK140.out 0).trans rfl; have hcz4_1 : w3.cell? ⟨gb140, 1, none⟩ = some (.string a0_1) := (blk_cell BK140.out 1).trans rfl; have hcz4_2 : w3.cell? ⟨gb140, 2, none⟩ = some (.string a0_2) := (blk_cell BK140.out 2).trans rfl; have hcz4_3 : w3.cell? ⟨gb140, 3, none⟩ = some (.string a0_3) := (blk_cell BK140.out 3).trans rfl; have hfz4_0 := blk_frozen BK140.out 0; have hfz4_1 := blk_frozen BK140.out 1; have hfz4_2 := blk_frozen BK140.out 2; have hfz4_3 := blk_frozen BK140.out 3))
  go_ret
  exact ⟨by first | rfl | (simp [errW_none, errW_some] <;> rfl) | (simp [*, errW_none, errW_some] <;> rfl) | (simp [bneNil]; done), by repeat (first | (with_reducible first | exact HB.out | apply below_alloc | apply pw_below_drewN | apply below_drew1 | refine below_set ?_ GE140.out) | exact HB.out)⟩
 ·
  rw [if_neg c2] at H
  have c2b0 : (a0_0.toList == ([] : List UInt8)) = false := beq_eq_false_iff_ne.mpr c2
  have c2b1 : (a0_0.toList != ([] : List UInt8)) = true := bne_iff_ne.mpr c2
  by_cases c5 : a0_0.size + 1 ≤ 9223372036854775807
  ·
   rw [if_pos c5] at H
   have c5b0 := eq_true c5
   have c5b1 : decide (a0_0.size + 1 ≤ 9223372036854775807) = true := decide_eq_true c5
   try have c5b2 : (9223372036854775807 < a0_0.size + 1) = False := eq_false (Nat.not_lt.2 c5)
   by_cases c6 : (a0_0 ++ (⟨#[47]⟩ : ByteArray)).size + a0_1.size ≤ 9223372036854775807
   ·
    rw [if_pos c6] at H
    have c6b0 := eq_true c6
    have c6b1 : decide ((a0_0 ++ (⟨#[47]⟩ : ByteArray)).size + a0_1.size ≤ 9223372036854775807) = true := decide_eq_true c6
    try have c6b2 : (9223372036854775807 < (a0_0 ++ (⟨#[47]⟩ : ByteArray)).size + a0_1.size) = False := eq_false (Nat.not_lt.2 c6)
    try have c6b2n := c6b2
    try simp only [ByteArray.size_append, szL1, szL2, szL3] at c6b2n
    obtain rfl := Option.some.inj H
    go_enter Try.func14, Try.ntmps14
    go_wp2_with (first | ((with_reducible refine gate_dst (N := 1) rfl ?_); refine box_event ?hg (N := 1) ?hd (cs := #[.string a0_0, .string a0_1, .string a0_2, .string a0_3]) (t := 23) ?hr ?_; (case hd => rfl); (case hg => rfl); (case hr => first | (go_simp; done) | (go_simp; rfl) | (go_simp; simp [u8w]; done)); intro gb140 hg w7 hbox hb; have n0_ := Aside0.mk (below_step (by repeat (first | (with_reducible first | exact HB.out | apply below_alloc | apply pw_below_drewN | apply below_drew1) | exact HB.out)) hb); have n1_ := Aside0.mk (hbox); have n2_ := Aside0.mk ((by rw [hg]; exact (below_size (by repeat (first | (with_reducible first | exact HB.out | apply below_alloc | apply pw_below_drewN | apply below_drew1) | exact HB.out))) : w.heap.size ≤ gb140)); have n3_ := Aside0.mk ((by rw [hg]; exact (below_size (by repeat (first | (with_reducible first | exact HB.out | apply below_alloc | apply pw_below_drewN | apply below_drew1) | exact HB.out))) : w.heap.size ≤ gb140)); clear HB; have HB := n0_; have BK140 := n1_; have GW140 := n2_; have GE140 := n3_; clear n0_ n1_ n2_ n3_; clear hb hbox hg; have hcz8_0 : w7.cell? ⟨gb140, 0, none⟩ = some (.string a0_0) := (blk_cell BK140.out 0).trans rfl; have hcz8_1 : w7.cell? ⟨gb140, 1, none⟩ = some (.string a0_1) := (blk_cell BK140.out 1).trans rfl; have hcz8_2 : w7.cell? ⟨gb140, 2, none⟩ = some (.string a0_2) := (blk_cell BK140.out 2).trans rfl; have hcz8_3 : w7.cell? ⟨gb140, 3, none⟩ = some (.string a0_3) := (blk_cell BK140.out 3).trans rfl; have hfz8_0 := blk_frozen BK140.out 0; have hfz8_1 := blk_frozen BK140.out 1; have hfz8_2 := blk_frozen BK140.out 2; have hfz8_3 := blk_frozen BK140.out 3))
    go_ret
    exact ⟨by first | rfl | (simp [errW_none, errW_some] <;> rfl) | (simp [*, errW_none, errW_some] <;> rfl) | (simp [bneNil]; done), by repeat (first | (with_reducible first | exact HB.out | apply below_alloc | apply pw_below_drewN | apply below_drew1 | refine below_set ?_ GE140.out) | exact HB.out)⟩
   ·
    rw [if_neg c6] at H
    exact absurd H (by simp)
  ·
   rw [if_neg c5] at H
   exact absurd H (by simp)

def spec_RefText.f (a0_0 : ByteArray) (a0_1 : ByteArray) (a0_2 : ByteArray) (a0_3 : ByteArray) : Option (ByteArray) := if a0_1.toList = ([] : List UInt8) then (some a0_3) else ((spec_RefName.f a0_0 a0_1 a0_2 a0_3).bind fun t142 => (if a0_2.toList = ([] : List UInt8) then (if a0_3.toList = ([] : List UInt8) then (some t142) else (if 1 + a0_3.size ≤ 9223372036854775807 then (if t142.size + ((⟨#[64]⟩ : ByteArray) ++ a0_3).size ≤ 9223372036854775807 then (some (t142 ++ ((⟨#[64]⟩ : ByteArray) ++ a0_3))) else (none)) else (none))) else (if 1 + a0_2.size ≤ 9223372036854775807 then (if t142.size + ((⟨#[58]⟩ : ByteArray) ++ a0_2).size ≤ 9223372036854775807 then (if a0_3.toList = ([] : List UInt8) then (some (t142 ++ ((⟨#[58]⟩ : ByteArray) ++ a0_2))) else (if 1 + a0_3.size ≤ 9223372036854775807 then (if (t142 ++ ((⟨#[58]⟩ : ByteArray) ++ a0_2)).size + ((⟨#[64]⟩ : ByteArray) ++ a0_3).size ≤ 9223372036854775807 then (some ((t142 ++ ((⟨#[58]⟩ : ByteArray) ++ a0_2)) ++ ((⟨#[64]⟩ : ByteArray) ++ a0_3))) else (none)) else (none))) else (none)) else (none))))

set_option maxHeartbeats 80000000 in
set_option maxRecDepth 100000 in
theorem spec_RefText.calls (a0_0 : ByteArray) (a0_1 : ByteArray) (a0_2 : ByteArray) (a0_3 : ByteArray) (r : ByteArray) (w : World) (h : spec_RefText.f a0_0 a0_1 a0_2 a0_3 = some r) :
  Calls Try.prog 8 #[.agg #[.string a0_0, .string a0_1, .string a0_2, .string a0_3]] w fun e w' => e = .returned (.string r) ∧ Below w.heap.size w w' := by
 have hu23 := Try.underlying23
 have HB := Aside0.mk (Below.refl w.heap.size w)
 have H : (if a0_1.toList = ([] : List UInt8) then (some a0_3) else ((spec_RefName.f a0_0 a0_1 a0_2 a0_3).bind fun t142 => (if a0_2.toList = ([] : List UInt8) then (if a0_3.toList = ([] : List UInt8) then (some t142) else (if 1 + a0_3.size ≤ 9223372036854775807 then (if t142.size + ((⟨#[64]⟩ : ByteArray) ++ a0_3).size ≤ 9223372036854775807 then (some (t142 ++ ((⟨#[64]⟩ : ByteArray) ++ a0_3))) else (none)) else (none))) else (if 1 + a0_2.size ≤ 9223372036854775807 then (if t142.size + ((⟨#[58]⟩ : ByteArray) ++ a0_2).size ≤ 9223372036854775807 then (if a0_3.toList = ([] : List UInt8) then (some (t142 ++ ((⟨#[58]⟩ : ByteArray) ++ a0_2))) else (if 1 + a0_3.size ≤ 9223372036854775807 then (if (t142 ++ ((⟨#[58]⟩ : ByteArray) ++ a0_2)).size + ((⟨#[64]⟩ : ByteArray) ++ a0_3).size ≤ 9223372036854775807 then (some ((t142 ++ ((⟨#[58]⟩ : ByteArray) ++ a0_2)) ++ ((⟨#[64]⟩ : ByteArray) ++ a0_3))) else (none)) else (none))) else (none)) else (none))))) = some r := h
 clear h
 by_cases c2 : a0_1.toList = ([] : List UInt8)
 ·
  rw [if_pos c2] at H
  have c2b0 : (a0_1.toList == ([] : List UInt8)) = true := beq_iff_eq.mpr c2
  have c2b1 : (a0_1.toList != ([] : List UInt8)) = false := bne_eq_false_iff_eq.mpr c2
  clear c2
  obtain rfl := Option.some.inj H
  go_enter Try.func8, Try.ntmps8
  go_wp2_with (first | ((with_reducible refine gate_dst (N := 1) rfl ?_); refine box_event ?hg (N := 1) ?hd (cs := #[.string a0_0, .string a0_1, .string a0_2, .string a0_3]) (t := 23) ?hr ?_; (case hd => rfl); (case hg => rfl); (case hr => first | (go_simp; done) | (go_simp; rfl) | (go_simp; simp [u8w]; done)); intro gb141 hg w3 hbox hb; have n0_ := Aside0.mk (below_step (by repeat (first | (with_reducible first | exact HB.out | apply below_alloc | apply pw_below_drewN | apply below_drew1) | exact HB.out)) hb); have n1_ := Aside0.mk (hbox); have n2_ := Aside0.mk ((by rw [hg]; exact (below_size (by repeat (first | (with_reducible first | exact HB.out | apply below_alloc | apply pw_below_drewN | apply below_drew1) | exact HB.out))) : w.heap.size ≤ gb141)); have n3_ := Aside0.mk ((by rw [hg]; exact (below_size (by repeat (first | (with_reducible first | exact HB.out | apply below_alloc | apply pw_below_drewN | apply below_drew1) | exact HB.out))) : w.heap.size ≤ gb141)); clear HB; have HB := n0_; have BK141 := n1_; have GW141 := n2_; have GE141 := n3_; clear n0_ n1_ n2_ n3_; clear hb hbox hg; have hcz4_0 : w3.cell? ⟨gb141, 0, none⟩ = some (.string a0_0) := (blk_cell BK141.out 0).trans rfl; have hcz4_1 : w3.cell? ⟨gb141, 1, none⟩ = some (.string a0_1) := (blk_cell BK141.out 1).trans rfl; have hcz4_2 : w3.cell? ⟨gb141, 2, none⟩ = some (.string a0_2) := (blk_cell BK141.out 2).trans rfl; have hcz4_3 : w3.cell? ⟨gb141, 3, none⟩ = some (.string a0_3) := (blk_cell BK141.out 3).trans rfl; have hfz4_0 := blk_frozen BK141.out 0; have hfz4_1 := blk_frozen BK141.out 1; have hfz4_2 := blk_frozen BK141.out 2; have hfz4_3 := blk_frozen BK141.out 3))
  go_ret
  exact ⟨by first | rfl | (simp [errW_none, errW_some] <;> rfl) | (simp [*, errW_none, errW_some] <;> rfl) | (simp [bneNil]; done), by repeat (first | (with_reducible first | exact HB.out | apply below_alloc | apply pw_below_drewN | apply below_drew1 | refine below_set ?_ GE141.out) | exact HB.out)⟩
 ·
  rw [if_neg c2] at H
  have c2b0 : (a0_1.toList == ([] : List UInt8)) = false := beq_eq_false_iff_ne.mpr c2
  have c2b1 : (a0_1.toList != ([] : List UInt8)) = true := bne_iff_ne.mpr c2
  replace H := Option.bind_eq_some_iff.mp H
  obtain ⟨t142, A50, H⟩ := H
  replace H : (if a0_2.toList = ([] : List UInt8) then (if a0_3.toList = ([] : List UInt8) then (some t142) else (if 1 + a0_3.size ≤ 9223372036854775807 then (if t142.size + ((⟨#[64]⟩ : ByteArray) ++ a0_3).size ≤ 9223372036854775807 then (some (t142 ++ ((⟨#[64]⟩ : ByteArray) ++ a0_3))) else (none)) else (none))) else (if 1 + a0_2.size ≤ 9223372036854775807 then (if t142.size + ((⟨#[58]⟩ : ByteArray) ++ a0_2).size ≤ 9223372036854775807 then (if a0_3.toList = ([] : List UInt8) then (some (t142 ++ ((⟨#[58]⟩ : ByteArray) ++ a0_2))) else (if 1 + a0_3.size ≤ 9223372036854775807 then (if (t142 ++ ((⟨#[58]⟩ : ByteArray) ++ a0_2)).size + ((⟨#[64]⟩ : ByteArray) ++ a0_3).size ≤ 9223372036854775807 then (some ((t142 ++ ((⟨#[58]⟩ : ByteArray) ++ a0_2)) ++ ((⟨#[64]⟩ : ByteArray) ++ a0_3))) else (none)) else (none))) else (none)) else (none))) = some r := H
  have A5 := Aside0.mk A50
  clear A50
  by_cases c6 : a0_2.toList = ([] : List UInt8)
  ·
   rw [if_pos c6] at H
   have c6b0 : (a0_2.toList == ([] : List UInt8)) = true := beq_iff_eq.mpr c6
   have c6b1 : (a0_2.toList != ([] : List UInt8)) = false := bne_eq_false_iff_eq.mpr c6
   clear c6
   by_cases c7 : a0_3.toList = ([] : List UInt8)
   ·
    rw [if_pos c7] at H
    have c7b0 : (a0_3.toList == ([] : List UInt8)) = true := beq_iff_eq.mpr c7
    have c7b1 : (a0_3.toList != ([] : List UInt8)) = false := bne_eq_false_iff_eq.mpr c7
    clear c7
    obtain rfl := Option.some.inj H
    go_enter Try.func8, Try.ntmps8
    go_wp2_with (first | ((with_reducible refine gate_dst (N := 1) rfl ?_); refine box_event ?hg (N := 1) ?hd (cs := #[.string a0_0, .string a0_1, .string a0_2, .string a0_3]) (t := 23) ?hr ?_; (case hd => rfl); (case hg => rfl); (case hr => first | (go_simp; done) | (go_simp; rfl) | (go_simp; simp [u8w]; done)); intro gb141 hg w8 hbox hb; have n0_ := Aside0.mk (below_step (by repeat (first | (with_reducible first | exact HB.out | apply below_alloc | apply pw_below_drewN | apply below_drew1) | exact HB.out)) hb); have n1_ := Aside0.mk (hbox); have n2_ := Aside0.mk ((by rw [hg]; exact (below_size (by repeat (first | (with_reducible first | exact HB.out | apply below_alloc | apply pw_below_drewN | apply below_drew1) | exact HB.out))) : w.heap.size ≤ gb141)); have n3_ := Aside0.mk ((by rw [hg]; exact (below_size (by repeat (first | (with_reducible first | exact HB.out | apply below_alloc | apply pw_below_drewN | apply below_drew1) | exact HB.out))) : w.heap.size ≤ gb141)); clear HB; have HB := n0_; have BK141 := n1_; have GW141 := n2_; have GE141 := n3_; clear n0_ n1_ n2_ n3_; clear hb hbox hg; have hcz9_0 : w8.cell? ⟨gb141, 0, none⟩ = some (.string a0_0) := (blk_cell BK141.out 0).trans rfl; have hcz9_1 : w8.cell? ⟨gb141, 1, none⟩ = some (.string a0_1) := (blk_cell BK141.out 1).trans rfl; have hcz9_2 : w8.cell? ⟨gb141, 2, none⟩ = some (.string a0_2) := (blk_cell BK141.out 2).trans rfl; have hcz9_3 : w8.cell? ⟨gb141, 3, none⟩ = some (.string a0_3) := (blk_cell BK141.out 3).trans rfl; have hfz9_0 := blk_frozen BK141.out 0; have hfz9_1 := blk_frozen BK141.out 1; have hfz9_2 := blk_frozen BK141.out 2; have hfz9_3 := blk_frozen BK141.out 3) | ((with_reducible refine gate_callee (f := 14) rfl ?_); refine goesL_ (some 10) rfl rfl Try.func14 (by kernel_rfl) rfl #[.agg #[.string a0_0, .string a0_1, .string a0_2, .string a0_3]] rfl (by (try simp only [List.map_toArray, List.map_cons, List.map_nil]); first | done | rfl | (simp only [List.length_drop, List.length_take]; rfl)) ?_; (with_reducible refine (spec_RefName.calls a0_0 a0_1 a0_2 a0_3 t142 _ A5.out).mono ?_); rintro e w10 ⟨rfl, hb⟩; refine ⟨_, rfl, ?_⟩; have n0_ := Aside0.mk (blk_below (g := gb141) (o := .cells #[.string a0_0, .string a0_1, .string a0_2, .string a0_3] 23 (0, 0)) (by (with_reducible repeat (first | refine blk_drewN ?_ _ | refine blk_drew ?_ | refine blk_alloc ?_ _)); exact BK141.out) hb); have n1_ := Aside0.mk (below_step (by repeat (first | (with_reducible first | exact HB.out | apply below_alloc | apply pw_below_drewN | apply below_drew1 | refine below_set ?_ GE141.out) | exact HB.out)) hb); clear BK141; clear HB; have BK141 := n0_; have HB := n1_; clear n0_ n1_; (try clear hb); (try clear hb2); (try clear hk); (try clear hi); have hcz11_0 : w10.cell? ⟨gb141, 0, none⟩ = some (.string a0_0) := (blk_cell BK141.out 0).trans rfl; have hcz11_1 : w10.cell? ⟨gb141, 1, none⟩ = some (.string a0_1) := (blk_cell BK141.out 1).trans rfl; have hcz11_2 : w10.cell? ⟨gb141, 2, none⟩ = some (.string a0_2) := (blk_cell BK141.out 2).trans rfl; have hcz11_3 : w10.cell? ⟨gb141, 3, none⟩ = some (.string a0_3) := (blk_cell BK141.out 3).trans rfl; have hfz11_0 := blk_frozen BK141.out 0; have hfz11_1 := blk_frozen BK141.out 1; have hfz11_2 := blk_frozen BK141.out 2; have hfz11_3 := blk_frozen BK141.out 3))
    go_ret
    exact ⟨by first | rfl | (simp [errW_none, errW_some] <;> rfl) | (simp [*, errW_none, errW_some] <;> rfl) | (simp [bneNil]; done), by repeat (first | (with_reducible first | exact HB.out | apply below_alloc | apply pw_below_drewN | apply below_drew1 | refine below_set ?_ GE141.out) | exact HB.out)⟩
   ·
    rw [if_neg c7] at H
    have c7b0 : (a0_3.toList == ([] : List UInt8)) = false := beq_eq_false_iff_ne.mpr c7
    have c7b1 : (a0_3.toList != ([] : List UInt8)) = true := bne_iff_ne.mpr c7
    by_cases c12 : 1 + a0_3.size ≤ 9223372036854775807
    ·
     rw [if_pos c12] at H
     have c12b0 := eq_true c12
     have c12b1 : decide (1 + a0_3.size ≤ 9223372036854775807) = true := decide_eq_true c12
     try have c12b2 : (9223372036854775807 < 1 + a0_3.size) = False := eq_false (Nat.not_lt.2 c12)
     by_cases c13 : t142.size + ((⟨#[64]⟩ : ByteArray) ++ a0_3).size ≤ 9223372036854775807
     ·
      rw [if_pos c13] at H
      have c13b0 := eq_true c13
      have c13b1 : decide (t142.size + ((⟨#[64]⟩ : ByteArray) ++ a0_3).size ≤ 9223372036854775807) = true := decide_eq_true c13
      try have c13b2 : (9223372036854775807 < t142.size + ((⟨#[64]⟩ : ByteArray) ++ a0_3).size) = False := eq_false (Nat.not_lt.2 c13)
      try have c13b2n := c13b2
      try simp only [ByteArray.size_append, szL1, szL2, szL3] at c13b2n
      obtain rfl := Option.some.inj H
      go_enter Try.func8, Try.ntmps8
      go_wp2_with (first | ((with_reducible refine gate_dst (N := 1) rfl ?_); refine box_event ?hg (N := 1) ?hd (cs := #[.string a0_0, .string a0_1, .string a0_2, .string a0_3]) (t := 23) ?hr ?_; (case hd => rfl); (case hg => rfl); (case hr => first | (go_simp; done) | (go_simp; rfl) | (go_simp; simp [u8w]; done)); intro gb141 hg w14 hbox hb; have n0_ := Aside0.mk (below_step (by repeat (first | (with_reducible first | exact HB.out | apply below_alloc | apply pw_below_drewN | apply below_drew1) | exact HB.out)) hb); have n1_ := Aside0.mk (hbox); have n2_ := Aside0.mk ((by rw [hg]; exact (below_size (by repeat (first | (with_reducible first | exact HB.out | apply below_alloc | apply pw_below_drewN | apply below_drew1) | exact HB.out))) : w.heap.size ≤ gb141)); have n3_ := Aside0.mk ((by rw [hg]; exact (below_size (by repeat (first | (with_reducible first | exact HB.out | apply below_alloc | apply pw_below_drewN | apply below_drew1) | exact HB.out))) : w.heap.size ≤ gb141)); clear HB; have HB := n0_; have BK141 := n1_; have GW141 := n2_; have GE141 := n3_; clear n0_ n1_ n2_ n3_; clear hb hbox hg; have hcz15_0 : w14.cell? ⟨gb141, 0, none⟩ = some (.string a0_0) := (blk_cell BK141.out 0).trans rfl; have hcz15_1 : w14.cell? ⟨gb141, 1, none⟩ = some (.string a0_1) := (blk_cell BK141.out 1).trans rfl; have hcz15_2 : w14.cell? ⟨gb141, 2, none⟩ = some (.string a0_2) := (blk_cell BK141.out 2).trans rfl; have hcz15_3 : w14.cell? ⟨gb141, 3, none⟩ = some (.string a0_3) := (blk_cell BK141.out 3).trans rfl; have hfz15_0 := blk_frozen BK141.out 0; have hfz15_1 := blk_frozen BK141.out 1; have hfz15_2 := blk_frozen BK141.out 2; have hfz15_3 := blk_frozen BK141.out 3) | ((with_reducible refine gate_callee (f := 14) rfl ?_); refine goesL_ (some 10) rfl rfl Try.func14 (by kernel_rfl) rfl #[.agg #[.string a0_0, .string a0_1, .string a0_2, .string a0_3]] rfl (by (try simp only [List.map_toArray, List.map_cons, List.map_nil]); first | done | rfl | (simp only [List.length_drop, List.length_take]; rfl)) ?_; (with_reducible refine (spec_RefName.calls a0_0 a0_1 a0_2 a0_3 t142 _ A5.out).mono ?_); rintro e w16 ⟨rfl, hb⟩; refine ⟨_, rfl, ?_⟩; have n0_ := Aside0.mk (blk_below (g := gb141) (o := .cells #[.string a0_0, .string a0_1, .string a0_2, .string a0_3] 23 (0, 0)) (by (with_reducible repeat (first | refine blk_drewN ?_ _ | refine blk_drew ?_ | refine blk_alloc ?_ _)); exact BK141.out) hb); have n1_ := Aside0.mk (below_step (by repeat (first | (with_reducible first | exact HB.out | apply below_alloc | apply pw_below_drewN | apply below_drew1 | refine below_set ?_ GE141.out) | exact HB.out)) hb); clear BK141; clear HB; have BK141 := n0_; have HB := n1_; clear n0_ n1_; (try clear hb); (try clear hb2); (try clear hk); (try clear hi); have hcz17_0 : w16.cell? ⟨gb141, 0, none⟩ = some (.string a0_0) := (blk_cell BK141.out 0).trans rfl; have hcz17_1 : w16.cell? ⟨gb141, 1, none⟩ = some (.string a0_1) := (blk_cell BK141.out 1).trans rfl; have hcz17_2 : w16.cell? ⟨gb141, 2, none⟩ = some (.string a0_2) := (blk_cell BK141.out 2).trans rfl; have hcz17_3 : w16.cell? ⟨gb141, 3, none⟩ = some (.string a0_3) := (blk_cell BK141.out 3).trans rfl; have hfz17_0 := blk_frozen BK141.out 0; have hfz17_1 := blk_frozen BK141.out 1; have hfz17_2 := blk_frozen BK141.out 2; have hfz17_3 := blk_frozen BK141.out 3))
      go_ret
      exact ⟨by first | rfl | (simp [errW_none, errW_some] <;> rfl) | (simp [*, errW_none, errW_some] <;> rfl) | (simp [bneNil]; done), by repeat (first | (with_reducible first | exact HB.out | apply below_alloc | apply pw_below_drewN | apply below_drew1 | refine below_set ?_ GE141.out) | exact HB.out)⟩
     ·
      rw [if_neg c13] at H
      exact absurd H (by simp)
    ·
     rw [if_neg c12] at H
     exact absurd H (by simp)
  ·
   rw [if_neg c6] at H
   have c6b0 : (a0_2.toList == ([] : List UInt8)) = false := beq_eq_false_iff_ne.mpr c6
   have c6b1 : (a0_2.toList != ([] : List UInt8)) = true := bne_iff_ne.mpr c6
   by_cases c18 : 1 + a0_2.size ≤ 9223372036854775807
   ·
    rw [if_pos c18] at H
    have c18b0 := eq_true c18
    have c18b1 : decide (1 + a0_2.size ≤ 9223372036854775807) = true := decide_eq_true c18
    try have c18b2 : (9223372036854775807 < 1 + a0_2.size) = False := eq_false (Nat.not_lt.2 c18)
    by_cases c19 : t142.size + ((⟨#[58]⟩ : ByteArray) ++ a0_2).size ≤ 9223372036854775807
    ·
     rw [if_pos c19] at H
     have c19b0 := eq_true c19
     have c19b1 : decide (t142.size + ((⟨#[58]⟩ : ByteArray) ++ a0_2).size ≤ 9223372036854775807) = true := decide_eq_true c19
     try have c19b2 : (9223372036854775807 < t142.size + ((⟨#[58]⟩ : ByteArray) ++ a0_2).size) = False := eq_false (Nat.not_lt.2 c19)
     try have c19b2n := c19b2
     try simp only [ByteArray.size_append, szL1, szL2, szL3] at c19b2n
     by_cases c20 : a0_3.toList = ([] : List UInt8)
     ·
      rw [if_pos c20] at H
      have c20b0 : (a0_3.toList == ([] : List UInt8)) = true := beq_iff_eq.mpr c20
      have c20b1 : (a0_3.toList != ([] : List UInt8)) = false := bne_eq_false_iff_eq.mpr c20
      clear c20
      obtain rfl := Option.some.inj H
      go_enter Try.func8, Try.ntmps8
      go_wp2_with (first | ((with_reducible refine gate_dst (N := 1) rfl ?_); refine box_event ?hg (N := 1) ?hd (cs := #[.string a0_0, .string a0_1, .string a0_2, .string a0_3]) (t := 23) ?hr ?_; (case hd => rfl); (case hg => rfl); (case hr => first | (go_simp; done) | (go_simp; rfl) | (go_simp; simp [u8w]; done)); intro gb141 hg w21 hbox hb; have n0_ := Aside0.mk (below_step (by repeat (first | (with_reducible first | exact HB.out | apply below_alloc | apply pw_below_drewN | apply below_drew1) | exact HB.out)) hb); have n1_ := Aside0.mk (hbox); have n2_ := Aside0.mk ((by rw [hg]; exact (below_size (by repeat (first | (with_reducible first | exact HB.out | apply below_alloc | apply pw_below_drewN | apply below_drew1) | exact HB.out))) : w.heap.size ≤ gb141)); have n3_ := Aside0.mk ((by rw [hg]; exact (below_size (by repeat (first | (with_reducible first | exact HB.out | apply below_alloc | apply pw_below_drewN | apply below_drew1) | exact HB.out))) : w.heap.size ≤ gb141)); clear HB; have HB := n0_; have BK141 := n1_; have GW141 := n2_; have GE141 := n3_; clear n0_ n1_ n2_ n3_; clear hb hbox hg; have hcz22_0 : w21.cell? ⟨gb141, 0, none⟩ = some (.string a0_0) := (blk_cell BK141.out 0).trans rfl; have hcz22_1 : w21.cell? ⟨gb141, 1, none⟩ = some (.string a0_1) := (blk_cell BK141.out 1).trans rfl; have hcz22_2 : w21.cell? ⟨gb141, 2, none⟩ = some (.string a0_2) := (blk_cell BK141.out 2).trans rfl; have hcz22_3 : w21.cell? ⟨gb141, 3, none⟩ = some (.string a0_3) := (blk_cell BK141.out 3).trans rfl; have hfz22_0 := blk_frozen BK141.out 0; have hfz22_1 := blk_frozen BK141.out 1; have hfz22_2 := blk_frozen BK141.out 2; have hfz22_3 := blk_frozen BK141.out 3) | ((with_reducible refine gate_callee (f := 14) rfl ?_); refine goesL_ (some 10) rfl rfl Try.func14 (by kernel_rfl) rfl #[.agg #[.string a0_0, .string a0_1, .string a0_2, .string a0_3]] rfl (by (try simp only [List.map_toArray, List.map_cons, List.map_nil]); first | done | rfl | (simp only [List.length_drop, List.length_take]; rfl)) ?_; (with_reducible refine (spec_RefName.calls a0_0 a0_1 a0_2 a0_3 t142 _ A5.out).mono ?_); rintro e w23 ⟨rfl, hb⟩; refine ⟨_, rfl, ?_⟩; have n0_ := Aside0.mk (blk_below (g := gb141) (o := .cells #[.string a0_0, .string a0_1, .string a0_2, .string a0_3] 23 (0, 0)) (by (with_reducible repeat (first | refine blk_drewN ?_ _ | refine blk_drew ?_ | refine blk_alloc ?_ _)); exact BK141.out) hb); have n1_ := Aside0.mk (below_step (by repeat (first | (with_reducible first | exact HB.out | apply below_alloc | apply pw_below_drewN | apply below_drew1 | refine below_set ?_ GE141.out) | exact HB.out)) hb); clear BK141; clear HB; have BK141 := n0_; have HB := n1_; clear n0_ n1_; (try clear hb); (try clear hb2); (try clear hk); (try clear hi); have hcz24_0 : w23.cell? ⟨gb141, 0, none⟩ = some (.string a0_0) := (blk_cell BK141.out 0).trans rfl; have hcz24_1 : w23.cell? ⟨gb141, 1, none⟩ = some (.string a0_1) := (blk_cell BK141.out 1).trans rfl; have hcz24_2 : w23.cell? ⟨gb141, 2, none⟩ = some (.string a0_2) := (blk_cell BK141.out 2).trans rfl; have hcz24_3 : w23.cell? ⟨gb141, 3, none⟩ = some (.string a0_3) := (blk_cell BK141.out 3).trans rfl; have hfz24_0 := blk_frozen BK141.out 0; have hfz24_1 := blk_frozen BK141.out 1; have hfz24_2 := blk_frozen BK141.out 2; have hfz24_3 := blk_frozen BK141.out 3))
      go_ret
      exact ⟨by first | rfl | (simp [errW_none, errW_some] <;> rfl) | (simp [*, errW_none, errW_some] <;> rfl) | (simp [bneNil]; done), by repeat (first | (with_reducible first | exact HB.out | apply below_alloc | apply pw_below_drewN | apply below_drew1 | refine below_set ?_ GE141.out) | exact HB.out)⟩
     ·
      rw [if_neg c20] at H
      have c20b0 : (a0_3.toList == ([] : List UInt8)) = false := beq_eq_false_iff_ne.mpr c20
      have c20b1 : (a0_3.toList != ([] : List UInt8)) = true := bne_iff_ne.mpr c20
      by_cases c25 : 1 + a0_3.size ≤ 9223372036854775807
      ·
       rw [if_pos c25] at H
       have c25b0 := eq_true c25
       have c25b1 : decide (1 + a0_3.size ≤ 9223372036854775807) = true := decide_eq_true c25
       try have c25b2 : (9223372036854775807 < 1 + a0_3.size) = False := eq_false (Nat.not_lt.2 c25)
       by_cases c26 : (t142 ++ ((⟨#[58]⟩ : ByteArray) ++ a0_2)).size + ((⟨#[64]⟩ : ByteArray) ++ a0_3).size ≤ 9223372036854775807
       ·
        rw [if_pos c26] at H
        have c26b0 := eq_true c26
        have c26b1 : decide ((t142 ++ ((⟨#[58]⟩ : ByteArray) ++ a0_2)).size + ((⟨#[64]⟩ : ByteArray) ++ a0_3).size ≤ 9223372036854775807) = true := decide_eq_true c26
        try have c26b2 : (9223372036854775807 < (t142 ++ ((⟨#[58]⟩ : ByteArray) ++ a0_2)).size + ((⟨#[64]⟩ : ByteArray) ++ a0_3).size) = False := eq_false (Nat.not_lt.2 c26)
        try have c26b2n := c26b2
        try simp only [ByteArray.size_append, szL1, szL2, szL3] at c26b2n
        obtain rfl := Option.some.inj H
        go_enter Try.func8, Try.ntmps8
        go_wp2_with (first | ((with_reducible refine gate_dst (N := 1) rfl ?_); refine box_event ?hg (N := 1) ?hd (cs := #[.string a0_0, .string a0_1, .string a0_2, .string a0_3]) (t := 23) ?hr ?_; (case hd => rfl); (case hg => rfl); (case hr => first | (go_simp; done) | (go_simp; rfl) | (go_simp; simp [u8w]; done)); intro gb141 hg w27 hbox hb; have n0_ := Aside0.mk (below_step (by repeat (first | (with_reducible first | exact HB.out | apply below_alloc | apply pw_below_drewN | apply below_drew1) | exact HB.out)) hb); have n1_ := Aside0.mk (hbox); have n2_ := Aside0.mk ((by rw [hg]; exact (below_size (by repeat (first | (with_reducible first | exact HB.out | apply below_alloc | apply pw_below_drewN | apply below_drew1) | exact HB.out))) : w.heap.size ≤ gb141)); have n3_ := Aside0.mk ((by rw [hg]; exact (below_size (by repeat (first | (with_reducible first | exact HB.out | apply below_alloc | apply pw_below_drewN | apply below_drew1) | exact HB.out))) : w.heap.size ≤ gb141)); clear HB; have HB := n0_; have BK141 := n1_; have GW141 := n2_; have GE141 := n3_; clear n0_ n1_ n2_ n3_; clear hb hbox hg; have hcz28_0 : w27.cell? ⟨gb141, 0, none⟩ = some (.string a0_0) := (blk_cell BK141.out 0).trans rfl; have hcz28_1 : w27.cell? ⟨gb141, 1, none⟩ = some (.string a0_1) := (blk_cell BK141.out 1).trans rfl; have hcz28_2 : w27.cell? ⟨gb141, 2, none⟩ = some (.string a0_2) := (blk_cell BK141.out 2).trans rfl; have hcz28_3 : w27.cell? ⟨gb141, 3, none⟩ = some (.string a0_3) := (blk_cell BK141.out 3).trans rfl; have hfz28_0 := blk_frozen BK141.out 0; have hfz28_1 := blk_frozen BK141.out 1; have hfz28_2 := blk_frozen BK141.out 2; have hfz28_3 := blk_frozen BK141.out 3) | ((with_reducible refine gate_callee (f := 14) rfl ?_); refine goesL_ (some 10) rfl rfl Try.func14 (by kernel_rfl) rfl #[.agg #[.string a0_0, .string a0_1, .string a0_2, .string a0_3]] rfl (by (try simp only [List.map_toArray, List.map_cons, List.map_nil]); first | done | rfl | (simp only [List.length_drop, List.length_take]; rfl)) ?_; (with_reducible refine (spec_RefName.calls a0_0 a0_1 a0_2 a0_3 t142 _ A5.out).mono ?_); rintro e w29 ⟨rfl, hb⟩; refine ⟨_, rfl, ?_⟩; have n0_ := Aside0.mk (blk_below (g := gb141) (o := .cells #[.string a0_0, .string a0_1, .string a0_2, .string a0_3] 23 (0, 0)) (by (with_reducible repeat (first | refine blk_drewN ?_ _ | refine blk_drew ?_ | refine blk_alloc ?_ _)); exact BK141.out) hb); have n1_ := Aside0.mk (below_step (by repeat (first | (with_reducible first | exact HB.out | apply below_alloc | apply pw_below_drewN | apply below_drew1 | refine below_set ?_ GE141.out) | exact HB.out)) hb); clear BK141; clear HB; have BK141 := n0_; have HB := n1_; clear n0_ n1_; (try clear hb); (try clear hb2); (try clear hk); (try clear hi); have hcz30_0 : w29.cell? ⟨gb141, 0, none⟩ = some (.string a0_0) := (blk_cell BK141.out 0).trans rfl; have hcz30_1 : w29.cell? ⟨gb141, 1, none⟩ = some (.string a0_1) := (blk_cell BK141.out 1).trans rfl; have hcz30_2 : w29.cell? ⟨gb141, 2, none⟩ = some (.string a0_2) := (blk_cell BK141.out 2).trans rfl; have hcz30_3 : w29.cell? ⟨gb141, 3, none⟩ = some (.string a0_3) := (blk_cell BK141.out 3).trans rfl; have hfz30_0 := blk_frozen BK141.out 0; have hfz30_1 := blk_frozen BK141.out 1; have hfz30_2 := blk_frozen BK141.out 2; have hfz30_3 := blk_frozen BK141.out 3))
        go_ret
        exact ⟨by first | rfl | (simp [errW_none, errW_some] <;> rfl) | (simp [*, errW_none, errW_some] <;> rfl) | (simp [bneNil]; done), by repeat (first | (with_reducible first | exact HB.out | apply below_alloc | apply pw_below_drewN | apply below_drew1 | refine below_set ?_ GE141.out) | exact HB.out)⟩
       ·
        rw [if_neg c26] at H
        exact absurd H (by simp)
      ·
       rw [if_neg c25] at H
       exact absurd H (by simp)
    ·
     rw [if_neg c19] at H
     exact absurd H (by simp)
   ·
    rw [if_neg c18] at H
    exact absurd H (by simp)

def spec_RefPieces.l0 : Nat → ByteArray → Int → List ByteArray → Option (List ByteArray)
  | 0, _, _, _ => none
  | k + 1, x0, x1, x5 => (spec_RefFirst.f k x0 x1).bind fun t160 => (if t160 < 0 then (if x5.length < 8796093022208 then (some (x5 ++ [x0])) else (none)) else (if 0 ≤ t160 then (if t160 ≤ (x0.size : Int) then (if x5.length < 8796093022208 then (if 0 ≤ (wrap64 (t160 + 1)) then (if (wrap64 (t160 + 1)) ≤ (x0.size : Int) then (spec_RefPieces.l0 k (x0.extract ((wrap64 (t160 + 1)) : Int).toNat x0.size) x1 (x5 ++ [x0.extract 0 (t160 : Int).toNat])) else (none)) else (none)) else (none)) else (none)) else (none)))

def spec_RefPieces.f (k : Nat) (a0 : ByteArray) (a1 : Int) : Option (List ByteArray) := spec_RefPieces.l0 k a0 a1 ([] : List ByteArray)

def spec_RefPieces.T5 : Bool × List (List Nat × List Nat) := (true, [([], []), ([], []), ([], []), ([1, 2], [1, 2]), ([3], [3]), ([0, 4], [0, 4]), ([], []), ([], []), ([7], [7]), ([6, 8], [6, 8]), ([5, 5, 0, 1, 2, 3, 4, 5], [0, 5]), ([9, 10, 0, 1, 2, 3, 4, 5, 6, 7, 8, 9, 10], [1, 6, 9])])

def spec_RefPieces.B5 : List Nat := [0, 0, 0, 6, 14, 31, 0, 0, 128, 448, 63, 2047]

theorem spec_RefPieces.tab5 : rtab .any (opsOf Try.f35 5) = spec_RefPieces.T5 := by kernel_rfl

theorem spec_RefPieces.bits5 : waitsOk spec_RefPieces.T5.2 spec_RefPieces.B5 = true := by kernel_rfl

set_option maxHeartbeats 80000000 in
set_option maxRecDepth 100000 in
theorem spec_RefPieces.calls (k : Nat) (a0 : ByteArray) (a1 : Int) (r : List ByteArray) (w : World) (h : spec_RefPieces.f k a0 a1 = some r) :
  Calls Try.prog 35 #[.string a0, .int .u8 a1] w fun e w' => ∃ v0_ : Value, e = .returned (v0_) ∧ Kd.R Kd.string 9 w' w.heap.size (fun _ => True) v0_ r ∧ Below w.heap.size w w' := by
 have HB := Aside0.mk (Below.refl w.heap.size w)
 have H : (spec_RefPieces.l0 k a0 a1 ([] : List ByteArray)) = some r := h
 clear h
 have H' := Aside0.mk H
 clear H
 go_enter Try.func35, Try.ntmps35
 go_wp2
 go_loopg [0, 5] k (fun kq v0 v5 w' => ∃ (x0_1 : ByteArray) (x5_1 : List ByteArray), v0 = .string x0_1 ∧ Aside0 (spec_RefPieces.l0 kq x0_1 a1 x5_1 = some r) ∧ Aside0 (kq ≤ k) ∧ Aside0 (Kd.R Kd.string 9 w' w.heap.size (fun _ => True) v5 x5_1) ∧ Aside0 (Below w.heap.size w w'))
 case atStart => exact ⟨(a0), (([] : List ByteArray)), (by first | rfl | (simp; done) | (simp [*]; done)), H', ⟨Nat.le_refl _⟩, ⟨by first | exact Kd.R_nil _ _ _ _ _ | exact Kd.N_nil _ _ _ _ _ | exact Kd.V_nil _ _ _ _ _ | exact Kd.Q_nil _ _ _ _ _ | exact Kd.S_nil _ _ _ _ _⟩, ⟨by repeat (first | (with_reducible first | exact HB.out | apply below_alloc | apply pw_below_drewN | apply below_drew1) | exact HB.out)⟩⟩
 case round =>
  clear H'
  try clear p2
  obtain ⟨x0_1, x5_1, rfl, HA, HK1, HO_5, HB⟩ := hrel
  cases gk with
  | zero => exact absurd HA.out (by simp [spec_RefPieces.l0])
  | succ k1 =>
   have H := HA.out
   clear HA
   simp only [spec_RefPieces.l0] at H
   replace H := Option.bind_eq_some_iff.mp H
   obtain ⟨t160, A30, H⟩ := H
   replace H : (if t160 < 0 then (if x5_1.length < 8796093022208 then (some (x5_1 ++ [x0_1])) else (none)) else (if 0 ≤ t160 then (if t160 ≤ (x0_1.size : Int) then (if x5_1.length < 8796093022208 then (if 0 ≤ (wrap64 (t160 + 1)) then (if (wrap64 (t160 + 1)) ≤ (x0_1.size : Int) then (spec_RefPieces.l0 k1 (x0_1.extract ((wrap64 (t160 + 1)) : Int).toNat x0_1.size) a1 (x5_1 ++ [x0_1.extract 0 (t160 : Int).toNat])) else (none)) else (none)) else (none)) else (none)) else (none))) = some r := H
   have A3 := Aside0.mk A30
   clear A30
   by_cases c4 : t160 < 0
   ·
    rw [if_pos c4] at H
    have c4b0 : decide (t160 < 0) = true := decide_eq_true c4
    clear c4
    by_cases c5 : x5_1.length < 8796093022208
    ·
     rw [if_pos c5] at H
     have LMc5 := Aside0.mk c5
     clear c5
     obtain ⟨y161, hy161⟩ : ∃ y_ : List ByteArray, y_ = (x5_1 ++ [x0_1]) := ⟨_, rfl⟩
     replace H : (some y161) = some r := by first | (rw [hy161]; with_reducible exact H) | (have H2_ := (Option.bind_some _ _).symm.trans H; rw [hy161]; with_reducible exact H2_) | (have H2_ := (Option.bind_some _ _).symm.trans H; with_reducible exact H2_) | with_reducible exact H | (rw [hy161]; exact H) | exact H
     have Ny161 := Aside0.mk hy161
     clear hy161
     obtain rfl := Option.some.inj H
     go_wp2_with (first | ((with_reducible refine gate_callee (f := 16) rfl ?_); refine goesL_ (some 9) rfl rfl Try.func16 (by kernel_rfl) rfl #[.string x0_1, .int .u8 a1] rfl (by (try simp only [List.map_toArray, List.map_cons, List.map_nil]); first | done | rfl | (simp only [List.length_drop, List.length_take]; rfl)) ?_; (with_reducible refine (spec_RefFirst.calls k1 x0_1 a1 t160 _ A3.out).mono ?_); rintro e w' ⟨rfl, ⟨nd, rfl⟩⟩; refine ⟨_, rfl, ?_⟩) | ((with_reducible refine gate_builtin (b := .append) (xs := #[.tmp 12, .tmp 14]) rfl ?_); at_builtin; refine Kd.R_append Kd.string (w0 := w) w.heap.size rfl (.tmp 12) (.tmp 14) 55 9 (.string ⟨#[]⟩) 16 rfl Try.underlying55 info9 rfl (by decide) (by omega) u5 x5_1 x0_1 [.string x0_1] (fun _ => True) (fun _ => False) rfl rfl ?aP (fun _ hk => hk.elim) ?aF ?aO ?aB ?aS ?aL ?_; (case aP => exact rfl); (case aB => exact (by repeat (first | (with_reducible first | exact HB.out | apply below_alloc | apply pw_below_drewN | apply below_drew1) | exact HB.out))); (case aF => exact (fun _ _ => trivial)); (case aO => exact (by (with_reducible repeat (first | apply Kd.R_alloc | apply Kd.R_drewN | apply Kd.R_drew)); exact HO_5.out)); (case aS => exact (below_size (by repeat (first | (with_reducible first | exact HB.out | apply below_alloc | apply pw_below_drewN | apply below_drew1) | exact HB.out)))); (case aL => have := LMc5.out; omega); intro v162 w6 ho hb hg hat; rw [← Ny161.out] at ho; have n0_ := Aside0.mk (hb); have n1_ := Aside0.mk (ho); clear HB; clear HO_5; have HB := n0_; have HO163 := n1_; clear n0_ n1_; clear ho hb hg hat))
     go_ret
     exact ⟨_, by first | rfl | (simp [errW_none, errW_some] <;> rfl) | (simp [*, errW_none, errW_some] <;> rfl), by (with_reducible repeat (first | apply Kd.R_alloc | apply Kd.R_drewN | apply Kd.R_drew)); exact HO163.out, by repeat (first | (with_reducible first | exact HB.out | apply below_alloc | apply pw_below_drewN | apply below_drew1) | exact HB.out)⟩
    ·
     rw [if_neg c5] at H
     exact absurd H (by simp)
   ·
    rw [if_neg c4] at H
    have c4b0 : decide (t160 < 0) = false := decide_eq_false c4
    clear c4
    by_cases c7 : 0 ≤ t160
    ·
     rw [if_pos c7] at H
     have c7b0 := eq_true c7
     have c7b1 : decide (0 ≤ t160) = true := decide_eq_true c7
     clear c7
     by_cases c8 : t160 ≤ (x0_1.size : Int)
     ·
      rw [if_pos c8] at H
      have c8b0 := eq_true c8
      have c8b1 : decide (t160 ≤ (x0_1.size : Int)) = true := decide_eq_true c8
      clear c8
      by_cases c9 : x5_1.length < 8796093022208
      ·
       rw [if_pos c9] at H
       have LMc9 := Aside0.mk c9
       clear c9
       obtain ⟨y164, hy164⟩ : ∃ y_ : List ByteArray, y_ = (x5_1 ++ [x0_1.extract 0 (t160 : Int).toNat]) := ⟨_, rfl⟩
       replace H : (if 0 ≤ (wrap64 (t160 + 1)) then (if (wrap64 (t160 + 1)) ≤ (x0_1.size : Int) then (spec_RefPieces.l0 k1 (x0_1.extract ((wrap64 (t160 + 1)) : Int).toNat x0_1.size) a1 y164) else (none)) else (none)) = some r := by first | (rw [hy164]; with_reducible exact H) | (have H2_ := (Option.bind_some _ _).symm.trans H; rw [hy164]; with_reducible exact H2_) | (have H2_ := (Option.bind_some _ _).symm.trans H; with_reducible exact H2_) | with_reducible exact H | (rw [hy164]; exact H) | exact H
       have Ny164 := Aside0.mk hy164
       clear hy164
       obtain ⟨ji10, hji10⟩ : ∃ j_ : Int, (wrap64 (t160 + 1)) = j_ := ⟨_, rfl⟩
       replace H : (if 0 ≤ (ji10) then (if (ji10) ≤ (x0_1.size : Int) then (spec_RefPieces.l0 k1 (x0_1.extract ((ji10) : Int).toNat x0_1.size) a1 y164) else (none)) else (none)) = some r := by first | (rw [hji10] at H; exact H) | (simp only [hji10] at H ⊢; exact H)
       (try rw [hji10] at A3)
       have hji10w : (IntKind.i64.wrap (t160 + 1)) = ji10 := (i64_w _).trans hji10
       by_cases c11 : 0 ≤ (ji10)
       ·
        rw [if_pos c11] at H
        have c11b0 := eq_true c11
        have c11b1 : decide (0 ≤ (ji10)) = true := decide_eq_true c11
        clear c11
        by_cases c12 : (ji10) ≤ (x0_1.size : Int)
        ·
         rw [if_pos c12] at H
         have c12b0 := eq_true c12
         have c12b1 : decide ((ji10) ≤ (x0_1.size : Int)) = true := decide_eq_true c12
         clear c12
         have H' := Aside0.mk H
         clear H
         try go_wp2_with (first | ((with_reducible refine gate_callee (f := 16) rfl ?_); refine goesL_ (some 9) rfl rfl Try.func16 (by kernel_rfl) rfl #[.string x0_1, .int .u8 a1] rfl (by (try simp only [List.map_toArray, List.map_cons, List.map_nil]); first | done | rfl | (simp only [List.length_drop, List.length_take]; rfl)) ?_; (with_reducible refine (spec_RefFirst.calls k1 x0_1 a1 t160 _ A3.out).mono ?_); rintro e w' ⟨rfl, ⟨nd, rfl⟩⟩; refine ⟨_, rfl, ?_⟩))
         (try (rw [drewN_self wr]; generalize hq_ : World.drewN wr _ = wr; have n0_ : Aside0 (Kd.R Kd.string 9 wr w.heap.size (fun _ => True) u5 x5_1) := ⟨by rw [← hq_]; exact (by (with_reducible repeat (first | apply Kd.R_alloc | apply Kd.R_drewN | apply Kd.R_drew)); exact HO_5.out)⟩; have n1_ : Aside0 (Below w.heap.size w wr) := ⟨by rw [← hq_]; exact (by repeat (first | (with_reducible first | exact HB.out | apply below_alloc | apply pw_below_drewN | apply below_drew1) | exact HB.out))⟩; clear HO_5 HB hq_; have HO_5 := n0_; have HB := n1_; clear n0_ n1_))
         have n0_ := Aside0.mk (Kd.R_drew HO_5.out)
         have n1_ := Aside0.mk (below_drew1 HB.out)
         clear HO_5
         clear HB
         have HO_5 := n0_
         have HB := n1_
         clear n0_ n1_
         refine start_ (n := 12) (S := fun w' => True) (ds := []) #[false, false, false, false, false, false, false, false, false, false, false, false] (by kernel_rfl) rfl rfl trivial (fun hHeld => ?_); refine with_tabW spec_RefPieces.tab5 spec_RefPieces.bits5 (fun HT_ HW_ => ?_)
         generalize wr.drew = w13 at HO_5 HB hHeld ⊢
         refine pure_ (i := 0) (N := some 16) (v := ?_) (a' := ?_) #[true, false, false, false, false, false, false, false, false, false, false, false] rfl rfl (any_of HT_.out (by kernel_rfl)) (fun _ _ _ h => h) (Or.inl ⟨by rfl, ?_⟩) ?_ ?_
         rotate_left
         ·
          intro w'
          go_simp
          with_reducible rfl
         rotate_left
         ·
          simp only [Act.put, List.setIfInBounds_toArray, List.set_cons_zero, List.set_cons_succ, i64_w, i32_w]
          rfl
         refine pure_ (i := 1) (N := some 17) (v := ?_) (a' := ?_) #[true, true, false, false, false, false, false, false, false, false, false, false] rfl rfl (any_of HT_.out (by kernel_rfl)) (fun _ _ _ h => h) (Or.inl ⟨by rfl, ?_⟩) ?_ ?_
         rotate_left
         ·
          intro w'
          go_simp
          with_reducible rfl
         rotate_left
         ·
          simp only [Act.put, List.setIfInBounds_toArray, List.set_cons_zero, List.set_cons_succ, i64_w, i32_w]
          rfl
         refine pure_ (i := 2) (N := some 18) (v := ?_) (a' := ?_) #[true, true, true, false, false, false, false, false, false, false, false, false] rfl rfl (any_of HT_.out (by kernel_rfl)) (fun _ _ _ h => h) (Or.inl ⟨by rfl, ?_⟩) ?_ ?_
         rotate_left
         ·
          intro w'
          go_simp
          with_reducible rfl
         rotate_left
         ·
          simp only [Act.put, List.setIfInBounds_toArray, List.set_cons_zero, List.set_cons_succ, i64_w, i32_w]
          rfl
         refine pure_ (i := 3) (N := some 19) (v := ?_) (a' := ?_) #[true, true, true, true, false, false, false, false, false, false, false, false] rfl rfl (any_of HT_.out (by kernel_rfl)) (fun _ _ _ h => h) (Or.inl ⟨by rfl, ?_⟩) ?_ ?_
         rotate_left
         ·
          intro w'
          go_simp
          with_reducible rfl
         rotate_left
         ·
          simp only [Act.put, List.setIfInBounds_toArray, List.set_cons_zero, List.set_cons_succ, i64_w, i32_w]
          rfl
         refine pure_ (i := 6) (N := some 22) (v := ?_) (a' := ?_) #[true, true, true, true, false, false, true, false, false, false, false, false] rfl rfl (any_of HT_.out (by kernel_rfl)) (fun _ _ _ h => h) (Or.inl ⟨by rfl, ?_⟩) ?_ ?_
         rotate_left
         ·
          intro w'
          go_simp
          with_reducible rfl
         rotate_left
         ·
          simp only [Act.put, List.setIfInBounds_toArray, List.set_cons_zero, List.set_cons_succ, i64_w, i32_w]
          rfl
         refine pure_ (i := 7) (N := some 23) (v := ?_) (a' := ?_) #[true, true, true, true, false, false, true, true, false, false, false, false] rfl rfl (any_of HT_.out (by kernel_rfl)) (fun _ _ _ h => h) (Or.inl ⟨by rfl, ?_⟩) ?_ ?_
         rotate_left
         ·
          intro w'
          go_simp
          with_reducible rfl
         rotate_left
         ·
          simp only [Act.put, List.setIfInBounds_toArray, List.set_cons_zero, List.set_cons_succ, i64_w, i32_w]
          rfl
         refine pure_ (i := 8) (N := some 24) (v := ?_) (a' := ?_) #[true, true, true, true, false, false, true, true, true, false, false, false] rfl rfl (any_of HT_.out (by kernel_rfl)) (fun _ _ _ h => h) (Or.inl ⟨by rfl, ?_⟩) ?_ ?_
         rotate_left
         ·
          intro w'
          go_simp
          with_reducible rfl
         rotate_left
         ·
          simp only [Act.put, List.setIfInBounds_toArray, List.set_cons_zero, List.set_cons_succ, i64_w, i32_w]
          rfl
         refine pure_ (i := 9) (N := some 25) (v := ?_) (a' := ?_) #[true, true, true, true, false, false, true, true, true, true, false, false] rfl rfl (any_of HT_.out (by kernel_rfl)) (fun _ _ _ h => h) (Or.inl ⟨by rfl, ?_⟩) ?_ ?_
         rotate_left
         ·
          intro w'
          go_simp
          with_reducible rfl
         rotate_left
         ·
          simp only [Act.put, List.setIfInBounds_toArray, List.set_cons_zero, List.set_cons_succ, i64_w, i32_w]
          rfl
         refine one_ (i := 4) (N := some 20) #[true, true, true, true, true, false, true, true, true, true, false, false] rfl rfl (one_of HT_.out (by kernel_rfl)) (by decide) (fun K hK => ?_)
         refine value_ (w1 := ?_) (v := ?_) (by rfl) rfl ?_ ?_
         rotate_left 2
         ·
          go_simp
          constructor
          ·
           rfl
          ·
           rfl
         refine hK.out _ _ trivial (fun hHeld => ?_)
         clear hK K
         refine norm_ (a' := ?_) ?_ ?_
         rotate_left
         ·
          show Act.put _ (some 20) _ = _
          simp only [Act.put, List.setIfInBounds_toArray, List.set_cons_zero, List.set_cons_succ, i64_w, i32_w]
          rfl
         refine one_ (i := 5) (N := some 21) #[true, true, true, true, true, true, true, true, true, true, false, false] rfl rfl (one_of HT_.out (by kernel_rfl)) (by decide) (fun K hK => ?_)
         refine Kd.R_append_step Kd.string (w0 := w) w.heap.size (by rfl) (.tmp 16) (.tmp 20) 55 9 (.string ⟨#[]⟩) 16 rfl Try.underlying55 info9 rfl (by decide) (by omega) u5 x5_1 (x0_1.extract 0 (t160 : Int).toNat) [.string (x0_1.extract 0 (t160 : Int).toNat)] (fun _ => True) (fun _ => False) rfl rfl ?aP (fun _ hk => hk.elim) ?aF ?aO ?aB ?aS ?aL ?_
         (case aP => exact rfl)
         (case aB => exact (by repeat (first | (with_reducible first | exact HB.out | apply below_alloc | apply pw_below_drewN | apply below_drew1) | exact HB.out)))
         (case aF => exact (fun _ _ => trivial))
         (case aO => exact (by (with_reducible repeat (first | apply Kd.R_alloc | apply Kd.R_drewN | apply Kd.R_drew)); exact HO_5.out))
         (case aS => exact (below_size (by repeat (first | (with_reducible first | exact HB.out | apply below_alloc | apply pw_below_drewN | apply below_drew1) | exact HB.out))))
         (case aL => have := LMc9.out; omega)
         intro v165 w14 ho hb hg hat
         rw [← Ny164.out] at ho
         have n0_ := Aside0.mk (hb)
         have n1_ := Aside0.mk (ho)
         clear HB
         clear HO_5
         have HB := n0_
         have HO166 := n1_
         clear n0_ n1_
         clear ho hb hg hat
         refine hK.out _ _ trivial (fun hHeld => ?_)
         clear hK K
         refine norm_ (a' := ?_) ?_ ?_
         rotate_left
         ·
          show Act.put _ (some 21) _ = _
          simp only [Act.put, List.setIfInBounds_toArray, List.set_cons_zero, List.set_cons_succ, i64_w, i32_w]
          rfl
         refine pure_ (i := 10) (N := some 5) (v := ?_) (a' := ?_) #[true, true, true, true, true, true, true, true, true, true, true, false] rfl rfl (any_of HT_.out (by kernel_rfl)) (fun _ _ _ h => h) (Or.inl ⟨by rfl, ?_⟩) ?_ ?_
         rotate_left
         ·
          intro w'
          go_simp
          with_reducible rfl
         rotate_left
         ·
          simp only [Act.put, List.setIfInBounds_toArray, List.set_cons_zero, List.set_cons_succ, i64_w, i32_w]
          rfl
         refine pure_ (i := 11) (N := some 0) (v := ?_) (a' := ?_) #[true, true, true, true, true, true, true, true, true, true, true, true] rfl rfl (any_of HT_.out (by kernel_rfl)) (fun _ _ _ h => h) (Or.inl ⟨by rfl, ?_⟩) ?_ ?_
         rotate_left
         ·
          intro w'
          go_simp
          with_reducible rfl
         rotate_left
         ·
          simp only [Act.put, List.setIfInBounds_toArray, List.set_cons_zero, List.set_cons_succ, i64_w, i32_w]
          rfl
         refine done_ (done_of HT_.out (by kernel_rfl)) ?_
         try go_wp2
         go_roundg k1
         case measure => have := HK1.out; omega
         case rel => exact ⟨(x0_1.extract ((ji10) : Int).toNat x0_1.size), (y164), (by first | rfl | (simp; done) | (simp only [← hji10] <;> (first | rfl | simp)) | (simp [*]; done)), H', ⟨by have := HK1.out; omega⟩, ⟨by (with_reducible repeat (first | apply Kd.R_alloc | apply Kd.R_drewN | apply Kd.R_drew)); exact HO166.out⟩, ⟨by repeat (first | (with_reducible first | exact HB.out | apply below_alloc | apply pw_below_drewN | apply below_drew1) | exact HB.out)⟩⟩
        ·
         rw [if_neg c12] at H
         exact absurd H (by simp)
       ·
        rw [if_neg c11] at H
        exact absurd H (by simp)
      ·
       rw [if_neg c9] at H
       exact absurd H (by simp)
     ·
      rw [if_neg c8] at H
      exact absurd H (by simp)
    ·
     rw [if_neg c7] at H
     exact absurd H (by simp)

def spec_refDigit.f (a0 : Int) : Option (Bool) := if 48 ≤ a0 then (some (decide (a0 ≤ 57))) else (some false)

set_option maxHeartbeats 80000000 in
set_option maxRecDepth 100000 in
theorem spec_refDigit.calls (a0 : Int) (r : Bool) (w : World) (h : spec_refDigit.f a0 = some r) :
    Calls Try.prog 33 #[.int .u8 a0] w fun e w' => e = .returned (.bool r) ∧ Drawn0 w w' := by
  have H : (if 48 ≤ a0 then (some (decide (a0 ≤ 57))) else (some false)) = some r := h
  clear h
  by_cases c2 : 48 ≤ a0
  · rw [if_pos c2] at H
    have c2b0 : decide (48 ≤ a0) = true := decide_eq_true c2
    clear c2
    obtain rfl := Option.some.inj H
    go_enter Try.func33, Try.ntmps33
    go_wp2
    go_ret
    exact ⟨by first | rfl | (simp; done) | (simp [*]; done) | (simp [bneNil]; done), by repeat (first | exact Drawn0.refl _ | apply Drawn0.step)⟩
  · rw [if_neg c2] at H
    have c2b0 : decide (48 ≤ a0) = false := decide_eq_false c2
    clear c2
    obtain rfl := Option.some.inj H
    go_enter Try.func33, Try.ntmps33
    go_wp2
    go_ret
    exact ⟨by first | rfl | (simp; done) | (simp [*]; done) | (simp [bneNil]; done), by repeat (first | exact Drawn0.refl _ | apply Drawn0.step)⟩

def spec_refLower.f (a0 : Int) : Option (Bool) := if 97 ≤ a0 then (if a0 ≤ 122 then (some true) else ((spec_refDigit.f a0).bind fun t167 => (some t167))) else ((spec_refDigit.f a0).bind fun t168 => (some t168))

set_option maxHeartbeats 80000000 in
set_option maxRecDepth 100000 in
theorem spec_refLower.calls (a0 : Int) (r : Bool) (w : World) (h : spec_refLower.f a0 = some r) :
    Calls Try.prog 38 #[.int .u8 a0] w fun e w' => e = .returned (.bool r) ∧ Drawn0 w w' := by
  have H : (if 97 ≤ a0 then (if a0 ≤ 122 then (some true) else ((spec_refDigit.f a0).bind fun t167 => (some t167))) else ((spec_refDigit.f a0).bind fun t168 => (some t168))) = some r := h
  clear h
  by_cases c2 : 97 ≤ a0
  · rw [if_pos c2] at H
    have c2b0 : decide (97 ≤ a0) = true := decide_eq_true c2
    clear c2
    by_cases c3 : a0 ≤ 122
    · rw [if_pos c3] at H
      have c3b0 : decide (a0 ≤ 122) = true := decide_eq_true c3
      clear c3
      obtain rfl := Option.some.inj H
      go_enter Try.func38, Try.ntmps38
      go_wp2
      go_ret
      exact ⟨by first | rfl | (simp; done) | (simp [*]; done) | (simp [bneNil]; done), by repeat (first | exact Drawn0.refl _ | apply Drawn0.step)⟩
    · rw [if_neg c3] at H
      have c3b0 : decide (a0 ≤ 122) = false := decide_eq_false c3
      clear c3
      replace H := Option.bind_eq_some_iff.mp H
      obtain ⟨t167, A40, H⟩ := H
      replace H : (some t167) = some r := H
      have A4 := Aside0.mk A40
      clear A40
      obtain rfl := Option.some.inj H
      go_enter Try.func38, Try.ntmps38
      go_wp2_with (first | (go_at_call 33; (with_reducible refine (spec_refDigit.calls a0 t167 _ A4.out).mono ?_); rintro e w' ⟨rfl, ⟨nd, rfl⟩⟩))
      go_ret
      exact ⟨by first | rfl | (simp; done) | (simp [*]; done) | (simp [bneNil]; done), by repeat (first | exact Drawn0.refl _ | apply Drawn0.step)⟩
  · rw [if_neg c2] at H
    have c2b0 : decide (97 ≤ a0) = false := decide_eq_false c2
    clear c2
    replace H := Option.bind_eq_some_iff.mp H
    obtain ⟨t168, A50, H⟩ := H
    replace H : (some t168) = some r := H
    have A5 := Aside0.mk A50
    clear A50
    obtain rfl := Option.some.inj H
    go_enter Try.func38, Try.ntmps38
    go_wp2_with (first | (go_at_call 33; (with_reducible refine (spec_refDigit.calls a0 t168 _ A5.out).mono ?_); rintro e w' ⟨rfl, ⟨nd, rfl⟩⟩))
    go_ret
    exact ⟨by first | rfl | (simp; done) | (simp [*]; done) | (simp [bneNil]; done), by repeat (first | exact Drawn0.refl _ | apply Drawn0.step)⟩

def spec_refAlnum.f (a0 : Int) : Option (Bool) := (spec_refLower.f a0).bind fun t169 => (if t169 = true then (some true) else (if 65 ≤ a0 then (some (decide (a0 ≤ 90))) else (some false)))

set_option maxHeartbeats 80000000 in
set_option maxRecDepth 100000 in
theorem spec_refAlnum.calls (a0 : Int) (r : Bool) (w : World) (h : spec_refAlnum.f a0 = some r) :
    Calls Try.prog 40 #[.int .u8 a0] w fun e w' => e = .returned (.bool r) ∧ Drawn0 w w' := by
  have H : ((spec_refLower.f a0).bind fun t169 => (if t169 = true then (some true) else (if 65 ≤ a0 then (some (decide (a0 ≤ 90))) else (some false)))) = some r := h
  clear h
  replace H := Option.bind_eq_some_iff.mp H
  obtain ⟨t169, A20, H⟩ := H
  replace H : (if t169 = true then (some true) else (if 65 ≤ a0 then (some (decide (a0 ≤ 90))) else (some false))) = some r := H
  have A2 := Aside0.mk A20
  clear A20
  by_cases c3 : t169 = true
  · subst c3
    have H1 : (some true) = some r := by rw [if_pos rfl] at H; exact H
    clear H
    have H := H1
    clear H1
    obtain rfl := Option.some.inj H
    go_enter Try.func40, Try.ntmps40
    go_wp2_with (first | ((with_reducible refine gate_callee (f := 38) rfl ?_); refine goesL_ (some 4) rfl rfl Try.func38 (by kernel_rfl) rfl #[.int .u8 a0] rfl (by (try simp only [List.map_toArray, List.map_cons, List.map_nil]); first | done | rfl | (simp only [List.length_drop, List.length_take]; rfl)) ?_; (with_reducible refine (spec_refLower.calls a0 true _ A2.out).mono ?_); rintro e w' ⟨rfl, ⟨nd, rfl⟩⟩; refine ⟨_, rfl, ?_⟩))
    go_ret
    exact ⟨by first | rfl | (simp; done) | (simp [*]; done) | (simp [bneNil]; done), by repeat (first | exact Drawn0.refl _ | apply Drawn0.step)⟩
  · replace c3 := Bool.eq_false_iff.mpr c3
    subst c3
    have H1 : (if 65 ≤ a0 then (some (decide (a0 ≤ 90))) else (some false)) = some r := by rw [if_neg (show ¬ (false = true) by decide)] at H; exact H
    clear H
    have H := H1
    clear H1
    by_cases c4 : 65 ≤ a0
    · rw [if_pos c4] at H
      have c4b0 : decide (65 ≤ a0) = true := decide_eq_true c4
      clear c4
      obtain rfl := Option.some.inj H
      go_enter Try.func40, Try.ntmps40
      go_wp2_with (first | ((with_reducible refine gate_callee (f := 38) rfl ?_); refine goesL_ (some 4) rfl rfl Try.func38 (by kernel_rfl) rfl #[.int .u8 a0] rfl (by (try simp only [List.map_toArray, List.map_cons, List.map_nil]); first | done | rfl | (simp only [List.length_drop, List.length_take]; rfl)) ?_; (with_reducible refine (spec_refLower.calls a0 false _ A2.out).mono ?_); rintro e w' ⟨rfl, ⟨nd, rfl⟩⟩; refine ⟨_, rfl, ?_⟩))
      go_ret
      exact ⟨by first | rfl | (simp; done) | (simp [*]; done) | (simp [bneNil]; done), by repeat (first | exact Drawn0.refl _ | apply Drawn0.step)⟩
    · rw [if_neg c4] at H
      have c4b0 : decide (65 ≤ a0) = false := decide_eq_false c4
      clear c4
      obtain rfl := Option.some.inj H
      go_enter Try.func40, Try.ntmps40
      go_wp2_with (first | ((with_reducible refine gate_callee (f := 38) rfl ?_); refine goesL_ (some 4) rfl rfl Try.func38 (by kernel_rfl) rfl #[.int .u8 a0] rfl (by (try simp only [List.map_toArray, List.map_cons, List.map_nil]); first | done | rfl | (simp only [List.length_drop, List.length_take]; rfl)) ?_; (with_reducible refine (spec_refLower.calls a0 false _ A2.out).mono ?_); rintro e w' ⟨rfl, ⟨nd, rfl⟩⟩; refine ⟨_, rfl, ?_⟩))
      go_ret
      exact ⟨by first | rfl | (simp; done) | (simp [*]; done) | (simp [bneNil]; done), by repeat (first | exact Drawn0.refl _ | apply Drawn0.step)⟩

mutual
def spec_RefAlgorithm.l0 : Nat → ByteArray → Bool → Int → Option (Bool)
  | 0, _, _, _ => none
  | k + 1, x0, x3, x4 => if x4 < (x0.size : Int) then (if 0 ≤ x4 then (if (bt x0 x4) = 43 then (spec_RefAlgorithm.j1 k x0 x3 x4 (bt x0 x4) true) else (if (bt x0 x4) = 46 then (spec_RefAlgorithm.j1 k x0 x3 x4 (bt x0 x4) true) else (if (bt x0 x4) = 45 then (spec_RefAlgorithm.j1 k x0 x3 x4 (bt x0 x4) true) else (spec_RefAlgorithm.j1 k x0 x3 x4 (bt x0 x4) ((bt x0 x4) == 95))))) else (none)) else (some (!x3))
def spec_RefAlgorithm.j1 : Nat → ByteArray → Bool → Int → Int → Bool → Option (Bool)
  | 0, _, _, _, _, _ => none
  | k + 1, x0, x3, x4, x5, x15 => if x15 = true then (if x3 = true then (some false) else (spec_RefAlgorithm.l0 k x0 true (wrap64 (x4 + 1)))) else (if x3 = true then ((spec_refAlnum.f x5).bind fun t170 => (if t170 = true then ((spec_refDigit.f x5).bind fun t171 => (spec_RefAlgorithm.j2 k x0 x4 x5 t171)) else (spec_RefAlgorithm.j2 k x0 x4 x5 true))) else (spec_RefAlgorithm.j2 k x0 x4 x5 false))
def spec_RefAlgorithm.j2 : Nat → ByteArray → Int → Int → Bool → Option (Bool)
  | 0, _, _, _, _ => none
  | k + 1, x0, x4, x5, x31 => if x31 = true then (some false) else ((spec_refAlnum.f x5).bind fun t172 => (if t172 = true then (spec_RefAlgorithm.l0 k x0 false (wrap64 (x4 + 1))) else (some false)))
end

def spec_RefAlgorithm.f (k : Nat) (a0 : ByteArray) : Option (Bool) := spec_RefAlgorithm.l0 k a0 true 0

set_option maxHeartbeats 80000000 in
set_option maxRecDepth 100000 in
theorem spec_RefAlgorithm.calls (k : Nat) (a0 : ByteArray) (r : Bool) (w : World) (h : spec_RefAlgorithm.f k a0 = some r) :
  Calls Try.prog 27 #[.string a0] w fun e w' => e = .returned (.bool r) ∧ Drawn0 w w' := by
 have H : (spec_RefAlgorithm.l0 k a0 true 0) = some r := h
 clear h
 have H' := Aside0.mk H
 clear H
 go_enter Try.func27, Try.ntmps27
 go_wp2
 go_loopg [3, 4] k (fun kq v3 v4 w' => ∃ (x3_1 : Bool) (x4_1 : Int), v3 = .bool x3_1 ∧ v4 = .int .i64 x4_1 ∧ Aside0 (spec_RefAlgorithm.l0 kq a0 x3_1 x4_1 = some r) ∧ Aside0 (kq ≤ k) ∧ Drawn0 w w')
 case atStart => exact ⟨(true), (0), (by first | rfl | (simp; done) | (simp [*]; done)), (by first | rfl | (simp; done) | (simp [*]; done)), H', ⟨Nat.le_refl _⟩, by repeat (first | exact Drawn0.refl _ | apply Drawn0.step)⟩
 case round =>
  clear H'
  obtain ⟨x3_1, x4_1, rfl, rfl, HA, HK1, ⟨m1, rfl⟩⟩ := hrel
  cases gk with
  | zero => exact absurd HA.out (by simp [spec_RefAlgorithm.l0])
  | succ k1 =>
   have H := HA.out
   clear HA
   simp only [spec_RefAlgorithm.l0] at H
   by_cases c2 : x4_1 < (a0.size : Int)
   ·
    rw [if_pos c2] at H
    have c2b0 : decide (x4_1 < (a0.size : Int)) = true := decide_eq_true c2
    clear c2
    by_cases c3 : 0 ≤ x4_1
    ·
     rw [if_pos c3] at H
     have c3b0 : decide (0 ≤ x4_1) = true := decide_eq_true c3
     clear c3
     have HC5 := Aside0.mk H
     clear H
     have p4 : 0 ≤ (x4_1 : Int) := of_decide_eq_true (by first | (with_reducible assumption) | assumption)
     have q4 : x4_1 < (a0.size : Int) := of_decide_eq_true (by first | (with_reducible assumption) | assumption)
     have hx4 := bt_at a0 x4_1
     replace p4 := eq_true p4
     replace q4 := eq_true q4
     go_upto_region 7 with (fail)
     go_cut [15] (fun v15 wc => ∃ (kq : Nat) (x15_4 : Bool), v15 = .bool x15_4 ∧ Aside0 (spec_RefAlgorithm.j1 kq a0 x3_1 x4_1 (bt a0 x4_1) x15_4 = some r) ∧ Aside0 (kq ≤ k1) ∧ Drawn0 w wc)
     case first =>
      have H := HC5.out
      clear HC5
      by_cases c6 : (bt a0 x4_1) = 43
      ·
       rw [if_pos c6] at H
       have c6b0 : ((bt a0 x4_1) == 43) = true := beq_iff_eq.mpr c6
       have c6b1 : ((bt a0 x4_1) != 43) = false := bne_eq_false_iff_eq.mpr c6
       clear c6
       (first | rw [c6b0] | (simp only [i64_w, i32_w]; rw [c6b0]) | skip)
       have H' := Aside0.mk H
       clear H
       go_wp2
       go_meet
       case rel => exact ⟨_, (true), (by first | rfl | (simp; done) | (simp [*]; done)), H', ⟨by have := HK1.out; first | omega | exact Nat.le_refl _⟩, by repeat (first | exact Drawn0.refl _ | apply Drawn0.step)⟩
      ·
       rw [if_neg c6] at H
       have c6b0 : ((bt a0 x4_1) == 43) = false := beq_eq_false_iff_ne.mpr c6
       have c6b1 : ((bt a0 x4_1) != 43) = true := bne_iff_ne.mpr c6
       (first | rw [c6b0] | (simp only [i64_w, i32_w]; rw [c6b0]) | skip)
       by_cases c7 : (bt a0 x4_1) = 46
       ·
        rw [if_pos c7] at H
        have c7b0 : ((bt a0 x4_1) == 46) = true := beq_iff_eq.mpr c7
        have c7b1 : ((bt a0 x4_1) != 46) = false := bne_eq_false_iff_eq.mpr c7
        clear c7
        have H' := Aside0.mk H
        clear H
        go_wp2
        go_meet
        case rel => exact ⟨_, (true), (by first | rfl | (simp; done) | (simp [*]; done)), H', ⟨by have := HK1.out; first | omega | exact Nat.le_refl _⟩, by repeat (first | exact Drawn0.refl _ | apply Drawn0.step)⟩
       ·
        rw [if_neg c7] at H
        have c7b0 : ((bt a0 x4_1) == 46) = false := beq_eq_false_iff_ne.mpr c7
        have c7b1 : ((bt a0 x4_1) != 46) = true := bne_iff_ne.mpr c7
        by_cases c8 : (bt a0 x4_1) = 45
        ·
         rw [if_pos c8] at H
         have c8b0 : ((bt a0 x4_1) == 45) = true := beq_iff_eq.mpr c8
         have c8b1 : ((bt a0 x4_1) != 45) = false := bne_eq_false_iff_eq.mpr c8
         clear c8
         have H' := Aside0.mk H
         clear H
         go_wp2
         go_meet
         case rel => exact ⟨_, (true), (by first | rfl | (simp; done) | (simp [*]; done)), H', ⟨by have := HK1.out; first | omega | exact Nat.le_refl _⟩, by repeat (first | exact Drawn0.refl _ | apply Drawn0.step)⟩
        ·
         rw [if_neg c8] at H
         have c8b0 : ((bt a0 x4_1) == 45) = false := beq_eq_false_iff_ne.mpr c8
         have c8b1 : ((bt a0 x4_1) != 45) = true := bne_iff_ne.mpr c8
         have H' := Aside0.mk H
         clear H
         go_wp2
         go_meet
         case rel => exact ⟨_, (((bt a0 x4_1) == 95)), (by first | rfl | (simp; done) | (simp [*]; done)), H', ⟨by have := HK1.out; first | omega | exact Nat.le_refl _⟩, by repeat (first | exact Drawn0.refl _ | apply Drawn0.step)⟩
     case rest =>
      clear HC5
      try clear c2
      try clear c2b0
      try clear p2
      try clear c3
      try clear c3b0
      try clear p4
      try clear q4
      try clear hx4
      try clear c6
      try clear c6b0
      try clear c6b1
      try clear c7
      try clear c7b0
      try clear c7b1
      try clear c8
      try clear c8b0
      try clear c8b1
      try clear p4
      try clear q4
      obtain ⟨kq, x15_4, rfl, HA, HJ4, ⟨mc4, rfl⟩⟩ := hcut
      cases kq with
      | zero => exact absurd HA.out (by simp [spec_RefAlgorithm.j1])
      | succ kj4 =>
       have H := HA.out
       clear HA
       simp only [spec_RefAlgorithm.j1] at H
       by_cases c9 : x15_4 = true
       ·
        subst c9
        have H1 : (if x3_1 = true then (some false) else (spec_RefAlgorithm.l0 kj4 a0 true (wrap64 (x4_1 + 1)))) = some r := by rw [if_pos rfl] at H; exact H
        clear H
        have H := H1
        clear H1
        by_cases c10 : x3_1 = true
        ·
         subst c10
         have H1 : (some false) = some r := by rw [if_pos rfl] at H; exact H
         clear H
         have H := H1
         clear H1
         obtain rfl := Option.some.inj H
         go_wp2
         go_ret
         exact ⟨by first | rfl | (simp; done) | (simp [*]; done) | (simp [bneNil]; done), by repeat (first | exact Drawn0.refl _ | apply Drawn0.step)⟩
        ·
         replace c10 := Bool.eq_false_iff.mpr c10
         subst c10
         have H1 : (spec_RefAlgorithm.l0 kj4 a0 true (wrap64 (x4_1 + 1))) = some r := by rw [if_neg (show ¬ (false = true) by decide)] at H; exact H
         clear H
         have H := H1
         clear H1
         have H' := Aside0.mk H
         clear H
         go_wp2
         go_roundg kj4
         case measure => have := HK1.out; have := HJ4.out; omega
         case rel => exact ⟨(true), (wrap64 (x4_1 + 1)), (by first | rfl | (simp; done) | (simp [*]; done)), (by first | rfl | (simp; done) | (simp [*]; done)), H', ⟨by have := HK1.out; have := HJ4.out; omega⟩, by repeat (first | exact Drawn0.refl _ | apply Drawn0.step)⟩
       ·
        replace c9 := Bool.eq_false_iff.mpr c9
        subst c9
        have H1 : (if x3_1 = true then ((spec_refAlnum.f (bt a0 x4_1)).bind fun t170 => (if t170 = true then ((spec_refDigit.f (bt a0 x4_1)).bind fun t171 => (spec_RefAlgorithm.j2 kj4 a0 x4_1 (bt a0 x4_1) t171)) else (spec_RefAlgorithm.j2 kj4 a0 x4_1 (bt a0 x4_1) true))) else (spec_RefAlgorithm.j2 kj4 a0 x4_1 (bt a0 x4_1) false)) = some r := by rw [if_neg (show ¬ (false = true) by decide)] at H; exact H
        clear H
        have H := H1
        clear H1
        have HC11 := Aside0.mk H
        clear H
        go_upto_region 11 with (fail)
        go_cut [31] (fun v31 wc => ∃ (kq : Nat) (x31_10 : Bool), v31 = .bool x31_10 ∧ Aside0 (spec_RefAlgorithm.j2 kq a0 x4_1 (bt a0 x4_1) x31_10 = some r) ∧ Aside0 (kq ≤ kj4) ∧ Drawn0 w wc)
        case first =>
         have H := HC11.out
         clear HC11
         by_cases c12 : x3_1 = true
         ·
          subst c12
          have H1 : ((spec_refAlnum.f (bt a0 x4_1)).bind fun t170 => (if t170 = true then ((spec_refDigit.f (bt a0 x4_1)).bind fun t171 => (spec_RefAlgorithm.j2 kj4 a0 x4_1 (bt a0 x4_1) t171)) else (spec_RefAlgorithm.j2 kj4 a0 x4_1 (bt a0 x4_1) true))) = some r := by rw [if_pos rfl] at H; exact H
          clear H
          have H := H1
          clear H1
          replace H := Option.bind_eq_some_iff.mp H
          obtain ⟨t170, A130, H⟩ := H
          replace H : (if t170 = true then ((spec_refDigit.f (bt a0 x4_1)).bind fun t171 => (spec_RefAlgorithm.j2 kj4 a0 x4_1 (bt a0 x4_1) t171)) else (spec_RefAlgorithm.j2 kj4 a0 x4_1 (bt a0 x4_1) true)) = some r := H
          have A13 := Aside0.mk A130
          clear A130
          by_cases c14 : t170 = true
          ·
           subst c14
           have H1 : ((spec_refDigit.f (bt a0 x4_1)).bind fun t171 => (spec_RefAlgorithm.j2 kj4 a0 x4_1 (bt a0 x4_1) t171)) = some r := by rw [if_pos rfl] at H; exact H
           clear H
           have H := H1
           clear H1
           replace H := Option.bind_eq_some_iff.mp H
           obtain ⟨t171, A150, H⟩ := H
           replace H : (spec_RefAlgorithm.j2 kj4 a0 x4_1 (bt a0 x4_1) t171) = some r := H
           have A15 := Aside0.mk A150
           clear A150
           have H' := Aside0.mk H
           clear H
           go_wp2_with (first | (go_at_call 40; (with_reducible refine (spec_refAlnum.calls (bt a0 x4_1) true _ A13.out).mono ?_); rintro e w' ⟨rfl, ⟨nd, rfl⟩⟩) | (go_at_call 33; (with_reducible refine (spec_refDigit.calls (bt a0 x4_1) t171 _ A15.out).mono ?_); rintro e w' ⟨rfl, ⟨nd, rfl⟩⟩))
           go_meet
           case rel => exact ⟨_, (t171), (by first | rfl | (simp; done) | (simp [*]; done)), H', ⟨by have := HK1.out; have := HJ4.out; first | omega | exact Nat.le_refl _⟩, by repeat (first | exact Drawn0.refl _ | apply Drawn0.step)⟩
          ·
           replace c14 := Bool.eq_false_iff.mpr c14
           subst c14
           have H1 : (spec_RefAlgorithm.j2 kj4 a0 x4_1 (bt a0 x4_1) true) = some r := by rw [if_neg (show ¬ (false = true) by decide)] at H; exact H
           clear H
           have H := H1
           clear H1
           have H' := Aside0.mk H
           clear H
           go_wp2_with (first | (go_at_call 40; (with_reducible refine (spec_refAlnum.calls (bt a0 x4_1) false _ A13.out).mono ?_); rintro e w' ⟨rfl, ⟨nd, rfl⟩⟩))
           go_meet
           case rel => exact ⟨_, (true), (by first | rfl | (simp; done) | (simp [*]; done)), H', ⟨by have := HK1.out; have := HJ4.out; first | omega | exact Nat.le_refl _⟩, by repeat (first | exact Drawn0.refl _ | apply Drawn0.step)⟩
         ·
          replace c12 := Bool.eq_false_iff.mpr c12
          subst c12
          have H1 : (spec_RefAlgorithm.j2 kj4 a0 x4_1 (bt a0 x4_1) false) = some r := by rw [if_neg (show ¬ (false = true) by decide)] at H; exact H
          clear H
          have H := H1
          clear H1
          have H' := Aside0.mk H
          clear H
          go_wp2
          go_meet
          case rel => exact ⟨_, (false), (by first | rfl | (simp; done) | (simp [*]; done)), H', ⟨by have := HK1.out; have := HJ4.out; first | omega | exact Nat.le_refl _⟩, by repeat (first | exact Drawn0.refl _ | apply Drawn0.step)⟩
        case rest =>
         clear HC11
         try clear c1
         try clear c2
         try clear c2b0
         try clear p2
         try clear c3
         try clear c3b0
         try clear c4
         try clear p4
         try clear q4
         try clear hx4
         try clear c6
         try clear c6b0
         try clear c6b1
         try clear p6
         try clear c7
         try clear c7b0
         try clear c7b1
         try clear c8
         try clear c8b0
         try clear c8b1
         try clear c9
         try clear c10
         try clear c12
         try clear c14
         try clear p2
         try clear p4
         try clear q4
         obtain ⟨kq, x31_10, rfl, HA, HJ10, ⟨mc10, rfl⟩⟩ := hcut
         cases kq with
         | zero => exact absurd HA.out (by simp [spec_RefAlgorithm.j2])
         | succ kj10 =>
          have H := HA.out
          clear HA
          simp only [spec_RefAlgorithm.j2] at H
          by_cases c16 : x31_10 = true
          ·
           subst c16
           have H1 : (some false) = some r := by rw [if_pos rfl] at H; exact H
           clear H
           have H := H1
           clear H1
           obtain rfl := Option.some.inj H
           go_wp2
           go_ret
           exact ⟨by first | rfl | (simp; done) | (simp [*]; done) | (simp [bneNil]; done), by repeat (first | exact Drawn0.refl _ | apply Drawn0.step)⟩
          ·
           replace c16 := Bool.eq_false_iff.mpr c16
           subst c16
           have H1 : ((spec_refAlnum.f (bt a0 x4_1)).bind fun t172 => (if t172 = true then (spec_RefAlgorithm.l0 kj10 a0 false (wrap64 (x4_1 + 1))) else (some false))) = some r := by rw [if_neg (show ¬ (false = true) by decide)] at H; exact H
           clear H
           have H := H1
           clear H1
           replace H := Option.bind_eq_some_iff.mp H
           obtain ⟨t172, A170, H⟩ := H
           replace H : (if t172 = true then (spec_RefAlgorithm.l0 kj10 a0 false (wrap64 (x4_1 + 1))) else (some false)) = some r := H
           have A17 := Aside0.mk A170
           clear A170
           by_cases c18 : t172 = true
           ·
            subst c18
            have H1 : (spec_RefAlgorithm.l0 kj10 a0 false (wrap64 (x4_1 + 1))) = some r := by rw [if_pos rfl] at H; exact H
            clear H
            have H := H1
            clear H1
            have H' := Aside0.mk H
            clear H
            go_wp2_with (first | ((with_reducible refine gate_callee (f := 40) rfl ?_); refine goesL_ (some 43) rfl rfl Try.func40 (by kernel_rfl) rfl #[.int .u8 (bt a0 x4_1)] rfl (by (try simp only [List.map_toArray, List.map_cons, List.map_nil]); first | done | rfl | (simp only [List.length_drop, List.length_take]; rfl)) ?_; (with_reducible refine (spec_refAlnum.calls (bt a0 x4_1) true _ A17.out).mono ?_); rintro e w' ⟨rfl, ⟨nd, rfl⟩⟩; refine ⟨_, rfl, ?_⟩))
            go_roundg kj10
            case measure => have := HK1.out; have := HJ4.out; have := HJ10.out; omega
            case rel => exact ⟨(false), (wrap64 (x4_1 + 1)), (by first | rfl | (simp; done) | (simp [*]; done)), (by first | rfl | (simp; done) | (simp [*]; done)), H', ⟨by have := HK1.out; have := HJ4.out; have := HJ10.out; omega⟩, by repeat (first | exact Drawn0.refl _ | apply Drawn0.step)⟩
           ·
            replace c18 := Bool.eq_false_iff.mpr c18
            subst c18
            have H1 : (some false) = some r := by rw [if_neg (show ¬ (false = true) by decide)] at H; exact H
            clear H
            have H := H1
            clear H1
            obtain rfl := Option.some.inj H
            go_wp2_with (first | ((with_reducible refine gate_callee (f := 40) rfl ?_); refine goesL_ (some 43) rfl rfl Try.func40 (by kernel_rfl) rfl #[.int .u8 (bt a0 x4_1)] rfl (by (try simp only [List.map_toArray, List.map_cons, List.map_nil]); first | done | rfl | (simp only [List.length_drop, List.length_take]; rfl)) ?_; (with_reducible refine (spec_refAlnum.calls (bt a0 x4_1) false _ A17.out).mono ?_); rintro e w' ⟨rfl, ⟨nd, rfl⟩⟩; refine ⟨_, rfl, ?_⟩))
            go_ret
            exact ⟨by first | rfl | (simp; done) | (simp [*]; done) | (simp [bneNil]; done), by repeat (first | exact Drawn0.refl _ | apply Drawn0.step)⟩
    ·
     rw [if_neg c3] at H
     exact absurd H (by simp)
   ·
    rw [if_neg c2] at H
    have c2b0 : decide (x4_1 < (a0.size : Int)) = false := decide_eq_false c2
    clear c2
    obtain rfl := Option.some.inj H
    go_wp2
    go_ret
    exact ⟨by first | rfl | (simp; done) | (simp [*]; done) | (simp [bneNil]; done), by repeat (first | exact Drawn0.refl _ | apply Drawn0.step)⟩

def spec_refHex.f (a0 : Int) : Option (Bool) := (spec_refDigit.f a0).bind fun t173 => (if t173 = true then (some true) else (if 97 ≤ a0 then (if a0 ≤ 102 then (some true) else (if 65 ≤ a0 then (some (decide (a0 ≤ 70))) else (some false))) else (if 65 ≤ a0 then (some (decide (a0 ≤ 70))) else (some false))))

set_option maxHeartbeats 80000000 in
set_option maxRecDepth 100000 in
theorem spec_refHex.calls (a0 : Int) (r : Bool) (w : World) (h : spec_refHex.f a0 = some r) :
  Calls Try.prog 29 #[.int .u8 a0] w fun e w' => e = .returned (.bool r) ∧ Drawn0 w w' := by
 have H : ((spec_refDigit.f a0).bind fun t173 => (if t173 = true then (some true) else (if 97 ≤ a0 then (if a0 ≤ 102 then (some true) else (if 65 ≤ a0 then (some (decide (a0 ≤ 70))) else (some false))) else (if 65 ≤ a0 then (some (decide (a0 ≤ 70))) else (some false))))) = some r := h
 clear h
 replace H := Option.bind_eq_some_iff.mp H
 obtain ⟨t173, A20, H⟩ := H
 replace H : (if t173 = true then (some true) else (if 97 ≤ a0 then (if a0 ≤ 102 then (some true) else (if 65 ≤ a0 then (some (decide (a0 ≤ 70))) else (some false))) else (if 65 ≤ a0 then (some (decide (a0 ≤ 70))) else (some false)))) = some r := H
 have A2 := Aside0.mk A20
 clear A20
 by_cases c3 : t173 = true
 ·
  subst c3
  have H1 : (some true) = some r := by rw [if_pos rfl] at H; exact H
  clear H
  have H := H1
  clear H1
  obtain rfl := Option.some.inj H
  go_enter Try.func29, Try.ntmps29
  go_wp2_with (first | ((with_reducible refine gate_callee (f := 33) rfl ?_); refine goesL_ (some 4) rfl rfl Try.func33 (by kernel_rfl) rfl #[.int .u8 a0] rfl (by (try simp only [List.map_toArray, List.map_cons, List.map_nil]); first | done | rfl | (simp only [List.length_drop, List.length_take]; rfl)) ?_; (with_reducible refine (spec_refDigit.calls a0 true _ A2.out).mono ?_); rintro e w' ⟨rfl, ⟨nd, rfl⟩⟩; refine ⟨_, rfl, ?_⟩))
  go_ret
  exact ⟨by first | rfl | (simp; done) | (simp [*]; done) | (simp [bneNil]; done), by repeat (first | exact Drawn0.refl _ | apply Drawn0.step)⟩
 ·
  replace c3 := Bool.eq_false_iff.mpr c3
  subst c3
  have H1 : (if 97 ≤ a0 then (if a0 ≤ 102 then (some true) else (if 65 ≤ a0 then (some (decide (a0 ≤ 70))) else (some false))) else (if 65 ≤ a0 then (some (decide (a0 ≤ 70))) else (some false))) = some r := by rw [if_neg (show ¬ (false = true) by decide)] at H; exact H
  clear H
  have H := H1
  clear H1
  by_cases c4 : 97 ≤ a0
  ·
   rw [if_pos c4] at H
   have c4b0 : decide (97 ≤ a0) = true := decide_eq_true c4
   clear c4
   by_cases c5 : a0 ≤ 102
   ·
    rw [if_pos c5] at H
    have c5b0 : decide (a0 ≤ 102) = true := decide_eq_true c5
    clear c5
    obtain rfl := Option.some.inj H
    go_enter Try.func29, Try.ntmps29
    go_wp2_with (first | ((with_reducible refine gate_callee (f := 33) rfl ?_); refine goesL_ (some 4) rfl rfl Try.func33 (by kernel_rfl) rfl #[.int .u8 a0] rfl (by (try simp only [List.map_toArray, List.map_cons, List.map_nil]); first | done | rfl | (simp only [List.length_drop, List.length_take]; rfl)) ?_; (with_reducible refine (spec_refDigit.calls a0 false _ A2.out).mono ?_); rintro e w' ⟨rfl, ⟨nd, rfl⟩⟩; refine ⟨_, rfl, ?_⟩))
    go_ret
    exact ⟨by first | rfl | (simp; done) | (simp [*]; done) | (simp [bneNil]; done), by repeat (first | exact Drawn0.refl _ | apply Drawn0.step)⟩
   ·
    rw [if_neg c5] at H
    have c5b0 : decide (a0 ≤ 102) = false := decide_eq_false c5
    clear c5
    by_cases c6 : 65 ≤ a0
    ·
     rw [if_pos c6] at H
     have c6b0 : decide (65 ≤ a0) = true := decide_eq_true c6
     clear c6
     obtain rfl := Option.some.inj H
     go_enter Try.func29, Try.ntmps29
     go_wp2_with (first | ((with_reducible refine gate_callee (f := 33) rfl ?_); refine goesL_ (some 4) rfl rfl Try.func33 (by kernel_rfl) rfl #[.int .u8 a0] rfl (by (try simp only [List.map_toArray, List.map_cons, List.map_nil]); first | done | rfl | (simp only [List.length_drop, List.length_take]; rfl)) ?_; (with_reducible refine (spec_refDigit.calls a0 false _ A2.out).mono ?_); rintro e w' ⟨rfl, ⟨nd, rfl⟩⟩; refine ⟨_, rfl, ?_⟩))
     go_ret
     exact ⟨by first | rfl | (simp; done) | (simp [*]; done) | (simp [bneNil]; done), by repeat (first | exact Drawn0.refl _ | apply Drawn0.step)⟩
    ·
     rw [if_neg c6] at H
     have c6b0 : decide (65 ≤ a0) = false := decide_eq_false c6
     clear c6
     obtain rfl := Option.some.inj H
     go_enter Try.func29, Try.ntmps29
     go_wp2_with (first | ((with_reducible refine gate_callee (f := 33) rfl ?_); refine goesL_ (some 4) rfl rfl Try.func33 (by kernel_rfl) rfl #[.int .u8 a0] rfl (by (try simp only [List.map_toArray, List.map_cons, List.map_nil]); first | done | rfl | (simp only [List.length_drop, List.length_take]; rfl)) ?_; (with_reducible refine (spec_refDigit.calls a0 false _ A2.out).mono ?_); rintro e w' ⟨rfl, ⟨nd, rfl⟩⟩; refine ⟨_, rfl, ?_⟩))
     go_ret
     exact ⟨by first | rfl | (simp; done) | (simp [*]; done) | (simp [bneNil]; done), by repeat (first | exact Drawn0.refl _ | apply Drawn0.step)⟩
  ·
   rw [if_neg c4] at H
   have c4b0 : decide (97 ≤ a0) = false := decide_eq_false c4
   clear c4
   by_cases c7 : 65 ≤ a0
   ·
    rw [if_pos c7] at H
    have c7b0 : decide (65 ≤ a0) = true := decide_eq_true c7
    clear c7
    obtain rfl := Option.some.inj H
    go_enter Try.func29, Try.ntmps29
    go_wp2_with (first | ((with_reducible refine gate_callee (f := 33) rfl ?_); refine goesL_ (some 4) rfl rfl Try.func33 (by kernel_rfl) rfl #[.int .u8 a0] rfl (by (try simp only [List.map_toArray, List.map_cons, List.map_nil]); first | done | rfl | (simp only [List.length_drop, List.length_take]; rfl)) ?_; (with_reducible refine (spec_refDigit.calls a0 false _ A2.out).mono ?_); rintro e w' ⟨rfl, ⟨nd, rfl⟩⟩; refine ⟨_, rfl, ?_⟩))
    go_ret
    exact ⟨by first | rfl | (simp; done) | (simp [*]; done) | (simp [bneNil]; done), by repeat (first | exact Drawn0.refl _ | apply Drawn0.step)⟩
   ·
    rw [if_neg c7] at H
    have c7b0 : decide (65 ≤ a0) = false := decide_eq_false c7
    clear c7
    obtain rfl := Option.some.inj H
    go_enter Try.func29, Try.ntmps29
    go_wp2_with (first | ((with_reducible refine gate_callee (f := 33) rfl ?_); refine goesL_ (some 4) rfl rfl Try.func33 (by kernel_rfl) rfl #[.int .u8 a0] rfl (by (try simp only [List.map_toArray, List.map_cons, List.map_nil]); first | done | rfl | (simp only [List.length_drop, List.length_take]; rfl)) ?_; (with_reducible refine (spec_refDigit.calls a0 false _ A2.out).mono ?_); rintro e w' ⟨rfl, ⟨nd, rfl⟩⟩; refine ⟨_, rfl, ?_⟩))
    go_ret
    exact ⟨by first | rfl | (simp; done) | (simp [*]; done) | (simp [bneNil]; done), by repeat (first | exact Drawn0.refl _ | apply Drawn0.step)⟩

def spec_refSmallHex.f (a0 : Int) : Option (Bool) := (spec_refDigit.f a0).bind fun t174 => (if t174 = true then (some true) else (if 97 ≤ a0 then (some (decide (a0 ≤ 102))) else (some false)))

set_option maxHeartbeats 80000000 in
set_option maxRecDepth 100000 in
theorem spec_refSmallHex.calls (a0 : Int) (r : Bool) (w : World) (h : spec_refSmallHex.f a0 = some r) :
    Calls Try.prog 39 #[.int .u8 a0] w fun e w' => e = .returned (.bool r) ∧ Drawn0 w w' := by
  have H : ((spec_refDigit.f a0).bind fun t174 => (if t174 = true then (some true) else (if 97 ≤ a0 then (some (decide (a0 ≤ 102))) else (some false)))) = some r := h
  clear h
  replace H := Option.bind_eq_some_iff.mp H
  obtain ⟨t174, A20, H⟩ := H
  replace H : (if t174 = true then (some true) else (if 97 ≤ a0 then (some (decide (a0 ≤ 102))) else (some false))) = some r := H
  have A2 := Aside0.mk A20
  clear A20
  by_cases c3 : t174 = true
  · subst c3
    have H1 : (some true) = some r := by rw [if_pos rfl] at H; exact H
    clear H
    have H := H1
    clear H1
    obtain rfl := Option.some.inj H
    go_enter Try.func39, Try.ntmps39
    go_wp2_with (first | ((with_reducible refine gate_callee (f := 33) rfl ?_); refine goesL_ (some 4) rfl rfl Try.func33 (by kernel_rfl) rfl #[.int .u8 a0] rfl (by (try simp only [List.map_toArray, List.map_cons, List.map_nil]); first | done | rfl | (simp only [List.length_drop, List.length_take]; rfl)) ?_; (with_reducible refine (spec_refDigit.calls a0 true _ A2.out).mono ?_); rintro e w' ⟨rfl, ⟨nd, rfl⟩⟩; refine ⟨_, rfl, ?_⟩))
    go_ret
    exact ⟨by first | rfl | (simp; done) | (simp [*]; done) | (simp [bneNil]; done), by repeat (first | exact Drawn0.refl _ | apply Drawn0.step)⟩
  · replace c3 := Bool.eq_false_iff.mpr c3
    subst c3
    have H1 : (if 97 ≤ a0 then (some (decide (a0 ≤ 102))) else (some false)) = some r := by rw [if_neg (show ¬ (false = true) by decide)] at H; exact H
    clear H
    have H := H1
    clear H1
    by_cases c4 : 97 ≤ a0
    · rw [if_pos c4] at H
      have c4b0 : decide (97 ≤ a0) = true := decide_eq_true c4
      clear c4
      obtain rfl := Option.some.inj H
      go_enter Try.func39, Try.ntmps39
      go_wp2_with (first | ((with_reducible refine gate_callee (f := 33) rfl ?_); refine goesL_ (some 4) rfl rfl Try.func33 (by kernel_rfl) rfl #[.int .u8 a0] rfl (by (try simp only [List.map_toArray, List.map_cons, List.map_nil]); first | done | rfl | (simp only [List.length_drop, List.length_take]; rfl)) ?_; (with_reducible refine (spec_refDigit.calls a0 false _ A2.out).mono ?_); rintro e w' ⟨rfl, ⟨nd, rfl⟩⟩; refine ⟨_, rfl, ?_⟩))
      go_ret
      exact ⟨by first | rfl | (simp; done) | (simp [*]; done) | (simp [bneNil]; done), by repeat (first | exact Drawn0.refl _ | apply Drawn0.step)⟩
    · rw [if_neg c4] at H
      have c4b0 : decide (97 ≤ a0) = false := decide_eq_false c4
      clear c4
      obtain rfl := Option.some.inj H
      go_enter Try.func39, Try.ntmps39
      go_wp2_with (first | ((with_reducible refine gate_callee (f := 33) rfl ?_); refine goesL_ (some 4) rfl rfl Try.func33 (by kernel_rfl) rfl #[.int .u8 a0] rfl (by (try simp only [List.map_toArray, List.map_cons, List.map_nil]); first | done | rfl | (simp only [List.length_drop, List.length_take]; rfl)) ?_; (with_reducible refine (spec_refDigit.calls a0 false _ A2.out).mono ?_); rintro e w' ⟨rfl, ⟨nd, rfl⟩⟩; refine ⟨_, rfl, ?_⟩))
      go_ret
      exact ⟨by first | rfl | (simp; done) | (simp [*]; done) | (simp [bneNil]; done), by repeat (first | exact Drawn0.refl _ | apply Drawn0.step)⟩

def spec_refWord.f (a0 : Int) : Option (Bool) := (spec_refAlnum.f a0).bind fun t175 => (if t175 = true then (some true) else (some (a0 == 95)))

set_option maxHeartbeats 80000000 in
set_option maxRecDepth 100000 in
theorem spec_refWord.calls (a0 : Int) (r : Bool) (w : World) (h : spec_refWord.f a0 = some r) :
    Calls Try.prog 31 #[.int .u8 a0] w fun e w' => e = .returned (.bool r) ∧ Drawn0 w w' := by
  have H : ((spec_refAlnum.f a0).bind fun t175 => (if t175 = true then (some true) else (some (a0 == 95)))) = some r := h
  clear h
  replace H := Option.bind_eq_some_iff.mp H
  obtain ⟨t175, A20, H⟩ := H
  replace H : (if t175 = true then (some true) else (some (a0 == 95))) = some r := H
  have A2 := Aside0.mk A20
  clear A20
  by_cases c3 : t175 = true
  · subst c3
    have H1 : (some true) = some r := by rw [if_pos rfl] at H; exact H
    clear H
    have H := H1
    clear H1
    obtain rfl := Option.some.inj H
    go_enter Try.func31, Try.ntmps31
    go_wp2_with (first | ((with_reducible refine gate_callee (f := 40) rfl ?_); refine goesL_ (some 4) rfl rfl Try.func40 (by kernel_rfl) rfl #[.int .u8 a0] rfl (by (try simp only [List.map_toArray, List.map_cons, List.map_nil]); first | done | rfl | (simp only [List.length_drop, List.length_take]; rfl)) ?_; (with_reducible refine (spec_refAlnum.calls a0 true _ A2.out).mono ?_); rintro e w' ⟨rfl, ⟨nd, rfl⟩⟩; refine ⟨_, rfl, ?_⟩))
    go_ret
    exact ⟨by first | rfl | (simp; done) | (simp [*]; done) | (simp [bneNil]; done), by repeat (first | exact Drawn0.refl _ | apply Drawn0.step)⟩
  · replace c3 := Bool.eq_false_iff.mpr c3
    subst c3
    have H1 : (some (a0 == 95)) = some r := by rw [if_neg (show ¬ (false = true) by decide)] at H; exact H
    clear H
    have H := H1
    clear H1
    obtain rfl := Option.some.inj H
    go_enter Try.func31, Try.ntmps31
    go_wp2_with (first | ((with_reducible refine gate_callee (f := 40) rfl ?_); refine goesL_ (some 4) rfl rfl Try.func40 (by kernel_rfl) rfl #[.int .u8 a0] rfl (by (try simp only [List.map_toArray, List.map_cons, List.map_nil]); first | done | rfl | (simp only [List.length_drop, List.length_take]; rfl)) ?_; (with_reducible refine (spec_refAlnum.calls a0 false _ A2.out).mono ?_); rintro e w' ⟨rfl, ⟨nd, rfl⟩⟩; refine ⟨_, rfl, ?_⟩))
    go_ret
    exact ⟨by first | rfl | (simp; done) | (simp [*]; done) | (simp [bneNil]; done), by repeat (first | exact Drawn0.refl _ | apply Drawn0.step)⟩

def spec_RefIsTag_1.f (a0 : Int) : Option (Bool) := (spec_refWord.f a0).bind fun t176 => (if t176 = true then (some true) else (if a0 = 46 then (some true) else (some (a0 == 45))))

set_option maxHeartbeats 80000000 in
set_option maxRecDepth 100000 in
theorem spec_RefIsTag_1.calls (a0 : Int) (r : Bool) (w : World) (h : spec_RefIsTag_1.f a0 = some r) :
    Calls Try.prog 30 #[.int .u8 a0] w fun e w' => e = .returned (.bool r) ∧ Drawn0 w w' := by
  have H : ((spec_refWord.f a0).bind fun t176 => (if t176 = true then (some true) else (if a0 = 46 then (some true) else (some (a0 == 45))))) = some r := h
  clear h
  replace H := Option.bind_eq_some_iff.mp H
  obtain ⟨t176, A20, H⟩ := H
  replace H : (if t176 = true then (some true) else (if a0 = 46 then (some true) else (some (a0 == 45)))) = some r := H
  have A2 := Aside0.mk A20
  clear A20
  by_cases c3 : t176 = true
  · subst c3
    have H1 : (some true) = some r := by rw [if_pos rfl] at H; exact H
    clear H
    have H := H1
    clear H1
    obtain rfl := Option.some.inj H
    go_enter Try.func30, Try.ntmps30
    go_wp2_with (first | ((with_reducible refine gate_callee (f := 31) rfl ?_); refine goesL_ (some 4) rfl rfl Try.func31 (by kernel_rfl) rfl #[.int .u8 a0] rfl (by (try simp only [List.map_toArray, List.map_cons, List.map_nil]); first | done | rfl | (simp only [List.length_drop, List.length_take]; rfl)) ?_; (with_reducible refine (spec_refWord.calls a0 true _ A2.out).mono ?_); rintro e w' ⟨rfl, ⟨nd, rfl⟩⟩; refine ⟨_, rfl, ?_⟩))
    go_ret
    exact ⟨by first | rfl | (simp; done) | (simp [*]; done) | (simp [bneNil]; done), by repeat (first | exact Drawn0.refl _ | apply Drawn0.step)⟩
  · replace c3 := Bool.eq_false_iff.mpr c3
    subst c3
    have H1 : (if a0 = 46 then (some true) else (some (a0 == 45))) = some r := by rw [if_neg (show ¬ (false = true) by decide)] at H; exact H
    clear H
    have H := H1
    clear H1
    by_cases c4 : a0 = 46
    · rw [if_pos c4] at H
      have c4b0 : (a0 == 46) = true := beq_iff_eq.mpr c4
      have c4b1 : (a0 != 46) = false := bne_eq_false_iff_eq.mpr c4
      clear c4
      obtain rfl := Option.some.inj H
      go_enter Try.func30, Try.ntmps30
      go_wp2_with (first | ((with_reducible refine gate_callee (f := 31) rfl ?_); refine goesL_ (some 4) rfl rfl Try.func31 (by kernel_rfl) rfl #[.int .u8 a0] rfl (by (try simp only [List.map_toArray, List.map_cons, List.map_nil]); first | done | rfl | (simp only [List.length_drop, List.length_take]; rfl)) ?_; (with_reducible refine (spec_refWord.calls a0 false _ A2.out).mono ?_); rintro e w' ⟨rfl, ⟨nd, rfl⟩⟩; refine ⟨_, rfl, ?_⟩))
      go_ret
      exact ⟨by first | rfl | (simp; done) | (simp [*]; done) | (simp [bneNil]; done), by repeat (first | exact Drawn0.refl _ | apply Drawn0.step)⟩
    · rw [if_neg c4] at H
      have c4b0 : (a0 == 46) = false := beq_eq_false_iff_ne.mpr c4
      have c4b1 : (a0 != 46) = true := bne_iff_ne.mpr c4
      obtain rfl := Option.some.inj H
      go_enter Try.func30, Try.ntmps30
      go_wp2_with (first | ((with_reducible refine gate_callee (f := 31) rfl ?_); refine goesL_ (some 4) rfl rfl Try.func31 (by kernel_rfl) rfl #[.int .u8 a0] rfl (by (try simp only [List.map_toArray, List.map_cons, List.map_nil]); first | done | rfl | (simp only [List.length_drop, List.length_take]; rfl)) ?_; (with_reducible refine (spec_refWord.calls a0 false _ A2.out).mono ?_); rintro e w' ⟨rfl, ⟨nd, rfl⟩⟩; refine ⟨_, rfl, ?_⟩))
      go_ret
      exact ⟨by first | rfl | (simp; done) | (simp [*]; done) | (simp [bneNil]; done), by repeat (first | exact Drawn0.refl _ | apply Drawn0.step)⟩

def spec_DigestForm_1.f (a0 : Int) : Option (Bool) := (spec_refWord.f a0).bind fun t177 => (if t177 = true then (some true) else (if a0 = 61 then (some true) else (some (a0 == 45))))

set_option maxHeartbeats 80000000 in
set_option maxRecDepth 100000 in
theorem spec_DigestForm_1.calls (a0 : Int) (r : Bool) (w : World) (h : spec_DigestForm_1.f a0 = some r) :
    Calls Try.prog 37 #[.int .u8 a0] w fun e w' => e = .returned (.bool r) ∧ Drawn0 w w' := by
  have H : ((spec_refWord.f a0).bind fun t177 => (if t177 = true then (some true) else (if a0 = 61 then (some true) else (some (a0 == 45))))) = some r := h
  clear h
  replace H := Option.bind_eq_some_iff.mp H
  obtain ⟨t177, A20, H⟩ := H
  replace H : (if t177 = true then (some true) else (if a0 = 61 then (some true) else (some (a0 == 45)))) = some r := H
  have A2 := Aside0.mk A20
  clear A20
  by_cases c3 : t177 = true
  · subst c3
    have H1 : (some true) = some r := by rw [if_pos rfl] at H; exact H
    clear H
    have H := H1
    clear H1
    obtain rfl := Option.some.inj H
    go_enter Try.func37, Try.ntmps37
    go_wp2_with (first | ((with_reducible refine gate_callee (f := 31) rfl ?_); refine goesL_ (some 4) rfl rfl Try.func31 (by kernel_rfl) rfl #[.int .u8 a0] rfl (by (try simp only [List.map_toArray, List.map_cons, List.map_nil]); first | done | rfl | (simp only [List.length_drop, List.length_take]; rfl)) ?_; (with_reducible refine (spec_refWord.calls a0 true _ A2.out).mono ?_); rintro e w' ⟨rfl, ⟨nd, rfl⟩⟩; refine ⟨_, rfl, ?_⟩))
    go_ret
    exact ⟨by first | rfl | (simp; done) | (simp [*]; done) | (simp [bneNil]; done), by repeat (first | exact Drawn0.refl _ | apply Drawn0.step)⟩
  · replace c3 := Bool.eq_false_iff.mpr c3
    subst c3
    have H1 : (if a0 = 61 then (some true) else (some (a0 == 45))) = some r := by rw [if_neg (show ¬ (false = true) by decide)] at H; exact H
    clear H
    have H := H1
    clear H1
    by_cases c4 : a0 = 61
    · rw [if_pos c4] at H
      have c4b0 : (a0 == 61) = true := beq_iff_eq.mpr c4
      have c4b1 : (a0 != 61) = false := bne_eq_false_iff_eq.mpr c4
      clear c4
      obtain rfl := Option.some.inj H
      go_enter Try.func37, Try.ntmps37
      go_wp2_with (first | ((with_reducible refine gate_callee (f := 31) rfl ?_); refine goesL_ (some 4) rfl rfl Try.func31 (by kernel_rfl) rfl #[.int .u8 a0] rfl (by (try simp only [List.map_toArray, List.map_cons, List.map_nil]); first | done | rfl | (simp only [List.length_drop, List.length_take]; rfl)) ?_; (with_reducible refine (spec_refWord.calls a0 false _ A2.out).mono ?_); rintro e w' ⟨rfl, ⟨nd, rfl⟩⟩; refine ⟨_, rfl, ?_⟩))
      go_ret
      exact ⟨by first | rfl | (simp; done) | (simp [*]; done) | (simp [bneNil]; done), by repeat (first | exact Drawn0.refl _ | apply Drawn0.step)⟩
    · rw [if_neg c4] at H
      have c4b0 : (a0 == 61) = false := beq_eq_false_iff_ne.mpr c4
      have c4b1 : (a0 != 61) = true := bne_iff_ne.mpr c4
      obtain rfl := Option.some.inj H
      go_enter Try.func37, Try.ntmps37
      go_wp2_with (first | ((with_reducible refine gate_callee (f := 31) rfl ?_); refine goesL_ (some 4) rfl rfl Try.func31 (by kernel_rfl) rfl #[.int .u8 a0] rfl (by (try simp only [List.map_toArray, List.map_cons, List.map_nil]); first | done | rfl | (simp only [List.length_drop, List.length_take]; rfl)) ?_; (with_reducible refine (spec_refWord.calls a0 false _ A2.out).mono ?_); rintro e w' ⟨rfl, ⟨nd, rfl⟩⟩; refine ⟨_, rfl, ?_⟩))
      go_ret
      exact ⟨by first | rfl | (simp; done) | (simp [*]; done) | (simp [bneNil]; done), by repeat (first | exact Drawn0.refl _ | apply Drawn0.step)⟩

def spec_RefHost_1.f (a0 : Int) : Option (Bool) := (spec_refHex.f a0).bind fun t178 => (if t178 = true then (some true) else (some (a0 == 58)))

set_option maxHeartbeats 80000000 in
set_option maxRecDepth 100000 in
theorem spec_RefHost_1.calls (a0 : Int) (r : Bool) (w : World) (h : spec_RefHost_1.f a0 = some r) :
    Calls Try.prog 42 #[.int .u8 a0] w fun e w' => e = .returned (.bool r) ∧ Drawn0 w w' := by
  have H : ((spec_refHex.f a0).bind fun t178 => (if t178 = true then (some true) else (some (a0 == 58)))) = some r := h
  clear h
  replace H := Option.bind_eq_some_iff.mp H
  obtain ⟨t178, A20, H⟩ := H
  replace H : (if t178 = true then (some true) else (some (a0 == 58))) = some r := H
  have A2 := Aside0.mk A20
  clear A20
  by_cases c3 : t178 = true
  · subst c3
    have H1 : (some true) = some r := by rw [if_pos rfl] at H; exact H
    clear H
    have H := H1
    clear H1
    obtain rfl := Option.some.inj H
    go_enter Try.func42, Try.ntmps42
    go_wp2_with (first | ((with_reducible refine gate_callee (f := 29) rfl ?_); refine goesL_ (some 4) rfl rfl Try.func29 (by kernel_rfl) rfl #[.int .u8 a0] rfl (by (try simp only [List.map_toArray, List.map_cons, List.map_nil]); first | done | rfl | (simp only [List.length_drop, List.length_take]; rfl)) ?_; (with_reducible refine (spec_refHex.calls a0 true _ A2.out).mono ?_); rintro e w' ⟨rfl, ⟨nd, rfl⟩⟩; refine ⟨_, rfl, ?_⟩))
    go_ret
    exact ⟨by first | rfl | (simp; done) | (simp [*]; done) | (simp [bneNil]; done), by repeat (first | exact Drawn0.refl _ | apply Drawn0.step)⟩
  · replace c3 := Bool.eq_false_iff.mpr c3
    subst c3
    have H1 : (some (a0 == 58)) = some r := by rw [if_neg (show ¬ (false = true) by decide)] at H; exact H
    clear H
    have H := H1
    clear H1
    obtain rfl := Option.some.inj H
    go_enter Try.func42, Try.ntmps42
    go_wp2_with (first | ((with_reducible refine gate_callee (f := 29) rfl ?_); refine goesL_ (some 4) rfl rfl Try.func29 (by kernel_rfl) rfl #[.int .u8 a0] rfl (by (try simp only [List.map_toArray, List.map_cons, List.map_nil]); first | done | rfl | (simp only [List.length_drop, List.length_take]; rfl)) ?_; (with_reducible refine (spec_refHex.calls a0 false _ A2.out).mono ?_); rintro e w' ⟨rfl, ⟨nd, rfl⟩⟩; refine ⟨_, rfl, ?_⟩))
    go_ret
    exact ⟨by first | rfl | (simp; done) | (simp [*]; done) | (simp [bneNil]; done), by repeat (first | exact Drawn0.refl _ | apply Drawn0.step)⟩

def spec_RefComponent_1.f (a0 : Int) : Option (Bool) := (spec_refLower.f a0).bind fun t179 => (some (!t179))

set_option maxHeartbeats 80000000 in
set_option maxRecDepth 100000 in
theorem spec_RefComponent_1.calls (a0 : Int) (r : Bool) (w : World) (h : spec_RefComponent_1.f a0 = some r) :
    Calls Try.prog 44 #[.int .u8 a0] w fun e w' => e = .returned (.bool r) ∧ Drawn0 w w' := by
  have H : ((spec_refLower.f a0).bind fun t179 => (some (!t179))) = some r := h
  clear h
  replace H := Option.bind_eq_some_iff.mp H
  obtain ⟨t179, A20, H⟩ := H
  replace H : (some (!t179)) = some r := H
  have A2 := Aside0.mk A20
  clear A20
  obtain rfl := Option.some.inj H
  go_enter Try.func44, Try.ntmps44
  go_wp2_with (first | ((with_reducible refine gate_callee (f := 38) rfl ?_); refine goesL_ (some 4) rfl rfl Try.func38 (by kernel_rfl) rfl #[.int .u8 a0] rfl (by (try simp only [List.map_toArray, List.map_cons, List.map_nil]); first | done | rfl | (simp only [List.length_drop, List.length_take]; rfl)) ?_; (with_reducible refine (spec_refLower.calls a0 t179 _ A2.out).mono ?_); rintro e w' ⟨rfl, ⟨nd, rfl⟩⟩; refine ⟨_, rfl, ?_⟩))
  go_ret
  exact ⟨by first | rfl | (simp; done) | (simp [*]; done) | (simp [bneNil]; done), by repeat (first | exact Drawn0.refl _ | apply Drawn0.step)⟩

def spec_RefLabel_1.f (a0 : Int) : Option (Bool) := (spec_refAlnum.f a0).bind fun t180 => (if t180 = true then (some true) else (some (a0 == 45)))

set_option maxHeartbeats 80000000 in
set_option maxRecDepth 100000 in
theorem spec_RefLabel_1.calls (a0 : Int) (r : Bool) (w : World) (h : spec_RefLabel_1.f a0 = some r) :
    Calls Try.prog 46 #[.int .u8 a0] w fun e w' => e = .returned (.bool r) ∧ Drawn0 w w' := by
  have H : ((spec_refAlnum.f a0).bind fun t180 => (if t180 = true then (some true) else (some (a0 == 45)))) = some r := h
  clear h
  replace H := Option.bind_eq_some_iff.mp H
  obtain ⟨t180, A20, H⟩ := H
  replace H : (if t180 = true then (some true) else (some (a0 == 45))) = some r := H
  have A2 := Aside0.mk A20
  clear A20
  by_cases c3 : t180 = true
  · subst c3
    have H1 : (some true) = some r := by rw [if_pos rfl] at H; exact H
    clear H
    have H := H1
    clear H1
    obtain rfl := Option.some.inj H
    go_enter Try.func46, Try.ntmps46
    go_wp2_with (first | ((with_reducible refine gate_callee (f := 40) rfl ?_); refine goesL_ (some 4) rfl rfl Try.func40 (by kernel_rfl) rfl #[.int .u8 a0] rfl (by (try simp only [List.map_toArray, List.map_cons, List.map_nil]); first | done | rfl | (simp only [List.length_drop, List.length_take]; rfl)) ?_; (with_reducible refine (spec_refAlnum.calls a0 true _ A2.out).mono ?_); rintro e w' ⟨rfl, ⟨nd, rfl⟩⟩; refine ⟨_, rfl, ?_⟩))
    go_ret
    exact ⟨by first | rfl | (simp; done) | (simp [*]; done) | (simp [bneNil]; done), by repeat (first | exact Drawn0.refl _ | apply Drawn0.step)⟩
  · replace c3 := Bool.eq_false_iff.mpr c3
    subst c3
    have H1 : (some (a0 == 45)) = some r := by rw [if_neg (show ¬ (false = true) by decide)] at H; exact H
    clear H
    have H := H1
    clear H1
    obtain rfl := Option.some.inj H
    go_enter Try.func46, Try.ntmps46
    go_wp2_with (first | ((with_reducible refine gate_callee (f := 40) rfl ?_); refine goesL_ (some 4) rfl rfl Try.func40 (by kernel_rfl) rfl #[.int .u8 a0] rfl (by (try simp only [List.map_toArray, List.map_cons, List.map_nil]); first | done | rfl | (simp only [List.length_drop, List.length_take]; rfl)) ?_; (with_reducible refine (spec_refAlnum.calls a0 false _ A2.out).mono ?_); rintro e w' ⟨rfl, ⟨nd, rfl⟩⟩; refine ⟨_, rfl, ?_⟩))
    go_ret
    exact ⟨by first | rfl | (simp; done) | (simp [*]; done) | (simp [bneNil]; done), by repeat (first | exact Drawn0.refl _ | apply Drawn0.step)⟩

def spec_RefSeparator_1.f (a0 : Int) : Option (Bool) := some (a0 == 45)

set_option maxHeartbeats 80000000 in
set_option maxRecDepth 100000 in
theorem spec_RefSeparator_1.calls (a0 : Int) (r : Bool) (w : World) (h : spec_RefSeparator_1.f a0 = some r) :
    Calls Try.prog 47 #[.int .u8 a0] w fun e w' => e = .returned (.bool r) ∧ Drawn0 w w' := by
  have H : (some (a0 == 45)) = some r := h
  clear h
  obtain rfl := Option.some.inj H
  go_enter Try.func47, Try.ntmps47
  go_wp2
  go_ret
  exact ⟨by first | rfl | (simp; done) | (simp [*]; done) | (simp [bneNil]; done), by repeat (first | exact Drawn0.refl _ | apply Drawn0.step)⟩

end Go.Proofs.Ytmlcpnehihmhaaa.PX
namespace Go.Proofs.Ytmlcpnehihmhaaa.PX

open Go.RowKit Go.Proofs.YtmlcpnehihmhaaaW.PrintWords Go.Proofs.YtmlcpnehihmhaaaW.PrintLast Go.Proofs.YtmlcpnehihmhaaaW.PrintMore

attribute [local go_sem] max2_int min2_int max_two min_two max_three min_three max_four min_four   -- for this text's walks alone

set_option linter.unusedVariables false

set_option linter.unusedSimpArgs false

theorem eqA23 (d : Nat) (w : World) (x0 y0 : ByteArray) (x1 y1 : ByteArray) (x2 y2 : ByteArray) (x3 y3 : ByteArray) :
    (Op.equalIn (d + 2) 23 (.agg #[.string x0, .string x1, .string x2, .string x3]) (.agg #[.string y0, .string y1, .string y2, .string y3])).run Try.prog w = .ok (x0.toList == y0.toList && (x1.toList == y1.toList && (x2.toList == y2.toList && (x3.toList == y3.toList)))) w := by
  refine eqA_of Try.underlying23 (by kernel_rfl) ?_
  refine eqf_cons (by rfl) (by go_simp; rfl) (by go_simp; rfl) (by go_simp) ?_
  refine eqf_cons (by rfl) (by go_simp; rfl) (by go_simp; rfl) (by go_simp) ?_
  refine eqf_cons (by rfl) (by go_simp; rfl) (by go_simp; rfl) (by go_simp) ?_
  exact eqf_last (by rfl) (by go_simp; rfl) (by go_simp; rfl) (by go_simp)

end Go.Proofs.Ytmlcpnehihmhaaa.PX
