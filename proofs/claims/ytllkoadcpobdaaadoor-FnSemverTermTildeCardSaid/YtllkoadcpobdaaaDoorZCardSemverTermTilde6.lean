/- The row and the tied card of FnSemverTermTilde, out of its printed walk and its plain law. For every input that the statement lets in. -/
import Derived.Test.YtllkoadcpobdaaaDoorZCardSemverTermTilde0
import Derived.Test.YtllkoadcpobdaaaDoorZCardSemverTermTilde4
import Derived.Test.YtllkoadcpobdaaaDoorZCardSemverTermTilde5
import Derived.Test.YtllkoadcpobdaaaDoorProg
import Derived.Below
import Derived.Deep.Draws
import Derived.Deep.AppendLies
import Derived.Maps.AppendAt
import Derived.OwnWalk
import Derived.Laws.BytesArg
import Derived.Laws.MakeOwn
import Derived.Laws.OwnMore
import Derived.Deep.OwnRows
import Derived.Tactics
import Derived.Lib.ConvBytes
import Derived.Laws.Slices
import Derived.WalkKit
import Derived.KernelRfl
import Derived.RowKit3
import Derived.Deep.LoopGhost
import Derived.Deep.QuietTactic
import Derived.BigQuiet
import Derived.WideLaws
import Derived.Deep.DeepCutAuto
import Derived.Deep.CutBlock
import Derived.Deep.RegionHeld3
import Derived.Laws.Rows
import Derived.Lib.AppendStr
import Derived.ArgAppend
import Derived.Laws.IdiomCopy
import Derived.OrdersHeld
import Derived.Laws.BitsLemmas
import Derived.RowKit
import Derived.Laws.StructEq
namespace Go.Proofs.YtllkoadcpobdaaaDoor.PX

open Go.RowKit Go.Proofs.YtllkoadcpobdaaaDoorW.PrintWords Go.Proofs.YtllkoadcpobdaaaDoorW.PrintLast Go.Proofs.YtllkoadcpobdaaaDoorW.PrintMore

attribute [local go_sem] max2_int min2_int max_two min_two max_three min_three max_four min_four   -- for this text's walks alone

set_option linter.unusedVariables false

set_option linter.unusedSimpArgs false

def errW : Option Int → Value
  | none => .nilIface
  | some c => .iface 0 (.int .i64 c)

theorem errW_none : errW none = .nilIface := rfl

theorem errW_some (c : Int) : errW (some c) = .iface 0 (.int .i64 c) := rfl

theorem info9 : (Tryd.prog.info? 9).map (fun i => (i.zero, i.size, i.bytes)) = some (some (.string ⟨#[]⟩), 1, 16) := by kernel_rfl

theorem bneNil (l : List UInt8) : (l != []) = !l.isEmpty := by cases l <;> rfl

theorem u8w (x : Int) : IntKind.u8.wrap x = x % 256 := by simp [IntKind.wrap, IntKind.bits, IntKind.signed]

structure S26 where
  f0 : Int
  f1 : Int
  f2 : Int
  f3 : ByteArray
  f4 : ByteArray

def k26 : Kd S26 := Kd.iso (Kd.pair (Kd.int .u64) (Kd.pair (Kd.int .u64) (Kd.pair (Kd.int .u64) (Kd.pair Kd.string Kd.string)))) (fun x : S26 => (x.f0, x.f1, x.f2, x.f3, x.f4))

theorem k26_open {w : World} {x : S26} {cs : List Value} (h : k26.K w x cs) : cs = [.int .u64 x.f0, .int .u64 x.f1, .int .u64 x.f2, .string x.f3, .string x.f4] := by
  obtain ⟨_, _, rfl, rfl, ⟨_, _, rfl, rfl, ⟨_, _, rfl, rfl, ⟨_, _, rfl, rfl, rfl⟩⟩⟩⟩ := h
  exact rfl

theorem k26_mk (w : World) (x : S26)  : k26.K w x [.int .u64 x.f0, .int .u64 x.f1, .int .u64 x.f2, .string x.f3, .string x.f4] := ⟨[.int .u64 x.f0], [.int .u64 x.f1, .int .u64 x.f2, .string x.f3, .string x.f4], rfl, rfl, ⟨[.int .u64 x.f1], [.int .u64 x.f2, .string x.f3, .string x.f4], rfl, rfl, ⟨[.int .u64 x.f2], [.string x.f3, .string x.f4], rfl, rfl, ⟨[.string x.f3], [.string x.f4], rfl, rfl, rfl⟩⟩⟩⟩

structure S24 where
  f0 : Int
  f1 : Int
  f2 : Int
  f3 : Int
  f4 : Int
  f5 : ByteArray

def z24 : S24 := ⟨(0 : Int), (0 : Int), (0 : Int), (0 : Int), (0 : Int), (⟨#[]⟩ : ByteArray)⟩

end Go.Proofs.YtllkoadcpobdaaaDoor.PX
namespace Go.Proofs.YtllkoadcpobdaaaDoor.PX

open Go.RowKit Go.Proofs.YtllkoadcpobdaaaDoorW.PrintWords Go.Proofs.YtllkoadcpobdaaaDoorW.PrintLast Go.Proofs.YtllkoadcpobdaaaDoorW.PrintMore

attribute [local go_sem] max2_int min2_int max_two min_two max_three min_three max_four min_four   -- for this text's walks alone

set_option linter.unusedVariables false

set_option linter.unusedSimpArgs false

def laws_zzFits14.f (a0_0 : Int) (a0_1 : Int) (a0_2 : Int) (a0_3 : ByteArray) (a0_4 : ByteArray) : Option (Bool) := if (a0_3.size : Int) > 2147483647 then (some false) else (if (a0_4.size : Int) > 2147483647 then (some false) else (some true))

set_option maxHeartbeats 80000000 in
set_option maxRecDepth 100000 in
theorem laws_zzFits14.calls (a0_0 : Int) (a0_1 : Int) (a0_2 : Int) (a0_3 : ByteArray) (a0_4 : ByteArray) (r : Bool) (w : World) (h : laws_zzFits14.f a0_0 a0_1 a0_2 a0_3 a0_4 = some r) :
  Calls Tryd.prog 14 #[.agg #[.int .u64 a0_0, .int .u64 a0_1, .int .u64 a0_2, .string a0_3, .string a0_4]] w fun e w' => e = .returned (.bool r) ∧ Below w.heap.size w w' := by
 have hu26 := Tryd.underlying26
 have HB := Aside0.mk (Below.refl w.heap.size w)
 have H : (if (a0_3.size : Int) > 2147483647 then (some false) else (if (a0_4.size : Int) > 2147483647 then (some false) else (some true))) = some r := h
 clear h
 by_cases c2 : (a0_3.size : Int) > 2147483647
 ·
  rw [if_pos c2] at H
  have c2b0 : decide (2147483647 < (a0_3.size : Int)) = true := decide_eq_true c2
  have c2b1 : decide (2147483647 < a0_3.size) = true := decide_eq_true (by omega)
  clear c2
  obtain rfl := Option.some.inj H
  go_enter Tryd.func14, Tryd.ntmps14
  go_wp2_with (first | ((with_reducible refine gate_dst (N := 1) rfl ?_); refine box_event ?hg (N := 1) ?hd (cs := #[.int .u64 a0_0, .int .u64 a0_1, .int .u64 a0_2, .string a0_3, .string a0_4]) (t := 26) ?hr ?_; (case hd => rfl); (case hg => rfl); (case hr => first | (go_simp; done) | (go_simp; rfl) | (go_simp; simp [u8w]; done)); intro gb102 hg w3 hbox hb; have n0_ := Aside0.mk (below_step (by repeat (first | (with_reducible first | exact HB.out | apply below_alloc | apply pw_below_drewN | apply below_drew1) | exact HB.out)) hb); have n1_ := Aside0.mk (hbox); have n2_ := Aside0.mk ((by rw [hg]; exact (below_size (by repeat (first | (with_reducible first | exact HB.out | apply below_alloc | apply pw_below_drewN | apply below_drew1) | exact HB.out))) : w.heap.size ≤ gb102)); have n3_ := Aside0.mk ((by rw [hg]; exact (below_size (by repeat (first | (with_reducible first | exact HB.out | apply below_alloc | apply pw_below_drewN | apply below_drew1) | exact HB.out))) : w.heap.size ≤ gb102)); clear HB; have HB := n0_; have BK102 := n1_; have GW102 := n2_; have GE102 := n3_; clear n0_ n1_ n2_ n3_; clear hb hbox hg; have hcz4_0 : w3.cell? ⟨gb102, 0, none⟩ = some (.int .u64 a0_0) := (blk_cell BK102.out 0).trans rfl; have hcz4_1 : w3.cell? ⟨gb102, 1, none⟩ = some (.int .u64 a0_1) := (blk_cell BK102.out 1).trans rfl; have hcz4_2 : w3.cell? ⟨gb102, 2, none⟩ = some (.int .u64 a0_2) := (blk_cell BK102.out 2).trans rfl; have hcz4_3 : w3.cell? ⟨gb102, 3, none⟩ = some (.string a0_3) := (blk_cell BK102.out 3).trans rfl; have hcz4_4 : w3.cell? ⟨gb102, 4, none⟩ = some (.string a0_4) := (blk_cell BK102.out 4).trans rfl; have hfz4_0 := blk_frozen BK102.out 0; have hfz4_1 := blk_frozen BK102.out 1; have hfz4_2 := blk_frozen BK102.out 2; have hfz4_3 := blk_frozen BK102.out 3; have hfz4_4 := blk_frozen BK102.out 4))
  go_ret
  exact ⟨by first | rfl | (simp [errW_none, errW_some] <;> rfl) | (simp [*, errW_none, errW_some] <;> rfl) | (simp [bneNil]; done), by repeat (first | (with_reducible first | exact HB.out | apply below_alloc | apply pw_below_drewN | apply below_drew1 | refine below_set ?_ GE102.out) | exact HB.out)⟩
 ·
  rw [if_neg c2] at H
  have c2b0 : decide (2147483647 < (a0_3.size : Int)) = false := decide_eq_false c2
  have c2b1 : decide (2147483647 < a0_3.size) = false := decide_eq_false (by omega)
  clear c2
  by_cases c5 : (a0_4.size : Int) > 2147483647
  ·
   rw [if_pos c5] at H
   have c5b0 : decide (2147483647 < (a0_4.size : Int)) = true := decide_eq_true c5
   have c5b1 : decide (2147483647 < a0_4.size) = true := decide_eq_true (by omega)
   clear c5
   obtain rfl := Option.some.inj H
   go_enter Tryd.func14, Tryd.ntmps14
   go_wp2_with (first | ((with_reducible refine gate_dst (N := 1) rfl ?_); refine box_event ?hg (N := 1) ?hd (cs := #[.int .u64 a0_0, .int .u64 a0_1, .int .u64 a0_2, .string a0_3, .string a0_4]) (t := 26) ?hr ?_; (case hd => rfl); (case hg => rfl); (case hr => first | (go_simp; done) | (go_simp; rfl) | (go_simp; simp [u8w]; done)); intro gb102 hg w6 hbox hb; have n0_ := Aside0.mk (below_step (by repeat (first | (with_reducible first | exact HB.out | apply below_alloc | apply pw_below_drewN | apply below_drew1) | exact HB.out)) hb); have n1_ := Aside0.mk (hbox); have n2_ := Aside0.mk ((by rw [hg]; exact (below_size (by repeat (first | (with_reducible first | exact HB.out | apply below_alloc | apply pw_below_drewN | apply below_drew1) | exact HB.out))) : w.heap.size ≤ gb102)); have n3_ := Aside0.mk ((by rw [hg]; exact (below_size (by repeat (first | (with_reducible first | exact HB.out | apply below_alloc | apply pw_below_drewN | apply below_drew1) | exact HB.out))) : w.heap.size ≤ gb102)); clear HB; have HB := n0_; have BK102 := n1_; have GW102 := n2_; have GE102 := n3_; clear n0_ n1_ n2_ n3_; clear hb hbox hg; have hcz7_0 : w6.cell? ⟨gb102, 0, none⟩ = some (.int .u64 a0_0) := (blk_cell BK102.out 0).trans rfl; have hcz7_1 : w6.cell? ⟨gb102, 1, none⟩ = some (.int .u64 a0_1) := (blk_cell BK102.out 1).trans rfl; have hcz7_2 : w6.cell? ⟨gb102, 2, none⟩ = some (.int .u64 a0_2) := (blk_cell BK102.out 2).trans rfl; have hcz7_3 : w6.cell? ⟨gb102, 3, none⟩ = some (.string a0_3) := (blk_cell BK102.out 3).trans rfl; have hcz7_4 : w6.cell? ⟨gb102, 4, none⟩ = some (.string a0_4) := (blk_cell BK102.out 4).trans rfl; have hfz7_0 := blk_frozen BK102.out 0; have hfz7_1 := blk_frozen BK102.out 1; have hfz7_2 := blk_frozen BK102.out 2; have hfz7_3 := blk_frozen BK102.out 3; have hfz7_4 := blk_frozen BK102.out 4))
   go_ret
   exact ⟨by first | rfl | (simp [errW_none, errW_some] <;> rfl) | (simp [*, errW_none, errW_some] <;> rfl) | (simp [bneNil]; done), by repeat (first | (with_reducible first | exact HB.out | apply below_alloc | apply pw_below_drewN | apply below_drew1 | refine below_set ?_ GE102.out) | exact HB.out)⟩
  ·
   rw [if_neg c5] at H
   have c5b0 : decide (2147483647 < (a0_4.size : Int)) = false := decide_eq_false c5
   have c5b1 : decide (2147483647 < a0_4.size) = false := decide_eq_false (by omega)
   clear c5
   obtain rfl := Option.some.inj H
   go_enter Tryd.func14, Tryd.ntmps14
   go_wp2_with (first | ((with_reducible refine gate_dst (N := 1) rfl ?_); refine box_event ?hg (N := 1) ?hd (cs := #[.int .u64 a0_0, .int .u64 a0_1, .int .u64 a0_2, .string a0_3, .string a0_4]) (t := 26) ?hr ?_; (case hd => rfl); (case hg => rfl); (case hr => first | (go_simp; done) | (go_simp; rfl) | (go_simp; simp [u8w]; done)); intro gb102 hg w8 hbox hb; have n0_ := Aside0.mk (below_step (by repeat (first | (with_reducible first | exact HB.out | apply below_alloc | apply pw_below_drewN | apply below_drew1) | exact HB.out)) hb); have n1_ := Aside0.mk (hbox); have n2_ := Aside0.mk ((by rw [hg]; exact (below_size (by repeat (first | (with_reducible first | exact HB.out | apply below_alloc | apply pw_below_drewN | apply below_drew1) | exact HB.out))) : w.heap.size ≤ gb102)); have n3_ := Aside0.mk ((by rw [hg]; exact (below_size (by repeat (first | (with_reducible first | exact HB.out | apply below_alloc | apply pw_below_drewN | apply below_drew1) | exact HB.out))) : w.heap.size ≤ gb102)); clear HB; have HB := n0_; have BK102 := n1_; have GW102 := n2_; have GE102 := n3_; clear n0_ n1_ n2_ n3_; clear hb hbox hg; have hcz9_0 : w8.cell? ⟨gb102, 0, none⟩ = some (.int .u64 a0_0) := (blk_cell BK102.out 0).trans rfl; have hcz9_1 : w8.cell? ⟨gb102, 1, none⟩ = some (.int .u64 a0_1) := (blk_cell BK102.out 1).trans rfl; have hcz9_2 : w8.cell? ⟨gb102, 2, none⟩ = some (.int .u64 a0_2) := (blk_cell BK102.out 2).trans rfl; have hcz9_3 : w8.cell? ⟨gb102, 3, none⟩ = some (.string a0_3) := (blk_cell BK102.out 3).trans rfl; have hcz9_4 : w8.cell? ⟨gb102, 4, none⟩ = some (.string a0_4) := (blk_cell BK102.out 4).trans rfl; have hfz9_0 := blk_frozen BK102.out 0; have hfz9_1 := blk_frozen BK102.out 1; have hfz9_2 := blk_frozen BK102.out 2; have hfz9_3 := blk_frozen BK102.out 3; have hfz9_4 := blk_frozen BK102.out 4))
   go_ret
   exact ⟨by first | rfl | (simp [errW_none, errW_some] <;> rfl) | (simp [*, errW_none, errW_some] <;> rfl) | (simp [bneNil]; done), by repeat (first | (with_reducible first | exact HB.out | apply below_alloc | apply pw_below_drewN | apply below_drew1 | refine below_set ?_ GE102.out) | exact HB.out)⟩

end Go.Proofs.YtllkoadcpobdaaaDoor.PX
namespace Go.Proofs.YtllkoadcpobdaaaDoor.PX

open Go.RowKit Go.Proofs.YtllkoadcpobdaaaDoorW.PrintWords Go.Proofs.YtllkoadcpobdaaaDoorW.PrintLast Go.Proofs.YtllkoadcpobdaaaDoorW.PrintMore

attribute [local go_sem] max2_int min2_int max_two min_two max_three min_three max_four min_four   -- for this text's walks alone

set_option linter.unusedVariables false

set_option linter.unusedSimpArgs false

def spec_order.f (a0 : Int) (a1 : Int) : Option (Int) := if a0 < a1 then (some (-1)) else (if a0 > a1 then (some 1) else (some 0))

set_option maxHeartbeats 80000000 in
set_option maxRecDepth 100000 in
theorem spec_order.calls (a0 : Int) (a1 : Int) (r : Int) (w : World) (h : spec_order.f a0 a1 = some r) :
    Calls Tryd.prog 71 #[.int .u64 a0, .int .u64 a1] w fun e w' => e = .returned (.int .i64 r) ∧ Drawn0 w w' := by
  have H : (if a0 < a1 then (some (-1)) else (if a0 > a1 then (some 1) else (some 0))) = some r := h
  clear h
  by_cases c3 : a0 < a1
  · rw [if_pos c3] at H
    have c3b0 : decide (a0 < a1) = true := decide_eq_true c3
    clear c3
    obtain rfl := Option.some.inj H
    go_enter Tryd.func71, Tryd.ntmps71
    go_wp2
    go_ret
    exact ⟨by first | rfl | (simp; done) | (simp [*]; done) | (simp [bneNil]; done), by repeat (first | exact Drawn0.refl _ | apply Drawn0.step)⟩
  · rw [if_neg c3] at H
    have c3b0 : decide (a0 < a1) = false := decide_eq_false c3
    clear c3
    by_cases c4 : a0 > a1
    · rw [if_pos c4] at H
      have c4b0 : decide (a1 < a0) = true := decide_eq_true c4
      clear c4
      obtain rfl := Option.some.inj H
      go_enter Tryd.func71, Tryd.ntmps71
      go_wp2
      go_ret
      exact ⟨by first | rfl | (simp; done) | (simp [*]; done) | (simp [bneNil]; done), by repeat (first | exact Drawn0.refl _ | apply Drawn0.step)⟩
    · rw [if_neg c4] at H
      have c4b0 : decide (a1 < a0) = false := decide_eq_false c4
      clear c4
      obtain rfl := Option.some.inj H
      go_enter Tryd.func71, Tryd.ntmps71
      go_wp2
      go_ret
      exact ⟨by first | rfl | (simp; done) | (simp [*]; done) | (simp [bneNil]; done), by repeat (first | exact Drawn0.refl _ | apply Drawn0.step)⟩

def spec_Bare.f (a0_0 : Int) (a0_1 : Int) (a0_2 : Int) (a0_3 : ByteArray) (a0_4 : ByteArray) : Option (Int × Int × Int × ByteArray × ByteArray) := some (a0_0, a0_1, a0_2, (⟨#[]⟩ : ByteArray), (⟨#[]⟩ : ByteArray))

set_option maxHeartbeats 80000000 in
set_option maxRecDepth 100000 in
theorem spec_Bare.calls (a0_0 : Int) (a0_1 : Int) (a0_2 : Int) (a0_3 : ByteArray) (a0_4 : ByteArray) (r1 : Int) (r2 : Int) (r3 : Int) (r4 : ByteArray) (r5 : ByteArray) (w : World) (h : spec_Bare.f a0_0 a0_1 a0_2 a0_3 a0_4 = some (r1, r2, r3, r4, r5)) :
  Calls Tryd.prog 41 #[.agg #[.int .u64 a0_0, .int .u64 a0_1, .int .u64 a0_2, .string a0_3, .string a0_4]] w fun e w' => e = .returned (.agg #[.int .u64 r1, .int .u64 r2, .int .u64 r3, .string r4, .string r5]) ∧ Below w.heap.size w w' := by
 have hu26 := Tryd.underlying26
 have HB := Aside0.mk (Below.refl w.heap.size w)
 have H : (some (a0_0, a0_1, a0_2, (⟨#[]⟩ : ByteArray), (⟨#[]⟩ : ByteArray))) = some (r1, r2, r3, r4, r5) := h
 clear h
 simp only [Option.some.injEq, Prod.mk.injEq] at H
 obtain ⟨rfl, rfl, rfl, rfl, rfl⟩ := H
 go_enter Tryd.func41, Tryd.ntmps41
 go_wp2_with (first | ((with_reducible refine gate_dst (N := 1) rfl ?_); refine box_event ?hg (N := 1) ?hd (cs := #[.int .u64 a0_0, .int .u64 a0_1, .int .u64 a0_2, .string a0_3, .string a0_4]) (t := 26) ?hr ?_; (case hd => rfl); (case hg => rfl); (case hr => first | (go_simp; done) | (go_simp; rfl) | (go_simp; simp [u8w]; done)); intro gb207 hg w2 hbox hb; have n0_ := Aside0.mk (below_step (by repeat (first | (with_reducible first | exact HB.out | apply below_alloc | apply pw_below_drewN | apply below_drew1) | exact HB.out)) hb); have n1_ := Aside0.mk (hbox); have n2_ := Aside0.mk ((by rw [hg]; exact (below_size (by repeat (first | (with_reducible first | exact HB.out | apply below_alloc | apply pw_below_drewN | apply below_drew1) | exact HB.out))) : w.heap.size ≤ gb207)); have n3_ := Aside0.mk ((by rw [hg]; exact (below_size (by repeat (first | (with_reducible first | exact HB.out | apply below_alloc | apply pw_below_drewN | apply below_drew1) | exact HB.out))) : w.heap.size ≤ gb207)); clear HB; have HB := n0_; have BK207 := n1_; have GW207 := n2_; have GE207 := n3_; clear n0_ n1_ n2_ n3_; clear hb hbox hg) | ((with_reducible refine gate_dst (N := 2) rfl ?_); refine box_event ?hg (N := 2) ?hd (cs := #[.int .u64 0, .int .u64 0, .int .u64 0, .string (⟨#[]⟩ : ByteArray), .string (⟨#[]⟩ : ByteArray)]) (t := 26) ?hr ?_; (case hd => rfl); (case hg => rfl); (case hr => first | (go_simp; done) | (go_simp; rfl) | (go_simp; simp [u8w]; done)); intro gb208 hg w3 hbox hb; have n0_ := Aside0.mk (blk_below (g := gb207) (o := .cells #[.int .u64 a0_0, .int .u64 a0_1, .int .u64 a0_2, .string a0_3, .string a0_4] 26 (0, 0)) (by (with_reducible repeat (first | refine blk_drewN ?_ _ | refine blk_drew ?_ | refine blk_alloc ?_ _)); exact BK207.out) hb); have n1_ := Aside0.mk (below_step (by repeat (first | (with_reducible first | exact HB.out | apply below_alloc | apply pw_below_drewN | apply below_drew1 | refine below_set ?_ GE207.out) | exact HB.out)) hb); have n2_ := Aside0.mk (hbox); have n3_ := Aside0.mk ((by rw [hg]; exact (below_size (by repeat (first | (with_reducible first | exact HB.out | apply below_alloc | apply pw_below_drewN | apply below_drew1 | refine below_set ?_ GE207.out) | exact HB.out))) : w.heap.size ≤ gb208)); have n4_ := Aside0.mk ((by rw [hg]; exact (below_size (by repeat (first | (with_reducible first | exact HB.out | apply below_alloc | apply pw_below_drewN | apply below_drew1 | refine below_set ?_ GE207.out) | exact HB.out))) : w.heap.size ≤ gb208)); have n5_ := Aside0.mk ((by rw [hg]; exact Nat.ne_of_lt (blk_lt (g := gb207) (o := .cells #[.int .u64 a0_0, .int .u64 a0_1, .int .u64 a0_2, .string a0_3, .string a0_4] 26 (0, 0)) (by (with_reducible repeat (first | refine blk_drewN ?_ _ | refine blk_drew ?_ | refine blk_alloc ?_ _)); exact BK207.out)) : gb207 ≠ gb208)); have n6_ := Aside0.mk ((by rw [hg]; exact Nat.ne_of_gt (blk_lt (g := gb207) (o := .cells #[.int .u64 a0_0, .int .u64 a0_1, .int .u64 a0_2, .string a0_3, .string a0_4] 26 (0, 0)) (by (with_reducible repeat (first | refine blk_drewN ?_ _ | refine blk_drew ?_ | refine blk_alloc ?_ _)); exact BK207.out)) : gb208 ≠ gb207)); clear BK207; clear HB; have BK207 := n0_; have HB := n1_; have BK208 := n2_; have GW208 := n3_; have GE208 := n4_; have NB207_208 := n5_; have NB208_207 := n6_; clear n0_ n1_ n2_ n3_ n4_ n5_ n6_; clear hb hbox hg; have hnb4 := NB207_208.out; have hnc4 := NB208_207.out; have hcz5_0 : w3.cell? ⟨gb207, 0, none⟩ = some (.int .u64 a0_0) := (blk_cell BK207.out 0).trans rfl; have hcz5_1 : w3.cell? ⟨gb207, 1, none⟩ = some (.int .u64 a0_1) := (blk_cell BK207.out 1).trans rfl; have hcz5_2 : w3.cell? ⟨gb207, 2, none⟩ = some (.int .u64 a0_2) := (blk_cell BK207.out 2).trans rfl; have hcz5_3 : w3.cell? ⟨gb207, 3, none⟩ = some (.string a0_3) := (blk_cell BK207.out 3).trans rfl; have hcz5_4 : w3.cell? ⟨gb207, 4, none⟩ = some (.string a0_4) := (blk_cell BK207.out 4).trans rfl; have hfz5_0 := blk_frozen BK207.out 0; have hfz5_1 := blk_frozen BK207.out 1; have hfz5_2 := blk_frozen BK207.out 2; have hfz5_3 := blk_frozen BK207.out 3; have hfz5_4 := blk_frozen BK207.out 4; have hcz6_0 : w3.cell? ⟨gb208, 0, none⟩ = some (.int .u64 0) := (blk_cell BK208.out 0).trans rfl; have hcz6_1 : w3.cell? ⟨gb208, 1, none⟩ = some (.int .u64 0) := (blk_cell BK208.out 1).trans rfl; have hcz6_2 : w3.cell? ⟨gb208, 2, none⟩ = some (.int .u64 0) := (blk_cell BK208.out 2).trans rfl; have hcz6_3 : w3.cell? ⟨gb208, 3, none⟩ = some (.string (⟨#[]⟩ : ByteArray)) := (blk_cell BK208.out 3).trans rfl; have hcz6_4 : w3.cell? ⟨gb208, 4, none⟩ = some (.string (⟨#[]⟩ : ByteArray)) := (blk_cell BK208.out 4).trans rfl; have hfz6_0 := blk_frozen BK208.out 0; have hfz6_1 := blk_frozen BK208.out 1; have hfz6_2 := blk_frozen BK208.out 2; have hfz6_3 := blk_frozen BK208.out 3; have hfz6_4 := blk_frozen BK208.out 4))
 refine bodyPost_ret (results_cell_row rfl _ _ gb208 26 #[.int .u64 a0_0, .int .u64 a0_1, .int .u64 a0_2, .string (⟨#[]⟩ : ByteArray), .string (⟨#[]⟩ : ByteArray)] (0, 0) _ rfl (by (with_reducible repeat (first | refine blk_drewN ?_ _ | refine blk_drew ?_ | refine blk_alloc ?_ _)); refine blk_put (cs := #[.int .u64 a0_0, .int .u64 a0_1, .int .u64 a0_2, .string (⟨#[]⟩ : ByteArray), .string (⟨#[]⟩ : ByteArray)]) ?_ 4 _ rfl; (with_reducible repeat (first | refine blk_drewN ?_ _ | refine blk_drew ?_ | refine blk_alloc ?_ _)); refine blk_put (cs := #[.int .u64 a0_0, .int .u64 a0_1, .int .u64 a0_2, .string (⟨#[]⟩ : ByteArray), .string (⟨#[]⟩ : ByteArray)]) ?_ 3 _ rfl; (with_reducible repeat (first | refine blk_drewN ?_ _ | refine blk_drew ?_ | refine blk_alloc ?_ _)); refine blk_put (cs := #[.int .u64 a0_0, .int .u64 a0_1, .int .u64 0, .string (⟨#[]⟩ : ByteArray), .string (⟨#[]⟩ : ByteArray)]) ?_ 2 _ rfl; (with_reducible repeat (first | refine blk_drewN ?_ _ | refine blk_drew ?_ | refine blk_alloc ?_ _)); refine blk_put (cs := #[.int .u64 a0_0, .int .u64 0, .int .u64 0, .string (⟨#[]⟩ : ByteArray), .string (⟨#[]⟩ : ByteArray)]) ?_ 1 _ rfl; (with_reducible repeat (first | refine blk_drewN ?_ _ | refine blk_drew ?_ | refine blk_alloc ?_ _)); refine blk_put (cs := #[.int .u64 0, .int .u64 0, .int .u64 0, .string (⟨#[]⟩ : ByteArray), .string (⟨#[]⟩ : ByteArray)]) ?_ 0 _ rfl; (with_reducible repeat (first | refine blk_drewN ?_ _ | refine blk_drew ?_ | refine blk_alloc ?_ _)); exact BK208.out) Tryd.underlying26 rfl (by kernel_rfl)) rfl ?_
 exact ⟨by first | rfl | (simp [errW_none, errW_some] <;> rfl) | (simp [*, errW_none, errW_some] <;> rfl) | (simp [bneNil]; done), by repeat (first | (with_reducible first | exact HB.out | apply below_alloc | apply pw_below_drewN | apply below_drew1 | refine below_set ?_ GE207.out | refine below_set ?_ GE208.out) | exact HB.out)⟩

def laws_stBare.f (a0_0 : Int) (a0_1 : Int) (a0_2 : Int) (a0_3 : ByteArray) (a0_4 : ByteArray) (a1_0 : Int) (a1_1 : Int) (a1_2 : Int) (a1_3 : ByteArray) (a1_4 : ByteArray) (a2 : Int) : Option (Int × Int × Int × ByteArray × ByteArray × Int × Int × Int × ByteArray × ByteArray × Bool) := (spec_Bare.f a0_0 a0_1 a0_2 a0_3 a0_4).bind fun bt213 => ((spec_Bare.f a1_0 a1_1 a1_2 a1_3 a1_4).bind fun bt218 => (if a2 ≥ 1 then (some (bt213.1, bt213.2.1, bt213.2.2.1, bt213.2.2.2.1, bt213.2.2.2.2, bt218.1, bt218.2.1, bt218.2.2.1, bt218.2.2.2.1, bt218.2.2.2.2, decide (a2 ≤ 3))) else (some (bt213.1, bt213.2.1, bt213.2.2.1, bt213.2.2.2.1, bt213.2.2.2.2, bt218.1, bt218.2.1, bt218.2.2.1, bt218.2.2.2.1, bt218.2.2.2.2, false))))

def laws_stBare.T1 : Bool × List (List Nat × List Nat) := (true, [([], []), ([0], [0]), ([], []), ([2, 1], [2]), ([], []), ([4], [4]), ([5, 3], [5]), ([6], [6]), ([7, 6], [6, 7]), ([6, 8], [6, 8]), ([1, 6, 0, 1], [1]), ([3, 10, 0, 1, 2, 3, 10], [3]), ([9, 11, 0, 1, 2, 3, 4, 5, 6, 7, 8, 9, 10, 11], [9])])

def laws_stBare.B1 : List Nat := [0, 1, 0, 7, 0, 16, 63, 127, 255, 511, 127, 1151, 4095]

theorem laws_stBare.tab1 : rtab .any (opsOf Tryd.f20 1) = laws_stBare.T1 := by kernel_rfl

theorem laws_stBare.bits1 : waitsOk laws_stBare.T1.2 laws_stBare.B1 = true := by kernel_rfl

set_option maxHeartbeats 80000000 in
set_option maxRecDepth 100000 in
theorem laws_stBare.calls (a0_0 : Int) (a0_1 : Int) (a0_2 : Int) (a0_3 : ByteArray) (a0_4 : ByteArray) (a1_0 : Int) (a1_1 : Int) (a1_2 : Int) (a1_3 : ByteArray) (a1_4 : ByteArray) (a2 : Int) (r1 : Int) (r2 : Int) (r3 : Int) (r4 : ByteArray) (r5 : ByteArray) (r6 : Int) (r7 : Int) (r8 : Int) (r9 : ByteArray) (r10 : ByteArray) (r11 : Bool) (w : World) (h : laws_stBare.f a0_0 a0_1 a0_2 a0_3 a0_4 a1_0 a1_1 a1_2 a1_3 a1_4 a2 = some (r1, r2, r3, r4, r5, r6, r7, r8, r9, r10, r11)) :
  Calls Tryd.prog 20 #[.agg #[.int .u64 a0_0, .int .u64 a0_1, .int .u64 a0_2, .string a0_3, .string a0_4], .agg #[.int .u64 a1_0, .int .u64 a1_1, .int .u64 a1_2, .string a1_3, .string a1_4], .int .i64 a2] w fun e w' => e = .returned (.tuple #[.agg #[.int .u64 r1, .int .u64 r2, .int .u64 r3, .string r4, .string r5], .agg #[.int .u64 r6, .int .u64 r7, .int .u64 r8, .string r9, .string r10], .bool r11]) ∧ Below w.heap.size w w' := by
 have hu26 := Tryd.underlying26
 have HB := Aside0.mk (Below.refl w.heap.size w)
 have H : ((spec_Bare.f a0_0 a0_1 a0_2 a0_3 a0_4).bind fun bt213 => ((spec_Bare.f a1_0 a1_1 a1_2 a1_3 a1_4).bind fun bt218 => (if a2 ≥ 1 then (some (bt213.1, bt213.2.1, bt213.2.2.1, bt213.2.2.2.1, bt213.2.2.2.2, bt218.1, bt218.2.1, bt218.2.2.1, bt218.2.2.2.1, bt218.2.2.2.2, decide (a2 ≤ 3))) else (some (bt213.1, bt213.2.1, bt213.2.2.1, bt213.2.2.2.1, bt213.2.2.2.2, bt218.1, bt218.2.1, bt218.2.2.1, bt218.2.2.2.1, bt218.2.2.2.2, false))))) = some (r1, r2, r3, r4, r5, r6, r7, r8, r9, r10, r11) := h
 clear h
 replace H := Option.bind_eq_some_iff.mp H
 obtain ⟨⟨t213, t214, t215, t216, t217⟩, A40, H⟩ := H
 replace H : ((spec_Bare.f a1_0 a1_1 a1_2 a1_3 a1_4).bind fun bt218 => (if a2 ≥ 1 then (some (t213, t214, t215, t216, t217, bt218.1, bt218.2.1, bt218.2.2.1, bt218.2.2.2.1, bt218.2.2.2.2, decide (a2 ≤ 3))) else (some (t213, t214, t215, t216, t217, bt218.1, bt218.2.1, bt218.2.2.1, bt218.2.2.2.1, bt218.2.2.2.2, false)))) = some (r1, r2, r3, r4, r5, r6, r7, r8, r9, r10, r11) := H
 have A4 := Aside0.mk A40
 clear A40
 replace H := Option.bind_eq_some_iff.mp H
 obtain ⟨⟨t218, t219, t220, t221, t222⟩, A50, H⟩ := H
 replace H : (if a2 ≥ 1 then (some (t213, t214, t215, t216, t217, t218, t219, t220, t221, t222, decide (a2 ≤ 3))) else (some (t213, t214, t215, t216, t217, t218, t219, t220, t221, t222, false))) = some (r1, r2, r3, r4, r5, r6, r7, r8, r9, r10, r11) := H
 have A5 := Aside0.mk A50
 clear A50
 by_cases c6 : a2 ≥ 1
 ·
  rw [if_pos c6] at H
  have c6b0 : decide (1 ≤ a2) = true := decide_eq_true c6
  clear c6
  simp only [Option.some.injEq, Prod.mk.injEq] at H
  obtain ⟨rfl, rfl, rfl, rfl, rfl, rfl, rfl, rfl, rfl, rfl, rfl⟩ := H
  go_enter Tryd.func20, Tryd.ntmps20
  try go_wp2_with (first | ((with_reducible refine gate_dst (N := 3) rfl ?_); refine box_event ?hg (N := 3) ?hd (cs := #[.int .u64 a0_0, .int .u64 a0_1, .int .u64 a0_2, .string a0_3, .string a0_4]) (t := 26) ?hr ?_; (case hd => rfl); (case hg => rfl); (case hr => first | (go_simp; done) | (go_simp; rfl) | (go_simp; simp [u8w]; done)); intro gb209 hg w7 hbox hb; have n0_ := Aside0.mk (below_step (by repeat (first | (with_reducible first | exact HB.out | apply below_alloc | apply pw_below_drewN | apply below_drew1) | exact HB.out)) hb); have n1_ := Aside0.mk (hbox); have n2_ := Aside0.mk ((by rw [hg]; exact (below_size (by repeat (first | (with_reducible first | exact HB.out | apply below_alloc | apply pw_below_drewN | apply below_drew1) | exact HB.out))) : w.heap.size ≤ gb209)); have n3_ := Aside0.mk ((by rw [hg]; exact (below_size (by repeat (first | (with_reducible first | exact HB.out | apply below_alloc | apply pw_below_drewN | apply below_drew1) | exact HB.out))) : w.heap.size ≤ gb209)); clear HB; have HB := n0_; have BK209 := n1_; have GW209 := n2_; have GE209 := n3_; clear n0_ n1_ n2_ n3_; clear hb hbox hg) | ((with_reducible refine gate_dst (N := 4) rfl ?_); refine box_event ?hg (N := 4) ?hd (cs := #[.int .u64 a1_0, .int .u64 a1_1, .int .u64 a1_2, .string a1_3, .string a1_4]) (t := 26) ?hr ?_; (case hd => rfl); (case hg => rfl); (case hr => first | (go_simp; done) | (go_simp; rfl) | (go_simp; simp [u8w]; done)); intro gb210 hg w8 hbox hb; have n0_ := Aside0.mk (blk_below (g := gb209) (o := .cells #[.int .u64 a0_0, .int .u64 a0_1, .int .u64 a0_2, .string a0_3, .string a0_4] 26 (0, 0)) (by (with_reducible repeat (first | refine blk_drewN ?_ _ | refine blk_drew ?_ | refine blk_alloc ?_ _)); exact BK209.out) hb); have n1_ := Aside0.mk (below_step (by repeat (first | (with_reducible first | exact HB.out | apply below_alloc | apply pw_below_drewN | apply below_drew1 | refine below_set ?_ GE209.out) | exact HB.out)) hb); have n2_ := Aside0.mk (hbox); have n3_ := Aside0.mk ((by rw [hg]; exact (below_size (by repeat (first | (with_reducible first | exact HB.out | apply below_alloc | apply pw_below_drewN | apply below_drew1 | refine below_set ?_ GE209.out) | exact HB.out))) : w.heap.size ≤ gb210)); have n4_ := Aside0.mk ((by rw [hg]; exact (below_size (by repeat (first | (with_reducible first | exact HB.out | apply below_alloc | apply pw_below_drewN | apply below_drew1 | refine below_set ?_ GE209.out) | exact HB.out))) : w.heap.size ≤ gb210)); have n5_ := Aside0.mk ((by rw [hg]; exact Nat.ne_of_lt (blk_lt (g := gb209) (o := .cells #[.int .u64 a0_0, .int .u64 a0_1, .int .u64 a0_2, .string a0_3, .string a0_4] 26 (0, 0)) (by (with_reducible repeat (first | refine blk_drewN ?_ _ | refine blk_drew ?_ | refine blk_alloc ?_ _)); exact BK209.out)) : gb209 ≠ gb210)); have n6_ := Aside0.mk ((by rw [hg]; exact Nat.ne_of_gt (blk_lt (g := gb209) (o := .cells #[.int .u64 a0_0, .int .u64 a0_1, .int .u64 a0_2, .string a0_3, .string a0_4] 26 (0, 0)) (by (with_reducible repeat (first | refine blk_drewN ?_ _ | refine blk_drew ?_ | refine blk_alloc ?_ _)); exact BK209.out)) : gb210 ≠ gb209)); clear BK209; clear HB; have BK209 := n0_; have HB := n1_; have BK210 := n2_; have GW210 := n3_; have GE210 := n4_; have NB209_210 := n5_; have NB210_209 := n6_; clear n0_ n1_ n2_ n3_ n4_ n5_ n6_; clear hb hbox hg) | ((with_reducible refine gate_dst (N := 6) rfl ?_); refine box_event ?hg (N := 6) ?hd (cs := #[.int .u64 0, .int .u64 0, .int .u64 0, .string (⟨#[]⟩ : ByteArray), .string (⟨#[]⟩ : ByteArray)]) (t := 26) ?hr ?_; (case hd => rfl); (case hg => rfl); (case hr => first | (go_simp; done) | (go_simp; rfl) | (go_simp; simp [u8w]; done)); intro gb211 hg w9 hbox hb; have n0_ := Aside0.mk (blk_below (g := gb209) (o := .cells #[.int .u64 a0_0, .int .u64 a0_1, .int .u64 a0_2, .string a0_3, .string a0_4] 26 (0, 0)) (by (with_reducible repeat (first | refine blk_drewN ?_ _ | refine blk_drew ?_ | refine blk_alloc ?_ _)); exact BK209.out) hb); have n1_ := Aside0.mk (blk_below (g := gb210) (o := .cells #[.int .u64 a1_0, .int .u64 a1_1, .int .u64 a1_2, .string a1_3, .string a1_4] 26 (0, 0)) (by (with_reducible repeat (first | refine blk_drewN ?_ _ | refine blk_drew ?_ | refine blk_alloc ?_ _)); exact BK210.out) hb); have n2_ := Aside0.mk (below_step (by repeat (first | (with_reducible first | exact HB.out | apply below_alloc | apply pw_below_drewN | apply below_drew1 | refine below_set ?_ GE209.out | refine below_set ?_ GE210.out) | exact HB.out)) hb); have n3_ := Aside0.mk (hbox); have n4_ := Aside0.mk ((by rw [hg]; exact (below_size (by repeat (first | (with_reducible first | exact HB.out | apply below_alloc | apply pw_below_drewN | apply below_drew1 | refine below_set ?_ GE209.out | refine below_set ?_ GE210.out) | exact HB.out))) : w.heap.size ≤ gb211)); have n5_ := Aside0.mk ((by rw [hg]; exact (below_size (by repeat (first | (with_reducible first | exact HB.out | apply below_alloc | apply pw_below_drewN | apply below_drew1 | refine below_set ?_ GE209.out | refine below_set ?_ GE210.out) | exact HB.out))) : w.heap.size ≤ gb211)); have n6_ := Aside0.mk ((by rw [hg]; exact Nat.ne_of_lt (blk_lt (g := gb209) (o := .cells #[.int .u64 a0_0, .int .u64 a0_1, .int .u64 a0_2, .string a0_3, .string a0_4] 26 (0, 0)) (by (with_reducible repeat (first | refine blk_drewN ?_ _ | refine blk_drew ?_ | refine blk_alloc ?_ _)); exact BK209.out)) : gb209 ≠ gb211)); have n7_ := Aside0.mk ((by rw [hg]; exact Nat.ne_of_gt (blk_lt (g := gb209) (o := .cells #[.int .u64 a0_0, .int .u64 a0_1, .int .u64 a0_2, .string a0_3, .string a0_4] 26 (0, 0)) (by (with_reducible repeat (first | refine blk_drewN ?_ _ | refine blk_drew ?_ | refine blk_alloc ?_ _)); exact BK209.out)) : gb211 ≠ gb209)); have n8_ := Aside0.mk ((by rw [hg]; exact Nat.ne_of_lt (blk_lt (g := gb210) (o := .cells #[.int .u64 a1_0, .int .u64 a1_1, .int .u64 a1_2, .string a1_3, .string a1_4] 26 (0, 0)) (by (with_reducible repeat (first | refine blk_drewN ?_ _ | refine blk_drew ?_ | refine blk_alloc ?_ _)); exact BK210.out)) : gb210 ≠ gb211)); have n9_ := Aside0.mk ((by rw [hg]; exact Nat.ne_of_gt (blk_lt (g := gb210) (o := .cells #[.int .u64 a1_0, .int .u64 a1_1, .int .u64 a1_2, .string a1_3, .string a1_4] 26 (0, 0)) (by (with_reducible repeat (first | refine blk_drewN ?_ _ | refine blk_drew ?_ | refine blk_alloc ?_ _)); exact BK210.out)) : gb211 ≠ gb210)); clear BK209; clear BK210; clear HB; have BK209 := n0_; have BK210 := n1_; have HB := n2_; have BK211 := n3_; have GW211 := n4_; have GE211 := n5_; have NB209_211 := n6_; have NB211_209 := n7_; have NB210_211 := n8_; have NB211_210 := n9_; clear n0_ n1_ n2_ n3_ n4_ n5_ n6_ n7_ n8_ n9_; clear hb hbox hg) | ((with_reducible refine gate_dst (N := 7) rfl ?_); refine box_event ?hg (N := 7) ?hd (cs := #[.int .u64 0, .int .u64 0, .int .u64 0, .string (⟨#[]⟩ : ByteArray), .string (⟨#[]⟩ : ByteArray)]) (t := 26) ?hr ?_; (case hd => rfl); (case hg => rfl); (case hr => first | (go_simp; done) | (go_simp; rfl) | (go_simp; simp [u8w]; done)); intro gb212 hg w10 hbox hb; have n0_ := Aside0.mk (blk_below (g := gb209) (o := .cells #[.int .u64 a0_0, .int .u64 a0_1, .int .u64 a0_2, .string a0_3, .string a0_4] 26 (0, 0)) (by (with_reducible repeat (first | refine blk_drewN ?_ _ | refine blk_drew ?_ | refine blk_alloc ?_ _)); exact BK209.out) hb); have n1_ := Aside0.mk (blk_below (g := gb210) (o := .cells #[.int .u64 a1_0, .int .u64 a1_1, .int .u64 a1_2, .string a1_3, .string a1_4] 26 (0, 0)) (by (with_reducible repeat (first | refine blk_drewN ?_ _ | refine blk_drew ?_ | refine blk_alloc ?_ _)); exact BK210.out) hb); have n2_ := Aside0.mk (blk_below (g := gb211) (o := .cells #[.int .u64 0, .int .u64 0, .int .u64 0, .string (⟨#[]⟩ : ByteArray), .string (⟨#[]⟩ : ByteArray)] 26 (0, 0)) (by (with_reducible repeat (first | refine blk_drewN ?_ _ | refine blk_drew ?_ | refine blk_alloc ?_ _)); exact BK211.out) hb); have n3_ := Aside0.mk (below_step (by repeat (first | (with_reducible first | exact HB.out | apply below_alloc | apply pw_below_drewN | apply below_drew1 | refine below_set ?_ GE209.out | refine below_set ?_ GE210.out | refine below_set ?_ GE211.out) | exact HB.out)) hb); have n4_ := Aside0.mk (hbox); have n5_ := Aside0.mk ((by rw [hg]; exact (below_size (by repeat (first | (with_reducible first | exact HB.out | apply below_alloc | apply pw_below_drewN | apply below_drew1 | refine below_set ?_ GE209.out | refine below_set ?_ GE210.out | refine below_set ?_ GE211.out) | exact HB.out))) : w.heap.size ≤ gb212)); have n6_ := Aside0.mk ((by rw [hg]; exact (below_size (by repeat (first | (with_reducible first | exact HB.out | apply below_alloc | apply pw_below_drewN | apply below_drew1 | refine below_set ?_ GE209.out | refine below_set ?_ GE210.out | refine below_set ?_ GE211.out) | exact HB.out))) : w.heap.size ≤ gb212)); have n7_ := Aside0.mk ((by rw [hg]; exact Nat.ne_of_lt (blk_lt (g := gb209) (o := .cells #[.int .u64 a0_0, .int .u64 a0_1, .int .u64 a0_2, .string a0_3, .string a0_4] 26 (0, 0)) (by (with_reducible repeat (first | refine blk_drewN ?_ _ | refine blk_drew ?_ | refine blk_alloc ?_ _)); exact BK209.out)) : gb209 ≠ gb212)); have n8_ := Aside0.mk ((by rw [hg]; exact Nat.ne_of_gt (blk_lt (g := gb209) (o := .cells #[.int .u64 a0_0, .int .u64 a0_1, .int .u64 a0_2, .string a0_3, .string a0_4] 26 (0, 0)) (by (with_reducible repeat (first | refine blk_drewN ?_ _ | refine blk_drew ?_ | refine blk_alloc ?_ _)); exact BK209.out)) : gb212 ≠ gb209)); have n9_ := Aside0.mk ((by rw [hg]; exact Nat.ne_of_lt (blk_lt (g := gb210) (o := .cells #[.int .u64 a1_0, .int .u64 a1_1, .int .u64 a1_2, .string a1_3, .string a1_4] 26 (0, 0)) (by (with_reducible repeat (first | refine blk_drewN ?_ _ | refine blk_drew ?_ | refine blk_alloc ?_ _)); exact BK210.out)) : gb210 ≠ gb212)); have n10_ := Aside0.mk ((by rw [hg]; exact Nat.ne_of_gt (blk_lt (g := gb210) (o := .cells #[.int .u64 a1_0, .int .u64 a1_1, .int .u64 a1_2, .string a1_3, .string a1_4] 26 (0, 0)) (by (with_reducible repeat (first | refine blk_drewN ?_ _ | refine blk_drew ?_ | refine blk_alloc ?_ _)); exact BK210.out)) : gb212 ≠ gb210)); have n11_ := Aside0.mk ((by rw [hg]; exact Nat.ne_of_lt (blk_lt (g := gb211) (o := .cells #[.int .u64 0, .int .u64 0, .int .u64 0, .string (⟨#[]⟩ : ByteArray), .string (⟨#[]⟩ : ByteArray)] 26 (0, 0)) (by (with_reducible repeat (first | refine blk_drewN ?_ _ | refine blk_drew ?_ | refine blk_alloc ?_ _)); exact BK211.out)) : gb211 ≠ gb212)); have n12_ := Aside0.mk ((by rw [hg]; exact Nat.ne_of_gt (blk_lt (g := gb211) (o := .cells #[.int .u64 0, .int .u64 0, .int .u64 0, .string (⟨#[]⟩ : ByteArray), .string (⟨#[]⟩ : ByteArray)] 26 (0, 0)) (by (with_reducible repeat (first | refine blk_drewN ?_ _ | refine blk_drew ?_ | refine blk_alloc ?_ _)); exact BK211.out)) : gb212 ≠ gb211)); clear BK209; clear BK210; clear BK211; clear HB; have BK209 := n0_; have BK210 := n1_; have BK211 := n2_; have HB := n3_; have BK212 := n4_; have GW212 := n5_; have GE212 := n6_; have NB209_212 := n7_; have NB212_209 := n8_; have NB210_212 := n9_; have NB212_210 := n10_; have NB211_212 := n11_; have NB212_211 := n12_; clear n0_ n1_ n2_ n3_ n4_ n5_ n6_ n7_ n8_ n9_ n10_ n11_ n12_; clear hb hbox hg))
  have n0_ := Aside0.mk (blk_drew BK209.out)
  have n1_ := Aside0.mk (blk_drew BK210.out)
  have n2_ := Aside0.mk (blk_drew BK211.out)
  have n3_ := Aside0.mk (blk_drew BK212.out)
  have n4_ := Aside0.mk (below_drew1 HB.out)
  clear BK209
  clear BK210
  clear BK211
  clear BK212
  clear HB
  have BK209 := n0_
  have BK210 := n1_
  have BK211 := n2_
  have BK212 := n3_
  have HB := n4_
  clear n0_ n1_ n2_ n3_ n4_
  refine start_ (n := 13) (S := fun w' => w'.cell? ⟨gb209, 0, none⟩ = some (.int .u64 a0_0) ∧ w'.cell? ⟨gb209, 1, none⟩ = some (.int .u64 a0_1) ∧ w'.cell? ⟨gb209, 2, none⟩ = some (.int .u64 a0_2) ∧ w'.cell? ⟨gb209, 3, none⟩ = some (.string a0_3) ∧ w'.cell? ⟨gb209, 4, none⟩ = some (.string a0_4) ∧ w'.cell? ⟨gb210, 0, none⟩ = some (.int .u64 a1_0) ∧ w'.cell? ⟨gb210, 1, none⟩ = some (.int .u64 a1_1) ∧ w'.cell? ⟨gb210, 2, none⟩ = some (.int .u64 a1_2) ∧ w'.cell? ⟨gb210, 3, none⟩ = some (.string a1_3) ∧ w'.cell? ⟨gb210, 4, none⟩ = some (.string a1_4)) (ds := []) #[false, false, false, false, false, false, false, false, false, false, false, false, false] (by kernel_rfl) rfl rfl ⟨(blk_cell BK209.out 0).trans rfl, (blk_cell BK209.out 1).trans rfl, (blk_cell BK209.out 2).trans rfl, (blk_cell BK209.out 3).trans rfl, (blk_cell BK209.out 4).trans rfl, (blk_cell BK210.out 0).trans rfl, (blk_cell BK210.out 1).trans rfl, (blk_cell BK210.out 2).trans rfl, (blk_cell BK210.out 3).trans rfl, (blk_cell BK210.out 4).trans rfl⟩ (fun hHeld => ?_); refine with_tabW laws_stBare.tab1 laws_stBare.bits1 (fun HT_ HW_ => ?_)
  generalize w10.drew = w11 at BK209 BK210 BK211 BK212 HB hHeld ⊢
  refine pure_ (i := 4) (N := some 13) (v := ?_) (a' := ?_) #[false, false, false, false, true, false, false, false, false, false, false, false, false] rfl rfl (any_of HT_.out (by kernel_rfl)) (fun _ _ _ h => h) (Or.inl ⟨by rfl, ?_⟩) ?_ ?_
  rotate_left
  ·
   intro w'
   go_simp
   with_reducible rfl
  rotate_left
  ·
   simp only [Act.put, List.setIfInBounds_toArray, List.set_cons_zero, List.set_cons_succ, i64_w, i32_w]
   rfl
  refine pure_ (i := 5) (N := some 14) (v := ?_) (a' := ?_) #[false, false, false, false, true, true, false, false, false, false, false, false, false] rfl rfl (any_of HT_.out (by kernel_rfl)) (fun _ _ _ h => h) (Or.inl ⟨by rfl, ?_⟩) ?_ ?_
  rotate_left
  ·
   intro w'
   go_simp
   with_reducible rfl
  rotate_left
  ·
   simp only [Act.put, List.setIfInBounds_toArray, List.set_cons_zero, List.set_cons_succ, i64_w, i32_w]
   rfl
  refine take_ (i := 0) (N := some 9) (v := ?_) (a' := ?_) #[true, false, false, false, true, true, false, false, false, false, false, false, false] rfl rfl (take_ofW HT_.out HW_.out (by kernel_rfl)) (fun _ _ _ h => h) (Or.inl ⟨by rfl, ?_⟩) hHeld ?_ ?_
  rotate_left
  ·
   rintro w' ⟨s0, s1, s2, s3, s4, s5, s6, s7, s8, s9⟩
   go_simp
   with_reducible rfl
  rotate_left
  ·
   simp only [Act.put, List.setIfInBounds_toArray, List.set_cons_zero, List.set_cons_succ, i64_w, i32_w]
   rfl
  refine take_ (i := 2) (N := some 11) (v := ?_) (a' := ?_) #[true, false, true, false, true, true, false, false, false, false, false, false, false] rfl rfl (take_ofW HT_.out HW_.out (by kernel_rfl)) (fun _ _ _ h => h) (Or.inl ⟨by rfl, ?_⟩) hHeld ?_ ?_
  rotate_left
  ·
   rintro w' ⟨s0, s1, s2, s3, s4, s5, s6, s7, s8, s9⟩
   go_simp
   with_reducible rfl
  rotate_left
  ·
   simp only [Act.put, List.setIfInBounds_toArray, List.set_cons_zero, List.set_cons_succ, i64_w, i32_w]
   rfl
  refine one_ (i := 1) (N := some 10) #[true, true, true, false, true, true, false, false, false, false, false, false, false] rfl rfl (one_of HT_.out (by kernel_rfl)) (by decide) (fun K hK => ?_)
  refine goes_ Tryd.func41 (by kernel_rfl) rfl #[.agg #[.int .u64 a0_0, .int .u64 a0_1, .int .u64 a0_2, .string a0_3, .string a0_4]] (by rfl) rfl rfl (by (try simp only [List.map_toArray, List.map_cons, List.map_nil]); first | done | rfl | (simp only [List.length_drop, List.length_take]; rfl)) ?_
  with_reducible refine (spec_Bare.calls a0_0 a0_1 a0_2 a0_3 a0_4 t213 t214 t215 t216 t217 _ A4.out).mono ?_
  rintro e w12 ⟨rfl, hb⟩
  refine ⟨_, rfl, ?_⟩
  have n0_ := Aside0.mk (blk_below (g := gb209) (o := .cells #[.int .u64 a0_0, .int .u64 a0_1, .int .u64 a0_2, .string a0_3, .string a0_4] 26 (0, 0)) (by (with_reducible repeat (first | refine blk_drewN ?_ _ | refine blk_drew ?_ | refine blk_alloc ?_ _)); exact BK209.out) hb)
  have n1_ := Aside0.mk (blk_below (g := gb210) (o := .cells #[.int .u64 a1_0, .int .u64 a1_1, .int .u64 a1_2, .string a1_3, .string a1_4] 26 (0, 0)) (by (with_reducible repeat (first | refine blk_drewN ?_ _ | refine blk_drew ?_ | refine blk_alloc ?_ _)); exact BK210.out) hb)
  have n2_ := Aside0.mk (blk_below (g := gb211) (o := .cells #[.int .u64 0, .int .u64 0, .int .u64 0, .string (⟨#[]⟩ : ByteArray), .string (⟨#[]⟩ : ByteArray)] 26 (0, 0)) (by (with_reducible repeat (first | refine blk_drewN ?_ _ | refine blk_drew ?_ | refine blk_alloc ?_ _)); exact BK211.out) hb)
  have n3_ := Aside0.mk (blk_below (g := gb212) (o := .cells #[.int .u64 0, .int .u64 0, .int .u64 0, .string (⟨#[]⟩ : ByteArray), .string (⟨#[]⟩ : ByteArray)] 26 (0, 0)) (by (with_reducible repeat (first | refine blk_drewN ?_ _ | refine blk_drew ?_ | refine blk_alloc ?_ _)); exact BK212.out) hb)
  have n4_ := Aside0.mk (below_step (by repeat (first | (with_reducible first | exact HB.out | apply below_alloc | apply pw_below_drewN | apply below_drew1 | refine below_set ?_ GE209.out | refine below_set ?_ GE210.out | refine below_set ?_ GE211.out | refine below_set ?_ GE212.out) | exact HB.out)) hb)
  clear BK209
  clear BK210
  clear BK211
  clear BK212
  clear HB
  have BK209 := n0_
  have BK210 := n1_
  have BK211 := n2_
  have BK212 := n3_
  have HB := n4_
  clear n0_ n1_ n2_ n3_ n4_
  (try clear hb)
  (try clear hb2)
  (try clear hk)
  (try clear hi)
  refine hK.out _ _ ⟨(blk_cell BK209.out 0).trans rfl, (blk_cell BK209.out 1).trans rfl, (blk_cell BK209.out 2).trans rfl, (blk_cell BK209.out 3).trans rfl, (blk_cell BK209.out 4).trans rfl, (blk_cell BK210.out 0).trans rfl, (blk_cell BK210.out 1).trans rfl, (blk_cell BK210.out 2).trans rfl, (blk_cell BK210.out 3).trans rfl, (blk_cell BK210.out 4).trans rfl⟩ (fun hHeld => ?_)
  clear hK K
  refine norm_ (a' := ?_) ?_ ?_
  rotate_left
  ·
   show Act.put _ (some 10) _ = _
   simp only [Act.put, List.setIfInBounds_toArray, List.set_cons_zero, List.set_cons_succ, i64_w, i32_w]
   rfl
  refine one_ (i := 3) (N := some 12) #[true, true, true, true, true, true, false, false, false, false, false, false, false] rfl rfl (one_of HT_.out (by kernel_rfl)) (by decide) (fun K hK => ?_)
  refine goes_ Tryd.func41 (by kernel_rfl) rfl #[.agg #[.int .u64 a1_0, .int .u64 a1_1, .int .u64 a1_2, .string a1_3, .string a1_4]] (by rfl) rfl rfl (by (try simp only [List.map_toArray, List.map_cons, List.map_nil]); first | done | rfl | (simp only [List.length_drop, List.length_take]; rfl)) ?_
  with_reducible refine (spec_Bare.calls a1_0 a1_1 a1_2 a1_3 a1_4 t218 t219 t220 t221 t222 _ A5.out).mono ?_
  rintro e w13 ⟨rfl, hb⟩
  refine ⟨_, rfl, ?_⟩
  have n0_ := Aside0.mk (blk_below (g := gb209) (o := .cells #[.int .u64 a0_0, .int .u64 a0_1, .int .u64 a0_2, .string a0_3, .string a0_4] 26 (0, 0)) (by (with_reducible repeat (first | refine blk_drewN ?_ _ | refine blk_drew ?_ | refine blk_alloc ?_ _)); exact BK209.out) hb)
  have n1_ := Aside0.mk (blk_below (g := gb210) (o := .cells #[.int .u64 a1_0, .int .u64 a1_1, .int .u64 a1_2, .string a1_3, .string a1_4] 26 (0, 0)) (by (with_reducible repeat (first | refine blk_drewN ?_ _ | refine blk_drew ?_ | refine blk_alloc ?_ _)); exact BK210.out) hb)
  have n2_ := Aside0.mk (blk_below (g := gb211) (o := .cells #[.int .u64 0, .int .u64 0, .int .u64 0, .string (⟨#[]⟩ : ByteArray), .string (⟨#[]⟩ : ByteArray)] 26 (0, 0)) (by (with_reducible repeat (first | refine blk_drewN ?_ _ | refine blk_drew ?_ | refine blk_alloc ?_ _)); exact BK211.out) hb)
  have n3_ := Aside0.mk (blk_below (g := gb212) (o := .cells #[.int .u64 0, .int .u64 0, .int .u64 0, .string (⟨#[]⟩ : ByteArray), .string (⟨#[]⟩ : ByteArray)] 26 (0, 0)) (by (with_reducible repeat (first | refine blk_drewN ?_ _ | refine blk_drew ?_ | refine blk_alloc ?_ _)); exact BK212.out) hb)
  have n4_ := Aside0.mk (below_step (by repeat (first | (with_reducible first | exact HB.out | apply below_alloc | apply pw_below_drewN | apply below_drew1 | refine below_set ?_ GE209.out | refine below_set ?_ GE210.out | refine below_set ?_ GE211.out | refine below_set ?_ GE212.out) | exact HB.out)) hb)
  clear BK209
  clear BK210
  clear BK211
  clear BK212
  clear HB
  have BK209 := n0_
  have BK210 := n1_
  have BK211 := n2_
  have BK212 := n3_
  have HB := n4_
  clear n0_ n1_ n2_ n3_ n4_
  (try clear hb)
  (try clear hb2)
  (try clear hk)
  (try clear hi)
  refine hK.out _ _ ⟨(blk_cell BK209.out 0).trans rfl, (blk_cell BK209.out 1).trans rfl, (blk_cell BK209.out 2).trans rfl, (blk_cell BK209.out 3).trans rfl, (blk_cell BK209.out 4).trans rfl, (blk_cell BK210.out 0).trans rfl, (blk_cell BK210.out 1).trans rfl, (blk_cell BK210.out 2).trans rfl, (blk_cell BK210.out 3).trans rfl, (blk_cell BK210.out 4).trans rfl⟩ (fun hHeld => ?_)
  clear hK K
  refine norm_ (a' := ?_) ?_ ?_
  rotate_left
  ·
   show Act.put _ (some 12) _ = _
   simp only [Act.put, List.setIfInBounds_toArray, List.set_cons_zero, List.set_cons_succ, i64_w, i32_w]
   rfl
  refine pure_ (i := 6) (N := some 15) (v := ?_) (a' := ?_) #[true, true, true, true, true, true, true, false, false, false, false, false, false] rfl rfl (any_of HT_.out (by kernel_rfl)) (fun _ _ _ h => h) (Or.inl ⟨by rfl, ?_⟩) ?_ ?_
  rotate_left
  ·
   intro w'
   go_simp
   with_reducible rfl
  rotate_left
  ·
   simp only [Act.put, List.setIfInBounds_toArray, List.set_cons_zero, List.set_cons_succ, i64_w, i32_w]
   rfl
  refine pure_ (i := 7) (N := some 16) (v := ?_) (a' := ?_) #[true, true, true, true, true, true, true, true, false, false, false, false, false] rfl rfl (any_of HT_.out (by kernel_rfl)) (fun _ _ _ h => h) (Or.inl ⟨by rfl, ?_⟩) ?_ ?_
  rotate_left
  ·
   intro w'
   go_simp
   with_reducible rfl
  rotate_left
  ·
   simp only [Act.put, List.setIfInBounds_toArray, List.set_cons_zero, List.set_cons_succ, i64_w, i32_w]
   rfl
  refine pure_ (i := 8) (N := some 17) (v := ?_) (a' := ?_) #[true, true, true, true, true, true, true, true, true, false, false, false, false] rfl rfl (any_of HT_.out (by kernel_rfl)) (fun _ _ _ h => h) (Or.inl ⟨by rfl, ?_⟩) ?_ ?_
  rotate_left
  ·
   intro w'
   go_simp
   with_reducible rfl
  rotate_left
  ·
   simp only [Act.put, List.setIfInBounds_toArray, List.set_cons_zero, List.set_cons_succ, i64_w, i32_w]
   rfl
  refine pure_ (i := 9) (N := some 18) (v := ?_) (a' := ?_) #[true, true, true, true, true, true, true, true, true, true, false, false, false] rfl rfl (any_of HT_.out (by kernel_rfl)) (fun _ _ _ h => h) (Or.inl ⟨by rfl, ?_⟩) ?_ ?_
  rotate_left
  ·
   intro w'
   go_simp
   with_reducible rfl
  rotate_left
  ·
   simp only [Act.put, List.setIfInBounds_toArray, List.set_cons_zero, List.set_cons_succ, i64_w, i32_w]
   rfl
  refine one_ (i := 10) (N := none) #[true, true, true, true, true, true, true, true, true, true, true, false, false] rfl rfl (one_of HT_.out (by kernel_rfl)) (by decide) (fun K hK => ?_)
  have hs14 : w13.cell? ⟨gb211, 0, none⟩ = some (.int .u64 0) := (blk_cell BK211.out 0).trans rfl
  have hfs14 := blk_frozen BK211.out 0
  have hns14_0 := NB209_211.out
  have hns14_1 := NB210_211.out
  have hns14_3 := NB212_211.out
  have hms14_0 := NB211_209.out
  have hms14_1 := NB211_210.out
  have hms14_3 := NB211_212.out
  have hs15 : w13.cell? ⟨gb211, 1, none⟩ = some (.int .u64 0) := (blk_cell BK211.out 1).trans rfl
  have hfs15 := blk_frozen BK211.out 1
  have hns15_0 := NB209_211.out
  have hns15_1 := NB210_211.out
  have hns15_3 := NB212_211.out
  have hms15_0 := NB211_209.out
  have hms15_1 := NB211_210.out
  have hms15_3 := NB211_212.out
  have hs16 : w13.cell? ⟨gb211, 2, none⟩ = some (.int .u64 0) := (blk_cell BK211.out 2).trans rfl
  have hfs16 := blk_frozen BK211.out 2
  have hns16_0 := NB209_211.out
  have hns16_1 := NB210_211.out
  have hns16_3 := NB212_211.out
  have hms16_0 := NB211_209.out
  have hms16_1 := NB211_210.out
  have hms16_3 := NB211_212.out
  have hs17 : w13.cell? ⟨gb211, 3, none⟩ = some (.string (⟨#[]⟩ : ByteArray)) := (blk_cell BK211.out 3).trans rfl
  have hfs17 := blk_frozen BK211.out 3
  have hns17_0 := NB209_211.out
  have hns17_1 := NB210_211.out
  have hns17_3 := NB212_211.out
  have hms17_0 := NB211_209.out
  have hms17_1 := NB211_210.out
  have hms17_3 := NB211_212.out
  have hs18 : w13.cell? ⟨gb211, 4, none⟩ = some (.string (⟨#[]⟩ : ByteArray)) := (blk_cell BK211.out 4).trans rfl
  have hfs18 := blk_frozen BK211.out 4
  have hns18_0 := NB209_211.out
  have hns18_1 := NB210_211.out
  have hns18_3 := NB212_211.out
  have hms18_0 := NB211_209.out
  have hms18_1 := NB211_210.out
  have hms18_3 := NB211_212.out
  refine skip_ (w1 := ?_) (by rfl) rfl ?_ ?_
  rotate_left
  ·
   go_simp
   rfl
  refine hK.out _ _ ⟨((cell_far (p := ⟨gb211, _, none⟩) NB209_211.out _).trans (((cell_far (p := ⟨gb211, _, none⟩) NB209_211.out _).trans (((cell_far (p := ⟨gb211, _, none⟩) NB209_211.out _).trans (((cell_far (p := ⟨gb211, _, none⟩) NB209_211.out _).trans (((cell_far (p := ⟨gb211, _, none⟩) NB209_211.out _).trans (hHeld.1)))))))))), ((cell_far (p := ⟨gb211, _, none⟩) NB209_211.out _).trans (((cell_far (p := ⟨gb211, _, none⟩) NB209_211.out _).trans (((cell_far (p := ⟨gb211, _, none⟩) NB209_211.out _).trans (((cell_far (p := ⟨gb211, _, none⟩) NB209_211.out _).trans (((cell_far (p := ⟨gb211, _, none⟩) NB209_211.out _).trans (hHeld.2.1)))))))))), ((cell_far (p := ⟨gb211, _, none⟩) NB209_211.out _).trans (((cell_far (p := ⟨gb211, _, none⟩) NB209_211.out _).trans (((cell_far (p := ⟨gb211, _, none⟩) NB209_211.out _).trans (((cell_far (p := ⟨gb211, _, none⟩) NB209_211.out _).trans (((cell_far (p := ⟨gb211, _, none⟩) NB209_211.out _).trans (hHeld.2.2.1)))))))))), ((cell_far (p := ⟨gb211, _, none⟩) NB209_211.out _).trans (((cell_far (p := ⟨gb211, _, none⟩) NB209_211.out _).trans (((cell_far (p := ⟨gb211, _, none⟩) NB209_211.out _).trans (((cell_far (p := ⟨gb211, _, none⟩) NB209_211.out _).trans (((cell_far (p := ⟨gb211, _, none⟩) NB209_211.out _).trans (hHeld.2.2.2.1)))))))))), ((cell_far (p := ⟨gb211, _, none⟩) NB209_211.out _).trans (((cell_far (p := ⟨gb211, _, none⟩) NB209_211.out _).trans (((cell_far (p := ⟨gb211, _, none⟩) NB209_211.out _).trans (((cell_far (p := ⟨gb211, _, none⟩) NB209_211.out _).trans (((cell_far (p := ⟨gb211, _, none⟩) NB209_211.out _).trans (hHeld.2.2.2.2.1)))))))))), ((cell_far (p := ⟨gb211, _, none⟩) NB210_211.out _).trans (((cell_far (p := ⟨gb211, _, none⟩) NB210_211.out _).trans (((cell_far (p := ⟨gb211, _, none⟩) NB210_211.out _).trans (((cell_far (p := ⟨gb211, _, none⟩) NB210_211.out _).trans (((cell_far (p := ⟨gb211, _, none⟩) NB210_211.out _).trans (hHeld.2.2.2.2.2.1)))))))))), ((cell_far (p := ⟨gb211, _, none⟩) NB210_211.out _).trans (((cell_far (p := ⟨gb211, _, none⟩) NB210_211.out _).trans (((cell_far (p := ⟨gb211, _, none⟩) NB210_211.out _).trans (((cell_far (p := ⟨gb211, _, none⟩) NB210_211.out _).trans (((cell_far (p := ⟨gb211, _, none⟩) NB210_211.out _).trans (hHeld.2.2.2.2.2.2.1)))))))))), ((cell_far (p := ⟨gb211, _, none⟩) NB210_211.out _).trans (((cell_far (p := ⟨gb211, _, none⟩) NB210_211.out _).trans (((cell_far (p := ⟨gb211, _, none⟩) NB210_211.out _).trans (((cell_far (p := ⟨gb211, _, none⟩) NB210_211.out _).trans (((cell_far (p := ⟨gb211, _, none⟩) NB210_211.out _).trans (hHeld.2.2.2.2.2.2.2.1)))))))))), ((cell_far (p := ⟨gb211, _, none⟩) NB210_211.out _).trans (((cell_far (p := ⟨gb211, _, none⟩) NB210_211.out _).trans (((cell_far (p := ⟨gb211, _, none⟩) NB210_211.out _).trans (((cell_far (p := ⟨gb211, _, none⟩) NB210_211.out _).trans (((cell_far (p := ⟨gb211, _, none⟩) NB210_211.out _).trans (hHeld.2.2.2.2.2.2.2.2.1)))))))))), ((cell_far (p := ⟨gb211, _, none⟩) NB210_211.out _).trans (((cell_far (p := ⟨gb211, _, none⟩) NB210_211.out _).trans (((cell_far (p := ⟨gb211, _, none⟩) NB210_211.out _).trans (((cell_far (p := ⟨gb211, _, none⟩) NB210_211.out _).trans (((cell_far (p := ⟨gb211, _, none⟩) NB210_211.out _).trans (hHeld.2.2.2.2.2.2.2.2.2))))))))))⟩ (fun hHeld => ?_)
  clear hK K
  refine one_ (i := 11) (N := none) #[true, true, true, true, true, true, true, true, true, true, true, true, false] rfl rfl (one_of HT_.out (by kernel_rfl)) (by decide) (fun K hK => ?_)
  have hs19 : w13.cell? ⟨gb212, 0, none⟩ = some (.int .u64 0) := (blk_cell BK212.out 0).trans rfl
  have hfs19 := blk_frozen BK212.out 0
  have hns19_0 := NB209_212.out
  have hns19_1 := NB210_212.out
  have hns19_2 := NB211_212.out
  have hms19_0 := NB212_209.out
  have hms19_1 := NB212_210.out
  have hms19_2 := NB212_211.out
  have hs20 : w13.cell? ⟨gb212, 1, none⟩ = some (.int .u64 0) := (blk_cell BK212.out 1).trans rfl
  have hfs20 := blk_frozen BK212.out 1
  have hns20_0 := NB209_212.out
  have hns20_1 := NB210_212.out
  have hns20_2 := NB211_212.out
  have hms20_0 := NB212_209.out
  have hms20_1 := NB212_210.out
  have hms20_2 := NB212_211.out
  have hs21 : w13.cell? ⟨gb212, 2, none⟩ = some (.int .u64 0) := (blk_cell BK212.out 2).trans rfl
  have hfs21 := blk_frozen BK212.out 2
  have hns21_0 := NB209_212.out
  have hns21_1 := NB210_212.out
  have hns21_2 := NB211_212.out
  have hms21_0 := NB212_209.out
  have hms21_1 := NB212_210.out
  have hms21_2 := NB212_211.out
  have hs22 : w13.cell? ⟨gb212, 3, none⟩ = some (.string (⟨#[]⟩ : ByteArray)) := (blk_cell BK212.out 3).trans rfl
  have hfs22 := blk_frozen BK212.out 3
  have hns22_0 := NB209_212.out
  have hns22_1 := NB210_212.out
  have hns22_2 := NB211_212.out
  have hms22_0 := NB212_209.out
  have hms22_1 := NB212_210.out
  have hms22_2 := NB212_211.out
  have hs23 : w13.cell? ⟨gb212, 4, none⟩ = some (.string (⟨#[]⟩ : ByteArray)) := (blk_cell BK212.out 4).trans rfl
  have hfs23 := blk_frozen BK212.out 4
  have hns23_0 := NB209_212.out
  have hns23_1 := NB210_212.out
  have hns23_2 := NB211_212.out
  have hms23_0 := NB212_209.out
  have hms23_1 := NB212_210.out
  have hms23_2 := NB212_211.out
  refine skip_ (w1 := ?_) (by rfl) rfl ?_ ?_
  rotate_left
  ·
   go_simp
   rfl
  refine hK.out _ _ ⟨((cell_far (p := ⟨gb212, _, none⟩) NB209_212.out _).trans (((cell_far (p := ⟨gb212, _, none⟩) NB209_212.out _).trans (((cell_far (p := ⟨gb212, _, none⟩) NB209_212.out _).trans (((cell_far (p := ⟨gb212, _, none⟩) NB209_212.out _).trans (((cell_far (p := ⟨gb212, _, none⟩) NB209_212.out _).trans (hHeld.1)))))))))), ((cell_far (p := ⟨gb212, _, none⟩) NB209_212.out _).trans (((cell_far (p := ⟨gb212, _, none⟩) NB209_212.out _).trans (((cell_far (p := ⟨gb212, _, none⟩) NB209_212.out _).trans (((cell_far (p := ⟨gb212, _, none⟩) NB209_212.out _).trans (((cell_far (p := ⟨gb212, _, none⟩) NB209_212.out _).trans (hHeld.2.1)))))))))), ((cell_far (p := ⟨gb212, _, none⟩) NB209_212.out _).trans (((cell_far (p := ⟨gb212, _, none⟩) NB209_212.out _).trans (((cell_far (p := ⟨gb212, _, none⟩) NB209_212.out _).trans (((cell_far (p := ⟨gb212, _, none⟩) NB209_212.out _).trans (((cell_far (p := ⟨gb212, _, none⟩) NB209_212.out _).trans (hHeld.2.2.1)))))))))), ((cell_far (p := ⟨gb212, _, none⟩) NB209_212.out _).trans (((cell_far (p := ⟨gb212, _, none⟩) NB209_212.out _).trans (((cell_far (p := ⟨gb212, _, none⟩) NB209_212.out _).trans (((cell_far (p := ⟨gb212, _, none⟩) NB209_212.out _).trans (((cell_far (p := ⟨gb212, _, none⟩) NB209_212.out _).trans (hHeld.2.2.2.1)))))))))), ((cell_far (p := ⟨gb212, _, none⟩) NB209_212.out _).trans (((cell_far (p := ⟨gb212, _, none⟩) NB209_212.out _).trans (((cell_far (p := ⟨gb212, _, none⟩) NB209_212.out _).trans (((cell_far (p := ⟨gb212, _, none⟩) NB209_212.out _).trans (((cell_far (p := ⟨gb212, _, none⟩) NB209_212.out _).trans (hHeld.2.2.2.2.1)))))))))), ((cell_far (p := ⟨gb212, _, none⟩) NB210_212.out _).trans (((cell_far (p := ⟨gb212, _, none⟩) NB210_212.out _).trans (((cell_far (p := ⟨gb212, _, none⟩) NB210_212.out _).trans (((cell_far (p := ⟨gb212, _, none⟩) NB210_212.out _).trans (((cell_far (p := ⟨gb212, _, none⟩) NB210_212.out _).trans (hHeld.2.2.2.2.2.1)))))))))), ((cell_far (p := ⟨gb212, _, none⟩) NB210_212.out _).trans (((cell_far (p := ⟨gb212, _, none⟩) NB210_212.out _).trans (((cell_far (p := ⟨gb212, _, none⟩) NB210_212.out _).trans (((cell_far (p := ⟨gb212, _, none⟩) NB210_212.out _).trans (((cell_far (p := ⟨gb212, _, none⟩) NB210_212.out _).trans (hHeld.2.2.2.2.2.2.1)))))))))), ((cell_far (p := ⟨gb212, _, none⟩) NB210_212.out _).trans (((cell_far (p := ⟨gb212, _, none⟩) NB210_212.out _).trans (((cell_far (p := ⟨gb212, _, none⟩) NB210_212.out _).trans (((cell_far (p := ⟨gb212, _, none⟩) NB210_212.out _).trans (((cell_far (p := ⟨gb212, _, none⟩) NB210_212.out _).trans (hHeld.2.2.2.2.2.2.2.1)))))))))), ((cell_far (p := ⟨gb212, _, none⟩) NB210_212.out _).trans (((cell_far (p := ⟨gb212, _, none⟩) NB210_212.out _).trans (((cell_far (p := ⟨gb212, _, none⟩) NB210_212.out _).trans (((cell_far (p := ⟨gb212, _, none⟩) NB210_212.out _).trans (((cell_far (p := ⟨gb212, _, none⟩) NB210_212.out _).trans (hHeld.2.2.2.2.2.2.2.2.1)))))))))), ((cell_far (p := ⟨gb212, _, none⟩) NB210_212.out _).trans (((cell_far (p := ⟨gb212, _, none⟩) NB210_212.out _).trans (((cell_far (p := ⟨gb212, _, none⟩) NB210_212.out _).trans (((cell_far (p := ⟨gb212, _, none⟩) NB210_212.out _).trans (((cell_far (p := ⟨gb212, _, none⟩) NB210_212.out _).trans (hHeld.2.2.2.2.2.2.2.2.2))))))))))⟩ (fun hHeld => ?_)
  clear hK K
  refine pure_ (i := 12) (N := some 8) (v := ?_) (a' := ?_) #[true, true, true, true, true, true, true, true, true, true, true, true, true] rfl rfl (any_of HT_.out (by kernel_rfl)) (fun _ _ _ h => h) (Or.inl ⟨by rfl, ?_⟩) ?_ ?_
  rotate_left
  ·
   intro w'
   go_simp
   with_reducible rfl
  rotate_left
  ·
   simp only [Act.put, List.setIfInBounds_toArray, List.set_cons_zero, List.set_cons_succ, i64_w, i32_w]
   rfl
  refine done_ (done_of HT_.out (by kernel_rfl)) ?_
  try go_wp2
  refine bodyPost_ret (results_list (rs := [.cell 6 26, .cell 7 26, .tmp 8]) rfl (by simp) (.cell gb211 26 #[.int .u64 t213, .int .u64 t214, .int .u64 t215, .string t216, .string t217] (0, 0) _ rfl (by (with_reducible repeat (first | refine blk_drewN ?_ _ | refine blk_drew ?_ | refine blk_alloc ?_ _)); refine blk_far ?_ NB211_212.out _; (with_reducible repeat (first | refine blk_drewN ?_ _ | refine blk_drew ?_ | refine blk_alloc ?_ _)); refine blk_far ?_ NB211_212.out _; (with_reducible repeat (first | refine blk_drewN ?_ _ | refine blk_drew ?_ | refine blk_alloc ?_ _)); refine blk_far ?_ NB211_212.out _; (with_reducible repeat (first | refine blk_drewN ?_ _ | refine blk_drew ?_ | refine blk_alloc ?_ _)); refine blk_far ?_ NB211_212.out _; (with_reducible repeat (first | refine blk_drewN ?_ _ | refine blk_drew ?_ | refine blk_alloc ?_ _)); refine blk_far ?_ NB211_212.out _; (with_reducible repeat (first | refine blk_drewN ?_ _ | refine blk_drew ?_ | refine blk_alloc ?_ _)); refine blk_put (cs := #[.int .u64 t213, .int .u64 t214, .int .u64 t215, .string t216, .string (⟨#[]⟩ : ByteArray)]) ?_ 4 _ rfl; (with_reducible repeat (first | refine blk_drewN ?_ _ | refine blk_drew ?_ | refine blk_alloc ?_ _)); refine blk_put (cs := #[.int .u64 t213, .int .u64 t214, .int .u64 t215, .string (⟨#[]⟩ : ByteArray), .string (⟨#[]⟩ : ByteArray)]) ?_ 3 _ rfl; (with_reducible repeat (first | refine blk_drewN ?_ _ | refine blk_drew ?_ | refine blk_alloc ?_ _)); refine blk_put (cs := #[.int .u64 t213, .int .u64 t214, .int .u64 0, .string (⟨#[]⟩ : ByteArray), .string (⟨#[]⟩ : ByteArray)]) ?_ 2 _ rfl; (with_reducible repeat (first | refine blk_drewN ?_ _ | refine blk_drew ?_ | refine blk_alloc ?_ _)); refine blk_put (cs := #[.int .u64 t213, .int .u64 0, .int .u64 0, .string (⟨#[]⟩ : ByteArray), .string (⟨#[]⟩ : ByteArray)]) ?_ 1 _ rfl; (with_reducible repeat (first | refine blk_drewN ?_ _ | refine blk_drew ?_ | refine blk_alloc ?_ _)); refine blk_put (cs := #[.int .u64 0, .int .u64 0, .int .u64 0, .string (⟨#[]⟩ : ByteArray), .string (⟨#[]⟩ : ByteArray)]) ?_ 0 _ rfl; (with_reducible repeat (first | refine blk_drewN ?_ _ | refine blk_drew ?_ | refine blk_alloc ?_ _)); exact BK211.out) Tryd.underlying26 rfl (by kernel_rfl) (.cell gb212 26 #[.int .u64 t218, .int .u64 t219, .int .u64 t220, .string t221, .string t222] (0, 0) _ rfl (by (with_reducible repeat (first | refine blk_drewN ?_ _ | refine blk_drew ?_ | refine blk_alloc ?_ _)); refine blk_put (cs := #[.int .u64 t218, .int .u64 t219, .int .u64 t220, .string t221, .string (⟨#[]⟩ : ByteArray)]) ?_ 4 _ rfl; (with_reducible repeat (first | refine blk_drewN ?_ _ | refine blk_drew ?_ | refine blk_alloc ?_ _)); refine blk_put (cs := #[.int .u64 t218, .int .u64 t219, .int .u64 t220, .string (⟨#[]⟩ : ByteArray), .string (⟨#[]⟩ : ByteArray)]) ?_ 3 _ rfl; (with_reducible repeat (first | refine blk_drewN ?_ _ | refine blk_drew ?_ | refine blk_alloc ?_ _)); refine blk_put (cs := #[.int .u64 t218, .int .u64 t219, .int .u64 0, .string (⟨#[]⟩ : ByteArray), .string (⟨#[]⟩ : ByteArray)]) ?_ 2 _ rfl; (with_reducible repeat (first | refine blk_drewN ?_ _ | refine blk_drew ?_ | refine blk_alloc ?_ _)); refine blk_put (cs := #[.int .u64 t218, .int .u64 0, .int .u64 0, .string (⟨#[]⟩ : ByteArray), .string (⟨#[]⟩ : ByteArray)]) ?_ 1 _ rfl; (with_reducible repeat (first | refine blk_drewN ?_ _ | refine blk_drew ?_ | refine blk_alloc ?_ _)); refine blk_put (cs := #[.int .u64 0, .int .u64 0, .int .u64 0, .string (⟨#[]⟩ : ByteArray), .string (⟨#[]⟩ : ByteArray)]) ?_ 0 _ rfl; (with_reducible repeat (first | refine blk_drewN ?_ _ | refine blk_drew ?_ | refine blk_alloc ?_ _)); refine blk_far ?_ NB212_211.out _; (with_reducible repeat (first | refine blk_drewN ?_ _ | refine blk_drew ?_ | refine blk_alloc ?_ _)); refine blk_far ?_ NB212_211.out _; (with_reducible repeat (first | refine blk_drewN ?_ _ | refine blk_drew ?_ | refine blk_alloc ?_ _)); refine blk_far ?_ NB212_211.out _; (with_reducible repeat (first | refine blk_drewN ?_ _ | refine blk_drew ?_ | refine blk_alloc ?_ _)); refine blk_far ?_ NB212_211.out _; (with_reducible repeat (first | refine blk_drewN ?_ _ | refine blk_drew ?_ | refine blk_alloc ?_ _)); refine blk_far ?_ NB212_211.out _; (with_reducible repeat (first | refine blk_drewN ?_ _ | refine blk_drew ?_ | refine blk_alloc ?_ _)); exact BK212.out) Tryd.underlying26 rfl (by kernel_rfl) (.tmp .nil)))) rfl ?_
  exact ⟨by first | rfl | (simp [errW_none, errW_some] <;> rfl) | (simp [*, errW_none, errW_some] <;> rfl) | (simp [bneNil]; done), by repeat (first | (with_reducible first | exact HB.out | apply below_alloc | apply pw_below_drewN | apply below_drew1 | refine below_set ?_ GE209.out | refine below_set ?_ GE210.out | refine below_set ?_ GE211.out | refine below_set ?_ GE212.out) | exact HB.out)⟩
 ·
  rw [if_neg c6] at H
  have c6b0 : decide (1 ≤ a2) = false := decide_eq_false c6
  clear c6
  simp only [Option.some.injEq, Prod.mk.injEq] at H
  obtain ⟨rfl, rfl, rfl, rfl, rfl, rfl, rfl, rfl, rfl, rfl, rfl⟩ := H
  go_enter Tryd.func20, Tryd.ntmps20
  try go_wp2_with (first | ((with_reducible refine gate_dst (N := 3) rfl ?_); refine box_event ?hg (N := 3) ?hd (cs := #[.int .u64 a0_0, .int .u64 a0_1, .int .u64 a0_2, .string a0_3, .string a0_4]) (t := 26) ?hr ?_; (case hd => rfl); (case hg => rfl); (case hr => first | (go_simp; done) | (go_simp; rfl) | (go_simp; simp [u8w]; done)); intro gb209 hg w24 hbox hb; have n0_ := Aside0.mk (below_step (by repeat (first | (with_reducible first | exact HB.out | apply below_alloc | apply pw_below_drewN | apply below_drew1) | exact HB.out)) hb); have n1_ := Aside0.mk (hbox); have n2_ := Aside0.mk ((by rw [hg]; exact (below_size (by repeat (first | (with_reducible first | exact HB.out | apply below_alloc | apply pw_below_drewN | apply below_drew1) | exact HB.out))) : w.heap.size ≤ gb209)); have n3_ := Aside0.mk ((by rw [hg]; exact (below_size (by repeat (first | (with_reducible first | exact HB.out | apply below_alloc | apply pw_below_drewN | apply below_drew1) | exact HB.out))) : w.heap.size ≤ gb209)); clear HB; have HB := n0_; have BK209 := n1_; have GW209 := n2_; have GE209 := n3_; clear n0_ n1_ n2_ n3_; clear hb hbox hg) | ((with_reducible refine gate_dst (N := 4) rfl ?_); refine box_event ?hg (N := 4) ?hd (cs := #[.int .u64 a1_0, .int .u64 a1_1, .int .u64 a1_2, .string a1_3, .string a1_4]) (t := 26) ?hr ?_; (case hd => rfl); (case hg => rfl); (case hr => first | (go_simp; done) | (go_simp; rfl) | (go_simp; simp [u8w]; done)); intro gb210 hg w25 hbox hb; have n0_ := Aside0.mk (blk_below (g := gb209) (o := .cells #[.int .u64 a0_0, .int .u64 a0_1, .int .u64 a0_2, .string a0_3, .string a0_4] 26 (0, 0)) (by (with_reducible repeat (first | refine blk_drewN ?_ _ | refine blk_drew ?_ | refine blk_alloc ?_ _)); exact BK209.out) hb); have n1_ := Aside0.mk (below_step (by repeat (first | (with_reducible first | exact HB.out | apply below_alloc | apply pw_below_drewN | apply below_drew1 | refine below_set ?_ GE209.out) | exact HB.out)) hb); have n2_ := Aside0.mk (hbox); have n3_ := Aside0.mk ((by rw [hg]; exact (below_size (by repeat (first | (with_reducible first | exact HB.out | apply below_alloc | apply pw_below_drewN | apply below_drew1 | refine below_set ?_ GE209.out) | exact HB.out))) : w.heap.size ≤ gb210)); have n4_ := Aside0.mk ((by rw [hg]; exact (below_size (by repeat (first | (with_reducible first | exact HB.out | apply below_alloc | apply pw_below_drewN | apply below_drew1 | refine below_set ?_ GE209.out) | exact HB.out))) : w.heap.size ≤ gb210)); have n5_ := Aside0.mk ((by rw [hg]; exact Nat.ne_of_lt (blk_lt (g := gb209) (o := .cells #[.int .u64 a0_0, .int .u64 a0_1, .int .u64 a0_2, .string a0_3, .string a0_4] 26 (0, 0)) (by (with_reducible repeat (first | refine blk_drewN ?_ _ | refine blk_drew ?_ | refine blk_alloc ?_ _)); exact BK209.out)) : gb209 ≠ gb210)); have n6_ := Aside0.mk ((by rw [hg]; exact Nat.ne_of_gt (blk_lt (g := gb209) (o := .cells #[.int .u64 a0_0, .int .u64 a0_1, .int .u64 a0_2, .string a0_3, .string a0_4] 26 (0, 0)) (by (with_reducible repeat (first | refine blk_drewN ?_ _ | refine blk_drew ?_ | refine blk_alloc ?_ _)); exact BK209.out)) : gb210 ≠ gb209)); clear BK209; clear HB; have BK209 := n0_; have HB := n1_; have BK210 := n2_; have GW210 := n3_; have GE210 := n4_; have NB209_210 := n5_; have NB210_209 := n6_; clear n0_ n1_ n2_ n3_ n4_ n5_ n6_; clear hb hbox hg) | ((with_reducible refine gate_dst (N := 6) rfl ?_); refine box_event ?hg (N := 6) ?hd (cs := #[.int .u64 0, .int .u64 0, .int .u64 0, .string (⟨#[]⟩ : ByteArray), .string (⟨#[]⟩ : ByteArray)]) (t := 26) ?hr ?_; (case hd => rfl); (case hg => rfl); (case hr => first | (go_simp; done) | (go_simp; rfl) | (go_simp; simp [u8w]; done)); intro gb211 hg w26 hbox hb; have n0_ := Aside0.mk (blk_below (g := gb209) (o := .cells #[.int .u64 a0_0, .int .u64 a0_1, .int .u64 a0_2, .string a0_3, .string a0_4] 26 (0, 0)) (by (with_reducible repeat (first | refine blk_drewN ?_ _ | refine blk_drew ?_ | refine blk_alloc ?_ _)); exact BK209.out) hb); have n1_ := Aside0.mk (blk_below (g := gb210) (o := .cells #[.int .u64 a1_0, .int .u64 a1_1, .int .u64 a1_2, .string a1_3, .string a1_4] 26 (0, 0)) (by (with_reducible repeat (first | refine blk_drewN ?_ _ | refine blk_drew ?_ | refine blk_alloc ?_ _)); exact BK210.out) hb); have n2_ := Aside0.mk (below_step (by repeat (first | (with_reducible first | exact HB.out | apply below_alloc | apply pw_below_drewN | apply below_drew1 | refine below_set ?_ GE209.out | refine below_set ?_ GE210.out) | exact HB.out)) hb); have n3_ := Aside0.mk (hbox); have n4_ := Aside0.mk ((by rw [hg]; exact (below_size (by repeat (first | (with_reducible first | exact HB.out | apply below_alloc | apply pw_below_drewN | apply below_drew1 | refine below_set ?_ GE209.out | refine below_set ?_ GE210.out) | exact HB.out))) : w.heap.size ≤ gb211)); have n5_ := Aside0.mk ((by rw [hg]; exact (below_size (by repeat (first | (with_reducible first | exact HB.out | apply below_alloc | apply pw_below_drewN | apply below_drew1 | refine below_set ?_ GE209.out | refine below_set ?_ GE210.out) | exact HB.out))) : w.heap.size ≤ gb211)); have n6_ := Aside0.mk ((by rw [hg]; exact Nat.ne_of_lt (blk_lt (g := gb209) (o := .cells #[.int .u64 a0_0, .int .u64 a0_1, .int .u64 a0_2, .string a0_3, .string a0_4] 26 (0, 0)) (by (with_reducible repeat (first | refine blk_drewN ?_ _ | refine blk_drew ?_ | refine blk_alloc ?_ _)); exact BK209.out)) : gb209 ≠ gb211)); have n7_ := Aside0.mk ((by rw [hg]; exact Nat.ne_of_gt (blk_lt (g := gb209) (o := .cells #[.int .u64 a0_0, .int .u64 a0_1, .int .u64 a0_2, .string a0_3, .string a0_4] 26 (0, 0)) (by (with_reducible repeat (first | refine blk_drewN ?_ _ | refine blk_drew ?_ | refine blk_alloc ?_ _)); exact BK209.out)) : gb211 ≠ gb209)); have n8_ := Aside0.mk ((by rw [hg]; exact Nat.ne_of_lt (blk_lt (g := gb210) (o := .cells #[.int .u64 a1_0, .int .u64 a1_1, .int .u64 a1_2, .string a1_3, .string a1_4] 26 (0, 0)) (by (with_reducible repeat (first | refine blk_drewN ?_ _ | refine blk_drew ?_ | refine blk_alloc ?_ _)); exact BK210.out)) : gb210 ≠ gb211)); have n9_ := Aside0.mk ((by rw [hg]; exact Nat.ne_of_gt (blk_lt (g := gb210) (o := .cells #[.int .u64 a1_0, .int .u64 a1_1, .int .u64 a1_2, .string a1_3, .string a1_4] 26 (0, 0)) (by (with_reducible repeat (first | refine blk_drewN ?_ _ | refine blk_drew ?_ | refine blk_alloc ?_ _)); exact BK210.out)) : gb211 ≠ gb210)); clear BK209; clear BK210; clear HB; have BK209 := n0_; have BK210 := n1_; have HB := n2_; have BK211 := n3_; have GW211 := n4_; have GE211 := n5_; have NB209_211 := n6_; have NB211_209 := n7_; have NB210_211 := n8_; have NB211_210 := n9_; clear n0_ n1_ n2_ n3_ n4_ n5_ n6_ n7_ n8_ n9_; clear hb hbox hg) | ((with_reducible refine gate_dst (N := 7) rfl ?_); refine box_event ?hg (N := 7) ?hd (cs := #[.int .u64 0, .int .u64 0, .int .u64 0, .string (⟨#[]⟩ : ByteArray), .string (⟨#[]⟩ : ByteArray)]) (t := 26) ?hr ?_; (case hd => rfl); (case hg => rfl); (case hr => first | (go_simp; done) | (go_simp; rfl) | (go_simp; simp [u8w]; done)); intro gb212 hg w27 hbox hb; have n0_ := Aside0.mk (blk_below (g := gb209) (o := .cells #[.int .u64 a0_0, .int .u64 a0_1, .int .u64 a0_2, .string a0_3, .string a0_4] 26 (0, 0)) (by (with_reducible repeat (first | refine blk_drewN ?_ _ | refine blk_drew ?_ | refine blk_alloc ?_ _)); exact BK209.out) hb); have n1_ := Aside0.mk (blk_below (g := gb210) (o := .cells #[.int .u64 a1_0, .int .u64 a1_1, .int .u64 a1_2, .string a1_3, .string a1_4] 26 (0, 0)) (by (with_reducible repeat (first | refine blk_drewN ?_ _ | refine blk_drew ?_ | refine blk_alloc ?_ _)); exact BK210.out) hb); have n2_ := Aside0.mk (blk_below (g := gb211) (o := .cells #[.int .u64 0, .int .u64 0, .int .u64 0, .string (⟨#[]⟩ : ByteArray), .string (⟨#[]⟩ : ByteArray)] 26 (0, 0)) (by (with_reducible repeat (first | refine blk_drewN ?_ _ | refine blk_drew ?_ | refine blk_alloc ?_ _)); exact BK211.out) hb); have n3_ := Aside0.mk (below_step (by repeat (first | (with_reducible first | exact HB.out | apply below_alloc | apply pw_below_drewN | apply below_drew1 | refine below_set ?_ GE209.out | refine below_set ?_ GE210.out | refine below_set ?_ GE211.out) | exact HB.out)) hb); have n4_ := Aside0.mk (hbox); have n5_ := Aside0.mk ((by rw [hg]; exact (below_size (by repeat (first | (with_reducible first | exact HB.out | apply below_alloc | apply pw_below_drewN | apply below_drew1 | refine below_set ?_ GE209.out | refine below_set ?_ GE210.out | refine below_set ?_ GE211.out) | exact HB.out))) : w.heap.size ≤ gb212)); have n6_ := Aside0.mk ((by rw [hg]; exact (below_size (by repeat (first | (with_reducible first | exact HB.out | apply below_alloc | apply pw_below_drewN | apply below_drew1 | refine below_set ?_ GE209.out | refine below_set ?_ GE210.out | refine below_set ?_ GE211.out) | exact HB.out))) : w.heap.size ≤ gb212)); have n7_ := Aside0.mk ((by rw [hg]; exact Nat.ne_of_lt (blk_lt (g := gb209) (o := .cells #[.int .u64 a0_0, .int .u64 a0_1, .int .u64 a0_2, .string a0_3, .string a0_4] 26 (0, 0)) (by (with_reducible repeat (first | refine blk_drewN ?_ _ | refine blk_drew ?_ | refine blk_alloc ?_ _)); exact BK209.out)) : gb209 ≠ gb212)); have n8_ := Aside0.mk ((by rw [hg]; exact Nat.ne_of_gt (blk_lt (g := gb209) (o := .cells #[.int .u64 a0_0, .int .u64 a0_1, .int .u64 a0_2, .string a0_3, .string a0_4] 26 (0, 0)) (by (with_reducible repeat (first | refine blk_drewN ?_ _ | refine blk_drew ?_ | refine blk_alloc ?_ _)); exact BK209.out)) : gb212 ≠ gb209)); have n9_ := Aside0.mk ((by rw [hg]; exact Nat.ne_of_lt (blk_lt (g := gb210) (o := .cells #[.int .u64 a1_0, .int .u64 a1_1, .int .u64 a1_2, .string a1_3, .string a1_4] 26 (0, 0)) (by (with_reducible repeat (first | refine blk_drewN ?_ _ | refine blk_drew ?_ | refine blk_alloc ?_ _)); exact BK210.out)) : gb210 ≠ gb212)); have n10_ := Aside0.mk ((by rw [hg]; exact Nat.ne_of_gt (blk_lt (g := gb210) (o := .cells #[.int .u64 a1_0, .int .u64 a1_1, .int .u64 a1_2, .string a1_3, .string a1_4] 26 (0, 0)) (by (with_reducible repeat (first | refine blk_drewN ?_ _ | refine blk_drew ?_ | refine blk_alloc ?_ _)); exact BK210.out)) : gb212 ≠ gb210)); have n11_ := Aside0.mk ((by rw [hg]; exact Nat.ne_of_lt (blk_lt (g := gb211) (o := .cells #[.int .u64 0, .int .u64 0, .int .u64 0, .string (⟨#[]⟩ : ByteArray), .string (⟨#[]⟩ : ByteArray)] 26 (0, 0)) (by (with_reducible repeat (first | refine blk_drewN ?_ _ | refine blk_drew ?_ | refine blk_alloc ?_ _)); exact BK211.out)) : gb211 ≠ gb212)); have n12_ := Aside0.mk ((by rw [hg]; exact Nat.ne_of_gt (blk_lt (g := gb211) (o := .cells #[.int .u64 0, .int .u64 0, .int .u64 0, .string (⟨#[]⟩ : ByteArray), .string (⟨#[]⟩ : ByteArray)] 26 (0, 0)) (by (with_reducible repeat (first | refine blk_drewN ?_ _ | refine blk_drew ?_ | refine blk_alloc ?_ _)); exact BK211.out)) : gb212 ≠ gb211)); clear BK209; clear BK210; clear BK211; clear HB; have BK209 := n0_; have BK210 := n1_; have BK211 := n2_; have HB := n3_; have BK212 := n4_; have GW212 := n5_; have GE212 := n6_; have NB209_212 := n7_; have NB212_209 := n8_; have NB210_212 := n9_; have NB212_210 := n10_; have NB211_212 := n11_; have NB212_211 := n12_; clear n0_ n1_ n2_ n3_ n4_ n5_ n6_ n7_ n8_ n9_ n10_ n11_ n12_; clear hb hbox hg))
  have n0_ := Aside0.mk (blk_drew BK209.out)
  have n1_ := Aside0.mk (blk_drew BK210.out)
  have n2_ := Aside0.mk (blk_drew BK211.out)
  have n3_ := Aside0.mk (blk_drew BK212.out)
  have n4_ := Aside0.mk (below_drew1 HB.out)
  clear BK209
  clear BK210
  clear BK211
  clear BK212
  clear HB
  have BK209 := n0_
  have BK210 := n1_
  have BK211 := n2_
  have BK212 := n3_
  have HB := n4_
  clear n0_ n1_ n2_ n3_ n4_
  refine start_ (n := 13) (S := fun w' => w'.cell? ⟨gb209, 0, none⟩ = some (.int .u64 a0_0) ∧ w'.cell? ⟨gb209, 1, none⟩ = some (.int .u64 a0_1) ∧ w'.cell? ⟨gb209, 2, none⟩ = some (.int .u64 a0_2) ∧ w'.cell? ⟨gb209, 3, none⟩ = some (.string a0_3) ∧ w'.cell? ⟨gb209, 4, none⟩ = some (.string a0_4) ∧ w'.cell? ⟨gb210, 0, none⟩ = some (.int .u64 a1_0) ∧ w'.cell? ⟨gb210, 1, none⟩ = some (.int .u64 a1_1) ∧ w'.cell? ⟨gb210, 2, none⟩ = some (.int .u64 a1_2) ∧ w'.cell? ⟨gb210, 3, none⟩ = some (.string a1_3) ∧ w'.cell? ⟨gb210, 4, none⟩ = some (.string a1_4)) (ds := []) #[false, false, false, false, false, false, false, false, false, false, false, false, false] (by kernel_rfl) rfl rfl ⟨(blk_cell BK209.out 0).trans rfl, (blk_cell BK209.out 1).trans rfl, (blk_cell BK209.out 2).trans rfl, (blk_cell BK209.out 3).trans rfl, (blk_cell BK209.out 4).trans rfl, (blk_cell BK210.out 0).trans rfl, (blk_cell BK210.out 1).trans rfl, (blk_cell BK210.out 2).trans rfl, (blk_cell BK210.out 3).trans rfl, (blk_cell BK210.out 4).trans rfl⟩ (fun hHeld => ?_); refine with_tabW laws_stBare.tab1 laws_stBare.bits1 (fun HT_ HW_ => ?_)
  generalize w27.drew = w28 at BK209 BK210 BK211 BK212 HB hHeld ⊢
  refine pure_ (i := 4) (N := some 13) (v := ?_) (a' := ?_) #[false, false, false, false, true, false, false, false, false, false, false, false, false] rfl rfl (any_of HT_.out (by kernel_rfl)) (fun _ _ _ h => h) (Or.inl ⟨by rfl, ?_⟩) ?_ ?_
  rotate_left
  ·
   intro w'
   go_simp
   with_reducible rfl
  rotate_left
  ·
   simp only [Act.put, List.setIfInBounds_toArray, List.set_cons_zero, List.set_cons_succ, i64_w, i32_w]
   rfl
  refine pure_ (i := 5) (N := some 14) (v := ?_) (a' := ?_) #[false, false, false, false, true, true, false, false, false, false, false, false, false] rfl rfl (any_of HT_.out (by kernel_rfl)) (fun _ _ _ h => h) (Or.inl ⟨by rfl, ?_⟩) ?_ ?_
  rotate_left
  ·
   intro w'
   go_simp
   with_reducible rfl
  rotate_left
  ·
   simp only [Act.put, List.setIfInBounds_toArray, List.set_cons_zero, List.set_cons_succ, i64_w, i32_w]
   rfl
  refine take_ (i := 0) (N := some 9) (v := ?_) (a' := ?_) #[true, false, false, false, true, true, false, false, false, false, false, false, false] rfl rfl (take_ofW HT_.out HW_.out (by kernel_rfl)) (fun _ _ _ h => h) (Or.inl ⟨by rfl, ?_⟩) hHeld ?_ ?_
  rotate_left
  ·
   rintro w' ⟨s0, s1, s2, s3, s4, s5, s6, s7, s8, s9⟩
   go_simp
   with_reducible rfl
  rotate_left
  ·
   simp only [Act.put, List.setIfInBounds_toArray, List.set_cons_zero, List.set_cons_succ, i64_w, i32_w]
   rfl
  refine take_ (i := 2) (N := some 11) (v := ?_) (a' := ?_) #[true, false, true, false, true, true, false, false, false, false, false, false, false] rfl rfl (take_ofW HT_.out HW_.out (by kernel_rfl)) (fun _ _ _ h => h) (Or.inl ⟨by rfl, ?_⟩) hHeld ?_ ?_
  rotate_left
  ·
   rintro w' ⟨s0, s1, s2, s3, s4, s5, s6, s7, s8, s9⟩
   go_simp
   with_reducible rfl
  rotate_left
  ·
   simp only [Act.put, List.setIfInBounds_toArray, List.set_cons_zero, List.set_cons_succ, i64_w, i32_w]
   rfl
  refine one_ (i := 1) (N := some 10) #[true, true, true, false, true, true, false, false, false, false, false, false, false] rfl rfl (one_of HT_.out (by kernel_rfl)) (by decide) (fun K hK => ?_)
  refine goes_ Tryd.func41 (by kernel_rfl) rfl #[.agg #[.int .u64 a0_0, .int .u64 a0_1, .int .u64 a0_2, .string a0_3, .string a0_4]] (by rfl) rfl rfl (by (try simp only [List.map_toArray, List.map_cons, List.map_nil]); first | done | rfl | (simp only [List.length_drop, List.length_take]; rfl)) ?_
  with_reducible refine (spec_Bare.calls a0_0 a0_1 a0_2 a0_3 a0_4 t213 t214 t215 t216 t217 _ A4.out).mono ?_
  rintro e w29 ⟨rfl, hb⟩
  refine ⟨_, rfl, ?_⟩
  have n0_ := Aside0.mk (blk_below (g := gb209) (o := .cells #[.int .u64 a0_0, .int .u64 a0_1, .int .u64 a0_2, .string a0_3, .string a0_4] 26 (0, 0)) (by (with_reducible repeat (first | refine blk_drewN ?_ _ | refine blk_drew ?_ | refine blk_alloc ?_ _)); exact BK209.out) hb)
  have n1_ := Aside0.mk (blk_below (g := gb210) (o := .cells #[.int .u64 a1_0, .int .u64 a1_1, .int .u64 a1_2, .string a1_3, .string a1_4] 26 (0, 0)) (by (with_reducible repeat (first | refine blk_drewN ?_ _ | refine blk_drew ?_ | refine blk_alloc ?_ _)); exact BK210.out) hb)
  have n2_ := Aside0.mk (blk_below (g := gb211) (o := .cells #[.int .u64 0, .int .u64 0, .int .u64 0, .string (⟨#[]⟩ : ByteArray), .string (⟨#[]⟩ : ByteArray)] 26 (0, 0)) (by (with_reducible repeat (first | refine blk_drewN ?_ _ | refine blk_drew ?_ | refine blk_alloc ?_ _)); exact BK211.out) hb)
  have n3_ := Aside0.mk (blk_below (g := gb212) (o := .cells #[.int .u64 0, .int .u64 0, .int .u64 0, .string (⟨#[]⟩ : ByteArray), .string (⟨#[]⟩ : ByteArray)] 26 (0, 0)) (by (with_reducible repeat (first | refine blk_drewN ?_ _ | refine blk_drew ?_ | refine blk_alloc ?_ _)); exact BK212.out) hb)
  have n4_ := Aside0.mk (below_step (by repeat (first | (with_reducible first | exact HB.out | apply below_alloc | apply pw_below_drewN | apply below_drew1 | refine below_set ?_ GE209.out | refine below_set ?_ GE210.out | refine below_set ?_ GE211.out | refine below_set ?_ GE212.out) | exact HB.out)) hb)
  clear BK209
  clear BK210
  clear BK211
  clear BK212
  clear HB
  have BK209 := n0_
  have BK210 := n1_
  have BK211 := n2_
  have BK212 := n3_
  have HB := n4_
  clear n0_ n1_ n2_ n3_ n4_
  (try clear hb)
  (try clear hb2)
  (try clear hk)
  (try clear hi)
  refine hK.out _ _ ⟨(blk_cell BK209.out 0).trans rfl, (blk_cell BK209.out 1).trans rfl, (blk_cell BK209.out 2).trans rfl, (blk_cell BK209.out 3).trans rfl, (blk_cell BK209.out 4).trans rfl, (blk_cell BK210.out 0).trans rfl, (blk_cell BK210.out 1).trans rfl, (blk_cell BK210.out 2).trans rfl, (blk_cell BK210.out 3).trans rfl, (blk_cell BK210.out 4).trans rfl⟩ (fun hHeld => ?_)
  clear hK K
  refine norm_ (a' := ?_) ?_ ?_
  rotate_left
  ·
   show Act.put _ (some 10) _ = _
   simp only [Act.put, List.setIfInBounds_toArray, List.set_cons_zero, List.set_cons_succ, i64_w, i32_w]
   rfl
  refine one_ (i := 3) (N := some 12) #[true, true, true, true, true, true, false, false, false, false, false, false, false] rfl rfl (one_of HT_.out (by kernel_rfl)) (by decide) (fun K hK => ?_)
  refine goes_ Tryd.func41 (by kernel_rfl) rfl #[.agg #[.int .u64 a1_0, .int .u64 a1_1, .int .u64 a1_2, .string a1_3, .string a1_4]] (by rfl) rfl rfl (by (try simp only [List.map_toArray, List.map_cons, List.map_nil]); first | done | rfl | (simp only [List.length_drop, List.length_take]; rfl)) ?_
  with_reducible refine (spec_Bare.calls a1_0 a1_1 a1_2 a1_3 a1_4 t218 t219 t220 t221 t222 _ A5.out).mono ?_
  rintro e w30 ⟨rfl, hb⟩
  refine ⟨_, rfl, ?_⟩
  have n0_ := Aside0.mk (blk_below (g := gb209) (o := .cells #[.int .u64 a0_0, .int .u64 a0_1, .int .u64 a0_2, .string a0_3, .string a0_4] 26 (0, 0)) (by (with_reducible repeat (first | refine blk_drewN ?_ _ | refine blk_drew ?_ | refine blk_alloc ?_ _)); exact BK209.out) hb)
  have n1_ := Aside0.mk (blk_below (g := gb210) (o := .cells #[.int .u64 a1_0, .int .u64 a1_1, .int .u64 a1_2, .string a1_3, .string a1_4] 26 (0, 0)) (by (with_reducible repeat (first | refine blk_drewN ?_ _ | refine blk_drew ?_ | refine blk_alloc ?_ _)); exact BK210.out) hb)
  have n2_ := Aside0.mk (blk_below (g := gb211) (o := .cells #[.int .u64 0, .int .u64 0, .int .u64 0, .string (⟨#[]⟩ : ByteArray), .string (⟨#[]⟩ : ByteArray)] 26 (0, 0)) (by (with_reducible repeat (first | refine blk_drewN ?_ _ | refine blk_drew ?_ | refine blk_alloc ?_ _)); exact BK211.out) hb)
  have n3_ := Aside0.mk (blk_below (g := gb212) (o := .cells #[.int .u64 0, .int .u64 0, .int .u64 0, .string (⟨#[]⟩ : ByteArray), .string (⟨#[]⟩ : ByteArray)] 26 (0, 0)) (by (with_reducible repeat (first | refine blk_drewN ?_ _ | refine blk_drew ?_ | refine blk_alloc ?_ _)); exact BK212.out) hb)
  have n4_ := Aside0.mk (below_step (by repeat (first | (with_reducible first | exact HB.out | apply below_alloc | apply pw_below_drewN | apply below_drew1 | refine below_set ?_ GE209.out | refine below_set ?_ GE210.out | refine below_set ?_ GE211.out | refine below_set ?_ GE212.out) | exact HB.out)) hb)
  clear BK209
  clear BK210
  clear BK211
  clear BK212
  clear HB
  have BK209 := n0_
  have BK210 := n1_
  have BK211 := n2_
  have BK212 := n3_
  have HB := n4_
  clear n0_ n1_ n2_ n3_ n4_
  (try clear hb)
  (try clear hb2)
  (try clear hk)
  (try clear hi)
  refine hK.out _ _ ⟨(blk_cell BK209.out 0).trans rfl, (blk_cell BK209.out 1).trans rfl, (blk_cell BK209.out 2).trans rfl, (blk_cell BK209.out 3).trans rfl, (blk_cell BK209.out 4).trans rfl, (blk_cell BK210.out 0).trans rfl, (blk_cell BK210.out 1).trans rfl, (blk_cell BK210.out 2).trans rfl, (blk_cell BK210.out 3).trans rfl, (blk_cell BK210.out 4).trans rfl⟩ (fun hHeld => ?_)
  clear hK K
  refine norm_ (a' := ?_) ?_ ?_
  rotate_left
  ·
   show Act.put _ (some 12) _ = _
   simp only [Act.put, List.setIfInBounds_toArray, List.set_cons_zero, List.set_cons_succ, i64_w, i32_w]
   rfl
  refine pure_ (i := 6) (N := some 15) (v := ?_) (a' := ?_) #[true, true, true, true, true, true, true, false, false, false, false, false, false] rfl rfl (any_of HT_.out (by kernel_rfl)) (fun _ _ _ h => h) (Or.inl ⟨by rfl, ?_⟩) ?_ ?_
  rotate_left
  ·
   intro w'
   go_simp
   with_reducible rfl
  rotate_left
  ·
   simp only [Act.put, List.setIfInBounds_toArray, List.set_cons_zero, List.set_cons_succ, i64_w, i32_w]
   rfl
  refine pure_ (i := 7) (N := some 16) (v := undef) (a' := ?_) #[true, true, true, true, true, true, true, true, false, false, false, false, false] rfl rfl (any_of HT_.out (by kernel_rfl)) (fun _ _ _ h => h) (Or.inr ⟨by rfl, rfl⟩) ?_ ?_
  rotate_left
  ·
   simp only [Act.put, List.setIfInBounds_toArray, List.set_cons_zero, List.set_cons_succ, i64_w, i32_w]
   rfl
  refine pure_ (i := 8) (N := some 17) (v := undef) (a' := ?_) #[true, true, true, true, true, true, true, true, true, false, false, false, false] rfl rfl (any_of HT_.out (by kernel_rfl)) (fun _ _ _ h => h) (Or.inr ⟨by rfl, rfl⟩) ?_ ?_
  rotate_left
  ·
   simp only [Act.put, List.setIfInBounds_toArray, List.set_cons_zero, List.set_cons_succ, i64_w, i32_w]
   rfl
  refine pure_ (i := 9) (N := some 18) (v := ?_) (a' := ?_) #[true, true, true, true, true, true, true, true, true, true, false, false, false] rfl rfl (any_of HT_.out (by kernel_rfl)) (fun _ _ _ h => h) (Or.inl ⟨by rfl, ?_⟩) ?_ ?_
  rotate_left
  ·
   intro w'
   go_simp
   with_reducible rfl
  rotate_left
  ·
   simp only [Act.put, List.setIfInBounds_toArray, List.set_cons_zero, List.set_cons_succ, i64_w, i32_w]
   rfl
  refine one_ (i := 10) (N := none) #[true, true, true, true, true, true, true, true, true, true, true, false, false] rfl rfl (one_of HT_.out (by kernel_rfl)) (by decide) (fun K hK => ?_)
  have hs31 : w30.cell? ⟨gb211, 0, none⟩ = some (.int .u64 0) := (blk_cell BK211.out 0).trans rfl
  have hfs31 := blk_frozen BK211.out 0
  have hns31_0 := NB209_211.out
  have hns31_1 := NB210_211.out
  have hns31_3 := NB212_211.out
  have hms31_0 := NB211_209.out
  have hms31_1 := NB211_210.out
  have hms31_3 := NB211_212.out
  have hs32 : w30.cell? ⟨gb211, 1, none⟩ = some (.int .u64 0) := (blk_cell BK211.out 1).trans rfl
  have hfs32 := blk_frozen BK211.out 1
  have hns32_0 := NB209_211.out
  have hns32_1 := NB210_211.out
  have hns32_3 := NB212_211.out
  have hms32_0 := NB211_209.out
  have hms32_1 := NB211_210.out
  have hms32_3 := NB211_212.out
  have hs33 : w30.cell? ⟨gb211, 2, none⟩ = some (.int .u64 0) := (blk_cell BK211.out 2).trans rfl
  have hfs33 := blk_frozen BK211.out 2
  have hns33_0 := NB209_211.out
  have hns33_1 := NB210_211.out
  have hns33_3 := NB212_211.out
  have hms33_0 := NB211_209.out
  have hms33_1 := NB211_210.out
  have hms33_3 := NB211_212.out
  have hs34 : w30.cell? ⟨gb211, 3, none⟩ = some (.string (⟨#[]⟩ : ByteArray)) := (blk_cell BK211.out 3).trans rfl
  have hfs34 := blk_frozen BK211.out 3
  have hns34_0 := NB209_211.out
  have hns34_1 := NB210_211.out
  have hns34_3 := NB212_211.out
  have hms34_0 := NB211_209.out
  have hms34_1 := NB211_210.out
  have hms34_3 := NB211_212.out
  have hs35 : w30.cell? ⟨gb211, 4, none⟩ = some (.string (⟨#[]⟩ : ByteArray)) := (blk_cell BK211.out 4).trans rfl
  have hfs35 := blk_frozen BK211.out 4
  have hns35_0 := NB209_211.out
  have hns35_1 := NB210_211.out
  have hns35_3 := NB212_211.out
  have hms35_0 := NB211_209.out
  have hms35_1 := NB211_210.out
  have hms35_3 := NB211_212.out
  refine skip_ (w1 := ?_) (by rfl) rfl ?_ ?_
  rotate_left
  ·
   go_simp
   rfl
  refine hK.out _ _ ⟨((cell_far (p := ⟨gb211, _, none⟩) NB209_211.out _).trans (((cell_far (p := ⟨gb211, _, none⟩) NB209_211.out _).trans (((cell_far (p := ⟨gb211, _, none⟩) NB209_211.out _).trans (((cell_far (p := ⟨gb211, _, none⟩) NB209_211.out _).trans (((cell_far (p := ⟨gb211, _, none⟩) NB209_211.out _).trans (hHeld.1)))))))))), ((cell_far (p := ⟨gb211, _, none⟩) NB209_211.out _).trans (((cell_far (p := ⟨gb211, _, none⟩) NB209_211.out _).trans (((cell_far (p := ⟨gb211, _, none⟩) NB209_211.out _).trans (((cell_far (p := ⟨gb211, _, none⟩) NB209_211.out _).trans (((cell_far (p := ⟨gb211, _, none⟩) NB209_211.out _).trans (hHeld.2.1)))))))))), ((cell_far (p := ⟨gb211, _, none⟩) NB209_211.out _).trans (((cell_far (p := ⟨gb211, _, none⟩) NB209_211.out _).trans (((cell_far (p := ⟨gb211, _, none⟩) NB209_211.out _).trans (((cell_far (p := ⟨gb211, _, none⟩) NB209_211.out _).trans (((cell_far (p := ⟨gb211, _, none⟩) NB209_211.out _).trans (hHeld.2.2.1)))))))))), ((cell_far (p := ⟨gb211, _, none⟩) NB209_211.out _).trans (((cell_far (p := ⟨gb211, _, none⟩) NB209_211.out _).trans (((cell_far (p := ⟨gb211, _, none⟩) NB209_211.out _).trans (((cell_far (p := ⟨gb211, _, none⟩) NB209_211.out _).trans (((cell_far (p := ⟨gb211, _, none⟩) NB209_211.out _).trans (hHeld.2.2.2.1)))))))))), ((cell_far (p := ⟨gb211, _, none⟩) NB209_211.out _).trans (((cell_far (p := ⟨gb211, _, none⟩) NB209_211.out _).trans (((cell_far (p := ⟨gb211, _, none⟩) NB209_211.out _).trans (((cell_far (p := ⟨gb211, _, none⟩) NB209_211.out _).trans (((cell_far (p := ⟨gb211, _, none⟩) NB209_211.out _).trans (hHeld.2.2.2.2.1)))))))))), ((cell_far (p := ⟨gb211, _, none⟩) NB210_211.out _).trans (((cell_far (p := ⟨gb211, _, none⟩) NB210_211.out _).trans (((cell_far (p := ⟨gb211, _, none⟩) NB210_211.out _).trans (((cell_far (p := ⟨gb211, _, none⟩) NB210_211.out _).trans (((cell_far (p := ⟨gb211, _, none⟩) NB210_211.out _).trans (hHeld.2.2.2.2.2.1)))))))))), ((cell_far (p := ⟨gb211, _, none⟩) NB210_211.out _).trans (((cell_far (p := ⟨gb211, _, none⟩) NB210_211.out _).trans (((cell_far (p := ⟨gb211, _, none⟩) NB210_211.out _).trans (((cell_far (p := ⟨gb211, _, none⟩) NB210_211.out _).trans (((cell_far (p := ⟨gb211, _, none⟩) NB210_211.out _).trans (hHeld.2.2.2.2.2.2.1)))))))))), ((cell_far (p := ⟨gb211, _, none⟩) NB210_211.out _).trans (((cell_far (p := ⟨gb211, _, none⟩) NB210_211.out _).trans (((cell_far (p := ⟨gb211, _, none⟩) NB210_211.out _).trans (((cell_far (p := ⟨gb211, _, none⟩) NB210_211.out _).trans (((cell_far (p := ⟨gb211, _, none⟩) NB210_211.out _).trans (hHeld.2.2.2.2.2.2.2.1)))))))))), ((cell_far (p := ⟨gb211, _, none⟩) NB210_211.out _).trans (((cell_far (p := ⟨gb211, _, none⟩) NB210_211.out _).trans (((cell_far (p := ⟨gb211, _, none⟩) NB210_211.out _).trans (((cell_far (p := ⟨gb211, _, none⟩) NB210_211.out _).trans (((cell_far (p := ⟨gb211, _, none⟩) NB210_211.out _).trans (hHeld.2.2.2.2.2.2.2.2.1)))))))))), ((cell_far (p := ⟨gb211, _, none⟩) NB210_211.out _).trans (((cell_far (p := ⟨gb211, _, none⟩) NB210_211.out _).trans (((cell_far (p := ⟨gb211, _, none⟩) NB210_211.out _).trans (((cell_far (p := ⟨gb211, _, none⟩) NB210_211.out _).trans (((cell_far (p := ⟨gb211, _, none⟩) NB210_211.out _).trans (hHeld.2.2.2.2.2.2.2.2.2))))))))))⟩ (fun hHeld => ?_)
  clear hK K
  refine one_ (i := 11) (N := none) #[true, true, true, true, true, true, true, true, true, true, true, true, false] rfl rfl (one_of HT_.out (by kernel_rfl)) (by decide) (fun K hK => ?_)
  have hs36 : w30.cell? ⟨gb212, 0, none⟩ = some (.int .u64 0) := (blk_cell BK212.out 0).trans rfl
  have hfs36 := blk_frozen BK212.out 0
  have hns36_0 := NB209_212.out
  have hns36_1 := NB210_212.out
  have hns36_2 := NB211_212.out
  have hms36_0 := NB212_209.out
  have hms36_1 := NB212_210.out
  have hms36_2 := NB212_211.out
  have hs37 : w30.cell? ⟨gb212, 1, none⟩ = some (.int .u64 0) := (blk_cell BK212.out 1).trans rfl
  have hfs37 := blk_frozen BK212.out 1
  have hns37_0 := NB209_212.out
  have hns37_1 := NB210_212.out
  have hns37_2 := NB211_212.out
  have hms37_0 := NB212_209.out
  have hms37_1 := NB212_210.out
  have hms37_2 := NB212_211.out
  have hs38 : w30.cell? ⟨gb212, 2, none⟩ = some (.int .u64 0) := (blk_cell BK212.out 2).trans rfl
  have hfs38 := blk_frozen BK212.out 2
  have hns38_0 := NB209_212.out
  have hns38_1 := NB210_212.out
  have hns38_2 := NB211_212.out
  have hms38_0 := NB212_209.out
  have hms38_1 := NB212_210.out
  have hms38_2 := NB212_211.out
  have hs39 : w30.cell? ⟨gb212, 3, none⟩ = some (.string (⟨#[]⟩ : ByteArray)) := (blk_cell BK212.out 3).trans rfl
  have hfs39 := blk_frozen BK212.out 3
  have hns39_0 := NB209_212.out
  have hns39_1 := NB210_212.out
  have hns39_2 := NB211_212.out
  have hms39_0 := NB212_209.out
  have hms39_1 := NB212_210.out
  have hms39_2 := NB212_211.out
  have hs40 : w30.cell? ⟨gb212, 4, none⟩ = some (.string (⟨#[]⟩ : ByteArray)) := (blk_cell BK212.out 4).trans rfl
  have hfs40 := blk_frozen BK212.out 4
  have hns40_0 := NB209_212.out
  have hns40_1 := NB210_212.out
  have hns40_2 := NB211_212.out
  have hms40_0 := NB212_209.out
  have hms40_1 := NB212_210.out
  have hms40_2 := NB212_211.out
  refine skip_ (w1 := ?_) (by rfl) rfl ?_ ?_
  rotate_left
  ·
   go_simp
   rfl
  refine hK.out _ _ ⟨((cell_far (p := ⟨gb212, _, none⟩) NB209_212.out _).trans (((cell_far (p := ⟨gb212, _, none⟩) NB209_212.out _).trans (((cell_far (p := ⟨gb212, _, none⟩) NB209_212.out _).trans (((cell_far (p := ⟨gb212, _, none⟩) NB209_212.out _).trans (((cell_far (p := ⟨gb212, _, none⟩) NB209_212.out _).trans (hHeld.1)))))))))), ((cell_far (p := ⟨gb212, _, none⟩) NB209_212.out _).trans (((cell_far (p := ⟨gb212, _, none⟩) NB209_212.out _).trans (((cell_far (p := ⟨gb212, _, none⟩) NB209_212.out _).trans (((cell_far (p := ⟨gb212, _, none⟩) NB209_212.out _).trans (((cell_far (p := ⟨gb212, _, none⟩) NB209_212.out _).trans (hHeld.2.1)))))))))), ((cell_far (p := ⟨gb212, _, none⟩) NB209_212.out _).trans (((cell_far (p := ⟨gb212, _, none⟩) NB209_212.out _).trans (((cell_far (p := ⟨gb212, _, none⟩) NB209_212.out _).trans (((cell_far (p := ⟨gb212, _, none⟩) NB209_212.out _).trans (((cell_far (p := ⟨gb212, _, none⟩) NB209_212.out _).trans (hHeld.2.2.1)))))))))), ((cell_far (p := ⟨gb212, _, none⟩) NB209_212.out _).trans (((cell_far (p := ⟨gb212, _, none⟩) NB209_212.out _).trans (((cell_far (p := ⟨gb212, _, none⟩) NB209_212.out _).trans (((cell_far (p := ⟨gb212, _, none⟩) NB209_212.out _).trans (((cell_far (p := ⟨gb212, _, none⟩) NB209_212.out _).trans (hHeld.2.2.2.1)))))))))), ((cell_far (p := ⟨gb212, _, none⟩) NB209_212.out _).trans (((cell_far (p := ⟨gb212, _, none⟩) NB209_212.out _).trans (((cell_far (p := ⟨gb212, _, none⟩) NB209_212.out _).trans (((cell_far (p := ⟨gb212, _, none⟩) NB209_212.out _).trans (((cell_far (p := ⟨gb212, _, none⟩) NB209_212.out _).trans (hHeld.2.2.2.2.1)))))))))), ((cell_far (p := ⟨gb212, _, none⟩) NB210_212.out _).trans (((cell_far (p := ⟨gb212, _, none⟩) NB210_212.out _).trans (((cell_far (p := ⟨gb212, _, none⟩) NB210_212.out _).trans (((cell_far (p := ⟨gb212, _, none⟩) NB210_212.out _).trans (((cell_far (p := ⟨gb212, _, none⟩) NB210_212.out _).trans (hHeld.2.2.2.2.2.1)))))))))), ((cell_far (p := ⟨gb212, _, none⟩) NB210_212.out _).trans (((cell_far (p := ⟨gb212, _, none⟩) NB210_212.out _).trans (((cell_far (p := ⟨gb212, _, none⟩) NB210_212.out _).trans (((cell_far (p := ⟨gb212, _, none⟩) NB210_212.out _).trans (((cell_far (p := ⟨gb212, _, none⟩) NB210_212.out _).trans (hHeld.2.2.2.2.2.2.1)))))))))), ((cell_far (p := ⟨gb212, _, none⟩) NB210_212.out _).trans (((cell_far (p := ⟨gb212, _, none⟩) NB210_212.out _).trans (((cell_far (p := ⟨gb212, _, none⟩) NB210_212.out _).trans (((cell_far (p := ⟨gb212, _, none⟩) NB210_212.out _).trans (((cell_far (p := ⟨gb212, _, none⟩) NB210_212.out _).trans (hHeld.2.2.2.2.2.2.2.1)))))))))), ((cell_far (p := ⟨gb212, _, none⟩) NB210_212.out _).trans (((cell_far (p := ⟨gb212, _, none⟩) NB210_212.out _).trans (((cell_far (p := ⟨gb212, _, none⟩) NB210_212.out _).trans (((cell_far (p := ⟨gb212, _, none⟩) NB210_212.out _).trans (((cell_far (p := ⟨gb212, _, none⟩) NB210_212.out _).trans (hHeld.2.2.2.2.2.2.2.2.1)))))))))), ((cell_far (p := ⟨gb212, _, none⟩) NB210_212.out _).trans (((cell_far (p := ⟨gb212, _, none⟩) NB210_212.out _).trans (((cell_far (p := ⟨gb212, _, none⟩) NB210_212.out _).trans (((cell_far (p := ⟨gb212, _, none⟩) NB210_212.out _).trans (((cell_far (p := ⟨gb212, _, none⟩) NB210_212.out _).trans (hHeld.2.2.2.2.2.2.2.2.2))))))))))⟩ (fun hHeld => ?_)
  clear hK K
  refine pure_ (i := 12) (N := some 8) (v := ?_) (a' := ?_) #[true, true, true, true, true, true, true, true, true, true, true, true, true] rfl rfl (any_of HT_.out (by kernel_rfl)) (fun _ _ _ h => h) (Or.inl ⟨by rfl, ?_⟩) ?_ ?_
  rotate_left
  ·
   intro w'
   go_simp
   with_reducible rfl
  rotate_left
  ·
   simp only [Act.put, List.setIfInBounds_toArray, List.set_cons_zero, List.set_cons_succ, i64_w, i32_w]
   rfl
  refine done_ (done_of HT_.out (by kernel_rfl)) ?_
  try go_wp2
  refine bodyPost_ret (results_list (rs := [.cell 6 26, .cell 7 26, .tmp 8]) rfl (by simp) (.cell gb211 26 #[.int .u64 t213, .int .u64 t214, .int .u64 t215, .string t216, .string t217] (0, 0) _ rfl (by (with_reducible repeat (first | refine blk_drewN ?_ _ | refine blk_drew ?_ | refine blk_alloc ?_ _)); refine blk_far ?_ NB211_212.out _; (with_reducible repeat (first | refine blk_drewN ?_ _ | refine blk_drew ?_ | refine blk_alloc ?_ _)); refine blk_far ?_ NB211_212.out _; (with_reducible repeat (first | refine blk_drewN ?_ _ | refine blk_drew ?_ | refine blk_alloc ?_ _)); refine blk_far ?_ NB211_212.out _; (with_reducible repeat (first | refine blk_drewN ?_ _ | refine blk_drew ?_ | refine blk_alloc ?_ _)); refine blk_far ?_ NB211_212.out _; (with_reducible repeat (first | refine blk_drewN ?_ _ | refine blk_drew ?_ | refine blk_alloc ?_ _)); refine blk_far ?_ NB211_212.out _; (with_reducible repeat (first | refine blk_drewN ?_ _ | refine blk_drew ?_ | refine blk_alloc ?_ _)); refine blk_put (cs := #[.int .u64 t213, .int .u64 t214, .int .u64 t215, .string t216, .string (⟨#[]⟩ : ByteArray)]) ?_ 4 _ rfl; (with_reducible repeat (first | refine blk_drewN ?_ _ | refine blk_drew ?_ | refine blk_alloc ?_ _)); refine blk_put (cs := #[.int .u64 t213, .int .u64 t214, .int .u64 t215, .string (⟨#[]⟩ : ByteArray), .string (⟨#[]⟩ : ByteArray)]) ?_ 3 _ rfl; (with_reducible repeat (first | refine blk_drewN ?_ _ | refine blk_drew ?_ | refine blk_alloc ?_ _)); refine blk_put (cs := #[.int .u64 t213, .int .u64 t214, .int .u64 0, .string (⟨#[]⟩ : ByteArray), .string (⟨#[]⟩ : ByteArray)]) ?_ 2 _ rfl; (with_reducible repeat (first | refine blk_drewN ?_ _ | refine blk_drew ?_ | refine blk_alloc ?_ _)); refine blk_put (cs := #[.int .u64 t213, .int .u64 0, .int .u64 0, .string (⟨#[]⟩ : ByteArray), .string (⟨#[]⟩ : ByteArray)]) ?_ 1 _ rfl; (with_reducible repeat (first | refine blk_drewN ?_ _ | refine blk_drew ?_ | refine blk_alloc ?_ _)); refine blk_put (cs := #[.int .u64 0, .int .u64 0, .int .u64 0, .string (⟨#[]⟩ : ByteArray), .string (⟨#[]⟩ : ByteArray)]) ?_ 0 _ rfl; (with_reducible repeat (first | refine blk_drewN ?_ _ | refine blk_drew ?_ | refine blk_alloc ?_ _)); exact BK211.out) Tryd.underlying26 rfl (by kernel_rfl) (.cell gb212 26 #[.int .u64 t218, .int .u64 t219, .int .u64 t220, .string t221, .string t222] (0, 0) _ rfl (by (with_reducible repeat (first | refine blk_drewN ?_ _ | refine blk_drew ?_ | refine blk_alloc ?_ _)); refine blk_put (cs := #[.int .u64 t218, .int .u64 t219, .int .u64 t220, .string t221, .string (⟨#[]⟩ : ByteArray)]) ?_ 4 _ rfl; (with_reducible repeat (first | refine blk_drewN ?_ _ | refine blk_drew ?_ | refine blk_alloc ?_ _)); refine blk_put (cs := #[.int .u64 t218, .int .u64 t219, .int .u64 t220, .string (⟨#[]⟩ : ByteArray), .string (⟨#[]⟩ : ByteArray)]) ?_ 3 _ rfl; (with_reducible repeat (first | refine blk_drewN ?_ _ | refine blk_drew ?_ | refine blk_alloc ?_ _)); refine blk_put (cs := #[.int .u64 t218, .int .u64 t219, .int .u64 0, .string (⟨#[]⟩ : ByteArray), .string (⟨#[]⟩ : ByteArray)]) ?_ 2 _ rfl; (with_reducible repeat (first | refine blk_drewN ?_ _ | refine blk_drew ?_ | refine blk_alloc ?_ _)); refine blk_put (cs := #[.int .u64 t218, .int .u64 0, .int .u64 0, .string (⟨#[]⟩ : ByteArray), .string (⟨#[]⟩ : ByteArray)]) ?_ 1 _ rfl; (with_reducible repeat (first | refine blk_drewN ?_ _ | refine blk_drew ?_ | refine blk_alloc ?_ _)); refine blk_put (cs := #[.int .u64 0, .int .u64 0, .int .u64 0, .string (⟨#[]⟩ : ByteArray), .string (⟨#[]⟩ : ByteArray)]) ?_ 0 _ rfl; (with_reducible repeat (first | refine blk_drewN ?_ _ | refine blk_drew ?_ | refine blk_alloc ?_ _)); refine blk_far ?_ NB212_211.out _; (with_reducible repeat (first | refine blk_drewN ?_ _ | refine blk_drew ?_ | refine blk_alloc ?_ _)); refine blk_far ?_ NB212_211.out _; (with_reducible repeat (first | refine blk_drewN ?_ _ | refine blk_drew ?_ | refine blk_alloc ?_ _)); refine blk_far ?_ NB212_211.out _; (with_reducible repeat (first | refine blk_drewN ?_ _ | refine blk_drew ?_ | refine blk_alloc ?_ _)); refine blk_far ?_ NB212_211.out _; (with_reducible repeat (first | refine blk_drewN ?_ _ | refine blk_drew ?_ | refine blk_alloc ?_ _)); refine blk_far ?_ NB212_211.out _; (with_reducible repeat (first | refine blk_drewN ?_ _ | refine blk_drew ?_ | refine blk_alloc ?_ _)); exact BK212.out) Tryd.underlying26 rfl (by kernel_rfl) (.tmp .nil)))) rfl ?_
  exact ⟨by first | rfl | (simp [errW_none, errW_some] <;> rfl) | (simp [*, errW_none, errW_some] <;> rfl) | (simp [bneNil]; done), by repeat (first | (with_reducible first | exact HB.out | apply below_alloc | apply pw_below_drewN | apply below_drew1 | refine below_set ?_ GE209.out | refine below_set ?_ GE210.out | refine below_set ?_ GE211.out | refine below_set ?_ GE212.out) | exact HB.out)⟩

def laws_scPlus.f (a0_0 : Int) (a0_1 : Int) (a0_2 : Int) (a0_3 : ByteArray) (a0_4 : ByteArray) (a1 : Int) : Option (Bool) := if (IntKind.u64.wrap (a0_0 + 1)) = 0 then (some false) else (if a1 < 2 then (if a1 < 3 then (some true) else (some ((IntKind.u64.wrap (a0_2 + 1)) != 0))) else (if (IntKind.u64.wrap (a0_1 + 1)) = 0 then (some false) else (if a1 < 3 then (some true) else (some ((IntKind.u64.wrap (a0_2 + 1)) != 0)))))

set_option maxHeartbeats 80000000 in
set_option maxRecDepth 100000 in
theorem laws_scPlus.calls (a0_0 : Int) (a0_1 : Int) (a0_2 : Int) (a0_3 : ByteArray) (a0_4 : ByteArray) (a1 : Int) (r : Bool) (w : World) (h : laws_scPlus.f a0_0 a0_1 a0_2 a0_3 a0_4 a1 = some r) :
  Calls Tryd.prog 22 #[.agg #[.int .u64 a0_0, .int .u64 a0_1, .int .u64 a0_2, .string a0_3, .string a0_4], .int .i64 a1] w fun e w' => e = .returned (.bool r) ∧ Below w.heap.size w w' := by
 have hu26 := Tryd.underlying26
 have HB := Aside0.mk (Below.refl w.heap.size w)
 have H : (if (IntKind.u64.wrap (a0_0 + 1)) = 0 then (some false) else (if a1 < 2 then (if a1 < 3 then (some true) else (some ((IntKind.u64.wrap (a0_2 + 1)) != 0))) else (if (IntKind.u64.wrap (a0_1 + 1)) = 0 then (some false) else (if a1 < 3 then (some true) else (some ((IntKind.u64.wrap (a0_2 + 1)) != 0)))))) = some r := h
 clear h
 by_cases c3 : (IntKind.u64.wrap (a0_0 + 1)) = 0
 ·
  rw [if_pos c3] at H
  have c3b0 : ((IntKind.u64.wrap (a0_0 + 1)) == 0) = true := beq_iff_eq.mpr c3
  have c3b1 : ((IntKind.u64.wrap (a0_0 + 1)) != 0) = false := bne_eq_false_iff_eq.mpr c3
  clear c3
  obtain rfl := Option.some.inj H
  go_enter Tryd.func22, Tryd.ntmps22
  go_wp2_with (first | ((with_reducible refine gate_dst (N := 2) rfl ?_); refine box_event ?hg (N := 2) ?hd (cs := #[.int .u64 a0_0, .int .u64 a0_1, .int .u64 a0_2, .string a0_3, .string a0_4]) (t := 26) ?hr ?_; (case hd => rfl); (case hg => rfl); (case hr => first | (go_simp; done) | (go_simp; rfl) | (go_simp; simp [u8w]; done)); intro gb225 hg w4 hbox hb; have n0_ := Aside0.mk (below_step (by repeat (first | (with_reducible first | exact HB.out | apply below_alloc | apply pw_below_drewN | apply below_drew1) | exact HB.out)) hb); have n1_ := Aside0.mk (hbox); have n2_ := Aside0.mk ((by rw [hg]; exact (below_size (by repeat (first | (with_reducible first | exact HB.out | apply below_alloc | apply pw_below_drewN | apply below_drew1) | exact HB.out))) : w.heap.size ≤ gb225)); have n3_ := Aside0.mk ((by rw [hg]; exact (below_size (by repeat (first | (with_reducible first | exact HB.out | apply below_alloc | apply pw_below_drewN | apply below_drew1) | exact HB.out))) : w.heap.size ≤ gb225)); clear HB; have HB := n0_; have BK225 := n1_; have GW225 := n2_; have GE225 := n3_; clear n0_ n1_ n2_ n3_; clear hb hbox hg; have hcz5_0 : w4.cell? ⟨gb225, 0, none⟩ = some (.int .u64 a0_0) := (blk_cell BK225.out 0).trans rfl; have hcz5_1 : w4.cell? ⟨gb225, 1, none⟩ = some (.int .u64 a0_1) := (blk_cell BK225.out 1).trans rfl; have hcz5_2 : w4.cell? ⟨gb225, 2, none⟩ = some (.int .u64 a0_2) := (blk_cell BK225.out 2).trans rfl; have hcz5_3 : w4.cell? ⟨gb225, 3, none⟩ = some (.string a0_3) := (blk_cell BK225.out 3).trans rfl; have hcz5_4 : w4.cell? ⟨gb225, 4, none⟩ = some (.string a0_4) := (blk_cell BK225.out 4).trans rfl; have hfz5_0 := blk_frozen BK225.out 0; have hfz5_1 := blk_frozen BK225.out 1; have hfz5_2 := blk_frozen BK225.out 2; have hfz5_3 := blk_frozen BK225.out 3; have hfz5_4 := blk_frozen BK225.out 4))
  go_ret
  exact ⟨by first | rfl | (simp [errW_none, errW_some] <;> rfl) | (simp [*, errW_none, errW_some] <;> rfl) | (simp [bneNil]; done), by repeat (first | (with_reducible first | exact HB.out | apply below_alloc | apply pw_below_drewN | apply below_drew1 | refine below_set ?_ GE225.out) | exact HB.out)⟩
 ·
  rw [if_neg c3] at H
  have c3b0 : ((IntKind.u64.wrap (a0_0 + 1)) == 0) = false := beq_eq_false_iff_ne.mpr c3
  have c3b1 : ((IntKind.u64.wrap (a0_0 + 1)) != 0) = true := bne_iff_ne.mpr c3
  by_cases c6 : a1 < 2
  ·
   rw [if_pos c6] at H
   have c6b0 : decide (a1 < 2) = true := decide_eq_true c6
   clear c6
   by_cases c7 : a1 < 3
   ·
    rw [if_pos c7] at H
    have c7b0 : decide (a1 < 3) = true := decide_eq_true c7
    clear c7
    obtain rfl := Option.some.inj H
    go_enter Tryd.func22, Tryd.ntmps22
    go_wp2_with (first | ((with_reducible refine gate_dst (N := 2) rfl ?_); refine box_event ?hg (N := 2) ?hd (cs := #[.int .u64 a0_0, .int .u64 a0_1, .int .u64 a0_2, .string a0_3, .string a0_4]) (t := 26) ?hr ?_; (case hd => rfl); (case hg => rfl); (case hr => first | (go_simp; done) | (go_simp; rfl) | (go_simp; simp [u8w]; done)); intro gb225 hg w8 hbox hb; have n0_ := Aside0.mk (below_step (by repeat (first | (with_reducible first | exact HB.out | apply below_alloc | apply pw_below_drewN | apply below_drew1) | exact HB.out)) hb); have n1_ := Aside0.mk (hbox); have n2_ := Aside0.mk ((by rw [hg]; exact (below_size (by repeat (first | (with_reducible first | exact HB.out | apply below_alloc | apply pw_below_drewN | apply below_drew1) | exact HB.out))) : w.heap.size ≤ gb225)); have n3_ := Aside0.mk ((by rw [hg]; exact (below_size (by repeat (first | (with_reducible first | exact HB.out | apply below_alloc | apply pw_below_drewN | apply below_drew1) | exact HB.out))) : w.heap.size ≤ gb225)); clear HB; have HB := n0_; have BK225 := n1_; have GW225 := n2_; have GE225 := n3_; clear n0_ n1_ n2_ n3_; clear hb hbox hg; have hcz9_0 : w8.cell? ⟨gb225, 0, none⟩ = some (.int .u64 a0_0) := (blk_cell BK225.out 0).trans rfl; have hcz9_1 : w8.cell? ⟨gb225, 1, none⟩ = some (.int .u64 a0_1) := (blk_cell BK225.out 1).trans rfl; have hcz9_2 : w8.cell? ⟨gb225, 2, none⟩ = some (.int .u64 a0_2) := (blk_cell BK225.out 2).trans rfl; have hcz9_3 : w8.cell? ⟨gb225, 3, none⟩ = some (.string a0_3) := (blk_cell BK225.out 3).trans rfl; have hcz9_4 : w8.cell? ⟨gb225, 4, none⟩ = some (.string a0_4) := (blk_cell BK225.out 4).trans rfl; have hfz9_0 := blk_frozen BK225.out 0; have hfz9_1 := blk_frozen BK225.out 1; have hfz9_2 := blk_frozen BK225.out 2; have hfz9_3 := blk_frozen BK225.out 3; have hfz9_4 := blk_frozen BK225.out 4))
    go_ret
    exact ⟨by first | rfl | (simp [errW_none, errW_some] <;> rfl) | (simp [*, errW_none, errW_some] <;> rfl) | (simp [bneNil]; done), by repeat (first | (with_reducible first | exact HB.out | apply below_alloc | apply pw_below_drewN | apply below_drew1 | refine below_set ?_ GE225.out) | exact HB.out)⟩
   ·
    rw [if_neg c7] at H
    have c7b0 : decide (a1 < 3) = false := decide_eq_false c7
    clear c7
    obtain rfl := Option.some.inj H
    go_enter Tryd.func22, Tryd.ntmps22
    go_wp2_with (first | ((with_reducible refine gate_dst (N := 2) rfl ?_); refine box_event ?hg (N := 2) ?hd (cs := #[.int .u64 a0_0, .int .u64 a0_1, .int .u64 a0_2, .string a0_3, .string a0_4]) (t := 26) ?hr ?_; (case hd => rfl); (case hg => rfl); (case hr => first | (go_simp; done) | (go_simp; rfl) | (go_simp; simp [u8w]; done)); intro gb225 hg w10 hbox hb; have n0_ := Aside0.mk (below_step (by repeat (first | (with_reducible first | exact HB.out | apply below_alloc | apply pw_below_drewN | apply below_drew1) | exact HB.out)) hb); have n1_ := Aside0.mk (hbox); have n2_ := Aside0.mk ((by rw [hg]; exact (below_size (by repeat (first | (with_reducible first | exact HB.out | apply below_alloc | apply pw_below_drewN | apply below_drew1) | exact HB.out))) : w.heap.size ≤ gb225)); have n3_ := Aside0.mk ((by rw [hg]; exact (below_size (by repeat (first | (with_reducible first | exact HB.out | apply below_alloc | apply pw_below_drewN | apply below_drew1) | exact HB.out))) : w.heap.size ≤ gb225)); clear HB; have HB := n0_; have BK225 := n1_; have GW225 := n2_; have GE225 := n3_; clear n0_ n1_ n2_ n3_; clear hb hbox hg; have hcz11_0 : w10.cell? ⟨gb225, 0, none⟩ = some (.int .u64 a0_0) := (blk_cell BK225.out 0).trans rfl; have hcz11_1 : w10.cell? ⟨gb225, 1, none⟩ = some (.int .u64 a0_1) := (blk_cell BK225.out 1).trans rfl; have hcz11_2 : w10.cell? ⟨gb225, 2, none⟩ = some (.int .u64 a0_2) := (blk_cell BK225.out 2).trans rfl; have hcz11_3 : w10.cell? ⟨gb225, 3, none⟩ = some (.string a0_3) := (blk_cell BK225.out 3).trans rfl; have hcz11_4 : w10.cell? ⟨gb225, 4, none⟩ = some (.string a0_4) := (blk_cell BK225.out 4).trans rfl; have hfz11_0 := blk_frozen BK225.out 0; have hfz11_1 := blk_frozen BK225.out 1; have hfz11_2 := blk_frozen BK225.out 2; have hfz11_3 := blk_frozen BK225.out 3; have hfz11_4 := blk_frozen BK225.out 4))
    go_ret
    exact ⟨by first | rfl | (simp [errW_none, errW_some] <;> rfl) | (simp [*, errW_none, errW_some] <;> rfl) | (simp [bneNil]; done), by repeat (first | (with_reducible first | exact HB.out | apply below_alloc | apply pw_below_drewN | apply below_drew1 | refine below_set ?_ GE225.out) | exact HB.out)⟩
  ·
   rw [if_neg c6] at H
   have c6b0 : decide (a1 < 2) = false := decide_eq_false c6
   clear c6
   by_cases c12 : (IntKind.u64.wrap (a0_1 + 1)) = 0
   ·
    rw [if_pos c12] at H
    have c12b0 : ((IntKind.u64.wrap (a0_1 + 1)) == 0) = true := beq_iff_eq.mpr c12
    have c12b1 : ((IntKind.u64.wrap (a0_1 + 1)) != 0) = false := bne_eq_false_iff_eq.mpr c12
    clear c12
    obtain rfl := Option.some.inj H
    go_enter Tryd.func22, Tryd.ntmps22
    go_wp2_with (first | ((with_reducible refine gate_dst (N := 2) rfl ?_); refine box_event ?hg (N := 2) ?hd (cs := #[.int .u64 a0_0, .int .u64 a0_1, .int .u64 a0_2, .string a0_3, .string a0_4]) (t := 26) ?hr ?_; (case hd => rfl); (case hg => rfl); (case hr => first | (go_simp; done) | (go_simp; rfl) | (go_simp; simp [u8w]; done)); intro gb225 hg w13 hbox hb; have n0_ := Aside0.mk (below_step (by repeat (first | (with_reducible first | exact HB.out | apply below_alloc | apply pw_below_drewN | apply below_drew1) | exact HB.out)) hb); have n1_ := Aside0.mk (hbox); have n2_ := Aside0.mk ((by rw [hg]; exact (below_size (by repeat (first | (with_reducible first | exact HB.out | apply below_alloc | apply pw_below_drewN | apply below_drew1) | exact HB.out))) : w.heap.size ≤ gb225)); have n3_ := Aside0.mk ((by rw [hg]; exact (below_size (by repeat (first | (with_reducible first | exact HB.out | apply below_alloc | apply pw_below_drewN | apply below_drew1) | exact HB.out))) : w.heap.size ≤ gb225)); clear HB; have HB := n0_; have BK225 := n1_; have GW225 := n2_; have GE225 := n3_; clear n0_ n1_ n2_ n3_; clear hb hbox hg; have hcz14_0 : w13.cell? ⟨gb225, 0, none⟩ = some (.int .u64 a0_0) := (blk_cell BK225.out 0).trans rfl; have hcz14_1 : w13.cell? ⟨gb225, 1, none⟩ = some (.int .u64 a0_1) := (blk_cell BK225.out 1).trans rfl; have hcz14_2 : w13.cell? ⟨gb225, 2, none⟩ = some (.int .u64 a0_2) := (blk_cell BK225.out 2).trans rfl; have hcz14_3 : w13.cell? ⟨gb225, 3, none⟩ = some (.string a0_3) := (blk_cell BK225.out 3).trans rfl; have hcz14_4 : w13.cell? ⟨gb225, 4, none⟩ = some (.string a0_4) := (blk_cell BK225.out 4).trans rfl; have hfz14_0 := blk_frozen BK225.out 0; have hfz14_1 := blk_frozen BK225.out 1; have hfz14_2 := blk_frozen BK225.out 2; have hfz14_3 := blk_frozen BK225.out 3; have hfz14_4 := blk_frozen BK225.out 4))
    go_ret
    exact ⟨by first | rfl | (simp [errW_none, errW_some] <;> rfl) | (simp [*, errW_none, errW_some] <;> rfl) | (simp [bneNil]; done), by repeat (first | (with_reducible first | exact HB.out | apply below_alloc | apply pw_below_drewN | apply below_drew1 | refine below_set ?_ GE225.out) | exact HB.out)⟩
   ·
    rw [if_neg c12] at H
    have c12b0 : ((IntKind.u64.wrap (a0_1 + 1)) == 0) = false := beq_eq_false_iff_ne.mpr c12
    have c12b1 : ((IntKind.u64.wrap (a0_1 + 1)) != 0) = true := bne_iff_ne.mpr c12
    by_cases c15 : a1 < 3
    ·
     rw [if_pos c15] at H
     have c15b0 : decide (a1 < 3) = true := decide_eq_true c15
     clear c15
     obtain rfl := Option.some.inj H
     go_enter Tryd.func22, Tryd.ntmps22
     go_wp2_with (first | ((with_reducible refine gate_dst (N := 2) rfl ?_); refine box_event ?hg (N := 2) ?hd (cs := #[.int .u64 a0_0, .int .u64 a0_1, .int .u64 a0_2, .string a0_3, .string a0_4]) (t := 26) ?hr ?_; (case hd => rfl); (case hg => rfl); (case hr => first | (go_simp; done) | (go_simp; rfl) | (go_simp; simp [u8w]; done)); intro gb225 hg w16 hbox hb; have n0_ := Aside0.mk (below_step (by repeat (first | (with_reducible first | exact HB.out | apply below_alloc | apply pw_below_drewN | apply below_drew1) | exact HB.out)) hb); have n1_ := Aside0.mk (hbox); have n2_ := Aside0.mk ((by rw [hg]; exact (below_size (by repeat (first | (with_reducible first | exact HB.out | apply below_alloc | apply pw_below_drewN | apply below_drew1) | exact HB.out))) : w.heap.size ≤ gb225)); have n3_ := Aside0.mk ((by rw [hg]; exact (below_size (by repeat (first | (with_reducible first | exact HB.out | apply below_alloc | apply pw_below_drewN | apply below_drew1) | exact HB.out))) : w.heap.size ≤ gb225)); clear HB; have HB := n0_; have BK225 := n1_; have GW225 := n2_; have GE225 := n3_; clear n0_ n1_ n2_ n3_; clear hb hbox hg; have hcz17_0 : w16.cell? ⟨gb225, 0, none⟩ = some (.int .u64 a0_0) := (blk_cell BK225.out 0).trans rfl; have hcz17_1 : w16.cell? ⟨gb225, 1, none⟩ = some (.int .u64 a0_1) := (blk_cell BK225.out 1).trans rfl; have hcz17_2 : w16.cell? ⟨gb225, 2, none⟩ = some (.int .u64 a0_2) := (blk_cell BK225.out 2).trans rfl; have hcz17_3 : w16.cell? ⟨gb225, 3, none⟩ = some (.string a0_3) := (blk_cell BK225.out 3).trans rfl; have hcz17_4 : w16.cell? ⟨gb225, 4, none⟩ = some (.string a0_4) := (blk_cell BK225.out 4).trans rfl; have hfz17_0 := blk_frozen BK225.out 0; have hfz17_1 := blk_frozen BK225.out 1; have hfz17_2 := blk_frozen BK225.out 2; have hfz17_3 := blk_frozen BK225.out 3; have hfz17_4 := blk_frozen BK225.out 4))
     go_ret
     exact ⟨by first | rfl | (simp [errW_none, errW_some] <;> rfl) | (simp [*, errW_none, errW_some] <;> rfl) | (simp [bneNil]; done), by repeat (first | (with_reducible first | exact HB.out | apply below_alloc | apply pw_below_drewN | apply below_drew1 | refine below_set ?_ GE225.out) | exact HB.out)⟩
    ·
     rw [if_neg c15] at H
     have c15b0 : decide (a1 < 3) = false := decide_eq_false c15
     clear c15
     obtain rfl := Option.some.inj H
     go_enter Tryd.func22, Tryd.ntmps22
     go_wp2_with (first | ((with_reducible refine gate_dst (N := 2) rfl ?_); refine box_event ?hg (N := 2) ?hd (cs := #[.int .u64 a0_0, .int .u64 a0_1, .int .u64 a0_2, .string a0_3, .string a0_4]) (t := 26) ?hr ?_; (case hd => rfl); (case hg => rfl); (case hr => first | (go_simp; done) | (go_simp; rfl) | (go_simp; simp [u8w]; done)); intro gb225 hg w18 hbox hb; have n0_ := Aside0.mk (below_step (by repeat (first | (with_reducible first | exact HB.out | apply below_alloc | apply pw_below_drewN | apply below_drew1) | exact HB.out)) hb); have n1_ := Aside0.mk (hbox); have n2_ := Aside0.mk ((by rw [hg]; exact (below_size (by repeat (first | (with_reducible first | exact HB.out | apply below_alloc | apply pw_below_drewN | apply below_drew1) | exact HB.out))) : w.heap.size ≤ gb225)); have n3_ := Aside0.mk ((by rw [hg]; exact (below_size (by repeat (first | (with_reducible first | exact HB.out | apply below_alloc | apply pw_below_drewN | apply below_drew1) | exact HB.out))) : w.heap.size ≤ gb225)); clear HB; have HB := n0_; have BK225 := n1_; have GW225 := n2_; have GE225 := n3_; clear n0_ n1_ n2_ n3_; clear hb hbox hg; have hcz19_0 : w18.cell? ⟨gb225, 0, none⟩ = some (.int .u64 a0_0) := (blk_cell BK225.out 0).trans rfl; have hcz19_1 : w18.cell? ⟨gb225, 1, none⟩ = some (.int .u64 a0_1) := (blk_cell BK225.out 1).trans rfl; have hcz19_2 : w18.cell? ⟨gb225, 2, none⟩ = some (.int .u64 a0_2) := (blk_cell BK225.out 2).trans rfl; have hcz19_3 : w18.cell? ⟨gb225, 3, none⟩ = some (.string a0_3) := (blk_cell BK225.out 3).trans rfl; have hcz19_4 : w18.cell? ⟨gb225, 4, none⟩ = some (.string a0_4) := (blk_cell BK225.out 4).trans rfl; have hfz19_0 := blk_frozen BK225.out 0; have hfz19_1 := blk_frozen BK225.out 1; have hfz19_2 := blk_frozen BK225.out 2; have hfz19_3 := blk_frozen BK225.out 3; have hfz19_4 := blk_frozen BK225.out 4))
     go_ret
     exact ⟨by first | rfl | (simp [errW_none, errW_some] <;> rfl) | (simp [*, errW_none, errW_some] <;> rfl) | (simp [bneNil]; done), by repeat (first | (with_reducible first | exact HB.out | apply below_alloc | apply pw_below_drewN | apply below_drew1 | refine below_set ?_ GE225.out) | exact HB.out)⟩

def laws_scFirst.f (a0_0 : Int) (a0_1 : Int) (a0_2 : Int) (a0_3 : ByteArray) (a0_4 : ByteArray) (a1 : Int) : Option (Int × Int × Int × ByteArray × ByteArray) := if a1 < 3 then (if a1 < 2 then (some (a0_0, 0, 0, (⟨#[]⟩ : ByteArray), (⟨#[]⟩ : ByteArray))) else (some (a0_0, a0_1, 0, (⟨#[]⟩ : ByteArray), (⟨#[]⟩ : ByteArray)))) else (if a1 < 2 then (some (a0_0, 0, a0_2, (⟨#[]⟩ : ByteArray), (⟨#[]⟩ : ByteArray))) else (some (a0_0, a0_1, a0_2, (⟨#[]⟩ : ByteArray), (⟨#[]⟩ : ByteArray))))

set_option maxHeartbeats 80000000 in
set_option maxRecDepth 100000 in
theorem laws_scFirst.calls (a0_0 : Int) (a0_1 : Int) (a0_2 : Int) (a0_3 : ByteArray) (a0_4 : ByteArray) (a1 : Int) (r1 : Int) (r2 : Int) (r3 : Int) (r4 : ByteArray) (r5 : ByteArray) (w : World) (h : laws_scFirst.f a0_0 a0_1 a0_2 a0_3 a0_4 a1 = some (r1, r2, r3, r4, r5)) :
  Calls Tryd.prog 24 #[.agg #[.int .u64 a0_0, .int .u64 a0_1, .int .u64 a0_2, .string a0_3, .string a0_4], .int .i64 a1] w fun e w' => e = .returned (.agg #[.int .u64 r1, .int .u64 r2, .int .u64 r3, .string r4, .string r5]) ∧ Below w.heap.size w w' := by
 have hu26 := Tryd.underlying26
 have HB := Aside0.mk (Below.refl w.heap.size w)
 have H : (if a1 < 3 then (if a1 < 2 then (some (a0_0, 0, 0, (⟨#[]⟩ : ByteArray), (⟨#[]⟩ : ByteArray))) else (some (a0_0, a0_1, 0, (⟨#[]⟩ : ByteArray), (⟨#[]⟩ : ByteArray)))) else (if a1 < 2 then (some (a0_0, 0, a0_2, (⟨#[]⟩ : ByteArray), (⟨#[]⟩ : ByteArray))) else (some (a0_0, a0_1, a0_2, (⟨#[]⟩ : ByteArray), (⟨#[]⟩ : ByteArray))))) = some (r1, r2, r3, r4, r5) := h
 clear h
 by_cases c3 : a1 < 3
 ·
  rw [if_pos c3] at H
  have c3b0 : decide (a1 < 3) = true := decide_eq_true c3
  clear c3
  by_cases c4 : a1 < 2
  ·
   rw [if_pos c4] at H
   have c4b0 : decide (a1 < 2) = true := decide_eq_true c4
   clear c4
   simp only [Option.some.injEq, Prod.mk.injEq] at H
   obtain ⟨rfl, rfl, rfl, rfl, rfl⟩ := H
   go_enter Tryd.func24, Tryd.ntmps24
   go_wp2_with (first | ((with_reducible refine gate_dst (N := 2) rfl ?_); refine box_event ?hg (N := 2) ?hd (cs := #[.int .u64 a0_0, .int .u64 a0_1, .int .u64 a0_2, .string a0_3, .string a0_4]) (t := 26) ?hr ?_; (case hd => rfl); (case hg => rfl); (case hr => first | (go_simp; done) | (go_simp; rfl) | (go_simp; simp [u8w]; done)); intro gb235 hg w5 hbox hb; have n0_ := Aside0.mk (below_step (by repeat (first | (with_reducible first | exact HB.out | apply below_alloc | apply pw_below_drewN | apply below_drew1) | exact HB.out)) hb); have n1_ := Aside0.mk (hbox); have n2_ := Aside0.mk ((by rw [hg]; exact (below_size (by repeat (first | (with_reducible first | exact HB.out | apply below_alloc | apply pw_below_drewN | apply below_drew1) | exact HB.out))) : w.heap.size ≤ gb235)); have n3_ := Aside0.mk ((by rw [hg]; exact (below_size (by repeat (first | (with_reducible first | exact HB.out | apply below_alloc | apply pw_below_drewN | apply below_drew1) | exact HB.out))) : w.heap.size ≤ gb235)); clear HB; have HB := n0_; have BK235 := n1_; have GW235 := n2_; have GE235 := n3_; clear n0_ n1_ n2_ n3_; clear hb hbox hg) | ((with_reducible refine gate_dst (N := 4) rfl ?_); refine box_event ?hg (N := 4) ?hd (cs := #[.int .u64 0, .int .u64 0, .int .u64 0, .string (⟨#[]⟩ : ByteArray), .string (⟨#[]⟩ : ByteArray)]) (t := 26) ?hr ?_; (case hd => rfl); (case hg => rfl); (case hr => first | (go_simp; done) | (go_simp; rfl) | (go_simp; simp [u8w]; done)); intro gb236 hg w6 hbox hb; have n0_ := Aside0.mk (blk_below (g := gb235) (o := .cells #[.int .u64 a0_0, .int .u64 a0_1, .int .u64 a0_2, .string a0_3, .string a0_4] 26 (0, 0)) (by (with_reducible repeat (first | refine blk_drewN ?_ _ | refine blk_drew ?_ | refine blk_alloc ?_ _)); exact BK235.out) hb); have n1_ := Aside0.mk (below_step (by repeat (first | (with_reducible first | exact HB.out | apply below_alloc | apply pw_below_drewN | apply below_drew1 | refine below_set ?_ GE235.out) | exact HB.out)) hb); have n2_ := Aside0.mk (hbox); have n3_ := Aside0.mk ((by rw [hg]; exact (below_size (by repeat (first | (with_reducible first | exact HB.out | apply below_alloc | apply pw_below_drewN | apply below_drew1 | refine below_set ?_ GE235.out) | exact HB.out))) : w.heap.size ≤ gb236)); have n4_ := Aside0.mk ((by rw [hg]; exact (below_size (by repeat (first | (with_reducible first | exact HB.out | apply below_alloc | apply pw_below_drewN | apply below_drew1 | refine below_set ?_ GE235.out) | exact HB.out))) : w.heap.size ≤ gb236)); have n5_ := Aside0.mk ((by rw [hg]; exact Nat.ne_of_lt (blk_lt (g := gb235) (o := .cells #[.int .u64 a0_0, .int .u64 a0_1, .int .u64 a0_2, .string a0_3, .string a0_4] 26 (0, 0)) (by (with_reducible repeat (first | refine blk_drewN ?_ _ | refine blk_drew ?_ | refine blk_alloc ?_ _)); exact BK235.out)) : gb235 ≠ gb236)); have n6_ := Aside0.mk ((by rw [hg]; exact Nat.ne_of_gt (blk_lt (g := gb235) (o := .cells #[.int .u64 a0_0, .int .u64 a0_1, .int .u64 a0_2, .string a0_3, .string a0_4] 26 (0, 0)) (by (with_reducible repeat (first | refine blk_drewN ?_ _ | refine blk_drew ?_ | refine blk_alloc ?_ _)); exact BK235.out)) : gb236 ≠ gb235)); clear BK235; clear HB; have BK235 := n0_; have HB := n1_; have BK236 := n2_; have GW236 := n3_; have GE236 := n4_; have NB235_236 := n5_; have NB236_235 := n6_; clear n0_ n1_ n2_ n3_ n4_ n5_ n6_; clear hb hbox hg; have hnb7 := NB235_236.out; have hnc7 := NB236_235.out; have hcz8_0 : w6.cell? ⟨gb235, 0, none⟩ = some (.int .u64 a0_0) := (blk_cell BK235.out 0).trans rfl; have hcz8_1 : w6.cell? ⟨gb235, 1, none⟩ = some (.int .u64 a0_1) := (blk_cell BK235.out 1).trans rfl; have hcz8_2 : w6.cell? ⟨gb235, 2, none⟩ = some (.int .u64 a0_2) := (blk_cell BK235.out 2).trans rfl; have hcz8_3 : w6.cell? ⟨gb235, 3, none⟩ = some (.string a0_3) := (blk_cell BK235.out 3).trans rfl; have hcz8_4 : w6.cell? ⟨gb235, 4, none⟩ = some (.string a0_4) := (blk_cell BK235.out 4).trans rfl; have hfz8_0 := blk_frozen BK235.out 0; have hfz8_1 := blk_frozen BK235.out 1; have hfz8_2 := blk_frozen BK235.out 2; have hfz8_3 := blk_frozen BK235.out 3; have hfz8_4 := blk_frozen BK235.out 4; have hcz9_0 : w6.cell? ⟨gb236, 0, none⟩ = some (.int .u64 0) := (blk_cell BK236.out 0).trans rfl; have hcz9_1 : w6.cell? ⟨gb236, 1, none⟩ = some (.int .u64 0) := (blk_cell BK236.out 1).trans rfl; have hcz9_2 : w6.cell? ⟨gb236, 2, none⟩ = some (.int .u64 0) := (blk_cell BK236.out 2).trans rfl; have hcz9_3 : w6.cell? ⟨gb236, 3, none⟩ = some (.string (⟨#[]⟩ : ByteArray)) := (blk_cell BK236.out 3).trans rfl; have hcz9_4 : w6.cell? ⟨gb236, 4, none⟩ = some (.string (⟨#[]⟩ : ByteArray)) := (blk_cell BK236.out 4).trans rfl; have hfz9_0 := blk_frozen BK236.out 0; have hfz9_1 := blk_frozen BK236.out 1; have hfz9_2 := blk_frozen BK236.out 2; have hfz9_3 := blk_frozen BK236.out 3; have hfz9_4 := blk_frozen BK236.out 4))
   refine bodyPost_ret (results_cell_row rfl _ _ gb236 26 #[.int .u64 a0_0, .int .u64 0, .int .u64 0, .string (⟨#[]⟩ : ByteArray), .string (⟨#[]⟩ : ByteArray)] (0, 0) _ rfl (by (with_reducible repeat (first | refine blk_drewN ?_ _ | refine blk_drew ?_ | refine blk_alloc ?_ _)); refine blk_put (cs := #[.int .u64 a0_0, .int .u64 0, .int .u64 0, .string (⟨#[]⟩ : ByteArray), .string (⟨#[]⟩ : ByteArray)]) ?_ 4 _ rfl; (with_reducible repeat (first | refine blk_drewN ?_ _ | refine blk_drew ?_ | refine blk_alloc ?_ _)); refine blk_put (cs := #[.int .u64 a0_0, .int .u64 0, .int .u64 0, .string (⟨#[]⟩ : ByteArray), .string (⟨#[]⟩ : ByteArray)]) ?_ 3 _ rfl; (with_reducible repeat (first | refine blk_drewN ?_ _ | refine blk_drew ?_ | refine blk_alloc ?_ _)); refine blk_put (cs := #[.int .u64 a0_0, .int .u64 0, .int .u64 0, .string (⟨#[]⟩ : ByteArray), .string (⟨#[]⟩ : ByteArray)]) ?_ 2 _ rfl; (with_reducible repeat (first | refine blk_drewN ?_ _ | refine blk_drew ?_ | refine blk_alloc ?_ _)); refine blk_put (cs := #[.int .u64 a0_0, .int .u64 0, .int .u64 0, .string (⟨#[]⟩ : ByteArray), .string (⟨#[]⟩ : ByteArray)]) ?_ 1 _ rfl; (with_reducible repeat (first | refine blk_drewN ?_ _ | refine blk_drew ?_ | refine blk_alloc ?_ _)); refine blk_put (cs := #[.int .u64 0, .int .u64 0, .int .u64 0, .string (⟨#[]⟩ : ByteArray), .string (⟨#[]⟩ : ByteArray)]) ?_ 0 _ rfl; (with_reducible repeat (first | refine blk_drewN ?_ _ | refine blk_drew ?_ | refine blk_alloc ?_ _)); refine blk_far ?_ NB236_235.out _; (with_reducible repeat (first | refine blk_drewN ?_ _ | refine blk_drew ?_ | refine blk_alloc ?_ _)); refine blk_far ?_ NB236_235.out _; (with_reducible repeat (first | refine blk_drewN ?_ _ | refine blk_drew ?_ | refine blk_alloc ?_ _)); refine blk_far ?_ NB236_235.out _; (with_reducible repeat (first | refine blk_drewN ?_ _ | refine blk_drew ?_ | refine blk_alloc ?_ _)); refine blk_far ?_ NB236_235.out _; (with_reducible repeat (first | refine blk_drewN ?_ _ | refine blk_drew ?_ | refine blk_alloc ?_ _)); exact BK236.out) Tryd.underlying26 rfl (by kernel_rfl)) rfl ?_
   exact ⟨by first | rfl | (simp [errW_none, errW_some] <;> rfl) | (simp [*, errW_none, errW_some] <;> rfl) | (simp [bneNil]; done), by repeat (first | (with_reducible first | exact HB.out | apply below_alloc | apply pw_below_drewN | apply below_drew1 | refine below_set ?_ GE235.out | refine below_set ?_ GE236.out) | exact HB.out)⟩
  ·
   rw [if_neg c4] at H
   have c4b0 : decide (a1 < 2) = false := decide_eq_false c4
   clear c4
   simp only [Option.some.injEq, Prod.mk.injEq] at H
   obtain ⟨rfl, rfl, rfl, rfl, rfl⟩ := H
   go_enter Tryd.func24, Tryd.ntmps24
   go_wp2_with (first | ((with_reducible refine gate_dst (N := 2) rfl ?_); refine box_event ?hg (N := 2) ?hd (cs := #[.int .u64 a0_0, .int .u64 a0_1, .int .u64 a0_2, .string a0_3, .string a0_4]) (t := 26) ?hr ?_; (case hd => rfl); (case hg => rfl); (case hr => first | (go_simp; done) | (go_simp; rfl) | (go_simp; simp [u8w]; done)); intro gb235 hg w10 hbox hb; have n0_ := Aside0.mk (below_step (by repeat (first | (with_reducible first | exact HB.out | apply below_alloc | apply pw_below_drewN | apply below_drew1) | exact HB.out)) hb); have n1_ := Aside0.mk (hbox); have n2_ := Aside0.mk ((by rw [hg]; exact (below_size (by repeat (first | (with_reducible first | exact HB.out | apply below_alloc | apply pw_below_drewN | apply below_drew1) | exact HB.out))) : w.heap.size ≤ gb235)); have n3_ := Aside0.mk ((by rw [hg]; exact (below_size (by repeat (first | (with_reducible first | exact HB.out | apply below_alloc | apply pw_below_drewN | apply below_drew1) | exact HB.out))) : w.heap.size ≤ gb235)); clear HB; have HB := n0_; have BK235 := n1_; have GW235 := n2_; have GE235 := n3_; clear n0_ n1_ n2_ n3_; clear hb hbox hg) | ((with_reducible refine gate_dst (N := 4) rfl ?_); refine box_event ?hg (N := 4) ?hd (cs := #[.int .u64 0, .int .u64 0, .int .u64 0, .string (⟨#[]⟩ : ByteArray), .string (⟨#[]⟩ : ByteArray)]) (t := 26) ?hr ?_; (case hd => rfl); (case hg => rfl); (case hr => first | (go_simp; done) | (go_simp; rfl) | (go_simp; simp [u8w]; done)); intro gb236 hg w11 hbox hb; have n0_ := Aside0.mk (blk_below (g := gb235) (o := .cells #[.int .u64 a0_0, .int .u64 a0_1, .int .u64 a0_2, .string a0_3, .string a0_4] 26 (0, 0)) (by (with_reducible repeat (first | refine blk_drewN ?_ _ | refine blk_drew ?_ | refine blk_alloc ?_ _)); exact BK235.out) hb); have n1_ := Aside0.mk (below_step (by repeat (first | (with_reducible first | exact HB.out | apply below_alloc | apply pw_below_drewN | apply below_drew1 | refine below_set ?_ GE235.out) | exact HB.out)) hb); have n2_ := Aside0.mk (hbox); have n3_ := Aside0.mk ((by rw [hg]; exact (below_size (by repeat (first | (with_reducible first | exact HB.out | apply below_alloc | apply pw_below_drewN | apply below_drew1 | refine below_set ?_ GE235.out) | exact HB.out))) : w.heap.size ≤ gb236)); have n4_ := Aside0.mk ((by rw [hg]; exact (below_size (by repeat (first | (with_reducible first | exact HB.out | apply below_alloc | apply pw_below_drewN | apply below_drew1 | refine below_set ?_ GE235.out) | exact HB.out))) : w.heap.size ≤ gb236)); have n5_ := Aside0.mk ((by rw [hg]; exact Nat.ne_of_lt (blk_lt (g := gb235) (o := .cells #[.int .u64 a0_0, .int .u64 a0_1, .int .u64 a0_2, .string a0_3, .string a0_4] 26 (0, 0)) (by (with_reducible repeat (first | refine blk_drewN ?_ _ | refine blk_drew ?_ | refine blk_alloc ?_ _)); exact BK235.out)) : gb235 ≠ gb236)); have n6_ := Aside0.mk ((by rw [hg]; exact Nat.ne_of_gt (blk_lt (g := gb235) (o := .cells #[.int .u64 a0_0, .int .u64 a0_1, .int .u64 a0_2, .string a0_3, .string a0_4] 26 (0, 0)) (by (with_reducible repeat (first | refine blk_drewN ?_ _ | refine blk_drew ?_ | refine blk_alloc ?_ _)); exact BK235.out)) : gb236 ≠ gb235)); clear BK235; clear HB; have BK235 := n0_; have HB := n1_; have BK236 := n2_; have GW236 := n3_; have GE236 := n4_; have NB235_236 := n5_; have NB236_235 := n6_; clear n0_ n1_ n2_ n3_ n4_ n5_ n6_; clear hb hbox hg; have hnb12 := NB235_236.out; have hnc12 := NB236_235.out; have hcz13_0 : w11.cell? ⟨gb235, 0, none⟩ = some (.int .u64 a0_0) := (blk_cell BK235.out 0).trans rfl; have hcz13_1 : w11.cell? ⟨gb235, 1, none⟩ = some (.int .u64 a0_1) := (blk_cell BK235.out 1).trans rfl; have hcz13_2 : w11.cell? ⟨gb235, 2, none⟩ = some (.int .u64 a0_2) := (blk_cell BK235.out 2).trans rfl; have hcz13_3 : w11.cell? ⟨gb235, 3, none⟩ = some (.string a0_3) := (blk_cell BK235.out 3).trans rfl; have hcz13_4 : w11.cell? ⟨gb235, 4, none⟩ = some (.string a0_4) := (blk_cell BK235.out 4).trans rfl; have hfz13_0 := blk_frozen BK235.out 0; have hfz13_1 := blk_frozen BK235.out 1; have hfz13_2 := blk_frozen BK235.out 2; have hfz13_3 := blk_frozen BK235.out 3; have hfz13_4 := blk_frozen BK235.out 4; have hcz14_0 : w11.cell? ⟨gb236, 0, none⟩ = some (.int .u64 0) := (blk_cell BK236.out 0).trans rfl; have hcz14_1 : w11.cell? ⟨gb236, 1, none⟩ = some (.int .u64 0) := (blk_cell BK236.out 1).trans rfl; have hcz14_2 : w11.cell? ⟨gb236, 2, none⟩ = some (.int .u64 0) := (blk_cell BK236.out 2).trans rfl; have hcz14_3 : w11.cell? ⟨gb236, 3, none⟩ = some (.string (⟨#[]⟩ : ByteArray)) := (blk_cell BK236.out 3).trans rfl; have hcz14_4 : w11.cell? ⟨gb236, 4, none⟩ = some (.string (⟨#[]⟩ : ByteArray)) := (blk_cell BK236.out 4).trans rfl; have hfz14_0 := blk_frozen BK236.out 0; have hfz14_1 := blk_frozen BK236.out 1; have hfz14_2 := blk_frozen BK236.out 2; have hfz14_3 := blk_frozen BK236.out 3; have hfz14_4 := blk_frozen BK236.out 4))
   refine bodyPost_ret (results_cell_row rfl _ _ gb236 26 #[.int .u64 a0_0, .int .u64 a0_1, .int .u64 0, .string (⟨#[]⟩ : ByteArray), .string (⟨#[]⟩ : ByteArray)] (0, 0) _ rfl (by (with_reducible repeat (first | refine blk_drewN ?_ _ | refine blk_drew ?_ | refine blk_alloc ?_ _)); refine blk_put (cs := #[.int .u64 a0_0, .int .u64 a0_1, .int .u64 0, .string (⟨#[]⟩ : ByteArray), .string (⟨#[]⟩ : ByteArray)]) ?_ 4 _ rfl; (with_reducible repeat (first | refine blk_drewN ?_ _ | refine blk_drew ?_ | refine blk_alloc ?_ _)); refine blk_put (cs := #[.int .u64 a0_0, .int .u64 a0_1, .int .u64 0, .string (⟨#[]⟩ : ByteArray), .string (⟨#[]⟩ : ByteArray)]) ?_ 3 _ rfl; (with_reducible repeat (first | refine blk_drewN ?_ _ | refine blk_drew ?_ | refine blk_alloc ?_ _)); refine blk_put (cs := #[.int .u64 a0_0, .int .u64 a0_1, .int .u64 0, .string (⟨#[]⟩ : ByteArray), .string (⟨#[]⟩ : ByteArray)]) ?_ 2 _ rfl; (with_reducible repeat (first | refine blk_drewN ?_ _ | refine blk_drew ?_ | refine blk_alloc ?_ _)); refine blk_put (cs := #[.int .u64 a0_0, .int .u64 0, .int .u64 0, .string (⟨#[]⟩ : ByteArray), .string (⟨#[]⟩ : ByteArray)]) ?_ 1 _ rfl; (with_reducible repeat (first | refine blk_drewN ?_ _ | refine blk_drew ?_ | refine blk_alloc ?_ _)); refine blk_put (cs := #[.int .u64 0, .int .u64 0, .int .u64 0, .string (⟨#[]⟩ : ByteArray), .string (⟨#[]⟩ : ByteArray)]) ?_ 0 _ rfl; (with_reducible repeat (first | refine blk_drewN ?_ _ | refine blk_drew ?_ | refine blk_alloc ?_ _)); refine blk_far ?_ NB236_235.out _; (with_reducible repeat (first | refine blk_drewN ?_ _ | refine blk_drew ?_ | refine blk_alloc ?_ _)); refine blk_far ?_ NB236_235.out _; (with_reducible repeat (first | refine blk_drewN ?_ _ | refine blk_drew ?_ | refine blk_alloc ?_ _)); refine blk_far ?_ NB236_235.out _; (with_reducible repeat (first | refine blk_drewN ?_ _ | refine blk_drew ?_ | refine blk_alloc ?_ _)); exact BK236.out) Tryd.underlying26 rfl (by kernel_rfl)) rfl ?_
   exact ⟨by first | rfl | (simp [errW_none, errW_some] <;> rfl) | (simp [*, errW_none, errW_some] <;> rfl) | (simp [bneNil]; done), by repeat (first | (with_reducible first | exact HB.out | apply below_alloc | apply pw_below_drewN | apply below_drew1 | refine below_set ?_ GE235.out | refine below_set ?_ GE236.out) | exact HB.out)⟩
 ·
  rw [if_neg c3] at H
  have c3b0 : decide (a1 < 3) = false := decide_eq_false c3
  clear c3
  by_cases c15 : a1 < 2
  ·
   rw [if_pos c15] at H
   have c15b0 : decide (a1 < 2) = true := decide_eq_true c15
   clear c15
   simp only [Option.some.injEq, Prod.mk.injEq] at H
   obtain ⟨rfl, rfl, rfl, rfl, rfl⟩ := H
   go_enter Tryd.func24, Tryd.ntmps24
   go_wp2_with (first | ((with_reducible refine gate_dst (N := 2) rfl ?_); refine box_event ?hg (N := 2) ?hd (cs := #[.int .u64 a0_0, .int .u64 a0_1, .int .u64 a0_2, .string a0_3, .string a0_4]) (t := 26) ?hr ?_; (case hd => rfl); (case hg => rfl); (case hr => first | (go_simp; done) | (go_simp; rfl) | (go_simp; simp [u8w]; done)); intro gb235 hg w16 hbox hb; have n0_ := Aside0.mk (below_step (by repeat (first | (with_reducible first | exact HB.out | apply below_alloc | apply pw_below_drewN | apply below_drew1) | exact HB.out)) hb); have n1_ := Aside0.mk (hbox); have n2_ := Aside0.mk ((by rw [hg]; exact (below_size (by repeat (first | (with_reducible first | exact HB.out | apply below_alloc | apply pw_below_drewN | apply below_drew1) | exact HB.out))) : w.heap.size ≤ gb235)); have n3_ := Aside0.mk ((by rw [hg]; exact (below_size (by repeat (first | (with_reducible first | exact HB.out | apply below_alloc | apply pw_below_drewN | apply below_drew1) | exact HB.out))) : w.heap.size ≤ gb235)); clear HB; have HB := n0_; have BK235 := n1_; have GW235 := n2_; have GE235 := n3_; clear n0_ n1_ n2_ n3_; clear hb hbox hg) | ((with_reducible refine gate_dst (N := 4) rfl ?_); refine box_event ?hg (N := 4) ?hd (cs := #[.int .u64 0, .int .u64 0, .int .u64 0, .string (⟨#[]⟩ : ByteArray), .string (⟨#[]⟩ : ByteArray)]) (t := 26) ?hr ?_; (case hd => rfl); (case hg => rfl); (case hr => first | (go_simp; done) | (go_simp; rfl) | (go_simp; simp [u8w]; done)); intro gb236 hg w17 hbox hb; have n0_ := Aside0.mk (blk_below (g := gb235) (o := .cells #[.int .u64 a0_0, .int .u64 a0_1, .int .u64 a0_2, .string a0_3, .string a0_4] 26 (0, 0)) (by (with_reducible repeat (first | refine blk_drewN ?_ _ | refine blk_drew ?_ | refine blk_alloc ?_ _)); exact BK235.out) hb); have n1_ := Aside0.mk (below_step (by repeat (first | (with_reducible first | exact HB.out | apply below_alloc | apply pw_below_drewN | apply below_drew1 | refine below_set ?_ GE235.out) | exact HB.out)) hb); have n2_ := Aside0.mk (hbox); have n3_ := Aside0.mk ((by rw [hg]; exact (below_size (by repeat (first | (with_reducible first | exact HB.out | apply below_alloc | apply pw_below_drewN | apply below_drew1 | refine below_set ?_ GE235.out) | exact HB.out))) : w.heap.size ≤ gb236)); have n4_ := Aside0.mk ((by rw [hg]; exact (below_size (by repeat (first | (with_reducible first | exact HB.out | apply below_alloc | apply pw_below_drewN | apply below_drew1 | refine below_set ?_ GE235.out) | exact HB.out))) : w.heap.size ≤ gb236)); have n5_ := Aside0.mk ((by rw [hg]; exact Nat.ne_of_lt (blk_lt (g := gb235) (o := .cells #[.int .u64 a0_0, .int .u64 a0_1, .int .u64 a0_2, .string a0_3, .string a0_4] 26 (0, 0)) (by (with_reducible repeat (first | refine blk_drewN ?_ _ | refine blk_drew ?_ | refine blk_alloc ?_ _)); exact BK235.out)) : gb235 ≠ gb236)); have n6_ := Aside0.mk ((by rw [hg]; exact Nat.ne_of_gt (blk_lt (g := gb235) (o := .cells #[.int .u64 a0_0, .int .u64 a0_1, .int .u64 a0_2, .string a0_3, .string a0_4] 26 (0, 0)) (by (with_reducible repeat (first | refine blk_drewN ?_ _ | refine blk_drew ?_ | refine blk_alloc ?_ _)); exact BK235.out)) : gb236 ≠ gb235)); clear BK235; clear HB; have BK235 := n0_; have HB := n1_; have BK236 := n2_; have GW236 := n3_; have GE236 := n4_; have NB235_236 := n5_; have NB236_235 := n6_; clear n0_ n1_ n2_ n3_ n4_ n5_ n6_; clear hb hbox hg; have hnb18 := NB235_236.out; have hnc18 := NB236_235.out; have hcz19_0 : w17.cell? ⟨gb235, 0, none⟩ = some (.int .u64 a0_0) := (blk_cell BK235.out 0).trans rfl; have hcz19_1 : w17.cell? ⟨gb235, 1, none⟩ = some (.int .u64 a0_1) := (blk_cell BK235.out 1).trans rfl; have hcz19_2 : w17.cell? ⟨gb235, 2, none⟩ = some (.int .u64 a0_2) := (blk_cell BK235.out 2).trans rfl; have hcz19_3 : w17.cell? ⟨gb235, 3, none⟩ = some (.string a0_3) := (blk_cell BK235.out 3).trans rfl; have hcz19_4 : w17.cell? ⟨gb235, 4, none⟩ = some (.string a0_4) := (blk_cell BK235.out 4).trans rfl; have hfz19_0 := blk_frozen BK235.out 0; have hfz19_1 := blk_frozen BK235.out 1; have hfz19_2 := blk_frozen BK235.out 2; have hfz19_3 := blk_frozen BK235.out 3; have hfz19_4 := blk_frozen BK235.out 4; have hcz20_0 : w17.cell? ⟨gb236, 0, none⟩ = some (.int .u64 0) := (blk_cell BK236.out 0).trans rfl; have hcz20_1 : w17.cell? ⟨gb236, 1, none⟩ = some (.int .u64 0) := (blk_cell BK236.out 1).trans rfl; have hcz20_2 : w17.cell? ⟨gb236, 2, none⟩ = some (.int .u64 0) := (blk_cell BK236.out 2).trans rfl; have hcz20_3 : w17.cell? ⟨gb236, 3, none⟩ = some (.string (⟨#[]⟩ : ByteArray)) := (blk_cell BK236.out 3).trans rfl; have hcz20_4 : w17.cell? ⟨gb236, 4, none⟩ = some (.string (⟨#[]⟩ : ByteArray)) := (blk_cell BK236.out 4).trans rfl; have hfz20_0 := blk_frozen BK236.out 0; have hfz20_1 := blk_frozen BK236.out 1; have hfz20_2 := blk_frozen BK236.out 2; have hfz20_3 := blk_frozen BK236.out 3; have hfz20_4 := blk_frozen BK236.out 4))
   refine bodyPost_ret (results_cell_row rfl _ _ gb236 26 #[.int .u64 a0_0, .int .u64 0, .int .u64 a0_2, .string (⟨#[]⟩ : ByteArray), .string (⟨#[]⟩ : ByteArray)] (0, 0) _ rfl (by (with_reducible repeat (first | refine blk_drewN ?_ _ | refine blk_drew ?_ | refine blk_alloc ?_ _)); refine blk_put (cs := #[.int .u64 a0_0, .int .u64 0, .int .u64 a0_2, .string (⟨#[]⟩ : ByteArray), .string (⟨#[]⟩ : ByteArray)]) ?_ 4 _ rfl; (with_reducible repeat (first | refine blk_drewN ?_ _ | refine blk_drew ?_ | refine blk_alloc ?_ _)); refine blk_put (cs := #[.int .u64 a0_0, .int .u64 0, .int .u64 a0_2, .string (⟨#[]⟩ : ByteArray), .string (⟨#[]⟩ : ByteArray)]) ?_ 3 _ rfl; (with_reducible repeat (first | refine blk_drewN ?_ _ | refine blk_drew ?_ | refine blk_alloc ?_ _)); refine blk_put (cs := #[.int .u64 a0_0, .int .u64 0, .int .u64 0, .string (⟨#[]⟩ : ByteArray), .string (⟨#[]⟩ : ByteArray)]) ?_ 2 _ rfl; (with_reducible repeat (first | refine blk_drewN ?_ _ | refine blk_drew ?_ | refine blk_alloc ?_ _)); refine blk_put (cs := #[.int .u64 a0_0, .int .u64 0, .int .u64 0, .string (⟨#[]⟩ : ByteArray), .string (⟨#[]⟩ : ByteArray)]) ?_ 1 _ rfl; (with_reducible repeat (first | refine blk_drewN ?_ _ | refine blk_drew ?_ | refine blk_alloc ?_ _)); refine blk_put (cs := #[.int .u64 0, .int .u64 0, .int .u64 0, .string (⟨#[]⟩ : ByteArray), .string (⟨#[]⟩ : ByteArray)]) ?_ 0 _ rfl; (with_reducible repeat (first | refine blk_drewN ?_ _ | refine blk_drew ?_ | refine blk_alloc ?_ _)); refine blk_far ?_ NB236_235.out _; (with_reducible repeat (first | refine blk_drewN ?_ _ | refine blk_drew ?_ | refine blk_alloc ?_ _)); refine blk_far ?_ NB236_235.out _; (with_reducible repeat (first | refine blk_drewN ?_ _ | refine blk_drew ?_ | refine blk_alloc ?_ _)); refine blk_far ?_ NB236_235.out _; (with_reducible repeat (first | refine blk_drewN ?_ _ | refine blk_drew ?_ | refine blk_alloc ?_ _)); exact BK236.out) Tryd.underlying26 rfl (by kernel_rfl)) rfl ?_
   exact ⟨by first | rfl | (simp [errW_none, errW_some] <;> rfl) | (simp [*, errW_none, errW_some] <;> rfl) | (simp [bneNil]; done), by repeat (first | (with_reducible first | exact HB.out | apply below_alloc | apply pw_below_drewN | apply below_drew1 | refine below_set ?_ GE235.out | refine below_set ?_ GE236.out) | exact HB.out)⟩
  ·
   rw [if_neg c15] at H
   have c15b0 : decide (a1 < 2) = false := decide_eq_false c15
   clear c15
   simp only [Option.some.injEq, Prod.mk.injEq] at H
   obtain ⟨rfl, rfl, rfl, rfl, rfl⟩ := H
   go_enter Tryd.func24, Tryd.ntmps24
   go_wp2_with (first | ((with_reducible refine gate_dst (N := 2) rfl ?_); refine box_event ?hg (N := 2) ?hd (cs := #[.int .u64 a0_0, .int .u64 a0_1, .int .u64 a0_2, .string a0_3, .string a0_4]) (t := 26) ?hr ?_; (case hd => rfl); (case hg => rfl); (case hr => first | (go_simp; done) | (go_simp; rfl) | (go_simp; simp [u8w]; done)); intro gb235 hg w21 hbox hb; have n0_ := Aside0.mk (below_step (by repeat (first | (with_reducible first | exact HB.out | apply below_alloc | apply pw_below_drewN | apply below_drew1) | exact HB.out)) hb); have n1_ := Aside0.mk (hbox); have n2_ := Aside0.mk ((by rw [hg]; exact (below_size (by repeat (first | (with_reducible first | exact HB.out | apply below_alloc | apply pw_below_drewN | apply below_drew1) | exact HB.out))) : w.heap.size ≤ gb235)); have n3_ := Aside0.mk ((by rw [hg]; exact (below_size (by repeat (first | (with_reducible first | exact HB.out | apply below_alloc | apply pw_below_drewN | apply below_drew1) | exact HB.out))) : w.heap.size ≤ gb235)); clear HB; have HB := n0_; have BK235 := n1_; have GW235 := n2_; have GE235 := n3_; clear n0_ n1_ n2_ n3_; clear hb hbox hg) | ((with_reducible refine gate_dst (N := 4) rfl ?_); refine box_event ?hg (N := 4) ?hd (cs := #[.int .u64 0, .int .u64 0, .int .u64 0, .string (⟨#[]⟩ : ByteArray), .string (⟨#[]⟩ : ByteArray)]) (t := 26) ?hr ?_; (case hd => rfl); (case hg => rfl); (case hr => first | (go_simp; done) | (go_simp; rfl) | (go_simp; simp [u8w]; done)); intro gb236 hg w22 hbox hb; have n0_ := Aside0.mk (blk_below (g := gb235) (o := .cells #[.int .u64 a0_0, .int .u64 a0_1, .int .u64 a0_2, .string a0_3, .string a0_4] 26 (0, 0)) (by (with_reducible repeat (first | refine blk_drewN ?_ _ | refine blk_drew ?_ | refine blk_alloc ?_ _)); exact BK235.out) hb); have n1_ := Aside0.mk (below_step (by repeat (first | (with_reducible first | exact HB.out | apply below_alloc | apply pw_below_drewN | apply below_drew1 | refine below_set ?_ GE235.out) | exact HB.out)) hb); have n2_ := Aside0.mk (hbox); have n3_ := Aside0.mk ((by rw [hg]; exact (below_size (by repeat (first | (with_reducible first | exact HB.out | apply below_alloc | apply pw_below_drewN | apply below_drew1 | refine below_set ?_ GE235.out) | exact HB.out))) : w.heap.size ≤ gb236)); have n4_ := Aside0.mk ((by rw [hg]; exact (below_size (by repeat (first | (with_reducible first | exact HB.out | apply below_alloc | apply pw_below_drewN | apply below_drew1 | refine below_set ?_ GE235.out) | exact HB.out))) : w.heap.size ≤ gb236)); have n5_ := Aside0.mk ((by rw [hg]; exact Nat.ne_of_lt (blk_lt (g := gb235) (o := .cells #[.int .u64 a0_0, .int .u64 a0_1, .int .u64 a0_2, .string a0_3, .string a0_4] 26 (0, 0)) (by (with_reducible repeat (first | refine blk_drewN ?_ _ | refine blk_drew ?_ | refine blk_alloc ?_ _)); exact BK235.out)) : gb235 ≠ gb236)); have n6_ := Aside0.mk ((by rw [hg]; exact Nat.ne_of_gt (blk_lt (g := gb235) (o := .cells #[.int .u64 a0_0, .int .u64 a0_1, .int .u64 a0_2, .string a0_3, .string a0_4] 26 (0, 0)) (by (with_reducible repeat (first | refine blk_drewN ?_ _ | refine blk_drew ?_ | refine blk_alloc ?_ _)); exact BK235.out)) : gb236 ≠ gb235)); clear BK235; clear HB; have BK235 := n0_; have HB := n1_; have BK236 := n2_; have GW236 := n3_; have GE236 := n4_; have NB235_236 := n5_; have NB236_235 := n6_; clear n0_ n1_ n2_ n3_ n4_ n5_ n6_; clear hb hbox hg; have hnb23 := NB235_236.out; have hnc23 := NB236_235.out; have hcz24_0 : w22.cell? ⟨gb235, 0, none⟩ = some (.int .u64 a0_0) := (blk_cell BK235.out 0).trans rfl; have hcz24_1 : w22.cell? ⟨gb235, 1, none⟩ = some (.int .u64 a0_1) := (blk_cell BK235.out 1).trans rfl; have hcz24_2 : w22.cell? ⟨gb235, 2, none⟩ = some (.int .u64 a0_2) := (blk_cell BK235.out 2).trans rfl; have hcz24_3 : w22.cell? ⟨gb235, 3, none⟩ = some (.string a0_3) := (blk_cell BK235.out 3).trans rfl; have hcz24_4 : w22.cell? ⟨gb235, 4, none⟩ = some (.string a0_4) := (blk_cell BK235.out 4).trans rfl; have hfz24_0 := blk_frozen BK235.out 0; have hfz24_1 := blk_frozen BK235.out 1; have hfz24_2 := blk_frozen BK235.out 2; have hfz24_3 := blk_frozen BK235.out 3; have hfz24_4 := blk_frozen BK235.out 4; have hcz25_0 : w22.cell? ⟨gb236, 0, none⟩ = some (.int .u64 0) := (blk_cell BK236.out 0).trans rfl; have hcz25_1 : w22.cell? ⟨gb236, 1, none⟩ = some (.int .u64 0) := (blk_cell BK236.out 1).trans rfl; have hcz25_2 : w22.cell? ⟨gb236, 2, none⟩ = some (.int .u64 0) := (blk_cell BK236.out 2).trans rfl; have hcz25_3 : w22.cell? ⟨gb236, 3, none⟩ = some (.string (⟨#[]⟩ : ByteArray)) := (blk_cell BK236.out 3).trans rfl; have hcz25_4 : w22.cell? ⟨gb236, 4, none⟩ = some (.string (⟨#[]⟩ : ByteArray)) := (blk_cell BK236.out 4).trans rfl; have hfz25_0 := blk_frozen BK236.out 0; have hfz25_1 := blk_frozen BK236.out 1; have hfz25_2 := blk_frozen BK236.out 2; have hfz25_3 := blk_frozen BK236.out 3; have hfz25_4 := blk_frozen BK236.out 4))
   refine bodyPost_ret (results_cell_row rfl _ _ gb236 26 #[.int .u64 a0_0, .int .u64 a0_1, .int .u64 a0_2, .string (⟨#[]⟩ : ByteArray), .string (⟨#[]⟩ : ByteArray)] (0, 0) _ rfl (by (with_reducible repeat (first | refine blk_drewN ?_ _ | refine blk_drew ?_ | refine blk_alloc ?_ _)); refine blk_put (cs := #[.int .u64 a0_0, .int .u64 a0_1, .int .u64 a0_2, .string (⟨#[]⟩ : ByteArray), .string (⟨#[]⟩ : ByteArray)]) ?_ 4 _ rfl; (with_reducible repeat (first | refine blk_drewN ?_ _ | refine blk_drew ?_ | refine blk_alloc ?_ _)); refine blk_put (cs := #[.int .u64 a0_0, .int .u64 a0_1, .int .u64 a0_2, .string (⟨#[]⟩ : ByteArray), .string (⟨#[]⟩ : ByteArray)]) ?_ 3 _ rfl; (with_reducible repeat (first | refine blk_drewN ?_ _ | refine blk_drew ?_ | refine blk_alloc ?_ _)); refine blk_put (cs := #[.int .u64 a0_0, .int .u64 a0_1, .int .u64 0, .string (⟨#[]⟩ : ByteArray), .string (⟨#[]⟩ : ByteArray)]) ?_ 2 _ rfl; (with_reducible repeat (first | refine blk_drewN ?_ _ | refine blk_drew ?_ | refine blk_alloc ?_ _)); refine blk_put (cs := #[.int .u64 a0_0, .int .u64 0, .int .u64 0, .string (⟨#[]⟩ : ByteArray), .string (⟨#[]⟩ : ByteArray)]) ?_ 1 _ rfl; (with_reducible repeat (first | refine blk_drewN ?_ _ | refine blk_drew ?_ | refine blk_alloc ?_ _)); refine blk_put (cs := #[.int .u64 0, .int .u64 0, .int .u64 0, .string (⟨#[]⟩ : ByteArray), .string (⟨#[]⟩ : ByteArray)]) ?_ 0 _ rfl; (with_reducible repeat (first | refine blk_drewN ?_ _ | refine blk_drew ?_ | refine blk_alloc ?_ _)); refine blk_far ?_ NB236_235.out _; (with_reducible repeat (first | refine blk_drewN ?_ _ | refine blk_drew ?_ | refine blk_alloc ?_ _)); refine blk_far ?_ NB236_235.out _; (with_reducible repeat (first | refine blk_drewN ?_ _ | refine blk_drew ?_ | refine blk_alloc ?_ _)); exact BK236.out) Tryd.underlying26 rfl (by kernel_rfl)) rfl ?_
   exact ⟨by first | rfl | (simp [errW_none, errW_some] <;> rfl) | (simp [*, errW_none, errW_some] <;> rfl) | (simp [bneNil]; done), by repeat (first | (with_reducible first | exact HB.out | apply below_alloc | apply pw_below_drewN | apply below_drew1 | refine below_set ?_ GE235.out | refine below_set ?_ GE236.out) | exact HB.out)⟩

end Go.Proofs.YtllkoadcpobdaaaDoor.PX
namespace Go.Proofs.YtllkoadcpobdaaaDoor.PX

open Go.RowKit Go.Proofs.YtllkoadcpobdaaaDoorW.PrintWords Go.Proofs.YtllkoadcpobdaaaDoorW.PrintLast Go.Proofs.YtllkoadcpobdaaaDoorW.PrintMore

attribute [local go_sem] max2_int min2_int max_two min_two max_three min_three max_four min_four   -- for this text's walks alone

set_option linter.unusedVariables false

set_option linter.unusedSimpArgs false

def semver_zzIndex.l0 : Nat → ByteArray → ByteArray → Int → Option (Int)
  | 0, _, _, _ => none
  | k + 1, x0, x1, x5 => if (wrap64 (x5 + (x1.size : Int))) ≤ (x0.size : Int) then (if 0 ≤ x5 then (if x5 ≤ (wrap64 (x5 + (x1.size : Int))) then (if (x0.extract (x5 : Int).toNat ((wrap64 (x5 + (x1.size : Int))) : Int).toNat).toList = x1.toList then (some x5) else (semver_zzIndex.l0 k x0 x1 (wrap64 (x5 + 1)))) else (none)) else (none)) else (some (-1))

def semver_zzIndex.f (k : Nat) (a0 : ByteArray) (a1 : ByteArray) : Option (Int) := semver_zzIndex.l0 k a0 a1 0

set_option maxHeartbeats 80000000 in
set_option maxRecDepth 100000 in
theorem semver_zzIndex.calls (k : Nat) (a0 : ByteArray) (a1 : ByteArray) (r : Int) (w : World) (h : semver_zzIndex.f k a0 a1 = some r) :
    Calls Tryd.prog 128 #[.string a0, .string a1] w fun e w' => e = .returned (.int .i64 r) ∧ Drawn0 w w' := by
  have H : (semver_zzIndex.l0 k a0 a1 0) = some r := h
  clear h
  have H' := Aside0.mk H
  clear H
  go_enter Tryd.func128, Tryd.ntmps128
  go_wp2
  go_loopg [5] k (fun kq v5 w' => ∃ (x5_1 : Int), v5 = .int .i64 x5_1 ∧ Aside0 (semver_zzIndex.l0 kq a0 a1 x5_1 = some r) ∧ Aside0 (kq ≤ k) ∧ Drawn0 w w')
  case atStart => exact ⟨(0), (by first | rfl | (simp; done) | (simp [*]; done)), H', ⟨Nat.le_refl _⟩, by repeat (first | exact Drawn0.refl _ | apply Drawn0.step)⟩
  case round =>
    clear H'
    try clear c1
    try clear p2
    obtain ⟨x5_1, rfl, HA, HK1, ⟨m1, rfl⟩⟩ := hrel
    cases gk with
    | zero => exact absurd HA.out (by simp [semver_zzIndex.l0])
    | succ k1 =>
      have H := HA.out
      clear HA
      simp only [semver_zzIndex.l0] at H
      by_cases c3 : (wrap64 (x5_1 + (a1.size : Int))) ≤ (a0.size : Int)
      · rw [if_pos c3] at H
        have c3b0 : decide ((wrap64 (x5_1 + (a1.size : Int))) ≤ (a0.size : Int)) = true := decide_eq_true c3
        clear c3
        by_cases c4 : 0 ≤ x5_1
        · rw [if_pos c4] at H
          have c4b0 := eq_true c4
          have c4b1 : decide (0 ≤ x5_1) = true := decide_eq_true c4
          clear c4
          by_cases c5 : x5_1 ≤ (wrap64 (x5_1 + (a1.size : Int)))
          · rw [if_pos c5] at H
            have c5b0 := eq_true c5
            have c5b1 : decide (x5_1 ≤ (wrap64 (x5_1 + (a1.size : Int)))) = true := decide_eq_true c5
            have c6b0 := eq_true (of_decide_eq_true (by first | (with_reducible assumption) | assumption) : (wrap64 (x5_1 + (a1.size : Int))) ≤ (a0.size : Int))
            by_cases c7 : (a0.extract (x5_1 : Int).toNat ((wrap64 (x5_1 + (a1.size : Int))) : Int).toNat).toList = a1.toList
            · rw [if_pos c7] at H
              have c7b0 : ((a0.extract (x5_1 : Int).toNat ((wrap64 (x5_1 + (a1.size : Int))) : Int).toNat).toList == a1.toList) = true := beq_iff_eq.mpr c7
              have c7b1 : ((a0.extract (x5_1 : Int).toNat ((wrap64 (x5_1 + (a1.size : Int))) : Int).toNat).toList != a1.toList) = false := bne_eq_false_iff_eq.mpr c7
              clear c7
              obtain rfl := Option.some.inj H
              go_wp2
              go_ret
              exact ⟨by first | rfl | (simp; done) | (simp [*]; done) | (simp [bneNil]; done), by repeat (first | exact Drawn0.refl _ | apply Drawn0.step)⟩
            · rw [if_neg c7] at H
              have c7b0 : ((a0.extract (x5_1 : Int).toNat ((wrap64 (x5_1 + (a1.size : Int))) : Int).toNat).toList == a1.toList) = false := beq_eq_false_iff_ne.mpr c7
              have c7b1 : ((a0.extract (x5_1 : Int).toNat ((wrap64 (x5_1 + (a1.size : Int))) : Int).toNat).toList != a1.toList) = true := bne_iff_ne.mpr c7
              have H' := Aside0.mk H
              clear H
              go_wp2
              go_roundg k1
              case measure => have := HK1.out; omega
              case rel => exact ⟨(wrap64 (x5_1 + 1)), (by first | rfl | (simp; done) | (simp [*]; done)), H', ⟨by have := HK1.out; omega⟩, by repeat (first | exact Drawn0.refl _ | apply Drawn0.step)⟩
          · rw [if_neg c5] at H
            exact absurd H (by simp)
        · rw [if_neg c4] at H
          exact absurd H (by simp)
      · rw [if_neg c3] at H
        have c3b0 : decide ((wrap64 (x5_1 + (a1.size : Int))) ≤ (a0.size : Int)) = false := decide_eq_false c3
        clear c3
        obtain rfl := Option.some.inj H
        go_wp2
        go_ret
        exact ⟨by first | rfl | (simp; done) | (simp [*]; done) | (simp [bneNil]; done), by repeat (first | exact Drawn0.refl _ | apply Drawn0.step)⟩

def semver_zzSplit.l0 : Nat → ByteArray → ByteArray → List ByteArray → Option (List ByteArray)
  | 0, _, _, _ => none
  | k + 1, x0, x1, x5 => (semver_zzIndex.f k x0 x1).bind fun t564 => (if t564 < 0 then (if x5.length < 8796093022208 then (some (x5 ++ [x0])) else (none)) else (if 0 ≤ t564 then (if t564 ≤ (x0.size : Int) then (if x5.length < 8796093022208 then (if 0 ≤ (wrap64 (t564 + (x1.size : Int))) then (if (wrap64 (t564 + (x1.size : Int))) ≤ (x0.size : Int) then (semver_zzSplit.l0 k (x0.extract ((wrap64 (t564 + (x1.size : Int))) : Int).toNat x0.size) x1 (x5 ++ [x0.extract 0 (t564 : Int).toNat])) else (none)) else (none)) else (none)) else (none)) else (none)))

def semver_zzSplit.f (k : Nat) (a0 : ByteArray) (a1 : ByteArray) : Option (List ByteArray) := semver_zzSplit.l0 k a0 a1 ([] : List ByteArray)

set_option maxHeartbeats 80000000 in
set_option maxRecDepth 100000 in
theorem semver_zzSplit.calls (k : Nat) (a0 : ByteArray) (a1 : ByteArray) (r : List ByteArray) (w : World) (h : semver_zzSplit.f k a0 a1 = some r) :
  Calls Tryd.prog 121 #[.string a0, .string a1] w fun e w' => ∃ v0_ : Value, e = .returned (v0_) ∧ Kd.R Kd.string 9 w' w.heap.size (fun _ => True) v0_ r ∧ Below w.heap.size w w' := by
 have HB := Aside0.mk (Below.refl w.heap.size w)
 have H : (semver_zzSplit.l0 k a0 a1 ([] : List ByteArray)) = some r := h
 clear h
 have H' := Aside0.mk H
 clear H
 go_enter Tryd.func121, Tryd.ntmps121
 go_wp2
 go_loopg [0, 5] k (fun kq v0 v5 w' => ∃ (x0_1 : ByteArray) (x5_1 : List ByteArray), v0 = .string x0_1 ∧ Aside0 (semver_zzSplit.l0 kq x0_1 a1 x5_1 = some r) ∧ Aside0 (kq ≤ k) ∧ Aside0 (Kd.R Kd.string 9 w' w.heap.size (fun _ => True) v5 x5_1) ∧ Aside0 (Below w.heap.size w w'))
 case atStart => exact ⟨(a0), (([] : List ByteArray)), (by first | rfl | (simp; done) | (simp [*]; done)), H', ⟨Nat.le_refl _⟩, ⟨by first | exact Kd.R_nil _ _ _ _ _ | exact Kd.N_nil _ _ _ _ _ | exact Kd.V_nil _ _ _ _ _ | exact Kd.Q_nil _ _ _ _ _ | exact Kd.S_nil _ _ _ _ _⟩, ⟨by repeat (first | (with_reducible first | exact HB.out | apply below_alloc | apply pw_below_drewN | apply below_drew1) | exact HB.out)⟩⟩
 case round =>
  clear H'
  try clear c1
  try clear p2
  obtain ⟨x0_1, x5_1, rfl, HA, HK1, HO_5, HB⟩ := hrel
  cases gk with
  | zero => exact absurd HA.out (by simp [semver_zzSplit.l0])
  | succ k1 =>
   have H := HA.out
   clear HA
   simp only [semver_zzSplit.l0] at H
   replace H := Option.bind_eq_some_iff.mp H
   obtain ⟨t564, A30, H⟩ := H
   replace H : (if t564 < 0 then (if x5_1.length < 8796093022208 then (some (x5_1 ++ [x0_1])) else (none)) else (if 0 ≤ t564 then (if t564 ≤ (x0_1.size : Int) then (if x5_1.length < 8796093022208 then (if 0 ≤ (wrap64 (t564 + (a1.size : Int))) then (if (wrap64 (t564 + (a1.size : Int))) ≤ (x0_1.size : Int) then (semver_zzSplit.l0 k1 (x0_1.extract ((wrap64 (t564 + (a1.size : Int))) : Int).toNat x0_1.size) a1 (x5_1 ++ [x0_1.extract 0 (t564 : Int).toNat])) else (none)) else (none)) else (none)) else (none)) else (none))) = some r := H
   have A3 := Aside0.mk A30
   clear A30
   by_cases c4 : t564 < 0
   ·
    rw [if_pos c4] at H
    have c4b0 : decide (t564 < 0) = true := decide_eq_true c4
    clear c4
    by_cases c5 : x5_1.length < 8796093022208
    ·
     rw [if_pos c5] at H
     have LMc5 := Aside0.mk c5
     clear c5
     obtain ⟨y565, hy565⟩ : ∃ y_ : List ByteArray, y_ = (x5_1 ++ [x0_1]) := ⟨_, rfl⟩
     replace H : (some y565) = some r := by first | (rw [hy565]; with_reducible exact H) | (have H2_ := (Option.bind_some _ _).symm.trans H; rw [hy565]; with_reducible exact H2_) | (have H2_ := (Option.bind_some _ _).symm.trans H; with_reducible exact H2_) | with_reducible exact H | (rw [hy565]; exact H) | exact H
     have Ny565 := Aside0.mk hy565
     clear hy565
     obtain rfl := Option.some.inj H
     go_wp2_with (first | ((with_reducible refine gate_callee (f := 128) rfl ?_); refine goesL_ (some 9) rfl rfl Tryd.func128 (by kernel_rfl) rfl #[.string x0_1, .string a1] rfl (by (try simp only [List.map_toArray, List.map_cons, List.map_nil]); first | done | rfl | (simp only [List.length_drop, List.length_take]; rfl)) ?_; (with_reducible refine (semver_zzIndex.calls k1 x0_1 a1 t564 _ A3.out).mono ?_); rintro e w' ⟨rfl, ⟨nd, rfl⟩⟩; refine ⟨_, rfl, ?_⟩) | ((with_reducible refine gate_builtin (b := .append) (xs := #[.tmp 12, .tmp 14]) rfl ?_); at_builtin; refine Kd.R_append Kd.string (w0 := w) w.heap.size rfl (.tmp 12) (.tmp 14) 92 9 (.string ⟨#[]⟩) 16 rfl Tryd.underlying92 info9 rfl (by decide) (by omega) u5 x5_1 x0_1 [.string x0_1] (fun _ => True) (fun _ => False) rfl rfl ?aP (fun _ hk => hk.elim) ?aF ?aO ?aB ?aS ?aL ?_; (case aP => exact rfl); (case aB => exact (by repeat (first | (with_reducible first | exact HB.out | apply below_alloc | apply pw_below_drewN | apply below_drew1) | exact HB.out))); (case aF => exact (fun _ _ => trivial)); (case aO => exact (by (with_reducible repeat (first | apply Kd.R_alloc | apply Kd.R_drewN | apply Kd.R_drew)); exact HO_5.out)); (case aS => exact (below_size (by repeat (first | (with_reducible first | exact HB.out | apply below_alloc | apply pw_below_drewN | apply below_drew1) | exact HB.out)))); (case aL => have := LMc5.out; omega); intro v566 w6 ho hb hg hat; rw [← Ny565.out] at ho; have n0_ := Aside0.mk (hb); have n1_ := Aside0.mk (ho); clear HB; clear HO_5; have HB := n0_; have HO567 := n1_; clear n0_ n1_; clear ho hb hg hat))
     go_ret
     exact ⟨_, by first | rfl | (simp [errW_none, errW_some] <;> rfl) | (simp [*, errW_none, errW_some] <;> rfl), by (with_reducible repeat (first | apply Kd.R_alloc | apply Kd.R_drewN | apply Kd.R_drew)); exact HO567.out, by repeat (first | (with_reducible first | exact HB.out | apply below_alloc | apply pw_below_drewN | apply below_drew1) | exact HB.out)⟩
    ·
     rw [if_neg c5] at H
     exact absurd H (by simp)
   ·
    rw [if_neg c4] at H
    have c4b0 : decide (t564 < 0) = false := decide_eq_false c4
    clear c4
    by_cases c7 : 0 ≤ t564
    ·
     rw [if_pos c7] at H
     have c7b0 := eq_true c7
     have c7b1 : decide (0 ≤ t564) = true := decide_eq_true c7
     clear c7
     by_cases c8 : t564 ≤ (x0_1.size : Int)
     ·
      rw [if_pos c8] at H
      have c8b0 := eq_true c8
      have c8b1 : decide (t564 ≤ (x0_1.size : Int)) = true := decide_eq_true c8
      clear c8
      by_cases c9 : x5_1.length < 8796093022208
      ·
       rw [if_pos c9] at H
       have LMc9 := Aside0.mk c9
       clear c9
       obtain ⟨y568, hy568⟩ : ∃ y_ : List ByteArray, y_ = (x5_1 ++ [x0_1.extract 0 (t564 : Int).toNat]) := ⟨_, rfl⟩
       replace H : (if 0 ≤ (wrap64 (t564 + (a1.size : Int))) then (if (wrap64 (t564 + (a1.size : Int))) ≤ (x0_1.size : Int) then (semver_zzSplit.l0 k1 (x0_1.extract ((wrap64 (t564 + (a1.size : Int))) : Int).toNat x0_1.size) a1 y568) else (none)) else (none)) = some r := by first | (rw [hy568]; with_reducible exact H) | (have H2_ := (Option.bind_some _ _).symm.trans H; rw [hy568]; with_reducible exact H2_) | (have H2_ := (Option.bind_some _ _).symm.trans H; with_reducible exact H2_) | with_reducible exact H | (rw [hy568]; exact H) | exact H
       have Ny568 := Aside0.mk hy568
       clear hy568
       obtain ⟨ji10, hji10⟩ : ∃ j_ : Int, (wrap64 (t564 + (a1.size : Int))) = j_ := ⟨_, rfl⟩
       replace H : (if 0 ≤ (ji10) then (if (ji10) ≤ (x0_1.size : Int) then (semver_zzSplit.l0 k1 (x0_1.extract ((ji10) : Int).toNat x0_1.size) a1 y568) else (none)) else (none)) = some r := by first | (rw [hji10] at H; exact H) | (simp only [hji10] at H ⊢; exact H)
       (try rw [hji10] at A3)
       have hji10w : (IntKind.i64.wrap (t564 + (a1.size : Int))) = ji10 := (i64_w _).trans hji10
       by_cases c11 : 0 ≤ (ji10)
       ·
        rw [if_pos c11] at H
        have c11b0 := eq_true c11
        have c11b1 : decide (0 ≤ (ji10)) = true := decide_eq_true c11
        clear c11
        by_cases c12 : (ji10) ≤ (x0_1.size : Int)
        ·
         rw [if_pos c12] at H
         have c12b0 := eq_true c12
         have c12b1 : decide ((ji10) ≤ (x0_1.size : Int)) = true := decide_eq_true c12
         clear c12
         have H' := Aside0.mk H
         clear H
         go_wp2_with (first | ((with_reducible refine gate_callee (f := 128) rfl ?_); refine goesL_ (some 9) rfl rfl Tryd.func128 (by kernel_rfl) rfl #[.string x0_1, .string a1] rfl (by (try simp only [List.map_toArray, List.map_cons, List.map_nil]); first | done | rfl | (simp only [List.length_drop, List.length_take]; rfl)) ?_; (with_reducible refine (semver_zzIndex.calls k1 x0_1 a1 t564 _ A3.out).mono ?_); rintro e w' ⟨rfl, ⟨nd, rfl⟩⟩; refine ⟨_, rfl, ?_⟩) | ((with_reducible refine gate_builtin (b := .append) (xs := #[.tmp 16, .tmp 20]) rfl ?_); at_builtin; refine Kd.R_append Kd.string (w0 := w) w.heap.size rfl (.tmp 16) (.tmp 20) 92 9 (.string ⟨#[]⟩) 16 rfl Tryd.underlying92 info9 rfl (by decide) (by omega) u5 x5_1 (x0_1.extract 0 (t564 : Int).toNat) [.string (x0_1.extract 0 (t564 : Int).toNat)] (fun _ => True) (fun _ => False) rfl rfl ?aP (fun _ hk => hk.elim) ?aF ?aO ?aB ?aS ?aL ?_; (case aP => exact rfl); (case aB => exact (by repeat (first | (with_reducible first | exact HB.out | apply below_alloc | apply pw_below_drewN | apply below_drew1) | exact HB.out))); (case aF => exact (fun _ _ => trivial)); (case aO => exact (by (with_reducible repeat (first | apply Kd.R_alloc | apply Kd.R_drewN | apply Kd.R_drew)); exact HO_5.out)); (case aS => exact (below_size (by repeat (first | (with_reducible first | exact HB.out | apply below_alloc | apply pw_below_drewN | apply below_drew1) | exact HB.out)))); (case aL => have := LMc9.out; omega); intro v569 w13 ho hb hg hat; rw [← Ny568.out] at ho; have n0_ := Aside0.mk (hb); have n1_ := Aside0.mk (ho); clear HB; clear HO_5; have HB := n0_; have HO570 := n1_; clear n0_ n1_; clear ho hb hg hat))
         go_roundg k1
         case measure => have := HK1.out; omega
         case rel => exact ⟨(x0_1.extract ((ji10) : Int).toNat x0_1.size), (y568), (by first | rfl | (simp; done) | (simp only [← hji10] <;> (first | rfl | simp)) | (simp [*]; done)), H', ⟨by have := HK1.out; omega⟩, ⟨by (with_reducible repeat (first | apply Kd.R_alloc | apply Kd.R_drewN | apply Kd.R_drew)); exact HO570.out⟩, ⟨by repeat (first | (with_reducible first | exact HB.out | apply below_alloc | apply pw_below_drewN | apply below_drew1) | exact HB.out)⟩⟩
        ·
         rw [if_neg c12] at H
         exact absurd H (by simp)
       ·
        rw [if_neg c11] at H
        exact absurd H (by simp)
      ·
       rw [if_neg c9] at H
       exact absurd H (by simp)
     ·
      rw [if_neg c8] at H
      exact absurd H (by simp)
    ·
     rw [if_neg c7] at H
     exact absurd H (by simp)

def semver_compareSegment.f (a0 : Int) (a1 : Int) : Option (Int) := if a0 < a1 then (some (-1)) else (if a0 > a1 then (some 1) else (some 0))

set_option maxHeartbeats 80000000 in
set_option maxRecDepth 100000 in
theorem semver_compareSegment.calls (a0 : Int) (a1 : Int) (r : Int) (w : World) (h : semver_compareSegment.f a0 a1 = some r) :
    Calls Tryd.prog 107 #[.int .u64 a0, .int .u64 a1] w fun e w' => e = .returned (.int .i64 r) ∧ Drawn0 w w' := by
  have H : (if a0 < a1 then (some (-1)) else (if a0 > a1 then (some 1) else (some 0))) = some r := h
  clear h
  by_cases c3 : a0 < a1
  · rw [if_pos c3] at H
    have c3b0 : decide (a0 < a1) = true := decide_eq_true c3
    clear c3
    obtain rfl := Option.some.inj H
    go_enter Tryd.func107, Tryd.ntmps107
    go_wp2
    go_ret
    exact ⟨by first | rfl | (simp; done) | (simp [*]; done) | (simp [bneNil]; done), by repeat (first | exact Drawn0.refl _ | apply Drawn0.step)⟩
  · rw [if_neg c3] at H
    have c3b0 : decide (a0 < a1) = false := decide_eq_false c3
    clear c3
    by_cases c4 : a0 > a1
    · rw [if_pos c4] at H
      have c4b0 : decide (a1 < a0) = true := decide_eq_true c4
      clear c4
      obtain rfl := Option.some.inj H
      go_enter Tryd.func107, Tryd.ntmps107
      go_wp2
      go_ret
      exact ⟨by first | rfl | (simp; done) | (simp [*]; done) | (simp [bneNil]; done), by repeat (first | exact Drawn0.refl _ | apply Drawn0.step)⟩
    · rw [if_neg c4] at H
      have c4b0 : decide (a1 < a0) = false := decide_eq_false c4
      clear c4
      obtain rfl := Option.some.inj H
      go_enter Tryd.func107, Tryd.ntmps107
      go_wp2
      go_ret
      exact ⟨by first | rfl | (simp; done) | (simp [*]; done) | (simp [bneNil]; done), by repeat (first | exact Drawn0.refl _ | apply Drawn0.step)⟩

def semver_Version_Major.f (a0_0 : Int) (a0_1 : Int) (a0_2 : Int) (a0_3 : ByteArray) (a0_4 : ByteArray) (a0_5 : ByteArray) : Option (Int) := some a0_0

set_option maxHeartbeats 80000000 in
set_option maxRecDepth 100000 in
theorem semver_Version_Major.calls (a0_0 : Int) (a0_1 : Int) (a0_2 : Int) (a0_3 : ByteArray) (a0_4 : ByteArray) (a0_5 : ByteArray) (r : Int) (w : World) (h : semver_Version_Major.f a0_0 a0_1 a0_2 a0_3 a0_4 a0_5 = some r) :
    Calls Tryd.prog 94 #[.agg #[.int .u64 a0_0, .int .u64 a0_1, .int .u64 a0_2, .string a0_3, .string a0_4, .string a0_5]] w fun e w' => e = .returned (.int .u64 r) ∧ Below w.heap.size w w' := by
  have hu106 := Tryd.underlying106
  have HB := Aside0.mk (Below.refl w.heap.size w)
  have H : (some a0_0) = some r := h
  clear h
  obtain rfl := Option.some.inj H
  go_enter Tryd.func94, Tryd.ntmps94
  go_wp2_with (first | ((with_reducible refine gate_dst (N := 1) rfl ?_); refine box_event ?hg (N := 1) ?hd (cs := #[.int .u64 a0_0, .int .u64 a0_1, .int .u64 a0_2, .string a0_3, .string a0_4, .string a0_5]) (t := 106) ?hr ?_; (case hd => rfl); (case hg => rfl); (case hr => first | (go_simp; done) | (go_simp; rfl) | (go_simp; simp [u8w]; done)); intro gb571 hg w2 hbox hb; have n0_ := Aside0.mk (below_step (by repeat (first | (with_reducible first | exact HB.out | apply below_alloc | apply pw_below_drewN | apply below_drew1) | exact HB.out)) hb); have n1_ := Aside0.mk (hbox); have n2_ := Aside0.mk ((by rw [hg]; exact (below_size (by repeat (first | (with_reducible first | exact HB.out | apply below_alloc | apply pw_below_drewN | apply below_drew1) | exact HB.out))) : w.heap.size ≤ gb571)); have n3_ := Aside0.mk ((by rw [hg]; exact (below_size (by repeat (first | (with_reducible first | exact HB.out | apply below_alloc | apply pw_below_drewN | apply below_drew1) | exact HB.out))) : w.heap.size ≤ gb571)); clear HB; have HB := n0_; have BK571 := n1_; have GW571 := n2_; have GE571 := n3_; clear n0_ n1_ n2_ n3_; clear hb hbox hg; have hcz3_0 : w2.cell? ⟨gb571, 0, none⟩ = some (.int .u64 a0_0) := (blk_cell BK571.out 0).trans rfl; have hcz3_1 : w2.cell? ⟨gb571, 1, none⟩ = some (.int .u64 a0_1) := (blk_cell BK571.out 1).trans rfl; have hcz3_2 : w2.cell? ⟨gb571, 2, none⟩ = some (.int .u64 a0_2) := (blk_cell BK571.out 2).trans rfl; have hcz3_3 : w2.cell? ⟨gb571, 3, none⟩ = some (.string a0_3) := (blk_cell BK571.out 3).trans rfl; have hcz3_4 : w2.cell? ⟨gb571, 4, none⟩ = some (.string a0_4) := (blk_cell BK571.out 4).trans rfl; have hcz3_5 : w2.cell? ⟨gb571, 5, none⟩ = some (.string a0_5) := (blk_cell BK571.out 5).trans rfl; have hfz3_0 := blk_frozen BK571.out 0; have hfz3_1 := blk_frozen BK571.out 1; have hfz3_2 := blk_frozen BK571.out 2; have hfz3_3 := blk_frozen BK571.out 3; have hfz3_4 := blk_frozen BK571.out 4; have hfz3_5 := blk_frozen BK571.out 5))
  go_ret
  exact ⟨by first | rfl | (simp [errW_none, errW_some] <;> rfl) | (simp [*, errW_none, errW_some] <;> rfl) | (simp [bneNil]; done), by repeat (first | (with_reducible first | exact HB.out | apply below_alloc | apply pw_below_drewN | apply below_drew1 | refine below_set ?_ GE571.out) | exact HB.out)⟩

def semver_Version_Minor.f (a0_0 : Int) (a0_1 : Int) (a0_2 : Int) (a0_3 : ByteArray) (a0_4 : ByteArray) (a0_5 : ByteArray) : Option (Int) := some a0_1

set_option maxHeartbeats 80000000 in
set_option maxRecDepth 100000 in
theorem semver_Version_Minor.calls (a0_0 : Int) (a0_1 : Int) (a0_2 : Int) (a0_3 : ByteArray) (a0_4 : ByteArray) (a0_5 : ByteArray) (r : Int) (w : World) (h : semver_Version_Minor.f a0_0 a0_1 a0_2 a0_3 a0_4 a0_5 = some r) :
    Calls Tryd.prog 95 #[.agg #[.int .u64 a0_0, .int .u64 a0_1, .int .u64 a0_2, .string a0_3, .string a0_4, .string a0_5]] w fun e w' => e = .returned (.int .u64 r) ∧ Below w.heap.size w w' := by
  have hu106 := Tryd.underlying106
  have HB := Aside0.mk (Below.refl w.heap.size w)
  have H : (some a0_1) = some r := h
  clear h
  obtain rfl := Option.some.inj H
  go_enter Tryd.func95, Tryd.ntmps95
  go_wp2_with (first | ((with_reducible refine gate_dst (N := 1) rfl ?_); refine box_event ?hg (N := 1) ?hd (cs := #[.int .u64 a0_0, .int .u64 a0_1, .int .u64 a0_2, .string a0_3, .string a0_4, .string a0_5]) (t := 106) ?hr ?_; (case hd => rfl); (case hg => rfl); (case hr => first | (go_simp; done) | (go_simp; rfl) | (go_simp; simp [u8w]; done)); intro gb572 hg w2 hbox hb; have n0_ := Aside0.mk (below_step (by repeat (first | (with_reducible first | exact HB.out | apply below_alloc | apply pw_below_drewN | apply below_drew1) | exact HB.out)) hb); have n1_ := Aside0.mk (hbox); have n2_ := Aside0.mk ((by rw [hg]; exact (below_size (by repeat (first | (with_reducible first | exact HB.out | apply below_alloc | apply pw_below_drewN | apply below_drew1) | exact HB.out))) : w.heap.size ≤ gb572)); have n3_ := Aside0.mk ((by rw [hg]; exact (below_size (by repeat (first | (with_reducible first | exact HB.out | apply below_alloc | apply pw_below_drewN | apply below_drew1) | exact HB.out))) : w.heap.size ≤ gb572)); clear HB; have HB := n0_; have BK572 := n1_; have GW572 := n2_; have GE572 := n3_; clear n0_ n1_ n2_ n3_; clear hb hbox hg; have hcz3_0 : w2.cell? ⟨gb572, 0, none⟩ = some (.int .u64 a0_0) := (blk_cell BK572.out 0).trans rfl; have hcz3_1 : w2.cell? ⟨gb572, 1, none⟩ = some (.int .u64 a0_1) := (blk_cell BK572.out 1).trans rfl; have hcz3_2 : w2.cell? ⟨gb572, 2, none⟩ = some (.int .u64 a0_2) := (blk_cell BK572.out 2).trans rfl; have hcz3_3 : w2.cell? ⟨gb572, 3, none⟩ = some (.string a0_3) := (blk_cell BK572.out 3).trans rfl; have hcz3_4 : w2.cell? ⟨gb572, 4, none⟩ = some (.string a0_4) := (blk_cell BK572.out 4).trans rfl; have hcz3_5 : w2.cell? ⟨gb572, 5, none⟩ = some (.string a0_5) := (blk_cell BK572.out 5).trans rfl; have hfz3_0 := blk_frozen BK572.out 0; have hfz3_1 := blk_frozen BK572.out 1; have hfz3_2 := blk_frozen BK572.out 2; have hfz3_3 := blk_frozen BK572.out 3; have hfz3_4 := blk_frozen BK572.out 4; have hfz3_5 := blk_frozen BK572.out 5))
  go_ret
  exact ⟨by first | rfl | (simp [errW_none, errW_some] <;> rfl) | (simp [*, errW_none, errW_some] <;> rfl) | (simp [bneNil]; done), by repeat (first | (with_reducible first | exact HB.out | apply below_alloc | apply pw_below_drewN | apply below_drew1 | refine below_set ?_ GE572.out) | exact HB.out)⟩

def semver_Version_Patch.f (a0_0 : Int) (a0_1 : Int) (a0_2 : Int) (a0_3 : ByteArray) (a0_4 : ByteArray) (a0_5 : ByteArray) : Option (Int) := some a0_2

set_option maxHeartbeats 80000000 in
set_option maxRecDepth 100000 in
theorem semver_Version_Patch.calls (a0_0 : Int) (a0_1 : Int) (a0_2 : Int) (a0_3 : ByteArray) (a0_4 : ByteArray) (a0_5 : ByteArray) (r : Int) (w : World) (h : semver_Version_Patch.f a0_0 a0_1 a0_2 a0_3 a0_4 a0_5 = some r) :
    Calls Tryd.prog 96 #[.agg #[.int .u64 a0_0, .int .u64 a0_1, .int .u64 a0_2, .string a0_3, .string a0_4, .string a0_5]] w fun e w' => e = .returned (.int .u64 r) ∧ Below w.heap.size w w' := by
  have hu106 := Tryd.underlying106
  have HB := Aside0.mk (Below.refl w.heap.size w)
  have H : (some a0_2) = some r := h
  clear h
  obtain rfl := Option.some.inj H
  go_enter Tryd.func96, Tryd.ntmps96
  go_wp2_with (first | ((with_reducible refine gate_dst (N := 1) rfl ?_); refine box_event ?hg (N := 1) ?hd (cs := #[.int .u64 a0_0, .int .u64 a0_1, .int .u64 a0_2, .string a0_3, .string a0_4, .string a0_5]) (t := 106) ?hr ?_; (case hd => rfl); (case hg => rfl); (case hr => first | (go_simp; done) | (go_simp; rfl) | (go_simp; simp [u8w]; done)); intro gb573 hg w2 hbox hb; have n0_ := Aside0.mk (below_step (by repeat (first | (with_reducible first | exact HB.out | apply below_alloc | apply pw_below_drewN | apply below_drew1) | exact HB.out)) hb); have n1_ := Aside0.mk (hbox); have n2_ := Aside0.mk ((by rw [hg]; exact (below_size (by repeat (first | (with_reducible first | exact HB.out | apply below_alloc | apply pw_below_drewN | apply below_drew1) | exact HB.out))) : w.heap.size ≤ gb573)); have n3_ := Aside0.mk ((by rw [hg]; exact (below_size (by repeat (first | (with_reducible first | exact HB.out | apply below_alloc | apply pw_below_drewN | apply below_drew1) | exact HB.out))) : w.heap.size ≤ gb573)); clear HB; have HB := n0_; have BK573 := n1_; have GW573 := n2_; have GE573 := n3_; clear n0_ n1_ n2_ n3_; clear hb hbox hg; have hcz3_0 : w2.cell? ⟨gb573, 0, none⟩ = some (.int .u64 a0_0) := (blk_cell BK573.out 0).trans rfl; have hcz3_1 : w2.cell? ⟨gb573, 1, none⟩ = some (.int .u64 a0_1) := (blk_cell BK573.out 1).trans rfl; have hcz3_2 : w2.cell? ⟨gb573, 2, none⟩ = some (.int .u64 a0_2) := (blk_cell BK573.out 2).trans rfl; have hcz3_3 : w2.cell? ⟨gb573, 3, none⟩ = some (.string a0_3) := (blk_cell BK573.out 3).trans rfl; have hcz3_4 : w2.cell? ⟨gb573, 4, none⟩ = some (.string a0_4) := (blk_cell BK573.out 4).trans rfl; have hcz3_5 : w2.cell? ⟨gb573, 5, none⟩ = some (.string a0_5) := (blk_cell BK573.out 5).trans rfl; have hfz3_0 := blk_frozen BK573.out 0; have hfz3_1 := blk_frozen BK573.out 1; have hfz3_2 := blk_frozen BK573.out 2; have hfz3_3 := blk_frozen BK573.out 3; have hfz3_4 := blk_frozen BK573.out 4; have hfz3_5 := blk_frozen BK573.out 5))
  go_ret
  exact ⟨by first | rfl | (simp [errW_none, errW_some] <;> rfl) | (simp [*, errW_none, errW_some] <;> rfl) | (simp [bneNil]; done), by repeat (first | (with_reducible first | exact HB.out | apply below_alloc | apply pw_below_drewN | apply below_drew1 | refine below_set ?_ GE573.out) | exact HB.out)⟩

def semver_Version_Prerelease.f (a0_0 : Int) (a0_1 : Int) (a0_2 : Int) (a0_3 : ByteArray) (a0_4 : ByteArray) (a0_5 : ByteArray) : Option (ByteArray) := some a0_3

set_option maxHeartbeats 80000000 in
set_option maxRecDepth 100000 in
theorem semver_Version_Prerelease.calls (a0_0 : Int) (a0_1 : Int) (a0_2 : Int) (a0_3 : ByteArray) (a0_4 : ByteArray) (a0_5 : ByteArray) (r : ByteArray) (w : World) (h : semver_Version_Prerelease.f a0_0 a0_1 a0_2 a0_3 a0_4 a0_5 = some r) :
    Calls Tryd.prog 97 #[.agg #[.int .u64 a0_0, .int .u64 a0_1, .int .u64 a0_2, .string a0_3, .string a0_4, .string a0_5]] w fun e w' => e = .returned (.string r) ∧ Below w.heap.size w w' := by
  have hu106 := Tryd.underlying106
  have HB := Aside0.mk (Below.refl w.heap.size w)
  have H : (some a0_3) = some r := h
  clear h
  obtain rfl := Option.some.inj H
  go_enter Tryd.func97, Tryd.ntmps97
  go_wp2_with (first | ((with_reducible refine gate_dst (N := 1) rfl ?_); refine box_event ?hg (N := 1) ?hd (cs := #[.int .u64 a0_0, .int .u64 a0_1, .int .u64 a0_2, .string a0_3, .string a0_4, .string a0_5]) (t := 106) ?hr ?_; (case hd => rfl); (case hg => rfl); (case hr => first | (go_simp; done) | (go_simp; rfl) | (go_simp; simp [u8w]; done)); intro gb574 hg w2 hbox hb; have n0_ := Aside0.mk (below_step (by repeat (first | (with_reducible first | exact HB.out | apply below_alloc | apply pw_below_drewN | apply below_drew1) | exact HB.out)) hb); have n1_ := Aside0.mk (hbox); have n2_ := Aside0.mk ((by rw [hg]; exact (below_size (by repeat (first | (with_reducible first | exact HB.out | apply below_alloc | apply pw_below_drewN | apply below_drew1) | exact HB.out))) : w.heap.size ≤ gb574)); have n3_ := Aside0.mk ((by rw [hg]; exact (below_size (by repeat (first | (with_reducible first | exact HB.out | apply below_alloc | apply pw_below_drewN | apply below_drew1) | exact HB.out))) : w.heap.size ≤ gb574)); clear HB; have HB := n0_; have BK574 := n1_; have GW574 := n2_; have GE574 := n3_; clear n0_ n1_ n2_ n3_; clear hb hbox hg; have hcz3_0 : w2.cell? ⟨gb574, 0, none⟩ = some (.int .u64 a0_0) := (blk_cell BK574.out 0).trans rfl; have hcz3_1 : w2.cell? ⟨gb574, 1, none⟩ = some (.int .u64 a0_1) := (blk_cell BK574.out 1).trans rfl; have hcz3_2 : w2.cell? ⟨gb574, 2, none⟩ = some (.int .u64 a0_2) := (blk_cell BK574.out 2).trans rfl; have hcz3_3 : w2.cell? ⟨gb574, 3, none⟩ = some (.string a0_3) := (blk_cell BK574.out 3).trans rfl; have hcz3_4 : w2.cell? ⟨gb574, 4, none⟩ = some (.string a0_4) := (blk_cell BK574.out 4).trans rfl; have hcz3_5 : w2.cell? ⟨gb574, 5, none⟩ = some (.string a0_5) := (blk_cell BK574.out 5).trans rfl; have hfz3_0 := blk_frozen BK574.out 0; have hfz3_1 := blk_frozen BK574.out 1; have hfz3_2 := blk_frozen BK574.out 2; have hfz3_3 := blk_frozen BK574.out 3; have hfz3_4 := blk_frozen BK574.out 4; have hfz3_5 := blk_frozen BK574.out 5))
  go_ret
  exact ⟨by first | rfl | (simp [errW_none, errW_some] <;> rfl) | (simp [*, errW_none, errW_some] <;> rfl) | (simp [bneNil]; done), by repeat (first | (with_reducible first | exact HB.out | apply below_alloc | apply pw_below_drewN | apply below_drew1 | refine below_set ?_ GE574.out) | exact HB.out)⟩

def impl_operator.f (a0 : Int) : Option (ByteArray) := if (Go.bits .and .i64 a0 7) = 0 then (some (⟨#[61]⟩ : ByteArray)) else (if (Go.bits .and .i64 a0 7) = 1 then (some (⟨#[33, 61]⟩ : ByteArray)) else (if (Go.bits .and .i64 a0 7) = 2 then (some (⟨#[62]⟩ : ByteArray)) else (if (Go.bits .and .i64 a0 7) = 3 then (some (⟨#[60]⟩ : ByteArray)) else (if (Go.bits .and .i64 a0 7) = 4 then (some (⟨#[62, 61]⟩ : ByteArray)) else (if (Go.bits .and .i64 a0 7) = 5 then (some (⟨#[60, 61]⟩ : ByteArray)) else (if (Go.bits .and .i64 a0 7) = 6 then (some (⟨#[126]⟩ : ByteArray)) else (some (⟨#[94]⟩ : ByteArray))))))))

set_option maxHeartbeats 80000000 in
set_option maxRecDepth 100000 in
theorem impl_operator.calls (a0 : Int) (r : ByteArray) (w : World) (h : impl_operator.f a0 = some r) :
  Calls Tryd.prog 83 #[.int .i64 a0] w fun e w' => e = .returned (.string r) ∧ Drawn0 w w' := by
 have H : (if (Go.bits .and .i64 a0 7) = 0 then (some (⟨#[61]⟩ : ByteArray)) else (if (Go.bits .and .i64 a0 7) = 1 then (some (⟨#[33, 61]⟩ : ByteArray)) else (if (Go.bits .and .i64 a0 7) = 2 then (some (⟨#[62]⟩ : ByteArray)) else (if (Go.bits .and .i64 a0 7) = 3 then (some (⟨#[60]⟩ : ByteArray)) else (if (Go.bits .and .i64 a0 7) = 4 then (some (⟨#[62, 61]⟩ : ByteArray)) else (if (Go.bits .and .i64 a0 7) = 5 then (some (⟨#[60, 61]⟩ : ByteArray)) else (if (Go.bits .and .i64 a0 7) = 6 then (some (⟨#[126]⟩ : ByteArray)) else (some (⟨#[94]⟩ : ByteArray))))))))) = some r := h
 clear h
 by_cases c2 : (Go.bits .and .i64 a0 7) = 0
 ·
  rw [if_pos c2] at H
  have c2b0 : ((Go.bits .and .i64 a0 7) == 0) = true := beq_iff_eq.mpr c2
  have c2b1 : ((Go.bits .and .i64 a0 7) != 0) = false := bne_eq_false_iff_eq.mpr c2
  clear c2
  obtain rfl := Option.some.inj H
  go_enter Tryd.func83, Tryd.ntmps83
  go_wp2
  go_ret
  exact ⟨by first | rfl | (simp; done) | (simp [*]; done) | (simp [bneNil]; done), by repeat (first | exact Drawn0.refl _ | apply Drawn0.step)⟩
 ·
  rw [if_neg c2] at H
  have c2b0 : ((Go.bits .and .i64 a0 7) == 0) = false := beq_eq_false_iff_ne.mpr c2
  have c2b1 : ((Go.bits .and .i64 a0 7) != 0) = true := bne_iff_ne.mpr c2
  by_cases c3 : (Go.bits .and .i64 a0 7) = 1
  ·
   rw [if_pos c3] at H
   have c3b0 : ((Go.bits .and .i64 a0 7) == 1) = true := beq_iff_eq.mpr c3
   have c3b1 : ((Go.bits .and .i64 a0 7) != 1) = false := bne_eq_false_iff_eq.mpr c3
   clear c3
   obtain rfl := Option.some.inj H
   go_enter Tryd.func83, Tryd.ntmps83
   go_wp2
   go_ret
   exact ⟨by first | rfl | (simp; done) | (simp [*]; done) | (simp [bneNil]; done), by repeat (first | exact Drawn0.refl _ | apply Drawn0.step)⟩
  ·
   rw [if_neg c3] at H
   have c3b0 : ((Go.bits .and .i64 a0 7) == 1) = false := beq_eq_false_iff_ne.mpr c3
   have c3b1 : ((Go.bits .and .i64 a0 7) != 1) = true := bne_iff_ne.mpr c3
   by_cases c4 : (Go.bits .and .i64 a0 7) = 2
   ·
    rw [if_pos c4] at H
    have c4b0 : ((Go.bits .and .i64 a0 7) == 2) = true := beq_iff_eq.mpr c4
    have c4b1 : ((Go.bits .and .i64 a0 7) != 2) = false := bne_eq_false_iff_eq.mpr c4
    clear c4
    obtain rfl := Option.some.inj H
    go_enter Tryd.func83, Tryd.ntmps83
    go_wp2
    go_ret
    exact ⟨by first | rfl | (simp; done) | (simp [*]; done) | (simp [bneNil]; done), by repeat (first | exact Drawn0.refl _ | apply Drawn0.step)⟩
   ·
    rw [if_neg c4] at H
    have c4b0 : ((Go.bits .and .i64 a0 7) == 2) = false := beq_eq_false_iff_ne.mpr c4
    have c4b1 : ((Go.bits .and .i64 a0 7) != 2) = true := bne_iff_ne.mpr c4
    by_cases c5 : (Go.bits .and .i64 a0 7) = 3
    ·
     rw [if_pos c5] at H
     have c5b0 : ((Go.bits .and .i64 a0 7) == 3) = true := beq_iff_eq.mpr c5
     have c5b1 : ((Go.bits .and .i64 a0 7) != 3) = false := bne_eq_false_iff_eq.mpr c5
     clear c5
     obtain rfl := Option.some.inj H
     go_enter Tryd.func83, Tryd.ntmps83
     go_wp2
     go_ret
     exact ⟨by first | rfl | (simp; done) | (simp [*]; done) | (simp [bneNil]; done), by repeat (first | exact Drawn0.refl _ | apply Drawn0.step)⟩
    ·
     rw [if_neg c5] at H
     have c5b0 : ((Go.bits .and .i64 a0 7) == 3) = false := beq_eq_false_iff_ne.mpr c5
     have c5b1 : ((Go.bits .and .i64 a0 7) != 3) = true := bne_iff_ne.mpr c5
     by_cases c6 : (Go.bits .and .i64 a0 7) = 4
     ·
      rw [if_pos c6] at H
      have c6b0 : ((Go.bits .and .i64 a0 7) == 4) = true := beq_iff_eq.mpr c6
      have c6b1 : ((Go.bits .and .i64 a0 7) != 4) = false := bne_eq_false_iff_eq.mpr c6
      clear c6
      obtain rfl := Option.some.inj H
      go_enter Tryd.func83, Tryd.ntmps83
      go_wp2
      go_ret
      exact ⟨by first | rfl | (simp; done) | (simp [*]; done) | (simp [bneNil]; done), by repeat (first | exact Drawn0.refl _ | apply Drawn0.step)⟩
     ·
      rw [if_neg c6] at H
      have c6b0 : ((Go.bits .and .i64 a0 7) == 4) = false := beq_eq_false_iff_ne.mpr c6
      have c6b1 : ((Go.bits .and .i64 a0 7) != 4) = true := bne_iff_ne.mpr c6
      by_cases c7 : (Go.bits .and .i64 a0 7) = 5
      ·
       rw [if_pos c7] at H
       have c7b0 : ((Go.bits .and .i64 a0 7) == 5) = true := beq_iff_eq.mpr c7
       have c7b1 : ((Go.bits .and .i64 a0 7) != 5) = false := bne_eq_false_iff_eq.mpr c7
       clear c7
       obtain rfl := Option.some.inj H
       go_enter Tryd.func83, Tryd.ntmps83
       go_wp2
       go_ret
       exact ⟨by first | rfl | (simp; done) | (simp [*]; done) | (simp [bneNil]; done), by repeat (first | exact Drawn0.refl _ | apply Drawn0.step)⟩
      ·
       rw [if_neg c7] at H
       have c7b0 : ((Go.bits .and .i64 a0 7) == 5) = false := beq_eq_false_iff_ne.mpr c7
       have c7b1 : ((Go.bits .and .i64 a0 7) != 5) = true := bne_iff_ne.mpr c7
       by_cases c8 : (Go.bits .and .i64 a0 7) = 6
       ·
        rw [if_pos c8] at H
        have c8b0 : ((Go.bits .and .i64 a0 7) == 6) = true := beq_iff_eq.mpr c8
        have c8b1 : ((Go.bits .and .i64 a0 7) != 6) = false := bne_eq_false_iff_eq.mpr c8
        clear c8
        obtain rfl := Option.some.inj H
        go_enter Tryd.func83, Tryd.ntmps83
        go_wp2
        go_ret
        exact ⟨by first | rfl | (simp; done) | (simp [*]; done) | (simp [bneNil]; done), by repeat (first | exact Drawn0.refl _ | apply Drawn0.step)⟩
       ·
        rw [if_neg c8] at H
        have c8b0 : ((Go.bits .and .i64 a0 7) == 6) = false := beq_eq_false_iff_ne.mpr c8
        have c8b1 : ((Go.bits .and .i64 a0 7) != 6) = true := bne_iff_ne.mpr c8
        obtain rfl := Option.some.inj H
        go_enter Tryd.func83, Tryd.ntmps83
        go_wp2
        go_ret
        exact ⟨by first | rfl | (simp; done) | (simp [*]; done) | (simp [bneNil]; done), by repeat (first | exact Drawn0.refl _ | apply Drawn0.step)⟩

end Go.Proofs.YtllkoadcpobdaaaDoor.PX
