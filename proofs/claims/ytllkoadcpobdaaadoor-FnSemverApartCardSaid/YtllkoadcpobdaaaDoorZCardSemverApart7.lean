/- The row and the tied card of FnSemverApart, out of its printed walk and its plain law. For every input that the statement lets in. -/
import Derived.Test.YtllkoadcpobdaaaDoorZCardSemverApart0
import Derived.Test.YtllkoadcpobdaaaDoorZCardSemverApart3
import Derived.Test.YtllkoadcpobdaaaDoorZCardSemverApart5
import Derived.Test.YtllkoadcpobdaaaDoorZCardSemverApart6
import Derived.Test.YtllkoadcpobdaaaDoorProg
import Derived.Below
import Derived.Deep.Draws
import Derived.Deep.AppendLies
import Derived.Maps.AppendAt
import Derived.OwnWalk
import Derived.Laws.BytesArg
import Derived.Laws.MakeOwn
import Derived.Laws.OwnMore
import Derived.Deep.OwnRows
import Derived.Tactics
import Derived.Lib.ConvBytes
import Derived.Laws.Slices
import Derived.WalkKit
import Derived.KernelRfl
import Derived.RowKit3
import Derived.Deep.LoopGhost
import Derived.Deep.QuietTactic
import Derived.BigQuiet
import Derived.WideLaws
import Derived.Deep.DeepCutAuto
import Derived.Deep.CutBlock
import Derived.Deep.RegionHeld3
import Derived.Laws.Rows
import Derived.Lib.AppendStr
import Derived.ArgAppend
import Derived.Laws.IdiomCopy
import Derived.OrdersHeld
import Derived.Laws.BitsLemmas
import Derived.RowKit
namespace Go.Proofs.YtllkoadcpobdaaaDoor.PX

open Go.RowKit Go.Proofs.YtllkoadcpobdaaaDoorW.PrintWords Go.Proofs.YtllkoadcpobdaaaDoorW.PrintLast Go.Proofs.YtllkoadcpobdaaaDoorW.PrintMore

attribute [local go_sem] max2_int min2_int max_two min_two max_three min_three max_four min_four   -- for this text's walks alone

set_option linter.unusedVariables false

set_option linter.unusedSimpArgs false

def errW : Option Int → Value
  | none => .nilIface
  | some c => .iface 0 (.int .i64 c)

theorem errW_none : errW none = .nilIface := rfl

theorem errW_some (c : Int) : errW (some c) = .iface 0 (.int .i64 c) := rfl

theorem info9 : (Tryd.prog.info? 9).map (fun i => (i.zero, i.size, i.bytes)) = some (some (.string ⟨#[]⟩), 1, 16) := by kernel_rfl

theorem bneNil (l : List UInt8) : (l != []) = !l.isEmpty := by cases l <;> rfl

theorem u8w (x : Int) : IntKind.u8.wrap x = x % 256 := by simp [IntKind.wrap, IntKind.bits, IntKind.signed]

structure S26 where
  f0 : Int
  f1 : Int
  f2 : Int
  f3 : ByteArray
  f4 : ByteArray

def z26 : S26 := ⟨(0 : Int), (0 : Int), (0 : Int), (⟨#[]⟩ : ByteArray), (⟨#[]⟩ : ByteArray)⟩

def k26 : Kd S26 := Kd.iso (Kd.pair (Kd.int .u64) (Kd.pair (Kd.int .u64) (Kd.pair (Kd.int .u64) (Kd.pair Kd.string Kd.string)))) (fun x : S26 => (x.f0, x.f1, x.f2, x.f3, x.f4))

theorem k26_open {w : World} {x : S26} {cs : List Value} (h : k26.K w x cs) : cs = [.int .u64 x.f0, .int .u64 x.f1, .int .u64 x.f2, .string x.f3, .string x.f4] := by
  obtain ⟨_, _, rfl, rfl, ⟨_, _, rfl, rfl, ⟨_, _, rfl, rfl, ⟨_, _, rfl, rfl, rfl⟩⟩⟩⟩ := h
  exact rfl

theorem k26_mk (w : World) (x : S26)  : k26.K w x [.int .u64 x.f0, .int .u64 x.f1, .int .u64 x.f2, .string x.f3, .string x.f4] := ⟨[.int .u64 x.f0], [.int .u64 x.f1, .int .u64 x.f2, .string x.f3, .string x.f4], rfl, rfl, ⟨[.int .u64 x.f1], [.int .u64 x.f2, .string x.f3, .string x.f4], rfl, rfl, ⟨[.int .u64 x.f2], [.string x.f3, .string x.f4], rfl, rfl, ⟨[.string x.f3], [.string x.f4], rfl, rfl, rfl⟩⟩⟩⟩

theorem k26_mkM (w : World) (base : Nat) (ok : Nat → Prop) (x : S26)  : k26.M w base ok x [.int .u64 x.f0, .int .u64 x.f1, .int .u64 x.f2, .string x.f3, .string x.f4] := ⟨[.int .u64 x.f0], [.int .u64 x.f1, .int .u64 x.f2, .string x.f3, .string x.f4], rfl, rfl, ⟨[.int .u64 x.f1], [.int .u64 x.f2, .string x.f3, .string x.f4], rfl, rfl, ⟨[.int .u64 x.f2], [.string x.f3, .string x.f4], rfl, rfl, ⟨[.string x.f3], [.string x.f4], rfl, rfl, rfl⟩⟩⟩⟩

def rd_T26 (xs : List S26) (i : Int) : S26 := xs.getD i.toNat z26

theorem at_T26 {w : World} {A : Option Addr} {n : Nat} {xs : List S26} (h : Kd.C k26 w A n xs) (i : Int) (h0 : 0 ≤ i) (h1 : i < n) : ∃ ad , A = some ad ∧ w.cell? (ad.add (i.toNat * 5)) = some (.int .u64 (rd_T26 xs i).f0) ∧ w.cell? ⟨(ad.add (i.toNat * 5)).block, (ad.add (i.toNat * 5)).off + 1, none⟩ = some (.int .u64 (rd_T26 xs i).f1) ∧ w.cell? ⟨(ad.add (i.toNat * 5)).block, (ad.add (i.toNat * 5)).off + 2, none⟩ = some (.int .u64 (rd_T26 xs i).f2) ∧ w.cell? ⟨(ad.add (i.toNat * 5)).block, (ad.add (i.toNat * 5)).off + 3, none⟩ = some (.string (rd_T26 xs i).f3) ∧ w.cell? ⟨(ad.add (i.toNat * 5)).block, (ad.add (i.toNat * 5)).off + 4, none⟩ = some (.string (rd_T26 xs i).f4) := by
  obtain ⟨ad, c, e, _, hK, hc0⟩ := Kd.C_get h z26 i h0 h1
  have hc : ∀ j u, c[j]? = some u → w.cell? (ad.add (i.toNat * 5 + j)) = some u := hc0
  obtain rfl := k26_open hK
  exact ⟨ad, e, hc 0 _ rfl, by rw [← add_field _ _ 1 (by omega)]; exact hc 1 _ rfl, by rw [← add_field _ _ 2 (by omega)]; exact hc 2 _ rfl, by rw [← add_field _ _ 3 (by omega)]; exact hc 3 _ rfl, by rw [← add_field _ _ 4 (by omega)]; exact hc 4 _ rfl⟩

structure S24 where
  f0 : Int
  f1 : Int
  f2 : Int
  f3 : Int
  f4 : Int
  f5 : ByteArray

def z24 : S24 := ⟨(0 : Int), (0 : Int), (0 : Int), (0 : Int), (0 : Int), (⟨#[]⟩ : ByteArray)⟩

def k24 : Kd S24 := Kd.iso (Kd.pair (Kd.int .i64) (Kd.pair (Kd.int .i64) (Kd.pair (Kd.int .u64) (Kd.pair (Kd.int .u64) (Kd.pair (Kd.int .u64) Kd.string))))) (fun x : S24 => (x.f0, x.f1, x.f2, x.f3, x.f4, x.f5))

theorem k24_open {w : World} {x : S24} {cs : List Value} (h : k24.K w x cs) : cs = [.int .i64 x.f0, .int .i64 x.f1, .int .u64 x.f2, .int .u64 x.f3, .int .u64 x.f4, .string x.f5] := by
  obtain ⟨_, _, rfl, rfl, ⟨_, _, rfl, rfl, ⟨_, _, rfl, rfl, ⟨_, _, rfl, rfl, ⟨_, _, rfl, rfl, rfl⟩⟩⟩⟩⟩ := h
  exact rfl

theorem k24_mk (w : World) (x : S24)  : k24.K w x [.int .i64 x.f0, .int .i64 x.f1, .int .u64 x.f2, .int .u64 x.f3, .int .u64 x.f4, .string x.f5] := ⟨[.int .i64 x.f0], [.int .i64 x.f1, .int .u64 x.f2, .int .u64 x.f3, .int .u64 x.f4, .string x.f5], rfl, rfl, ⟨[.int .i64 x.f1], [.int .u64 x.f2, .int .u64 x.f3, .int .u64 x.f4, .string x.f5], rfl, rfl, ⟨[.int .u64 x.f2], [.int .u64 x.f3, .int .u64 x.f4, .string x.f5], rfl, rfl, ⟨[.int .u64 x.f3], [.int .u64 x.f4, .string x.f5], rfl, rfl, ⟨[.int .u64 x.f4], [.string x.f5], rfl, rfl, rfl⟩⟩⟩⟩⟩

theorem k24_mkM (w : World) (base : Nat) (ok : Nat → Prop) (x : S24)  : k24.M w base ok x [.int .i64 x.f0, .int .i64 x.f1, .int .u64 x.f2, .int .u64 x.f3, .int .u64 x.f4, .string x.f5] := ⟨[.int .i64 x.f0], [.int .i64 x.f1, .int .u64 x.f2, .int .u64 x.f3, .int .u64 x.f4, .string x.f5], rfl, rfl, ⟨[.int .i64 x.f1], [.int .u64 x.f2, .int .u64 x.f3, .int .u64 x.f4, .string x.f5], rfl, rfl, ⟨[.int .u64 x.f2], [.int .u64 x.f3, .int .u64 x.f4, .string x.f5], rfl, rfl, ⟨[.int .u64 x.f3], [.int .u64 x.f4, .string x.f5], rfl, rfl, ⟨[.int .u64 x.f4], [.string x.f5], rfl, rfl, rfl⟩⟩⟩⟩⟩

def rd_T24 (xs : List S24) (i : Int) : S24 := xs.getD i.toNat z24

theorem at_T24 {w : World} {A : Option Addr} {n : Nat} {xs : List S24} (h : Kd.C k24 w A n xs) (i : Int) (h0 : 0 ≤ i) (h1 : i < n) : ∃ ad , A = some ad ∧ w.cell? (ad.add (i.toNat * 6)) = some (.int .i64 (rd_T24 xs i).f0) ∧ w.cell? ⟨(ad.add (i.toNat * 6)).block, (ad.add (i.toNat * 6)).off + 1, none⟩ = some (.int .i64 (rd_T24 xs i).f1) ∧ w.cell? ⟨(ad.add (i.toNat * 6)).block, (ad.add (i.toNat * 6)).off + 2, none⟩ = some (.int .u64 (rd_T24 xs i).f2) ∧ w.cell? ⟨(ad.add (i.toNat * 6)).block, (ad.add (i.toNat * 6)).off + 3, none⟩ = some (.int .u64 (rd_T24 xs i).f3) ∧ w.cell? ⟨(ad.add (i.toNat * 6)).block, (ad.add (i.toNat * 6)).off + 4, none⟩ = some (.int .u64 (rd_T24 xs i).f4) ∧ w.cell? ⟨(ad.add (i.toNat * 6)).block, (ad.add (i.toNat * 6)).off + 5, none⟩ = some (.string (rd_T24 xs i).f5) := by
  obtain ⟨ad, c, e, _, hK, hc0⟩ := Kd.C_get h z24 i h0 h1
  have hc : ∀ j u, c[j]? = some u → w.cell? (ad.add (i.toNat * 6 + j)) = some u := hc0
  obtain rfl := k24_open hK
  exact ⟨ad, e, hc 0 _ rfl, by rw [← add_field _ _ 1 (by omega)]; exact hc 1 _ rfl, by rw [← add_field _ _ 2 (by omega)]; exact hc 2 _ rfl, by rw [← add_field _ _ 3 (by omega)]; exact hc 3 _ rfl, by rw [← add_field _ _ 4 (by omega)]; exact hc 4 _ rfl, by rw [← add_field _ _ 5 (by omega)]; exact hc 5 _ rfl⟩

def rd_L5 (xs : List (List S24)) (i : Int) : (List S24) := xs.getD i.toNat ([] : List S24)

theorem at_L5 {w : World} {A : Option Addr} {n : Nat} {xs : List (List S24)} (h : Kd.C (Kd.slice 24 k24) w A n xs) (i : Int) (h0 : 0 ≤ i) (h1 : i < n) : ∃ ad A0 c0, A = some ad ∧ w.cell? (ad.add i.toNat) = some (.slice A0 (rd_L5 xs i).length c0) ∧ (rd_L5 xs i).length ≤ c0 ∧ k24.C w A0 (rd_L5 xs i).length (rd_L5 xs i) := by
  obtain ⟨ad, c, e, _, hK, hc0⟩ := Kd.C_get h ([] : List S24) i h0 h1
  have hc : ∀ j u, c[j]? = some u → w.cell? (ad.add (i.toNat * 1 + j)) = some u := hc0
  obtain ⟨A0, c0, rfl, l0, g0⟩ := hK
  exact ⟨ad, A0, c0, e, by have hq := hc 0 _ rfl; rwa [Nat.mul_one, Nat.add_zero] at hq, l0, g0⟩

def rd_L6 (xs : List (List (List S24))) (i : Int) : (List (List S24)) := xs.getD i.toNat ([] : List (List S24))

theorem at_L6 {w : World} {A : Option Addr} {n : Nat} {xs : List (List (List S24))} (h : Kd.C (Kd.slice 42 (Kd.slice 24 k24)) w A n xs) (i : Int) (h0 : 0 ≤ i) (h1 : i < n) : ∃ ad A0 c0, A = some ad ∧ w.cell? (ad.add i.toNat) = some (.slice A0 (rd_L6 xs i).length c0) ∧ (rd_L6 xs i).length ≤ c0 ∧ (Kd.slice 24 k24).C w A0 (rd_L6 xs i).length (rd_L6 xs i) := by
  obtain ⟨ad, c, e, _, hK, hc0⟩ := Kd.C_get h ([] : List (List S24)) i h0 h1
  have hc : ∀ j u, c[j]? = some u → w.cell? (ad.add (i.toNat * 1 + j)) = some u := hc0
  obtain ⟨A0, c0, rfl, l0, g0⟩ := hK
  exact ⟨ad, A0, c0, e, by have hq := hc 0 _ rfl; rwa [Nat.mul_one, Nat.add_zero] at hq, l0, g0⟩

end Go.Proofs.YtllkoadcpobdaaaDoor.PX
namespace Go.Proofs.YtllkoadcpobdaaaDoor.PX

open Go.RowKit Go.Proofs.YtllkoadcpobdaaaDoorW.PrintWords Go.Proofs.YtllkoadcpobdaaaDoorW.PrintLast Go.Proofs.YtllkoadcpobdaaaDoorW.PrintMore

attribute [local go_sem] max2_int min2_int max_two min_two max_three min_three max_four min_four   -- for this text's walks alone

set_option linter.unusedVariables false

set_option linter.unusedSimpArgs false

def laws_zzFits13.f (a0_0 : Int) (a0_1 : Int) (a0_2 : Int) (a0_3 : Int) (a0_4 : Int) (a0_5 : ByteArray) : Option (Bool) := if (a0_5.size : Int) > 2147483647 then (some false) else (some true)

set_option maxHeartbeats 80000000 in
set_option maxRecDepth 100000 in
theorem laws_zzFits13.calls (a0_0 : Int) (a0_1 : Int) (a0_2 : Int) (a0_3 : Int) (a0_4 : Int) (a0_5 : ByteArray) (r : Bool) (w : World) (h : laws_zzFits13.f a0_0 a0_1 a0_2 a0_3 a0_4 a0_5 = some r) :
    Calls Tryd.prog 13 #[.agg #[.int .i64 a0_0, .int .i64 a0_1, .int .u64 a0_2, .int .u64 a0_3, .int .u64 a0_4, .string a0_5]] w fun e w' => e = .returned (.bool r) ∧ Below w.heap.size w w' := by
  have hu24 := Tryd.underlying24
  have HB := Aside0.mk (Below.refl w.heap.size w)
  have H : (if (a0_5.size : Int) > 2147483647 then (some false) else (some true)) = some r := h
  clear h
  by_cases c2 : (a0_5.size : Int) > 2147483647
  · rw [if_pos c2] at H
    have c2b0 : decide (2147483647 < (a0_5.size : Int)) = true := decide_eq_true c2
    have c2b1 : decide (2147483647 < a0_5.size) = true := decide_eq_true (by omega)
    clear c2
    obtain rfl := Option.some.inj H
    go_enter Tryd.func13, Tryd.ntmps13
    go_wp2_with (first | ((with_reducible refine gate_dst (N := 1) rfl ?_); refine box_event ?hg (N := 1) ?hd (cs := #[.int .i64 a0_0, .int .i64 a0_1, .int .u64 a0_2, .int .u64 a0_3, .int .u64 a0_4, .string a0_5]) (t := 24) ?hr ?_; (case hd => rfl); (case hg => rfl); (case hr => first | (go_simp; done) | (go_simp; rfl) | (go_simp; simp [u8w]; done)); intro gb101 hg w3 hbox hb; have n0_ := Aside0.mk (below_step (by repeat (first | (with_reducible first | exact HB.out | apply below_alloc | apply pw_below_drewN | apply below_drew1) | exact HB.out)) hb); have n1_ := Aside0.mk (hbox); have n2_ := Aside0.mk ((by rw [hg]; exact (below_size (by repeat (first | (with_reducible first | exact HB.out | apply below_alloc | apply pw_below_drewN | apply below_drew1) | exact HB.out))) : w.heap.size ≤ gb101)); have n3_ := Aside0.mk ((by rw [hg]; exact (below_size (by repeat (first | (with_reducible first | exact HB.out | apply below_alloc | apply pw_below_drewN | apply below_drew1) | exact HB.out))) : w.heap.size ≤ gb101)); clear HB; have HB := n0_; have BK101 := n1_; have GW101 := n2_; have GE101 := n3_; clear n0_ n1_ n2_ n3_; clear hb hbox hg; have hcz4_0 : w3.cell? ⟨gb101, 0, none⟩ = some (.int .i64 a0_0) := (blk_cell BK101.out 0).trans rfl; have hcz4_1 : w3.cell? ⟨gb101, 1, none⟩ = some (.int .i64 a0_1) := (blk_cell BK101.out 1).trans rfl; have hcz4_2 : w3.cell? ⟨gb101, 2, none⟩ = some (.int .u64 a0_2) := (blk_cell BK101.out 2).trans rfl; have hcz4_3 : w3.cell? ⟨gb101, 3, none⟩ = some (.int .u64 a0_3) := (blk_cell BK101.out 3).trans rfl; have hcz4_4 : w3.cell? ⟨gb101, 4, none⟩ = some (.int .u64 a0_4) := (blk_cell BK101.out 4).trans rfl; have hcz4_5 : w3.cell? ⟨gb101, 5, none⟩ = some (.string a0_5) := (blk_cell BK101.out 5).trans rfl; have hfz4_0 := blk_frozen BK101.out 0; have hfz4_1 := blk_frozen BK101.out 1; have hfz4_2 := blk_frozen BK101.out 2; have hfz4_3 := blk_frozen BK101.out 3; have hfz4_4 := blk_frozen BK101.out 4; have hfz4_5 := blk_frozen BK101.out 5))
    go_ret
    exact ⟨by first | rfl | (simp [errW_none, errW_some] <;> rfl) | (simp [*, errW_none, errW_some] <;> rfl) | (simp [bneNil]; done), by repeat (first | (with_reducible first | exact HB.out | apply below_alloc | apply pw_below_drewN | apply below_drew1 | refine below_set ?_ GE101.out) | exact HB.out)⟩
  · rw [if_neg c2] at H
    have c2b0 : decide (2147483647 < (a0_5.size : Int)) = false := decide_eq_false c2
    have c2b1 : decide (2147483647 < a0_5.size) = false := decide_eq_false (by omega)
    clear c2
    obtain rfl := Option.some.inj H
    go_enter Tryd.func13, Tryd.ntmps13
    go_wp2_with (first | ((with_reducible refine gate_dst (N := 1) rfl ?_); refine box_event ?hg (N := 1) ?hd (cs := #[.int .i64 a0_0, .int .i64 a0_1, .int .u64 a0_2, .int .u64 a0_3, .int .u64 a0_4, .string a0_5]) (t := 24) ?hr ?_; (case hd => rfl); (case hg => rfl); (case hr => first | (go_simp; done) | (go_simp; rfl) | (go_simp; simp [u8w]; done)); intro gb101 hg w5 hbox hb; have n0_ := Aside0.mk (below_step (by repeat (first | (with_reducible first | exact HB.out | apply below_alloc | apply pw_below_drewN | apply below_drew1) | exact HB.out)) hb); have n1_ := Aside0.mk (hbox); have n2_ := Aside0.mk ((by rw [hg]; exact (below_size (by repeat (first | (with_reducible first | exact HB.out | apply below_alloc | apply pw_below_drewN | apply below_drew1) | exact HB.out))) : w.heap.size ≤ gb101)); have n3_ := Aside0.mk ((by rw [hg]; exact (below_size (by repeat (first | (with_reducible first | exact HB.out | apply below_alloc | apply pw_below_drewN | apply below_drew1) | exact HB.out))) : w.heap.size ≤ gb101)); clear HB; have HB := n0_; have BK101 := n1_; have GW101 := n2_; have GE101 := n3_; clear n0_ n1_ n2_ n3_; clear hb hbox hg; have hcz6_0 : w5.cell? ⟨gb101, 0, none⟩ = some (.int .i64 a0_0) := (blk_cell BK101.out 0).trans rfl; have hcz6_1 : w5.cell? ⟨gb101, 1, none⟩ = some (.int .i64 a0_1) := (blk_cell BK101.out 1).trans rfl; have hcz6_2 : w5.cell? ⟨gb101, 2, none⟩ = some (.int .u64 a0_2) := (blk_cell BK101.out 2).trans rfl; have hcz6_3 : w5.cell? ⟨gb101, 3, none⟩ = some (.int .u64 a0_3) := (blk_cell BK101.out 3).trans rfl; have hcz6_4 : w5.cell? ⟨gb101, 4, none⟩ = some (.int .u64 a0_4) := (blk_cell BK101.out 4).trans rfl; have hcz6_5 : w5.cell? ⟨gb101, 5, none⟩ = some (.string a0_5) := (blk_cell BK101.out 5).trans rfl; have hfz6_0 := blk_frozen BK101.out 0; have hfz6_1 := blk_frozen BK101.out 1; have hfz6_2 := blk_frozen BK101.out 2; have hfz6_3 := blk_frozen BK101.out 3; have hfz6_4 := blk_frozen BK101.out 4; have hfz6_5 := blk_frozen BK101.out 5))
    go_ret
    exact ⟨by first | rfl | (simp [errW_none, errW_some] <;> rfl) | (simp [*, errW_none, errW_some] <;> rfl) | (simp [bneNil]; done), by repeat (first | (with_reducible first | exact HB.out | apply below_alloc | apply pw_below_drewN | apply below_drew1 | refine below_set ?_ GE101.out) | exact HB.out)⟩

def laws_zzFits14.f (a0_0 : Int) (a0_1 : Int) (a0_2 : Int) (a0_3 : ByteArray) (a0_4 : ByteArray) : Option (Bool) := if (a0_3.size : Int) > 2147483647 then (some false) else (if (a0_4.size : Int) > 2147483647 then (some false) else (some true))

set_option maxHeartbeats 80000000 in
set_option maxRecDepth 100000 in
theorem laws_zzFits14.calls (a0_0 : Int) (a0_1 : Int) (a0_2 : Int) (a0_3 : ByteArray) (a0_4 : ByteArray) (r : Bool) (w : World) (h : laws_zzFits14.f a0_0 a0_1 a0_2 a0_3 a0_4 = some r) :
  Calls Tryd.prog 14 #[.agg #[.int .u64 a0_0, .int .u64 a0_1, .int .u64 a0_2, .string a0_3, .string a0_4]] w fun e w' => e = .returned (.bool r) ∧ Below w.heap.size w w' := by
 have hu26 := Tryd.underlying26
 have HB := Aside0.mk (Below.refl w.heap.size w)
 have H : (if (a0_3.size : Int) > 2147483647 then (some false) else (if (a0_4.size : Int) > 2147483647 then (some false) else (some true))) = some r := h
 clear h
 by_cases c2 : (a0_3.size : Int) > 2147483647
 ·
  rw [if_pos c2] at H
  have c2b0 : decide (2147483647 < (a0_3.size : Int)) = true := decide_eq_true c2
  have c2b1 : decide (2147483647 < a0_3.size) = true := decide_eq_true (by omega)
  clear c2
  obtain rfl := Option.some.inj H
  go_enter Tryd.func14, Tryd.ntmps14
  go_wp2_with (first | ((with_reducible refine gate_dst (N := 1) rfl ?_); refine box_event ?hg (N := 1) ?hd (cs := #[.int .u64 a0_0, .int .u64 a0_1, .int .u64 a0_2, .string a0_3, .string a0_4]) (t := 26) ?hr ?_; (case hd => rfl); (case hg => rfl); (case hr => first | (go_simp; done) | (go_simp; rfl) | (go_simp; simp [u8w]; done)); intro gb102 hg w3 hbox hb; have n0_ := Aside0.mk (below_step (by repeat (first | (with_reducible first | exact HB.out | apply below_alloc | apply pw_below_drewN | apply below_drew1) | exact HB.out)) hb); have n1_ := Aside0.mk (hbox); have n2_ := Aside0.mk ((by rw [hg]; exact (below_size (by repeat (first | (with_reducible first | exact HB.out | apply below_alloc | apply pw_below_drewN | apply below_drew1) | exact HB.out))) : w.heap.size ≤ gb102)); have n3_ := Aside0.mk ((by rw [hg]; exact (below_size (by repeat (first | (with_reducible first | exact HB.out | apply below_alloc | apply pw_below_drewN | apply below_drew1) | exact HB.out))) : w.heap.size ≤ gb102)); clear HB; have HB := n0_; have BK102 := n1_; have GW102 := n2_; have GE102 := n3_; clear n0_ n1_ n2_ n3_; clear hb hbox hg; have hcz4_0 : w3.cell? ⟨gb102, 0, none⟩ = some (.int .u64 a0_0) := (blk_cell BK102.out 0).trans rfl; have hcz4_1 : w3.cell? ⟨gb102, 1, none⟩ = some (.int .u64 a0_1) := (blk_cell BK102.out 1).trans rfl; have hcz4_2 : w3.cell? ⟨gb102, 2, none⟩ = some (.int .u64 a0_2) := (blk_cell BK102.out 2).trans rfl; have hcz4_3 : w3.cell? ⟨gb102, 3, none⟩ = some (.string a0_3) := (blk_cell BK102.out 3).trans rfl; have hcz4_4 : w3.cell? ⟨gb102, 4, none⟩ = some (.string a0_4) := (blk_cell BK102.out 4).trans rfl; have hfz4_0 := blk_frozen BK102.out 0; have hfz4_1 := blk_frozen BK102.out 1; have hfz4_2 := blk_frozen BK102.out 2; have hfz4_3 := blk_frozen BK102.out 3; have hfz4_4 := blk_frozen BK102.out 4))
  go_ret
  exact ⟨by first | rfl | (simp [errW_none, errW_some] <;> rfl) | (simp [*, errW_none, errW_some] <;> rfl) | (simp [bneNil]; done), by repeat (first | (with_reducible first | exact HB.out | apply below_alloc | apply pw_below_drewN | apply below_drew1 | refine below_set ?_ GE102.out) | exact HB.out)⟩
 ·
  rw [if_neg c2] at H
  have c2b0 : decide (2147483647 < (a0_3.size : Int)) = false := decide_eq_false c2
  have c2b1 : decide (2147483647 < a0_3.size) = false := decide_eq_false (by omega)
  clear c2
  by_cases c5 : (a0_4.size : Int) > 2147483647
  ·
   rw [if_pos c5] at H
   have c5b0 : decide (2147483647 < (a0_4.size : Int)) = true := decide_eq_true c5
   have c5b1 : decide (2147483647 < a0_4.size) = true := decide_eq_true (by omega)
   clear c5
   obtain rfl := Option.some.inj H
   go_enter Tryd.func14, Tryd.ntmps14
   go_wp2_with (first | ((with_reducible refine gate_dst (N := 1) rfl ?_); refine box_event ?hg (N := 1) ?hd (cs := #[.int .u64 a0_0, .int .u64 a0_1, .int .u64 a0_2, .string a0_3, .string a0_4]) (t := 26) ?hr ?_; (case hd => rfl); (case hg => rfl); (case hr => first | (go_simp; done) | (go_simp; rfl) | (go_simp; simp [u8w]; done)); intro gb102 hg w6 hbox hb; have n0_ := Aside0.mk (below_step (by repeat (first | (with_reducible first | exact HB.out | apply below_alloc | apply pw_below_drewN | apply below_drew1) | exact HB.out)) hb); have n1_ := Aside0.mk (hbox); have n2_ := Aside0.mk ((by rw [hg]; exact (below_size (by repeat (first | (with_reducible first | exact HB.out | apply below_alloc | apply pw_below_drewN | apply below_drew1) | exact HB.out))) : w.heap.size ≤ gb102)); have n3_ := Aside0.mk ((by rw [hg]; exact (below_size (by repeat (first | (with_reducible first | exact HB.out | apply below_alloc | apply pw_below_drewN | apply below_drew1) | exact HB.out))) : w.heap.size ≤ gb102)); clear HB; have HB := n0_; have BK102 := n1_; have GW102 := n2_; have GE102 := n3_; clear n0_ n1_ n2_ n3_; clear hb hbox hg; have hcz7_0 : w6.cell? ⟨gb102, 0, none⟩ = some (.int .u64 a0_0) := (blk_cell BK102.out 0).trans rfl; have hcz7_1 : w6.cell? ⟨gb102, 1, none⟩ = some (.int .u64 a0_1) := (blk_cell BK102.out 1).trans rfl; have hcz7_2 : w6.cell? ⟨gb102, 2, none⟩ = some (.int .u64 a0_2) := (blk_cell BK102.out 2).trans rfl; have hcz7_3 : w6.cell? ⟨gb102, 3, none⟩ = some (.string a0_3) := (blk_cell BK102.out 3).trans rfl; have hcz7_4 : w6.cell? ⟨gb102, 4, none⟩ = some (.string a0_4) := (blk_cell BK102.out 4).trans rfl; have hfz7_0 := blk_frozen BK102.out 0; have hfz7_1 := blk_frozen BK102.out 1; have hfz7_2 := blk_frozen BK102.out 2; have hfz7_3 := blk_frozen BK102.out 3; have hfz7_4 := blk_frozen BK102.out 4))
   go_ret
   exact ⟨by first | rfl | (simp [errW_none, errW_some] <;> rfl) | (simp [*, errW_none, errW_some] <;> rfl) | (simp [bneNil]; done), by repeat (first | (with_reducible first | exact HB.out | apply below_alloc | apply pw_below_drewN | apply below_drew1 | refine below_set ?_ GE102.out) | exact HB.out)⟩
  ·
   rw [if_neg c5] at H
   have c5b0 : decide (2147483647 < (a0_4.size : Int)) = false := decide_eq_false c5
   have c5b1 : decide (2147483647 < a0_4.size) = false := decide_eq_false (by omega)
   clear c5
   obtain rfl := Option.some.inj H
   go_enter Tryd.func14, Tryd.ntmps14
   go_wp2_with (first | ((with_reducible refine gate_dst (N := 1) rfl ?_); refine box_event ?hg (N := 1) ?hd (cs := #[.int .u64 a0_0, .int .u64 a0_1, .int .u64 a0_2, .string a0_3, .string a0_4]) (t := 26) ?hr ?_; (case hd => rfl); (case hg => rfl); (case hr => first | (go_simp; done) | (go_simp; rfl) | (go_simp; simp [u8w]; done)); intro gb102 hg w8 hbox hb; have n0_ := Aside0.mk (below_step (by repeat (first | (with_reducible first | exact HB.out | apply below_alloc | apply pw_below_drewN | apply below_drew1) | exact HB.out)) hb); have n1_ := Aside0.mk (hbox); have n2_ := Aside0.mk ((by rw [hg]; exact (below_size (by repeat (first | (with_reducible first | exact HB.out | apply below_alloc | apply pw_below_drewN | apply below_drew1) | exact HB.out))) : w.heap.size ≤ gb102)); have n3_ := Aside0.mk ((by rw [hg]; exact (below_size (by repeat (first | (with_reducible first | exact HB.out | apply below_alloc | apply pw_below_drewN | apply below_drew1) | exact HB.out))) : w.heap.size ≤ gb102)); clear HB; have HB := n0_; have BK102 := n1_; have GW102 := n2_; have GE102 := n3_; clear n0_ n1_ n2_ n3_; clear hb hbox hg; have hcz9_0 : w8.cell? ⟨gb102, 0, none⟩ = some (.int .u64 a0_0) := (blk_cell BK102.out 0).trans rfl; have hcz9_1 : w8.cell? ⟨gb102, 1, none⟩ = some (.int .u64 a0_1) := (blk_cell BK102.out 1).trans rfl; have hcz9_2 : w8.cell? ⟨gb102, 2, none⟩ = some (.int .u64 a0_2) := (blk_cell BK102.out 2).trans rfl; have hcz9_3 : w8.cell? ⟨gb102, 3, none⟩ = some (.string a0_3) := (blk_cell BK102.out 3).trans rfl; have hcz9_4 : w8.cell? ⟨gb102, 4, none⟩ = some (.string a0_4) := (blk_cell BK102.out 4).trans rfl; have hfz9_0 := blk_frozen BK102.out 0; have hfz9_1 := blk_frozen BK102.out 1; have hfz9_2 := blk_frozen BK102.out 2; have hfz9_3 := blk_frozen BK102.out 3; have hfz9_4 := blk_frozen BK102.out 4))
   go_ret
   exact ⟨by first | rfl | (simp [errW_none, errW_some] <;> rfl) | (simp [*, errW_none, errW_some] <;> rfl) | (simp [bneNil]; done), by repeat (first | (with_reducible first | exact HB.out | apply below_alloc | apply pw_below_drewN | apply below_drew1 | refine below_set ?_ GE102.out) | exact HB.out)⟩

def spec_Identifiers.l0 : Nat → ByteArray → List ByteArray → Int → Int → Option (List ByteArray)
  | 0, _, _, _, _ => none
  | k + 1, x0, x3, x4, x5 => if x5 < (x0.size : Int) then (if 0 ≤ x5 then (if (bt x0 x5) = 46 then (if 0 ≤ x4 then (if x4 ≤ x5 then (if x5 ≤ (x0.size : Int) then (if x3.length < 8796093022208 then (spec_Identifiers.l0 k x0 (x3 ++ [x0.extract (x4 : Int).toNat (x5 : Int).toNat]) (wrap64 (x5 + 1)) (wrap64 (x5 + 1))) else (none)) else (none)) else (none)) else (none)) else (spec_Identifiers.l0 k x0 x3 x4 (wrap64 (x5 + 1)))) else (none)) else (if 0 ≤ x4 then (if x4 ≤ (x0.size : Int) then (if x3.length < 8796093022208 then (some (x3 ++ [x0.extract (x4 : Int).toNat x0.size])) else (none)) else (none)) else (none))

def spec_Identifiers.f (k : Nat) (a0 : ByteArray) : Option (List ByteArray) := spec_Identifiers.l0 k a0 ([] : List ByteArray) 0 0

theorem spec_Identifiers.mono_l : ∀ k, (∀ y0 y1 y2 y3, LeO (spec_Identifiers.l0 k y0 y1 y2 y3) (spec_Identifiers.l0 (k + 1) y0 y1 y2 y3))
  | 0 => fun _ _ _ _ r h => by simp [spec_Identifiers.l0] at h
  | k + 1 => by
    have ih0 := spec_Identifiers.mono_l k
    · intro y0 y1 y2 y3
      unfold spec_Identifiers.l0
      repeat' first
      | (with_reducible exact ih0 _ _ _ _)
      | (with_reducible exact LeO.refl _)
      | (with_reducible exact LeO.none _)
      | (with_reducible refine LeO.ite ?_ ?_)
      | (with_reducible refine LeO.bind ?_ (fun _ => ?_))
      | exact ih0 _ _ _ _
      | exact LeO.none _
      | refine LeO.ite ?_ ?_
      | refine LeO.bind ?_ (fun _ => ?_)

theorem spec_Identifiers.mono : ∀ a0 k, LeO (spec_Identifiers.f k a0) (spec_Identifiers.f (k + 1) a0) := by
  intro a0 k
  have ih0 := spec_Identifiers.mono_l k
  unfold spec_Identifiers.f
  repeat' first
      | (with_reducible exact ih0 _ _ _ _)
      | (with_reducible exact LeO.refl _)
      | (with_reducible exact LeO.none _)
      | (with_reducible refine LeO.ite ?_ ?_)
      | (with_reducible refine LeO.bind ?_ (fun _ => ?_))
      | exact ih0 _ _ _ _
      | exact LeO.none _
      | refine LeO.ite ?_ ?_
      | refine LeO.bind ?_ (fun _ => ?_)

set_option maxHeartbeats 80000000 in
set_option maxRecDepth 100000 in
theorem spec_Identifiers.calls (k : Nat) (a0 : ByteArray) (r : List ByteArray) (w : World) (h : spec_Identifiers.f k a0 = some r) :
  Calls Tryd.prog 77 #[.string a0] w fun e w' => ∃ v0_ : Value, e = .returned (v0_) ∧ Kd.R Kd.string 9 w' w.heap.size (fun _ => True) v0_ r ∧ Below w.heap.size w w' := by
 have HB := Aside0.mk (Below.refl w.heap.size w)
 have H : (spec_Identifiers.l0 k a0 ([] : List ByteArray) 0 0) = some r := h
 clear h
 have H' := Aside0.mk H
 clear H
 go_enter Tryd.func77, Tryd.ntmps77
 go_wp2
 go_loopg [3, 4, 5] k (fun kq v3 v4 v5 w' => ∃ (x3_1 : List ByteArray) (x4_1 : Int) (x5_1 : Int), v4 = .int .i64 x4_1 ∧ v5 = .int .i64 x5_1 ∧ Aside0 (spec_Identifiers.l0 kq a0 x3_1 x4_1 x5_1 = some r) ∧ Aside0 (kq ≤ k) ∧ Aside0 (Kd.R Kd.string 9 w' w.heap.size (fun _ => True) v3 x3_1) ∧ Aside0 (Below w.heap.size w w'))
 case atStart => exact ⟨(([] : List ByteArray)), (0), (0), (by first | rfl | (simp; done) | (simp [*]; done)), (by first | rfl | (simp; done) | (simp [*]; done)), H', ⟨Nat.le_refl _⟩, ⟨by first | exact Kd.R_nil _ _ _ _ _ | exact Kd.N_nil _ _ _ _ _ | exact Kd.V_nil _ _ _ _ _ | exact Kd.Q_nil _ _ _ _ _ | exact Kd.S_nil _ _ _ _ _⟩, ⟨by repeat (first | (with_reducible first | exact HB.out | apply below_alloc | apply pw_below_drewN | apply below_drew1) | exact HB.out)⟩⟩
 case round =>
  clear H'
  obtain ⟨x3_1, x4_1, x5_1, rfl, rfl, HA, HK1, HO_3, HB⟩ := hrel
  cases gk with
  | zero => exact absurd HA.out (by simp [spec_Identifiers.l0])
  | succ k1 =>
   have H := HA.out
   clear HA
   simp only [spec_Identifiers.l0] at H
   by_cases c2 : x5_1 < (a0.size : Int)
   ·
    rw [if_pos c2] at H
    have c2b0 : decide (x5_1 < (a0.size : Int)) = true := decide_eq_true c2
    clear c2
    by_cases c3 : 0 ≤ x5_1
    ·
     rw [if_pos c3] at H
     have c3b0 : decide (0 ≤ x5_1) = true := decide_eq_true c3
     clear c3
     by_cases c5 : (bt a0 x5_1) = 46
     ·
      rw [if_pos c5] at H
      have c5b0 : ((bt a0 x5_1) == 46) = true := beq_iff_eq.mpr c5
      have c5b1 : ((bt a0 x5_1) != 46) = false := bne_eq_false_iff_eq.mpr c5
      clear c5
      by_cases c6 : 0 ≤ x4_1
      ·
       rw [if_pos c6] at H
       have c6b0 := eq_true c6
       have c6b1 : decide (0 ≤ x4_1) = true := decide_eq_true c6
       clear c6
       by_cases c7 : x4_1 ≤ x5_1
       ·
        rw [if_pos c7] at H
        have c7b0 := eq_true c7
        have c7b1 : decide (x4_1 ≤ x5_1) = true := decide_eq_true c7
        clear c7
        by_cases c8 : x5_1 ≤ (a0.size : Int)
        ·
         rw [if_pos c8] at H
         have c8b0 := eq_true c8
         have c8b1 : decide (x5_1 ≤ (a0.size : Int)) = true := decide_eq_true c8
         clear c8
         by_cases c9 : x3_1.length < 8796093022208
         ·
          rw [if_pos c9] at H
          have LMc9 := Aside0.mk c9
          clear c9
          obtain ⟨y103, hy103⟩ : ∃ y_ : List ByteArray, y_ = (x3_1 ++ [a0.extract (x4_1 : Int).toNat (x5_1 : Int).toNat]) := ⟨_, rfl⟩
          replace H : (spec_Identifiers.l0 k1 a0 y103 (wrap64 (x5_1 + 1)) (wrap64 (x5_1 + 1))) = some r := by first | (rw [hy103]; with_reducible exact H) | (have H2_ := (Option.bind_some _ _).symm.trans H; rw [hy103]; with_reducible exact H2_) | (have H2_ := (Option.bind_some _ _).symm.trans H; with_reducible exact H2_) | with_reducible exact H | (rw [hy103]; exact H) | exact H
          have Ny103 := Aside0.mk hy103
          clear hy103
          have H' := Aside0.mk H
          clear H
          have p4 : 0 ≤ (x5_1 : Int) := of_decide_eq_true (by first | (with_reducible assumption) | assumption)
          have q4 : x5_1 < (a0.size : Int) := of_decide_eq_true (by first | (with_reducible assumption) | assumption)
          have hx4 := bt_at a0 x5_1
          replace p4 := eq_true p4
          replace q4 := eq_true q4
          go_wp2_with (first | ((with_reducible refine gate_builtin (b := .append) (xs := #[.tmp 16, .tmp 21]) rfl ?_); at_builtin; refine Kd.R_append Kd.string (w0 := w) w.heap.size rfl (.tmp 16) (.tmp 21) 92 9 (.string ⟨#[]⟩) 16 rfl Tryd.underlying92 info9 rfl (by decide) (by omega) u3 x3_1 (a0.extract (x4_1 : Int).toNat (x5_1 : Int).toNat) [.string (a0.extract (x4_1 : Int).toNat (x5_1 : Int).toNat)] (fun _ => True) (fun _ => False) rfl rfl ?aP (fun _ hk => hk.elim) ?aF ?aO ?aB ?aS ?aL ?_; (case aP => exact rfl); (case aB => exact (by repeat (first | (with_reducible first | exact HB.out | apply below_alloc | apply pw_below_drewN | apply below_drew1) | exact HB.out))); (case aF => exact (fun _ _ => trivial)); (case aO => exact (by (with_reducible repeat (first | apply Kd.R_alloc | apply Kd.R_drewN | apply Kd.R_drew)); exact HO_3.out)); (case aS => exact (below_size (by repeat (first | (with_reducible first | exact HB.out | apply below_alloc | apply pw_below_drewN | apply below_drew1) | exact HB.out)))); (case aL => have := LMc9.out; omega); intro v104 w10 ho hb hg hat; rw [← Ny103.out] at ho; have n0_ := Aside0.mk (hb); have n1_ := Aside0.mk (ho); clear HB; clear HO_3; have HB := n0_; have HO105 := n1_; clear n0_ n1_; clear ho hb hg hat))
          go_roundg k1
          case measure => have := HK1.out; omega
          case rel => exact ⟨(y103), (wrap64 (x5_1 + 1)), (wrap64 (x5_1 + 1)), (by first | rfl | (simp; done) | (simp [*]; done)), (by first | rfl | (simp; done) | (simp [*]; done)), H', ⟨by have := HK1.out; omega⟩, ⟨by (with_reducible repeat (first | apply Kd.R_alloc | apply Kd.R_drewN | apply Kd.R_drew)); exact HO105.out⟩, ⟨by repeat (first | (with_reducible first | exact HB.out | apply below_alloc | apply pw_below_drewN | apply below_drew1) | exact HB.out)⟩⟩
         ·
          rw [if_neg c9] at H
          exact absurd H (by simp)
        ·
         rw [if_neg c8] at H
         exact absurd H (by simp)
       ·
        rw [if_neg c7] at H
        exact absurd H (by simp)
      ·
       rw [if_neg c6] at H
       exact absurd H (by simp)
     ·
      rw [if_neg c5] at H
      have c5b0 : ((bt a0 x5_1) == 46) = false := beq_eq_false_iff_ne.mpr c5
      have c5b1 : ((bt a0 x5_1) != 46) = true := bne_iff_ne.mpr c5
      have H' := Aside0.mk H
      clear H
      have p4 : 0 ≤ (x5_1 : Int) := of_decide_eq_true (by first | (with_reducible assumption) | assumption)
      have q4 : x5_1 < (a0.size : Int) := of_decide_eq_true (by first | (with_reducible assumption) | assumption)
      have hx4 := bt_at a0 x5_1
      replace p4 := eq_true p4
      replace q4 := eq_true q4
      go_wp2
      go_roundg k1
      case measure => have := HK1.out; omega
      case rel => exact ⟨(x3_1), (x4_1), (wrap64 (x5_1 + 1)), (by first | rfl | (simp; done) | (simp [*]; done)), (by first | rfl | (simp; done) | (simp [*]; done)), H', ⟨by have := HK1.out; omega⟩, ⟨by (with_reducible repeat (first | apply Kd.R_alloc | apply Kd.R_drewN | apply Kd.R_drew)); exact HO_3.out⟩, ⟨by repeat (first | (with_reducible first | exact HB.out | apply below_alloc | apply pw_below_drewN | apply below_drew1) | exact HB.out)⟩⟩
    ·
     rw [if_neg c3] at H
     exact absurd H (by simp)
   ·
    rw [if_neg c2] at H
    have c2b0 : decide (x5_1 < (a0.size : Int)) = false := decide_eq_false c2
    clear c2
    by_cases c11 : 0 ≤ x4_1
    ·
     rw [if_pos c11] at H
     have c11b0 := eq_true c11
     have c11b1 : decide (0 ≤ x4_1) = true := decide_eq_true c11
     clear c11
     by_cases c12 : x4_1 ≤ (a0.size : Int)
     ·
      rw [if_pos c12] at H
      have c12b0 := eq_true c12
      have c12b1 : decide (x4_1 ≤ (a0.size : Int)) = true := decide_eq_true c12
      clear c12
      by_cases c13 : x3_1.length < 8796093022208
      ·
       rw [if_pos c13] at H
       have LMc13 := Aside0.mk c13
       clear c13
       obtain ⟨y106, hy106⟩ : ∃ y_ : List ByteArray, y_ = (x3_1 ++ [a0.extract (x4_1 : Int).toNat a0.size]) := ⟨_, rfl⟩
       replace H : (some y106) = some r := by first | (rw [hy106]; with_reducible exact H) | (have H2_ := (Option.bind_some _ _).symm.trans H; rw [hy106]; with_reducible exact H2_) | (have H2_ := (Option.bind_some _ _).symm.trans H; with_reducible exact H2_) | with_reducible exact H | (rw [hy106]; exact H) | exact H
       have Ny106 := Aside0.mk hy106
       clear hy106
       obtain rfl := Option.some.inj H
       go_wp2_with (first | ((with_reducible refine gate_builtin (b := .append) (xs := #[.tmp 25, .tmp 29]) rfl ?_); at_builtin; refine Kd.R_append Kd.string (w0 := w) w.heap.size rfl (.tmp 25) (.tmp 29) 92 9 (.string ⟨#[]⟩) 16 rfl Tryd.underlying92 info9 rfl (by decide) (by omega) u3 x3_1 (a0.extract (x4_1 : Int).toNat a0.size) [.string (a0.extract (x4_1 : Int).toNat a0.size)] (fun _ => True) (fun _ => False) rfl rfl ?aP (fun _ hk => hk.elim) ?aF ?aO ?aB ?aS ?aL ?_; (case aP => exact rfl); (case aB => exact (by repeat (first | (with_reducible first | exact HB.out | apply below_alloc | apply pw_below_drewN | apply below_drew1) | exact HB.out))); (case aF => exact (fun _ _ => trivial)); (case aO => exact (by (with_reducible repeat (first | apply Kd.R_alloc | apply Kd.R_drewN | apply Kd.R_drew)); exact HO_3.out)); (case aS => exact (below_size (by repeat (first | (with_reducible first | exact HB.out | apply below_alloc | apply pw_below_drewN | apply below_drew1) | exact HB.out)))); (case aL => have := LMc13.out; omega); intro v107 w14 ho hb hg hat; rw [← Ny106.out] at ho; have n0_ := Aside0.mk (hb); have n1_ := Aside0.mk (ho); clear HB; clear HO_3; have HB := n0_; have HO108 := n1_; clear n0_ n1_; clear ho hb hg hat))
       go_ret
       exact ⟨_, by first | rfl | (simp [errW_none, errW_some] <;> rfl) | (simp [*, errW_none, errW_some] <;> rfl), by (with_reducible repeat (first | apply Kd.R_alloc | apply Kd.R_drewN | apply Kd.R_drew)); exact HO108.out, by repeat (first | (with_reducible first | exact HB.out | apply below_alloc | apply pw_below_drewN | apply below_drew1) | exact HB.out)⟩
      ·
       rw [if_neg c13] at H
       exact absurd H (by simp)
     ·
      rw [if_neg c12] at H
      exact absurd H (by simp)
    ·
     rw [if_neg c11] at H
     exact absurd H (by simp)

def spec_isDigit.f (a0 : Int) : Option (Bool) := if 48 ≤ a0 then (some (decide (a0 ≤ 57))) else (some false)

set_option maxHeartbeats 80000000 in
set_option maxRecDepth 100000 in
theorem spec_isDigit.calls (a0 : Int) (r : Bool) (w : World) (h : spec_isDigit.f a0 = some r) :
    Calls Tryd.prog 100 #[.int .u8 a0] w fun e w' => e = .returned (.bool r) ∧ Drawn0 w w' := by
  have H : (if 48 ≤ a0 then (some (decide (a0 ≤ 57))) else (some false)) = some r := h
  clear h
  by_cases c2 : 48 ≤ a0
  · rw [if_pos c2] at H
    have c2b0 : decide (48 ≤ a0) = true := decide_eq_true c2
    clear c2
    obtain rfl := Option.some.inj H
    go_enter Tryd.func100, Tryd.ntmps100
    go_wp2
    go_ret
    exact ⟨by first | rfl | (simp; done) | (simp [*]; done) | (simp [bneNil]; done), by repeat (first | exact Drawn0.refl _ | apply Drawn0.step)⟩
  · rw [if_neg c2] at H
    have c2b0 : decide (48 ≤ a0) = false := decide_eq_false c2
    clear c2
    obtain rfl := Option.some.inj H
    go_enter Tryd.func100, Tryd.ntmps100
    go_wp2
    go_ret
    exact ⟨by first | rfl | (simp; done) | (simp [*]; done) | (simp [bneNil]; done), by repeat (first | exact Drawn0.refl _ | apply Drawn0.step)⟩

def spec_isIdent.f (a0 : Int) : Option (Bool) := (spec_isDigit.f a0).bind fun t109 => (if t109 = true then (some true) else (if 65 ≤ a0 then (if a0 ≤ 90 then (some true) else (if 97 ≤ a0 then (if a0 ≤ 122 then (some true) else (some (a0 == 45))) else (some (a0 == 45)))) else (if 97 ≤ a0 then (if a0 ≤ 122 then (some true) else (some (a0 == 45))) else (some (a0 == 45)))))

set_option maxHeartbeats 80000000 in
set_option maxRecDepth 100000 in
theorem spec_isIdent.calls (a0 : Int) (r : Bool) (w : World) (h : spec_isIdent.f a0 = some r) :
  Calls Tryd.prog 99 #[.int .u8 a0] w fun e w' => e = .returned (.bool r) ∧ Drawn0 w w' := by
 have H : ((spec_isDigit.f a0).bind fun t109 => (if t109 = true then (some true) else (if 65 ≤ a0 then (if a0 ≤ 90 then (some true) else (if 97 ≤ a0 then (if a0 ≤ 122 then (some true) else (some (a0 == 45))) else (some (a0 == 45)))) else (if 97 ≤ a0 then (if a0 ≤ 122 then (some true) else (some (a0 == 45))) else (some (a0 == 45)))))) = some r := h
 clear h
 replace H := Option.bind_eq_some_iff.mp H
 obtain ⟨t109, A20, H⟩ := H
 replace H : (if t109 = true then (some true) else (if 65 ≤ a0 then (if a0 ≤ 90 then (some true) else (if 97 ≤ a0 then (if a0 ≤ 122 then (some true) else (some (a0 == 45))) else (some (a0 == 45)))) else (if 97 ≤ a0 then (if a0 ≤ 122 then (some true) else (some (a0 == 45))) else (some (a0 == 45))))) = some r := H
 have A2 := Aside0.mk A20
 clear A20
 by_cases c3 : t109 = true
 ·
  subst c3
  have H1 : (some true) = some r := by rw [if_pos rfl] at H; exact H
  clear H
  have H := H1
  clear H1
  obtain rfl := Option.some.inj H
  go_enter Tryd.func99, Tryd.ntmps99
  go_wp2_with (first | ((with_reducible refine gate_callee (f := 100) rfl ?_); refine goesL_ (some 4) rfl rfl Tryd.func100 (by kernel_rfl) rfl #[.int .u8 a0] rfl (by (try simp only [List.map_toArray, List.map_cons, List.map_nil]); first | done | rfl | (simp only [List.length_drop, List.length_take]; rfl)) ?_; (with_reducible refine (spec_isDigit.calls a0 true _ A2.out).mono ?_); rintro e w' ⟨rfl, ⟨nd, rfl⟩⟩; refine ⟨_, rfl, ?_⟩))
  go_ret
  exact ⟨by first | rfl | (simp; done) | (simp [*]; done) | (simp [bneNil]; done), by repeat (first | exact Drawn0.refl _ | apply Drawn0.step)⟩
 ·
  replace c3 := Bool.eq_false_iff.mpr c3
  subst c3
  have H1 : (if 65 ≤ a0 then (if a0 ≤ 90 then (some true) else (if 97 ≤ a0 then (if a0 ≤ 122 then (some true) else (some (a0 == 45))) else (some (a0 == 45)))) else (if 97 ≤ a0 then (if a0 ≤ 122 then (some true) else (some (a0 == 45))) else (some (a0 == 45)))) = some r := by rw [if_neg (show ¬ (false = true) by decide)] at H; exact H
  clear H
  have H := H1
  clear H1
  by_cases c4 : 65 ≤ a0
  ·
   rw [if_pos c4] at H
   have c4b0 : decide (65 ≤ a0) = true := decide_eq_true c4
   clear c4
   by_cases c5 : a0 ≤ 90
   ·
    rw [if_pos c5] at H
    have c5b0 : decide (a0 ≤ 90) = true := decide_eq_true c5
    clear c5
    obtain rfl := Option.some.inj H
    go_enter Tryd.func99, Tryd.ntmps99
    go_wp2_with (first | ((with_reducible refine gate_callee (f := 100) rfl ?_); refine goesL_ (some 4) rfl rfl Tryd.func100 (by kernel_rfl) rfl #[.int .u8 a0] rfl (by (try simp only [List.map_toArray, List.map_cons, List.map_nil]); first | done | rfl | (simp only [List.length_drop, List.length_take]; rfl)) ?_; (with_reducible refine (spec_isDigit.calls a0 false _ A2.out).mono ?_); rintro e w' ⟨rfl, ⟨nd, rfl⟩⟩; refine ⟨_, rfl, ?_⟩))
    go_ret
    exact ⟨by first | rfl | (simp; done) | (simp [*]; done) | (simp [bneNil]; done), by repeat (first | exact Drawn0.refl _ | apply Drawn0.step)⟩
   ·
    rw [if_neg c5] at H
    have c5b0 : decide (a0 ≤ 90) = false := decide_eq_false c5
    clear c5
    by_cases c6 : 97 ≤ a0
    ·
     rw [if_pos c6] at H
     have c6b0 : decide (97 ≤ a0) = true := decide_eq_true c6
     clear c6
     by_cases c7 : a0 ≤ 122
     ·
      rw [if_pos c7] at H
      have c7b0 : decide (a0 ≤ 122) = true := decide_eq_true c7
      clear c7
      obtain rfl := Option.some.inj H
      go_enter Tryd.func99, Tryd.ntmps99
      go_wp2_with (first | ((with_reducible refine gate_callee (f := 100) rfl ?_); refine goesL_ (some 4) rfl rfl Tryd.func100 (by kernel_rfl) rfl #[.int .u8 a0] rfl (by (try simp only [List.map_toArray, List.map_cons, List.map_nil]); first | done | rfl | (simp only [List.length_drop, List.length_take]; rfl)) ?_; (with_reducible refine (spec_isDigit.calls a0 false _ A2.out).mono ?_); rintro e w' ⟨rfl, ⟨nd, rfl⟩⟩; refine ⟨_, rfl, ?_⟩))
      go_ret
      exact ⟨by first | rfl | (simp; done) | (simp [*]; done) | (simp [bneNil]; done), by repeat (first | exact Drawn0.refl _ | apply Drawn0.step)⟩
     ·
      rw [if_neg c7] at H
      have c7b0 : decide (a0 ≤ 122) = false := decide_eq_false c7
      clear c7
      obtain rfl := Option.some.inj H
      go_enter Tryd.func99, Tryd.ntmps99
      go_wp2_with (first | ((with_reducible refine gate_callee (f := 100) rfl ?_); refine goesL_ (some 4) rfl rfl Tryd.func100 (by kernel_rfl) rfl #[.int .u8 a0] rfl (by (try simp only [List.map_toArray, List.map_cons, List.map_nil]); first | done | rfl | (simp only [List.length_drop, List.length_take]; rfl)) ?_; (with_reducible refine (spec_isDigit.calls a0 false _ A2.out).mono ?_); rintro e w' ⟨rfl, ⟨nd, rfl⟩⟩; refine ⟨_, rfl, ?_⟩))
      go_ret
      exact ⟨by first | rfl | (simp; done) | (simp [*]; done) | (simp [bneNil]; done), by repeat (first | exact Drawn0.refl _ | apply Drawn0.step)⟩
    ·
     rw [if_neg c6] at H
     have c6b0 : decide (97 ≤ a0) = false := decide_eq_false c6
     clear c6
     obtain rfl := Option.some.inj H
     go_enter Tryd.func99, Tryd.ntmps99
     go_wp2_with (first | ((with_reducible refine gate_callee (f := 100) rfl ?_); refine goesL_ (some 4) rfl rfl Tryd.func100 (by kernel_rfl) rfl #[.int .u8 a0] rfl (by (try simp only [List.map_toArray, List.map_cons, List.map_nil]); first | done | rfl | (simp only [List.length_drop, List.length_take]; rfl)) ?_; (with_reducible refine (spec_isDigit.calls a0 false _ A2.out).mono ?_); rintro e w' ⟨rfl, ⟨nd, rfl⟩⟩; refine ⟨_, rfl, ?_⟩))
     go_ret
     exact ⟨by first | rfl | (simp; done) | (simp [*]; done) | (simp [bneNil]; done), by repeat (first | exact Drawn0.refl _ | apply Drawn0.step)⟩
  ·
   rw [if_neg c4] at H
   have c4b0 : decide (65 ≤ a0) = false := decide_eq_false c4
   clear c4
   by_cases c8 : 97 ≤ a0
   ·
    rw [if_pos c8] at H
    have c8b0 : decide (97 ≤ a0) = true := decide_eq_true c8
    clear c8
    by_cases c9 : a0 ≤ 122
    ·
     rw [if_pos c9] at H
     have c9b0 : decide (a0 ≤ 122) = true := decide_eq_true c9
     clear c9
     obtain rfl := Option.some.inj H
     go_enter Tryd.func99, Tryd.ntmps99
     go_wp2_with (first | ((with_reducible refine gate_callee (f := 100) rfl ?_); refine goesL_ (some 4) rfl rfl Tryd.func100 (by kernel_rfl) rfl #[.int .u8 a0] rfl (by (try simp only [List.map_toArray, List.map_cons, List.map_nil]); first | done | rfl | (simp only [List.length_drop, List.length_take]; rfl)) ?_; (with_reducible refine (spec_isDigit.calls a0 false _ A2.out).mono ?_); rintro e w' ⟨rfl, ⟨nd, rfl⟩⟩; refine ⟨_, rfl, ?_⟩))
     go_ret
     exact ⟨by first | rfl | (simp; done) | (simp [*]; done) | (simp [bneNil]; done), by repeat (first | exact Drawn0.refl _ | apply Drawn0.step)⟩
    ·
     rw [if_neg c9] at H
     have c9b0 : decide (a0 ≤ 122) = false := decide_eq_false c9
     clear c9
     obtain rfl := Option.some.inj H
     go_enter Tryd.func99, Tryd.ntmps99
     go_wp2_with (first | ((with_reducible refine gate_callee (f := 100) rfl ?_); refine goesL_ (some 4) rfl rfl Tryd.func100 (by kernel_rfl) rfl #[.int .u8 a0] rfl (by (try simp only [List.map_toArray, List.map_cons, List.map_nil]); first | done | rfl | (simp only [List.length_drop, List.length_take]; rfl)) ?_; (with_reducible refine (spec_isDigit.calls a0 false _ A2.out).mono ?_); rintro e w' ⟨rfl, ⟨nd, rfl⟩⟩; refine ⟨_, rfl, ?_⟩))
     go_ret
     exact ⟨by first | rfl | (simp; done) | (simp [*]; done) | (simp [bneNil]; done), by repeat (first | exact Drawn0.refl _ | apply Drawn0.step)⟩
   ·
    rw [if_neg c8] at H
    have c8b0 : decide (97 ≤ a0) = false := decide_eq_false c8
    clear c8
    obtain rfl := Option.some.inj H
    go_enter Tryd.func99, Tryd.ntmps99
    go_wp2_with (first | ((with_reducible refine gate_callee (f := 100) rfl ?_); refine goesL_ (some 4) rfl rfl Tryd.func100 (by kernel_rfl) rfl #[.int .u8 a0] rfl (by (try simp only [List.map_toArray, List.map_cons, List.map_nil]); first | done | rfl | (simp only [List.length_drop, List.length_take]; rfl)) ?_; (with_reducible refine (spec_isDigit.calls a0 false _ A2.out).mono ?_); rintro e w' ⟨rfl, ⟨nd, rfl⟩⟩; refine ⟨_, rfl, ?_⟩))
    go_ret
    exact ⟨by first | rfl | (simp; done) | (simp [*]; done) | (simp [bneNil]; done), by repeat (first | exact Drawn0.refl _ | apply Drawn0.step)⟩

def spec_ValidIdent.l0 : Nat → ByteArray → Int → Option (Bool)
  | 0, _, _ => none
  | k + 1, x0, x3 => if x3 < (x0.size : Int) then (if 0 ≤ x3 then ((spec_isIdent.f (bt x0 x3)).bind fun t110 => (if t110 = true then (spec_ValidIdent.l0 k x0 (wrap64 (x3 + 1))) else (some false))) else (none)) else (some (x0.toList != ([] : List UInt8)))

def spec_ValidIdent.f (k : Nat) (a0 : ByteArray) : Option (Bool) := spec_ValidIdent.l0 k a0 0

theorem spec_ValidIdent.mono_l : ∀ k, (∀ y0 y1, LeO (spec_ValidIdent.l0 k y0 y1) (spec_ValidIdent.l0 (k + 1) y0 y1))
  | 0 => fun _ _ r h => by simp [spec_ValidIdent.l0] at h
  | k + 1 => by
    have ih0 := spec_ValidIdent.mono_l k
    · intro y0 y1
      unfold spec_ValidIdent.l0
      repeat' first
      | (with_reducible exact ih0 _ _)
      | (with_reducible exact LeO.refl _)
      | (with_reducible exact LeO.none _)
      | (with_reducible refine LeO.ite ?_ ?_)
      | (with_reducible refine LeO.bind ?_ (fun _ => ?_))
      | exact ih0 _ _
      | exact LeO.none _
      | refine LeO.ite ?_ ?_
      | refine LeO.bind ?_ (fun _ => ?_)

theorem spec_ValidIdent.mono : ∀ a0 k, LeO (spec_ValidIdent.f k a0) (spec_ValidIdent.f (k + 1) a0) := by
  intro a0 k
  have ih0 := spec_ValidIdent.mono_l k
  unfold spec_ValidIdent.f
  repeat' first
      | (with_reducible exact ih0 _ _)
      | (with_reducible exact LeO.refl _)
      | (with_reducible exact LeO.none _)
      | (with_reducible refine LeO.ite ?_ ?_)
      | (with_reducible refine LeO.bind ?_ (fun _ => ?_))
      | exact ih0 _ _
      | exact LeO.none _
      | refine LeO.ite ?_ ?_
      | refine LeO.bind ?_ (fun _ => ?_)

set_option maxHeartbeats 80000000 in
set_option maxRecDepth 100000 in
theorem spec_ValidIdent.calls (k : Nat) (a0 : ByteArray) (r : Bool) (w : World) (h : spec_ValidIdent.f k a0 = some r) :
    Calls Tryd.prog 78 #[.string a0] w fun e w' => e = .returned (.bool r) ∧ Drawn0 w w' := by
  have H : (spec_ValidIdent.l0 k a0 0) = some r := h
  clear h
  have H' := Aside0.mk H
  clear H
  go_enter Tryd.func78, Tryd.ntmps78
  go_wp2
  go_loopg [3] k (fun kq v3 w' => ∃ (x3_1 : Int), v3 = .int .i64 x3_1 ∧ Aside0 (spec_ValidIdent.l0 kq a0 x3_1 = some r) ∧ Aside0 (kq ≤ k) ∧ Drawn0 w w')
  case atStart => exact ⟨(0), (by first | rfl | (simp; done) | (simp [*]; done)), H', ⟨Nat.le_refl _⟩, by repeat (first | exact Drawn0.refl _ | apply Drawn0.step)⟩
  case round =>
    clear H'
    obtain ⟨x3_1, rfl, HA, HK1, ⟨m1, rfl⟩⟩ := hrel
    cases gk with
    | zero => exact absurd HA.out (by simp [spec_ValidIdent.l0])
    | succ k1 =>
      have H := HA.out
      clear HA
      simp only [spec_ValidIdent.l0] at H
      by_cases c2 : x3_1 < (a0.size : Int)
      · rw [if_pos c2] at H
        have c2b0 : decide (x3_1 < (a0.size : Int)) = true := decide_eq_true c2
        clear c2
        by_cases c3 : 0 ≤ x3_1
        · rw [if_pos c3] at H
          have c3b0 : decide (0 ≤ x3_1) = true := decide_eq_true c3
          clear c3
          replace H := Option.bind_eq_some_iff.mp H
          obtain ⟨t110, A50, H⟩ := H
          replace H : (if t110 = true then (spec_ValidIdent.l0 k1 a0 (wrap64 (x3_1 + 1))) else (some false)) = some r := H
          have A5 := Aside0.mk A50
          clear A50
          by_cases c6 : t110 = true
          · subst c6
            have H1 : (spec_ValidIdent.l0 k1 a0 (wrap64 (x3_1 + 1))) = some r := by rw [if_pos rfl] at H; exact H
            clear H
            have H := H1
            clear H1
            have H' := Aside0.mk H
            clear H
            have p4 : 0 ≤ (x3_1 : Int) := of_decide_eq_true (by first | (with_reducible assumption) | assumption)
            have q4 : x3_1 < (a0.size : Int) := of_decide_eq_true (by first | (with_reducible assumption) | assumption)
            have hx4 := bt_at a0 x3_1
            replace p4 := eq_true p4
            replace q4 := eq_true q4
            go_wp2_with (first | ((with_reducible refine gate_callee (f := 99) rfl ?_); refine goesL_ (some 13) rfl rfl Tryd.func99 (by kernel_rfl) rfl #[.int .u8 (bt a0 x3_1)] rfl (by (try simp only [List.map_toArray, List.map_cons, List.map_nil]); first | done | rfl | (simp only [List.length_drop, List.length_take]; rfl)) ?_; (with_reducible refine (spec_isIdent.calls (bt a0 x3_1) true _ A5.out).mono ?_); rintro e w' ⟨rfl, ⟨nd, rfl⟩⟩; refine ⟨_, rfl, ?_⟩))
            go_roundg k1
            case measure => have := HK1.out; omega
            case rel => exact ⟨(wrap64 (x3_1 + 1)), (by first | rfl | (simp; done) | (simp [*]; done)), H', ⟨by have := HK1.out; omega⟩, by repeat (first | exact Drawn0.refl _ | apply Drawn0.step)⟩
          · replace c6 := Bool.eq_false_iff.mpr c6
            subst c6
            have H1 : (some false) = some r := by rw [if_neg (show ¬ (false = true) by decide)] at H; exact H
            clear H
            have H := H1
            clear H1
            obtain rfl := Option.some.inj H
            have p4 : 0 ≤ (x3_1 : Int) := of_decide_eq_true (by first | (with_reducible assumption) | assumption)
            have q4 : x3_1 < (a0.size : Int) := of_decide_eq_true (by first | (with_reducible assumption) | assumption)
            have hx4 := bt_at a0 x3_1
            replace p4 := eq_true p4
            replace q4 := eq_true q4
            go_wp2_with (first | ((with_reducible refine gate_callee (f := 99) rfl ?_); refine goesL_ (some 13) rfl rfl Tryd.func99 (by kernel_rfl) rfl #[.int .u8 (bt a0 x3_1)] rfl (by (try simp only [List.map_toArray, List.map_cons, List.map_nil]); first | done | rfl | (simp only [List.length_drop, List.length_take]; rfl)) ?_; (with_reducible refine (spec_isIdent.calls (bt a0 x3_1) false _ A5.out).mono ?_); rintro e w' ⟨rfl, ⟨nd, rfl⟩⟩; refine ⟨_, rfl, ?_⟩))
            go_ret
            exact ⟨by first | rfl | (simp; done) | (simp [*]; done) | (simp [bneNil]; done), by repeat (first | exact Drawn0.refl _ | apply Drawn0.step)⟩
        · rw [if_neg c3] at H
          exact absurd H (by simp)
      · rw [if_neg c2] at H
        have c2b0 : decide (x3_1 < (a0.size : Int)) = false := decide_eq_false c2
        clear c2
        obtain rfl := Option.some.inj H
        go_wp2
        go_ret
        exact ⟨by first | rfl | (simp; done) | (simp [*]; done) | (simp [bneNil]; done), by repeat (first | exact Drawn0.refl _ | apply Drawn0.step)⟩

def spec_Digits.l0 : Nat → ByteArray → Int → Option (Bool)
  | 0, _, _ => none
  | k + 1, x0, x3 => if x3 < (x0.size : Int) then (if 0 ≤ x3 then ((spec_isDigit.f (bt x0 x3)).bind fun t111 => (if t111 = true then (spec_Digits.l0 k x0 (wrap64 (x3 + 1))) else (some false))) else (none)) else (some (x0.toList != ([] : List UInt8)))

def spec_Digits.f (k : Nat) (a0 : ByteArray) : Option (Bool) := spec_Digits.l0 k a0 0

theorem spec_Digits.mono_l : ∀ k, (∀ y0 y1, LeO (spec_Digits.l0 k y0 y1) (spec_Digits.l0 (k + 1) y0 y1))
  | 0 => fun _ _ r h => by simp [spec_Digits.l0] at h
  | k + 1 => by
    have ih0 := spec_Digits.mono_l k
    · intro y0 y1
      unfold spec_Digits.l0
      repeat' first
      | (with_reducible exact ih0 _ _)
      | (with_reducible exact LeO.refl _)
      | (with_reducible exact LeO.none _)
      | (with_reducible refine LeO.ite ?_ ?_)
      | (with_reducible refine LeO.bind ?_ (fun _ => ?_))
      | exact ih0 _ _
      | exact LeO.none _
      | refine LeO.ite ?_ ?_
      | refine LeO.bind ?_ (fun _ => ?_)

theorem spec_Digits.mono : ∀ a0 k, LeO (spec_Digits.f k a0) (spec_Digits.f (k + 1) a0) := by
  intro a0 k
  have ih0 := spec_Digits.mono_l k
  unfold spec_Digits.f
  repeat' first
      | (with_reducible exact ih0 _ _)
      | (with_reducible exact LeO.refl _)
      | (with_reducible exact LeO.none _)
      | (with_reducible refine LeO.ite ?_ ?_)
      | (with_reducible refine LeO.bind ?_ (fun _ => ?_))
      | exact ih0 _ _
      | exact LeO.none _
      | refine LeO.ite ?_ ?_
      | refine LeO.bind ?_ (fun _ => ?_)

set_option maxHeartbeats 80000000 in
set_option maxRecDepth 100000 in
theorem spec_Digits.calls (k : Nat) (a0 : ByteArray) (r : Bool) (w : World) (h : spec_Digits.f k a0 = some r) :
    Calls Tryd.prog 79 #[.string a0] w fun e w' => e = .returned (.bool r) ∧ Drawn0 w w' := by
  have H : (spec_Digits.l0 k a0 0) = some r := h
  clear h
  have H' := Aside0.mk H
  clear H
  go_enter Tryd.func79, Tryd.ntmps79
  go_wp2
  go_loopg [3] k (fun kq v3 w' => ∃ (x3_1 : Int), v3 = .int .i64 x3_1 ∧ Aside0 (spec_Digits.l0 kq a0 x3_1 = some r) ∧ Aside0 (kq ≤ k) ∧ Drawn0 w w')
  case atStart => exact ⟨(0), (by first | rfl | (simp; done) | (simp [*]; done)), H', ⟨Nat.le_refl _⟩, by repeat (first | exact Drawn0.refl _ | apply Drawn0.step)⟩
  case round =>
    clear H'
    obtain ⟨x3_1, rfl, HA, HK1, ⟨m1, rfl⟩⟩ := hrel
    cases gk with
    | zero => exact absurd HA.out (by simp [spec_Digits.l0])
    | succ k1 =>
      have H := HA.out
      clear HA
      simp only [spec_Digits.l0] at H
      by_cases c2 : x3_1 < (a0.size : Int)
      · rw [if_pos c2] at H
        have c2b0 : decide (x3_1 < (a0.size : Int)) = true := decide_eq_true c2
        clear c2
        by_cases c3 : 0 ≤ x3_1
        · rw [if_pos c3] at H
          have c3b0 : decide (0 ≤ x3_1) = true := decide_eq_true c3
          clear c3
          replace H := Option.bind_eq_some_iff.mp H
          obtain ⟨t111, A50, H⟩ := H
          replace H : (if t111 = true then (spec_Digits.l0 k1 a0 (wrap64 (x3_1 + 1))) else (some false)) = some r := H
          have A5 := Aside0.mk A50
          clear A50
          by_cases c6 : t111 = true
          · subst c6
            have H1 : (spec_Digits.l0 k1 a0 (wrap64 (x3_1 + 1))) = some r := by rw [if_pos rfl] at H; exact H
            clear H
            have H := H1
            clear H1
            have H' := Aside0.mk H
            clear H
            have p4 : 0 ≤ (x3_1 : Int) := of_decide_eq_true (by first | (with_reducible assumption) | assumption)
            have q4 : x3_1 < (a0.size : Int) := of_decide_eq_true (by first | (with_reducible assumption) | assumption)
            have hx4 := bt_at a0 x3_1
            replace p4 := eq_true p4
            replace q4 := eq_true q4
            go_wp2_with (first | ((with_reducible refine gate_callee (f := 100) rfl ?_); refine goesL_ (some 13) rfl rfl Tryd.func100 (by kernel_rfl) rfl #[.int .u8 (bt a0 x3_1)] rfl (by (try simp only [List.map_toArray, List.map_cons, List.map_nil]); first | done | rfl | (simp only [List.length_drop, List.length_take]; rfl)) ?_; (with_reducible refine (spec_isDigit.calls (bt a0 x3_1) true _ A5.out).mono ?_); rintro e w' ⟨rfl, ⟨nd, rfl⟩⟩; refine ⟨_, rfl, ?_⟩))
            go_roundg k1
            case measure => have := HK1.out; omega
            case rel => exact ⟨(wrap64 (x3_1 + 1)), (by first | rfl | (simp; done) | (simp [*]; done)), H', ⟨by have := HK1.out; omega⟩, by repeat (first | exact Drawn0.refl _ | apply Drawn0.step)⟩
          · replace c6 := Bool.eq_false_iff.mpr c6
            subst c6
            have H1 : (some false) = some r := by rw [if_neg (show ¬ (false = true) by decide)] at H; exact H
            clear H
            have H := H1
            clear H1
            obtain rfl := Option.some.inj H
            have p4 : 0 ≤ (x3_1 : Int) := of_decide_eq_true (by first | (with_reducible assumption) | assumption)
            have q4 : x3_1 < (a0.size : Int) := of_decide_eq_true (by first | (with_reducible assumption) | assumption)
            have hx4 := bt_at a0 x3_1
            replace p4 := eq_true p4
            replace q4 := eq_true q4
            go_wp2_with (first | ((with_reducible refine gate_callee (f := 100) rfl ?_); refine goesL_ (some 13) rfl rfl Tryd.func100 (by kernel_rfl) rfl #[.int .u8 (bt a0 x3_1)] rfl (by (try simp only [List.map_toArray, List.map_cons, List.map_nil]); first | done | rfl | (simp only [List.length_drop, List.length_take]; rfl)) ?_; (with_reducible refine (spec_isDigit.calls (bt a0 x3_1) false _ A5.out).mono ?_); rintro e w' ⟨rfl, ⟨nd, rfl⟩⟩; refine ⟨_, rfl, ?_⟩))
            go_ret
            exact ⟨by first | rfl | (simp; done) | (simp [*]; done) | (simp [bneNil]; done), by repeat (first | exact Drawn0.refl _ | apply Drawn0.step)⟩
        · rw [if_neg c3] at H
          exact absurd H (by simp)
      · rw [if_neg c2] at H
        have c2b0 : decide (x3_1 < (a0.size : Int)) = false := decide_eq_false c2
        clear c2
        obtain rfl := Option.some.inj H
        go_wp2
        go_ret
        exact ⟨by first | rfl | (simp; done) | (simp [*]; done) | (simp [bneNil]; done), by repeat (first | exact Drawn0.refl _ | apply Drawn0.step)⟩

def spec_ValidPre.l0 : Nat → List ByteArray → Int → Int → Option (Bool)
  | 0, _, _, _ => none
  | k + 1, x6, x7, x8 => if x8 < x7 then (if 0 ≤ x8 then (if x8 < (x6.length : Int) then ((spec_ValidIdent.f k (rdOf ByteArray.empty x6 x8)).bind fun t116 => (if t116 = true then ((spec_Digits.f k (rdOf ByteArray.empty x6 x8)).bind fun t117 => (if t117 = true then (if ((rdOf ByteArray.empty x6 x8).size : Int) > 1 then (if 0 < ((rdOf ByteArray.empty x6 x8).size : Int) then (if (bt (rdOf ByteArray.empty x6 x8) 0) = 48 then (some false) else (spec_ValidPre.l0 k x6 x7 (wrap64 (x8 + 1)))) else (none)) else (spec_ValidPre.l0 k x6 x7 (wrap64 (x8 + 1)))) else (spec_ValidPre.l0 k x6 x7 (wrap64 (x8 + 1))))) else (some false))) else (none)) else (none)) else (some true)

def spec_ValidPre.f (k : Nat) (a0 : ByteArray) : Option (Bool) := (spec_Identifiers.f k a0).bind fun t112 => (spec_ValidPre.l0 k t112 (t112.length : Int) 0)

theorem spec_ValidPre.mono_l : ∀ k, (∀ y0 y1 y2, LeO (spec_ValidPre.l0 k y0 y1 y2) (spec_ValidPre.l0 (k + 1) y0 y1 y2))
  | 0 => fun _ _ _ r h => by simp [spec_ValidPre.l0] at h
  | k + 1 => by
    have ih0 := spec_ValidPre.mono_l k
    · intro y0 y1 y2
      unfold spec_ValidPre.l0
      repeat' first
      | (with_reducible exact ih0 _ _ _)
      | (with_reducible exact spec_Digits.mono _ _)
      | (with_reducible exact spec_Identifiers.mono _ _)
      | (with_reducible exact spec_ValidIdent.mono _ _)
      | (with_reducible exact LeO.refl _)
      | (with_reducible exact LeO.none _)
      | (with_reducible refine LeO.ite ?_ ?_)
      | (with_reducible refine LeO.bind ?_ (fun _ => ?_))
      | exact ih0 _ _ _
      | exact spec_Digits.mono _ _
      | exact spec_Identifiers.mono _ _
      | exact spec_ValidIdent.mono _ _
      | exact LeO.none _
      | refine LeO.ite ?_ ?_
      | refine LeO.bind ?_ (fun _ => ?_)

theorem spec_ValidPre.mono : ∀ a0 k, LeO (spec_ValidPre.f k a0) (spec_ValidPre.f (k + 1) a0) := by
  intro a0 k
  have ih0 := spec_ValidPre.mono_l k
  unfold spec_ValidPre.f
  repeat' first
      | (with_reducible exact ih0 _ _ _)
      | (with_reducible exact spec_Digits.mono _ _)
      | (with_reducible exact spec_Identifiers.mono _ _)
      | (with_reducible exact spec_ValidIdent.mono _ _)
      | (with_reducible exact LeO.refl _)
      | (with_reducible exact LeO.none _)
      | (with_reducible refine LeO.ite ?_ ?_)
      | (with_reducible refine LeO.bind ?_ (fun _ => ?_))
      | exact ih0 _ _ _
      | exact spec_Digits.mono _ _
      | exact spec_Identifiers.mono _ _
      | exact spec_ValidIdent.mono _ _
      | exact LeO.none _
      | refine LeO.ite ?_ ?_
      | refine LeO.bind ?_ (fun _ => ?_)

set_option maxHeartbeats 80000000 in
set_option maxRecDepth 100000 in
theorem spec_ValidPre.calls (k : Nat) (a0 : ByteArray) (r : Bool) (w : World) (h : spec_ValidPre.f k a0 = some r) :
  Calls Tryd.prog 49 #[.string a0] w fun e w' => e = .returned (.bool r) ∧ Below w.heap.size w w' := by
 have HB := Aside0.mk (Below.refl w.heap.size w)
 have H : ((spec_Identifiers.f k a0).bind fun t112 => (spec_ValidPre.l0 k t112 (t112.length : Int) 0)) = some r := h
 clear h
 replace H := Option.bind_eq_some_iff.mp H
 obtain ⟨t112, A20, H⟩ := H
 replace H : (spec_ValidPre.l0 k t112 (t112.length : Int) 0) = some r := H
 have A2 := Aside0.mk A20
 clear A20
 have H' := Aside0.mk H
 clear H
 go_enter Tryd.func49, Tryd.ntmps49
 go_wp2_with (first | ((with_reducible refine gate_callee (f := 77) rfl ?_); refine goesL_ (some 6) rfl rfl Tryd.func77 (by kernel_rfl) rfl #[.string a0] rfl (by (try simp only [List.map_toArray, List.map_cons, List.map_nil]); first | done | rfl | (simp only [List.length_drop, List.length_take]; rfl)) ?_; (with_reducible refine (spec_Identifiers.calls k a0 t112 _ A2.out).mono ?_); rintro e w3 ⟨v113, rfl, ho0, hb⟩; refine ⟨_, rfl, ?_⟩; have n0_ := Aside0.mk (Kd.R_lower ho0 (below_size (by repeat (first | (with_reducible first | exact HB.out | apply below_alloc | apply pw_below_drewN | apply below_drew1) | exact HB.out)))); have n1_ := Aside0.mk (below_step (by repeat (first | (with_reducible first | exact HB.out | apply below_alloc | apply pw_below_drewN | apply below_drew1) | exact HB.out)) hb); clear HB; have HO114 := n0_; have HB := n1_; clear n0_ n1_; (try clear hb); (try clear hb2); (try clear hk); (try clear hi); (try clear ho0); obtain ⟨Ao4, co4, eo4⟩ := Kd.R_slice HO114.out; subst eo4))
 go_loopg [8] k (fun kq v8 w' => ∃ (x8_1 : Int), v8 = .int .i64 x8_1 ∧ Aside0 (spec_ValidPre.l0 kq t112 (t112.length : Int) x8_1 = some r) ∧ Aside0 (kq ≤ k) ∧ Aside0 (Kd.R Kd.string 9 w' w.heap.size (fun _ => True) (.slice Ao4 t112.length co4) t112) ∧ Aside0 (Below w.heap.size w w'))
 case atStart => exact ⟨(0), (by first | rfl | (simp; done) | (simp [*]; done)), H', ⟨Nat.le_refl _⟩, ⟨by (with_reducible repeat (first | apply Kd.R_alloc | apply Kd.R_drewN | apply Kd.R_drew)); exact HO114.out⟩, ⟨by repeat (first | (with_reducible first | exact HB.out | apply below_alloc | apply pw_below_drewN | apply below_drew1) | exact HB.out)⟩⟩
 case round =>
  clear H'
  try clear p2
  try clear c4
  obtain ⟨x8_1, rfl, HA, HK1, HO_6, HB⟩ := hrel
  cases gk with
  | zero => exact absurd HA.out (by simp [spec_ValidPre.l0])
  | succ k1 =>
   have H := HA.out
   clear HA
   simp only [spec_ValidPre.l0] at H
   by_cases c5 : x8_1 < (t112.length : Int)
   ·
    rw [if_pos c5] at H
    have c5b0 : decide (x8_1 < (t112.length : Int)) = true := decide_eq_true c5
    clear c5
    by_cases c6 : 0 ≤ x8_1
    ·
     rw [if_pos c6] at H
     have c6b0 : decide (0 ≤ x8_1) = true := decide_eq_true c6
     clear c6
     by_cases c7 : x8_1 < (t112.length : Int)
     ·
      rw [if_pos c7] at H
      have c7b0 : decide (x8_1 < (t112.length : Int)) = true := decide_eq_true c7
      clear c7
      replace H := Option.bind_eq_some_iff.mp H
      obtain ⟨t116, A80, H⟩ := H
      replace H : (if t116 = true then ((spec_Digits.f k1 (rdOf ByteArray.empty t112 x8_1)).bind fun t117 => (if t117 = true then (if ((rdOf ByteArray.empty t112 x8_1).size : Int) > 1 then (if 0 < ((rdOf ByteArray.empty t112 x8_1).size : Int) then (if (bt (rdOf ByteArray.empty t112 x8_1) 0) = 48 then (some false) else (spec_ValidPre.l0 k1 t112 (t112.length : Int) (wrap64 (x8_1 + 1)))) else (none)) else (spec_ValidPre.l0 k1 t112 (t112.length : Int) (wrap64 (x8_1 + 1)))) else (spec_ValidPre.l0 k1 t112 (t112.length : Int) (wrap64 (x8_1 + 1))))) else (some false)) = some r := H
      have A8 := Aside0.mk A80
      clear A80
      by_cases c9 : t116 = true
      ·
       subst c9
       have H1 : ((spec_Digits.f k1 (rdOf ByteArray.empty t112 x8_1)).bind fun t117 => (if t117 = true then (if ((rdOf ByteArray.empty t112 x8_1).size : Int) > 1 then (if 0 < ((rdOf ByteArray.empty t112 x8_1).size : Int) then (if (bt (rdOf ByteArray.empty t112 x8_1) 0) = 48 then (some false) else (spec_ValidPre.l0 k1 t112 (t112.length : Int) (wrap64 (x8_1 + 1)))) else (none)) else (spec_ValidPre.l0 k1 t112 (t112.length : Int) (wrap64 (x8_1 + 1)))) else (spec_ValidPre.l0 k1 t112 (t112.length : Int) (wrap64 (x8_1 + 1))))) = some r := by rw [if_pos rfl] at H; exact H
       clear H
       have H := H1
       clear H1
       replace H := Option.bind_eq_some_iff.mp H
       obtain ⟨t117, A100, H⟩ := H
       replace H : (if t117 = true then (if ((rdOf ByteArray.empty t112 x8_1).size : Int) > 1 then (if 0 < ((rdOf ByteArray.empty t112 x8_1).size : Int) then (if (bt (rdOf ByteArray.empty t112 x8_1) 0) = 48 then (some false) else (spec_ValidPre.l0 k1 t112 (t112.length : Int) (wrap64 (x8_1 + 1)))) else (none)) else (spec_ValidPre.l0 k1 t112 (t112.length : Int) (wrap64 (x8_1 + 1)))) else (spec_ValidPre.l0 k1 t112 (t112.length : Int) (wrap64 (x8_1 + 1)))) = some r := H
       have A10 := Aside0.mk A100
       clear A100
       by_cases c11 : t117 = true
       ·
        subst c11
        have H1 : (if ((rdOf ByteArray.empty t112 x8_1).size : Int) > 1 then (if 0 < ((rdOf ByteArray.empty t112 x8_1).size : Int) then (if (bt (rdOf ByteArray.empty t112 x8_1) 0) = 48 then (some false) else (spec_ValidPre.l0 k1 t112 (t112.length : Int) (wrap64 (x8_1 + 1)))) else (none)) else (spec_ValidPre.l0 k1 t112 (t112.length : Int) (wrap64 (x8_1 + 1)))) = some r := by rw [if_pos rfl] at H; exact H
        clear H
        have H := H1
        clear H1
        by_cases c12 : ((rdOf ByteArray.empty t112 x8_1).size : Int) > 1
        ·
         rw [if_pos c12] at H
         have c12b0 : decide (1 < ((rdOf ByteArray.empty t112 x8_1).size : Int)) = true := decide_eq_true c12
         have c12b1 : decide (1 < (rdOf ByteArray.empty t112 x8_1).size) = true := decide_eq_true (by omega)
         clear c12
         by_cases c13 : 0 < ((rdOf ByteArray.empty t112 x8_1).size : Int)
         ·
          rw [if_pos c13] at H
          have c13b0 : decide (0 < ((rdOf ByteArray.empty t112 x8_1).size : Int)) = true := decide_eq_true c13
          have c13b1 : decide (0 < (rdOf ByteArray.empty t112 x8_1).size) = true := decide_eq_true (by omega)
          clear c13
          by_cases c15 : (bt (rdOf ByteArray.empty t112 x8_1) 0) = 48
          ·
           rw [if_pos c15] at H
           have c15b0 : ((bt (rdOf ByteArray.empty t112 x8_1) 0) == 48) = true := beq_iff_eq.mpr c15
           have c15b1 : ((bt (rdOf ByteArray.empty t112 x8_1) 0) != 48) = false := bne_eq_false_iff_eq.mpr c15
           clear c15
           obtain rfl := Option.some.inj H
           have p115 : 0 ≤ (x8_1 : Int) := of_decide_eq_true (by first | (with_reducible assumption) | assumption)
           have q115 : x8_1 < (t112.length : Int) := of_decide_eq_true (by first | (with_reducible assumption) | assumption)
           obtain ⟨ad115, e115, hx115_0⟩ := Kd.at_string (Kd.R_reads' HO_6.out).2.2 x8_1 p115 q115
           cases e115
           replace p115 := eq_true p115
           replace q115 := eq_true q115
           go_wp2_with (first | ((with_reducible refine gate_callee (f := 78) rfl ?_); refine goesL_ (some 13) rfl rfl Tryd.func78 (by kernel_rfl) rfl #[.string (rdOf ByteArray.empty t112 x8_1)] rfl (by (try simp only [List.map_toArray, List.map_cons, List.map_nil]); first | done | rfl | (simp only [List.length_drop, List.length_take]; rfl)) ?_; (with_reducible refine (spec_ValidIdent.calls k1 (rdOf ByteArray.empty t112 x8_1) true _ A8.out).mono ?_); rintro e w' ⟨rfl, ⟨nd, rfl⟩⟩; refine ⟨_, rfl, ?_⟩) | (go_at_call 79; (with_reducible refine (spec_Digits.calls k1 (rdOf ByteArray.empty t112 x8_1) true _ A10.out).mono ?_); rintro e w' ⟨rfl, ⟨nd, rfl⟩⟩; have p14 : 0 ≤ (0 : Int) := (by omega); have q14 : 0 < (rdOf ByteArray.empty t112 x8_1).size := (by have : (0 : Int) < ((rdOf ByteArray.empty t112 x8_1).size : Int) := of_decide_eq_true (by first | (with_reducible assumption) | assumption); omega); have hx14 : ∀ h : 0 < (rdOf ByteArray.empty t112 x8_1).size, (((rdOf ByteArray.empty t112 x8_1)[0]'h).toNat : Int) = bt (rdOf ByteArray.empty t112 x8_1) 0 := bt_at (rdOf ByteArray.empty t112 x8_1) 0; clear p14; have qi14 : (0 < ((rdOf ByteArray.empty t112 x8_1).size : Int)) = True := eq_true (of_decide_eq_true (by first | (with_reducible assumption) | assumption)); replace q14 := eq_true q14))
           go_ret
           exact ⟨by first | rfl | (simp [errW_none, errW_some] <;> rfl) | (simp [*, errW_none, errW_some] <;> rfl) | (simp [bneNil]; done), by repeat (first | (with_reducible first | exact HB.out | apply below_alloc | apply pw_below_drewN | apply below_drew1) | exact HB.out)⟩
          ·
           rw [if_neg c15] at H
           have c15b0 : ((bt (rdOf ByteArray.empty t112 x8_1) 0) == 48) = false := beq_eq_false_iff_ne.mpr c15
           have c15b1 : ((bt (rdOf ByteArray.empty t112 x8_1) 0) != 48) = true := bne_iff_ne.mpr c15
           have H' := Aside0.mk H
           clear H
           have p115 : 0 ≤ (x8_1 : Int) := of_decide_eq_true (by first | (with_reducible assumption) | assumption)
           have q115 : x8_1 < (t112.length : Int) := of_decide_eq_true (by first | (with_reducible assumption) | assumption)
           obtain ⟨ad115, e115, hx115_0⟩ := Kd.at_string (Kd.R_reads' HO_6.out).2.2 x8_1 p115 q115
           cases e115
           replace p115 := eq_true p115
           replace q115 := eq_true q115
           go_wp2_with (first | ((with_reducible refine gate_callee (f := 78) rfl ?_); refine goesL_ (some 13) rfl rfl Tryd.func78 (by kernel_rfl) rfl #[.string (rdOf ByteArray.empty t112 x8_1)] rfl (by (try simp only [List.map_toArray, List.map_cons, List.map_nil]); first | done | rfl | (simp only [List.length_drop, List.length_take]; rfl)) ?_; (with_reducible refine (spec_ValidIdent.calls k1 (rdOf ByteArray.empty t112 x8_1) true _ A8.out).mono ?_); rintro e w' ⟨rfl, ⟨nd, rfl⟩⟩; refine ⟨_, rfl, ?_⟩) | (go_at_call 79; (with_reducible refine (spec_Digits.calls k1 (rdOf ByteArray.empty t112 x8_1) true _ A10.out).mono ?_); rintro e w' ⟨rfl, ⟨nd, rfl⟩⟩; have p14 : 0 ≤ (0 : Int) := (by omega); have q14 : 0 < (rdOf ByteArray.empty t112 x8_1).size := (by have : (0 : Int) < ((rdOf ByteArray.empty t112 x8_1).size : Int) := of_decide_eq_true (by first | (with_reducible assumption) | assumption); omega); have hx14 : ∀ h : 0 < (rdOf ByteArray.empty t112 x8_1).size, (((rdOf ByteArray.empty t112 x8_1)[0]'h).toNat : Int) = bt (rdOf ByteArray.empty t112 x8_1) 0 := bt_at (rdOf ByteArray.empty t112 x8_1) 0; clear p14; have qi14 : (0 < ((rdOf ByteArray.empty t112 x8_1).size : Int)) = True := eq_true (of_decide_eq_true (by first | (with_reducible assumption) | assumption)); replace q14 := eq_true q14))
           go_roundg k1
           case measure => have := HK1.out; omega
           case rel => exact ⟨(wrap64 (x8_1 + 1)), (by first | rfl | (simp; done) | (simp [*]; done)), H', ⟨by have := HK1.out; omega⟩, ⟨by (with_reducible repeat (first | apply Kd.R_alloc | apply Kd.R_drewN | apply Kd.R_drew)); exact HO_6.out⟩, ⟨by repeat (first | (with_reducible first | exact HB.out | apply below_alloc | apply pw_below_drewN | apply below_drew1) | exact HB.out)⟩⟩
         ·
          rw [if_neg c13] at H
          exact absurd H (by simp)
        ·
         rw [if_neg c12] at H
         have c12b0 : decide (1 < ((rdOf ByteArray.empty t112 x8_1).size : Int)) = false := decide_eq_false c12
         have c12b1 : decide (1 < (rdOf ByteArray.empty t112 x8_1).size) = false := decide_eq_false (by omega)
         clear c12
         have H' := Aside0.mk H
         clear H
         have p115 : 0 ≤ (x8_1 : Int) := of_decide_eq_true (by first | (with_reducible assumption) | assumption)
         have q115 : x8_1 < (t112.length : Int) := of_decide_eq_true (by first | (with_reducible assumption) | assumption)
         obtain ⟨ad115, e115, hx115_0⟩ := Kd.at_string (Kd.R_reads' HO_6.out).2.2 x8_1 p115 q115
         cases e115
         replace p115 := eq_true p115
         replace q115 := eq_true q115
         go_wp2_with (first | ((with_reducible refine gate_callee (f := 78) rfl ?_); refine goesL_ (some 13) rfl rfl Tryd.func78 (by kernel_rfl) rfl #[.string (rdOf ByteArray.empty t112 x8_1)] rfl (by (try simp only [List.map_toArray, List.map_cons, List.map_nil]); first | done | rfl | (simp only [List.length_drop, List.length_take]; rfl)) ?_; (with_reducible refine (spec_ValidIdent.calls k1 (rdOf ByteArray.empty t112 x8_1) true _ A8.out).mono ?_); rintro e w' ⟨rfl, ⟨nd, rfl⟩⟩; refine ⟨_, rfl, ?_⟩) | (go_at_call 79; (with_reducible refine (spec_Digits.calls k1 (rdOf ByteArray.empty t112 x8_1) true _ A10.out).mono ?_); rintro e w' ⟨rfl, ⟨nd, rfl⟩⟩))
         go_roundg k1
         case measure => have := HK1.out; omega
         case rel => exact ⟨(wrap64 (x8_1 + 1)), (by first | rfl | (simp; done) | (simp [*]; done)), H', ⟨by have := HK1.out; omega⟩, ⟨by (with_reducible repeat (first | apply Kd.R_alloc | apply Kd.R_drewN | apply Kd.R_drew)); exact HO_6.out⟩, ⟨by repeat (first | (with_reducible first | exact HB.out | apply below_alloc | apply pw_below_drewN | apply below_drew1) | exact HB.out)⟩⟩
       ·
        replace c11 := Bool.eq_false_iff.mpr c11
        subst c11
        have H1 : (spec_ValidPre.l0 k1 t112 (t112.length : Int) (wrap64 (x8_1 + 1))) = some r := by rw [if_neg (show ¬ (false = true) by decide)] at H; exact H
        clear H
        have H := H1
        clear H1
        have H' := Aside0.mk H
        clear H
        have p115 : 0 ≤ (x8_1 : Int) := of_decide_eq_true (by first | (with_reducible assumption) | assumption)
        have q115 : x8_1 < (t112.length : Int) := of_decide_eq_true (by first | (with_reducible assumption) | assumption)
        obtain ⟨ad115, e115, hx115_0⟩ := Kd.at_string (Kd.R_reads' HO_6.out).2.2 x8_1 p115 q115
        cases e115
        replace p115 := eq_true p115
        replace q115 := eq_true q115
        go_wp2_with (first | ((with_reducible refine gate_callee (f := 78) rfl ?_); refine goesL_ (some 13) rfl rfl Tryd.func78 (by kernel_rfl) rfl #[.string (rdOf ByteArray.empty t112 x8_1)] rfl (by (try simp only [List.map_toArray, List.map_cons, List.map_nil]); first | done | rfl | (simp only [List.length_drop, List.length_take]; rfl)) ?_; (with_reducible refine (spec_ValidIdent.calls k1 (rdOf ByteArray.empty t112 x8_1) true _ A8.out).mono ?_); rintro e w' ⟨rfl, ⟨nd, rfl⟩⟩; refine ⟨_, rfl, ?_⟩) | (go_at_call 79; (with_reducible refine (spec_Digits.calls k1 (rdOf ByteArray.empty t112 x8_1) false _ A10.out).mono ?_); rintro e w' ⟨rfl, ⟨nd, rfl⟩⟩))
        go_roundg k1
        case measure => have := HK1.out; omega
        case rel => exact ⟨(wrap64 (x8_1 + 1)), (by first | rfl | (simp; done) | (simp [*]; done)), H', ⟨by have := HK1.out; omega⟩, ⟨by (with_reducible repeat (first | apply Kd.R_alloc | apply Kd.R_drewN | apply Kd.R_drew)); exact HO_6.out⟩, ⟨by repeat (first | (with_reducible first | exact HB.out | apply below_alloc | apply pw_below_drewN | apply below_drew1) | exact HB.out)⟩⟩
      ·
       replace c9 := Bool.eq_false_iff.mpr c9
       subst c9
       have H1 : (some false) = some r := by rw [if_neg (show ¬ (false = true) by decide)] at H; exact H
       clear H
       have H := H1
       clear H1
       obtain rfl := Option.some.inj H
       have p115 : 0 ≤ (x8_1 : Int) := of_decide_eq_true (by first | (with_reducible assumption) | assumption)
       have q115 : x8_1 < (t112.length : Int) := of_decide_eq_true (by first | (with_reducible assumption) | assumption)
       obtain ⟨ad115, e115, hx115_0⟩ := Kd.at_string (Kd.R_reads' HO_6.out).2.2 x8_1 p115 q115
       cases e115
       replace p115 := eq_true p115
       replace q115 := eq_true q115
       go_wp2_with (first | ((with_reducible refine gate_callee (f := 78) rfl ?_); refine goesL_ (some 13) rfl rfl Tryd.func78 (by kernel_rfl) rfl #[.string (rdOf ByteArray.empty t112 x8_1)] rfl (by (try simp only [List.map_toArray, List.map_cons, List.map_nil]); first | done | rfl | (simp only [List.length_drop, List.length_take]; rfl)) ?_; (with_reducible refine (spec_ValidIdent.calls k1 (rdOf ByteArray.empty t112 x8_1) false _ A8.out).mono ?_); rintro e w' ⟨rfl, ⟨nd, rfl⟩⟩; refine ⟨_, rfl, ?_⟩))
       go_ret
       exact ⟨by first | rfl | (simp [errW_none, errW_some] <;> rfl) | (simp [*, errW_none, errW_some] <;> rfl) | (simp [bneNil]; done), by repeat (first | (with_reducible first | exact HB.out | apply below_alloc | apply pw_below_drewN | apply below_drew1) | exact HB.out)⟩
     ·
      rw [if_neg c7] at H
      exact absurd H (by simp)
    ·
     rw [if_neg c6] at H
     exact absurd H (by simp)
   ·
    rw [if_neg c5] at H
    have c5b0 : decide (x8_1 < (t112.length : Int)) = false := decide_eq_false c5
    clear c5
    obtain rfl := Option.some.inj H
    go_wp2
    go_ret
    exact ⟨by first | rfl | (simp [errW_none, errW_some] <;> rfl) | (simp [*, errW_none, errW_some] <;> rfl) | (simp [bneNil]; done), by repeat (first | (with_reducible first | exact HB.out | apply below_alloc | apply pw_below_drewN | apply below_drew1) | exact HB.out)⟩

def spec_SmallPre.l0 : Nat → List ByteArray → Int → Int → Option (Bool)
  | 0, _, _, _ => none
  | k + 1, x6, x7, x8 => if x8 < x7 then (if 0 ≤ x8 then (if x8 < (x6.length : Int) then ((spec_Digits.f k (rdOf ByteArray.empty x6 x8)).bind fun t122 => (if t122 = true then (if ((rdOf ByteArray.empty x6 x8).size : Int) > 19 then (some false) else (spec_SmallPre.l0 k x6 x7 (wrap64 (x8 + 1)))) else (spec_SmallPre.l0 k x6 x7 (wrap64 (x8 + 1))))) else (none)) else (none)) else (some true)

def spec_SmallPre.f (k : Nat) (a0 : ByteArray) : Option (Bool) := (spec_Identifiers.f k a0).bind fun t118 => (spec_SmallPre.l0 k t118 (t118.length : Int) 0)

theorem spec_SmallPre.mono_l : ∀ k, (∀ y0 y1 y2, LeO (spec_SmallPre.l0 k y0 y1 y2) (spec_SmallPre.l0 (k + 1) y0 y1 y2))
  | 0 => fun _ _ _ r h => by simp [spec_SmallPre.l0] at h
  | k + 1 => by
    have ih0 := spec_SmallPre.mono_l k
    · intro y0 y1 y2
      unfold spec_SmallPre.l0
      repeat' first
      | (with_reducible exact ih0 _ _ _)
      | (with_reducible exact spec_Digits.mono _ _)
      | (with_reducible exact spec_Identifiers.mono _ _)
      | (with_reducible exact LeO.refl _)
      | (with_reducible exact LeO.none _)
      | (with_reducible refine LeO.ite ?_ ?_)
      | (with_reducible refine LeO.bind ?_ (fun _ => ?_))
      | exact ih0 _ _ _
      | exact spec_Digits.mono _ _
      | exact spec_Identifiers.mono _ _
      | exact LeO.none _
      | refine LeO.ite ?_ ?_
      | refine LeO.bind ?_ (fun _ => ?_)

theorem spec_SmallPre.mono : ∀ a0 k, LeO (spec_SmallPre.f k a0) (spec_SmallPre.f (k + 1) a0) := by
  intro a0 k
  have ih0 := spec_SmallPre.mono_l k
  unfold spec_SmallPre.f
  repeat' first
      | (with_reducible exact ih0 _ _ _)
      | (with_reducible exact spec_Digits.mono _ _)
      | (with_reducible exact spec_Identifiers.mono _ _)
      | (with_reducible exact LeO.refl _)
      | (with_reducible exact LeO.none _)
      | (with_reducible refine LeO.ite ?_ ?_)
      | (with_reducible refine LeO.bind ?_ (fun _ => ?_))
      | exact ih0 _ _ _
      | exact spec_Digits.mono _ _
      | exact spec_Identifiers.mono _ _
      | exact LeO.none _
      | refine LeO.ite ?_ ?_
      | refine LeO.bind ?_ (fun _ => ?_)

set_option maxHeartbeats 80000000 in
set_option maxRecDepth 100000 in
theorem spec_SmallPre.calls (k : Nat) (a0 : ByteArray) (r : Bool) (w : World) (h : spec_SmallPre.f k a0 = some r) :
  Calls Tryd.prog 50 #[.string a0] w fun e w' => e = .returned (.bool r) ∧ Below w.heap.size w w' := by
 have HB := Aside0.mk (Below.refl w.heap.size w)
 have H : ((spec_Identifiers.f k a0).bind fun t118 => (spec_SmallPre.l0 k t118 (t118.length : Int) 0)) = some r := h
 clear h
 replace H := Option.bind_eq_some_iff.mp H
 obtain ⟨t118, A20, H⟩ := H
 replace H : (spec_SmallPre.l0 k t118 (t118.length : Int) 0) = some r := H
 have A2 := Aside0.mk A20
 clear A20
 have H' := Aside0.mk H
 clear H
 go_enter Tryd.func50, Tryd.ntmps50
 go_wp2_with (first | ((with_reducible refine gate_callee (f := 77) rfl ?_); refine goesL_ (some 6) rfl rfl Tryd.func77 (by kernel_rfl) rfl #[.string a0] rfl (by (try simp only [List.map_toArray, List.map_cons, List.map_nil]); first | done | rfl | (simp only [List.length_drop, List.length_take]; rfl)) ?_; (with_reducible refine (spec_Identifiers.calls k a0 t118 _ A2.out).mono ?_); rintro e w3 ⟨v119, rfl, ho0, hb⟩; refine ⟨_, rfl, ?_⟩; have n0_ := Aside0.mk (Kd.R_lower ho0 (below_size (by repeat (first | (with_reducible first | exact HB.out | apply below_alloc | apply pw_below_drewN | apply below_drew1) | exact HB.out)))); have n1_ := Aside0.mk (below_step (by repeat (first | (with_reducible first | exact HB.out | apply below_alloc | apply pw_below_drewN | apply below_drew1) | exact HB.out)) hb); clear HB; have HO120 := n0_; have HB := n1_; clear n0_ n1_; (try clear hb); (try clear hb2); (try clear hk); (try clear hi); (try clear ho0); obtain ⟨Ao4, co4, eo4⟩ := Kd.R_slice HO120.out; subst eo4))
 go_loopg [8] k (fun kq v8 w' => ∃ (x8_1 : Int), v8 = .int .i64 x8_1 ∧ Aside0 (spec_SmallPre.l0 kq t118 (t118.length : Int) x8_1 = some r) ∧ Aside0 (kq ≤ k) ∧ Aside0 (Kd.R Kd.string 9 w' w.heap.size (fun _ => True) (.slice Ao4 t118.length co4) t118) ∧ Aside0 (Below w.heap.size w w'))
 case atStart => exact ⟨(0), (by first | rfl | (simp; done) | (simp [*]; done)), H', ⟨Nat.le_refl _⟩, ⟨by (with_reducible repeat (first | apply Kd.R_alloc | apply Kd.R_drewN | apply Kd.R_drew)); exact HO120.out⟩, ⟨by repeat (first | (with_reducible first | exact HB.out | apply below_alloc | apply pw_below_drewN | apply below_drew1) | exact HB.out)⟩⟩
 case round =>
  clear H'
  try clear p2
  obtain ⟨x8_1, rfl, HA, HK1, HO_6, HB⟩ := hrel
  cases gk with
  | zero => exact absurd HA.out (by simp [spec_SmallPre.l0])
  | succ k1 =>
   have H := HA.out
   clear HA
   simp only [spec_SmallPre.l0] at H
   by_cases c5 : x8_1 < (t118.length : Int)
   ·
    rw [if_pos c5] at H
    have c5b0 : decide (x8_1 < (t118.length : Int)) = true := decide_eq_true c5
    clear c5
    by_cases c6 : 0 ≤ x8_1
    ·
     rw [if_pos c6] at H
     have c6b0 : decide (0 ≤ x8_1) = true := decide_eq_true c6
     clear c6
     by_cases c7 : x8_1 < (t118.length : Int)
     ·
      rw [if_pos c7] at H
      have c7b0 : decide (x8_1 < (t118.length : Int)) = true := decide_eq_true c7
      clear c7
      replace H := Option.bind_eq_some_iff.mp H
      obtain ⟨t122, A80, H⟩ := H
      replace H : (if t122 = true then (if ((rdOf ByteArray.empty t118 x8_1).size : Int) > 19 then (some false) else (spec_SmallPre.l0 k1 t118 (t118.length : Int) (wrap64 (x8_1 + 1)))) else (spec_SmallPre.l0 k1 t118 (t118.length : Int) (wrap64 (x8_1 + 1)))) = some r := H
      have A8 := Aside0.mk A80
      clear A80
      by_cases c9 : t122 = true
      ·
       subst c9
       have H1 : (if ((rdOf ByteArray.empty t118 x8_1).size : Int) > 19 then (some false) else (spec_SmallPre.l0 k1 t118 (t118.length : Int) (wrap64 (x8_1 + 1)))) = some r := by rw [if_pos rfl] at H; exact H
       clear H
       have H := H1
       clear H1
       by_cases c10 : ((rdOf ByteArray.empty t118 x8_1).size : Int) > 19
       ·
        rw [if_pos c10] at H
        have c10b0 : decide (19 < ((rdOf ByteArray.empty t118 x8_1).size : Int)) = true := decide_eq_true c10
        have c10b1 : decide (19 < (rdOf ByteArray.empty t118 x8_1).size) = true := decide_eq_true (by omega)
        clear c10
        obtain rfl := Option.some.inj H
        have p121 : 0 ≤ (x8_1 : Int) := of_decide_eq_true (by first | (with_reducible assumption) | assumption)
        have q121 : x8_1 < (t118.length : Int) := of_decide_eq_true (by first | (with_reducible assumption) | assumption)
        obtain ⟨ad121, e121, hx121_0⟩ := Kd.at_string (Kd.R_reads' HO_6.out).2.2 x8_1 p121 q121
        cases e121
        replace p121 := eq_true p121
        replace q121 := eq_true q121
        go_wp2_with (first | ((with_reducible refine gate_callee (f := 79) rfl ?_); refine goesL_ (some 13) rfl rfl Tryd.func79 (by kernel_rfl) rfl #[.string (rdOf ByteArray.empty t118 x8_1)] rfl (by (try simp only [List.map_toArray, List.map_cons, List.map_nil]); first | done | rfl | (simp only [List.length_drop, List.length_take]; rfl)) ?_; (with_reducible refine (spec_Digits.calls k1 (rdOf ByteArray.empty t118 x8_1) true _ A8.out).mono ?_); rintro e w' ⟨rfl, ⟨nd, rfl⟩⟩; refine ⟨_, rfl, ?_⟩))
        go_ret
        exact ⟨by first | rfl | (simp [errW_none, errW_some] <;> rfl) | (simp [*, errW_none, errW_some] <;> rfl) | (simp [bneNil]; done), by repeat (first | (with_reducible first | exact HB.out | apply below_alloc | apply pw_below_drewN | apply below_drew1) | exact HB.out)⟩
       ·
        rw [if_neg c10] at H
        have c10b0 : decide (19 < ((rdOf ByteArray.empty t118 x8_1).size : Int)) = false := decide_eq_false c10
        have c10b1 : decide (19 < (rdOf ByteArray.empty t118 x8_1).size) = false := decide_eq_false (by omega)
        clear c10
        have H' := Aside0.mk H
        clear H
        have p121 : 0 ≤ (x8_1 : Int) := of_decide_eq_true (by first | (with_reducible assumption) | assumption)
        have q121 : x8_1 < (t118.length : Int) := of_decide_eq_true (by first | (with_reducible assumption) | assumption)
        obtain ⟨ad121, e121, hx121_0⟩ := Kd.at_string (Kd.R_reads' HO_6.out).2.2 x8_1 p121 q121
        cases e121
        replace p121 := eq_true p121
        replace q121 := eq_true q121
        go_wp2_with (first | ((with_reducible refine gate_callee (f := 79) rfl ?_); refine goesL_ (some 13) rfl rfl Tryd.func79 (by kernel_rfl) rfl #[.string (rdOf ByteArray.empty t118 x8_1)] rfl (by (try simp only [List.map_toArray, List.map_cons, List.map_nil]); first | done | rfl | (simp only [List.length_drop, List.length_take]; rfl)) ?_; (with_reducible refine (spec_Digits.calls k1 (rdOf ByteArray.empty t118 x8_1) true _ A8.out).mono ?_); rintro e w' ⟨rfl, ⟨nd, rfl⟩⟩; refine ⟨_, rfl, ?_⟩))
        go_roundg k1
        case measure => have := HK1.out; omega
        case rel => exact ⟨(wrap64 (x8_1 + 1)), (by first | rfl | (simp; done) | (simp [*]; done)), H', ⟨by have := HK1.out; omega⟩, ⟨by (with_reducible repeat (first | apply Kd.R_alloc | apply Kd.R_drewN | apply Kd.R_drew)); exact HO_6.out⟩, ⟨by repeat (first | (with_reducible first | exact HB.out | apply below_alloc | apply pw_below_drewN | apply below_drew1) | exact HB.out)⟩⟩
      ·
       replace c9 := Bool.eq_false_iff.mpr c9
       subst c9
       have H1 : (spec_SmallPre.l0 k1 t118 (t118.length : Int) (wrap64 (x8_1 + 1))) = some r := by rw [if_neg (show ¬ (false = true) by decide)] at H; exact H
       clear H
       have H := H1
       clear H1
       have H' := Aside0.mk H
       clear H
       have p121 : 0 ≤ (x8_1 : Int) := of_decide_eq_true (by first | (with_reducible assumption) | assumption)
       have q121 : x8_1 < (t118.length : Int) := of_decide_eq_true (by first | (with_reducible assumption) | assumption)
       obtain ⟨ad121, e121, hx121_0⟩ := Kd.at_string (Kd.R_reads' HO_6.out).2.2 x8_1 p121 q121
       cases e121
       replace p121 := eq_true p121
       replace q121 := eq_true q121
       go_wp2_with (first | ((with_reducible refine gate_callee (f := 79) rfl ?_); refine goesL_ (some 13) rfl rfl Tryd.func79 (by kernel_rfl) rfl #[.string (rdOf ByteArray.empty t118 x8_1)] rfl (by (try simp only [List.map_toArray, List.map_cons, List.map_nil]); first | done | rfl | (simp only [List.length_drop, List.length_take]; rfl)) ?_; (with_reducible refine (spec_Digits.calls k1 (rdOf ByteArray.empty t118 x8_1) false _ A8.out).mono ?_); rintro e w' ⟨rfl, ⟨nd, rfl⟩⟩; refine ⟨_, rfl, ?_⟩))
       go_roundg k1
       case measure => have := HK1.out; omega
       case rel => exact ⟨(wrap64 (x8_1 + 1)), (by first | rfl | (simp; done) | (simp [*]; done)), H', ⟨by have := HK1.out; omega⟩, ⟨by (with_reducible repeat (first | apply Kd.R_alloc | apply Kd.R_drewN | apply Kd.R_drew)); exact HO_6.out⟩, ⟨by repeat (first | (with_reducible first | exact HB.out | apply below_alloc | apply pw_below_drewN | apply below_drew1) | exact HB.out)⟩⟩
     ·
      rw [if_neg c7] at H
      exact absurd H (by simp)
    ·
     rw [if_neg c6] at H
     exact absurd H (by simp)
   ·
    rw [if_neg c5] at H
    have c5b0 : decide (x8_1 < (t118.length : Int)) = false := decide_eq_false c5
    clear c5
    obtain rfl := Option.some.inj H
    go_wp2
    go_ret
    exact ⟨by first | rfl | (simp [errW_none, errW_some] <;> rfl) | (simp [*, errW_none, errW_some] <;> rfl) | (simp [bneNil]; done), by repeat (first | (with_reducible first | exact HB.out | apply below_alloc | apply pw_below_drewN | apply below_drew1) | exact HB.out)⟩

mutual
def spec_GoodTerm.j0 : Nat → Bool → Int → Int → Int → Int → Int → ByteArray → Option (Bool)
  | 0, _, _, _, _, _, _, _ => none
  | k + 1, x3, x124000, x124001, x124002, x124003, x124004, x124005 => if x124001 = 0 then (if x124000 = 0 then (if x124001 = 3 then (if x124000 = 6 then (spec_GoodTerm.j1 k x3 x124000 x124001 x124002 x124003 x124004 x124005) else (spec_GoodTerm.j1 k false x124000 x124001 x124002 x124003 x124004 x124005)) else (spec_GoodTerm.j1 k false x124000 x124001 x124002 x124003 x124004 x124005)) else (if x124000 = 4 then (if x124001 = 3 then (if x124000 = 6 then (spec_GoodTerm.j1 k x3 x124000 x124001 x124002 x124003 x124004 x124005) else (spec_GoodTerm.j1 k false x124000 x124001 x124002 x124003 x124004 x124005)) else (spec_GoodTerm.j1 k false x124000 x124001 x124002 x124003 x124004 x124005)) else (if x124000 = 6 then (if x124001 = 3 then (spec_GoodTerm.j1 k x3 x124000 x124001 x124002 x124003 x124004 x124005) else (spec_GoodTerm.j1 k false x124000 x124001 x124002 x124003 x124004 x124005)) else (spec_GoodTerm.j1 k true x124000 x124001 x124002 x124003 x124004 x124005)))) else (if x124001 = 3 then (if x124000 = 6 then (spec_GoodTerm.j1 k x3 x124000 x124001 x124002 x124003 x124004 x124005) else (spec_GoodTerm.j1 k false x124000 x124001 x124002 x124003 x124004 x124005)) else (spec_GoodTerm.j1 k false x124000 x124001 x124002 x124003 x124004 x124005))
def spec_GoodTerm.j1 : Nat → Bool → Int → Int → Int → Int → Int → ByteArray → Option (Bool)
  | 0, _, _, _, _, _, _, _ => none
  | k + 1, x17, x124000, x124001, x124002, x124003, x124004, x124005 => if x17 = true then (some false) else (if x124000 < 0 then (spec_GoodTerm.j2 k true x124000 x124001 x124002 x124003 x124004 x124005) else (if x124000 ≥ 8 then (spec_GoodTerm.j2 k true x124000 x124001 x124002 x124003 x124004 x124005) else (if x124001 < 0 then (spec_GoodTerm.j2 k true x124000 x124001 x124002 x124003 x124004 x124005) else (spec_GoodTerm.j2 k (decide (x124001 > 3)) x124000 x124001 x124002 x124003 x124004 x124005))))
def spec_GoodTerm.j2 : Nat → Bool → Int → Int → Int → Int → Int → ByteArray → Option (Bool)
  | 0, _, _, _, _, _, _, _ => none
  | k + 1, x49, x124000, x124001, x124002, x124003, x124004, x124005 => if x49 = true then (some false) else (if x124001 < 3 then (if x124004 = 0 then (if x124005.toList = ([] : List UInt8) then (if x124001 < 2 then (if x124003 = 0 then (if x124001 < 1 then (spec_GoodTerm.j3 k (x124002 != 0) x124000 x124001 x124002 x124003 x124004 x124005) else (spec_GoodTerm.j3 k false x124000 x124001 x124002 x124003 x124004 x124005)) else (spec_GoodTerm.j3 k true x124000 x124001 x124002 x124003 x124004 x124005)) else (if x124001 < 1 then (spec_GoodTerm.j3 k (x124002 != 0) x124000 x124001 x124002 x124003 x124004 x124005) else (spec_GoodTerm.j3 k false x124000 x124001 x124002 x124003 x124004 x124005))) else (spec_GoodTerm.j3 k true x124000 x124001 x124002 x124003 x124004 x124005)) else (spec_GoodTerm.j3 k true x124000 x124001 x124002 x124003 x124004 x124005)) else (if x124001 < 2 then (if x124003 = 0 then (if x124001 < 1 then (spec_GoodTerm.j3 k (x124002 != 0) x124000 x124001 x124002 x124003 x124004 x124005) else (spec_GoodTerm.j3 k false x124000 x124001 x124002 x124003 x124004 x124005)) else (spec_GoodTerm.j3 k true x124000 x124001 x124002 x124003 x124004 x124005)) else (if x124001 < 1 then (spec_GoodTerm.j3 k (x124002 != 0) x124000 x124001 x124002 x124003 x124004 x124005) else (spec_GoodTerm.j3 k false x124000 x124001 x124002 x124003 x124004 x124005))))
def spec_GoodTerm.j3 : Nat → Bool → Int → Int → Int → Int → Int → ByteArray → Option (Bool)
  | 0, _, _, _, _, _, _, _ => none
  | k + 1, x68, x124000, x124001, x124002, x124003, x124004, x124005 => if x68 = true then (some false) else (if x124005.toList = ([] : List UInt8) then (some true) else ((spec_ValidPre.f k x124005).bind fun t124 => (if t124 = true then ((spec_SmallPre.f k x124005).bind fun t125 => (some t125)) else (some false))))
end

def spec_GoodTerm.f (k : Nat) (a0_0 : Int) (a0_1 : Int) (a0_2 : Int) (a0_3 : Int) (a0_4 : Int) (a0_5 : ByteArray) : Option (Bool) := if a0_2 = 0 then (if a0_3 = 0 then (spec_GoodTerm.j0 k (a0_4 == 0) a0_0 a0_1 a0_2 a0_3 a0_4 a0_5) else (spec_GoodTerm.j0 k false a0_0 a0_1 a0_2 a0_3 a0_4 a0_5)) else (spec_GoodTerm.j0 k false a0_0 a0_1 a0_2 a0_3 a0_4 a0_5)

theorem spec_GoodTerm.mono_l : ∀ k, (∀ y0 y1 y2 y3 y4 y5 y6, LeO (spec_GoodTerm.j0 k y0 y1 y2 y3 y4 y5 y6) (spec_GoodTerm.j0 (k + 1) y0 y1 y2 y3 y4 y5 y6)) ∧ (∀ y0 y1 y2 y3 y4 y5 y6, LeO (spec_GoodTerm.j1 k y0 y1 y2 y3 y4 y5 y6) (spec_GoodTerm.j1 (k + 1) y0 y1 y2 y3 y4 y5 y6)) ∧ (∀ y0 y1 y2 y3 y4 y5 y6, LeO (spec_GoodTerm.j2 k y0 y1 y2 y3 y4 y5 y6) (spec_GoodTerm.j2 (k + 1) y0 y1 y2 y3 y4 y5 y6)) ∧ (∀ y0 y1 y2 y3 y4 y5 y6, LeO (spec_GoodTerm.j3 k y0 y1 y2 y3 y4 y5 y6) (spec_GoodTerm.j3 (k + 1) y0 y1 y2 y3 y4 y5 y6))
  | 0 => ⟨fun _ _ _ _ _ _ _ r h => by simp [spec_GoodTerm.j0] at h, fun _ _ _ _ _ _ _ r h => by simp [spec_GoodTerm.j1] at h, fun _ _ _ _ _ _ _ r h => by simp [spec_GoodTerm.j2] at h, fun _ _ _ _ _ _ _ r h => by simp [spec_GoodTerm.j3] at h⟩
  | k + 1 => by
    obtain ⟨ih0, ih1, ih2, ih3⟩ := spec_GoodTerm.mono_l k
    refine ⟨?_, ?_, ?_, ?_⟩
    · intro y0 y1 y2 y3 y4 y5 y6
      unfold spec_GoodTerm.j0
      repeat' first
      | (with_reducible exact ih0 _ _ _ _ _ _ _)
      | (with_reducible exact ih1 _ _ _ _ _ _ _)
      | (with_reducible exact ih2 _ _ _ _ _ _ _)
      | (with_reducible exact ih3 _ _ _ _ _ _ _)
      | (with_reducible exact spec_SmallPre.mono _ _)
      | (with_reducible exact spec_ValidPre.mono _ _)
      | (with_reducible exact LeO.refl _)
      | (with_reducible exact LeO.none _)
      | (with_reducible refine LeO.ite ?_ ?_)
      | (with_reducible refine LeO.bind ?_ (fun _ => ?_))
      | exact ih0 _ _ _ _ _ _ _
      | exact ih1 _ _ _ _ _ _ _
      | exact ih2 _ _ _ _ _ _ _
      | exact ih3 _ _ _ _ _ _ _
      | exact spec_SmallPre.mono _ _
      | exact spec_ValidPre.mono _ _
      | exact LeO.none _
      | refine LeO.ite ?_ ?_
      | refine LeO.bind ?_ (fun _ => ?_)
    · intro y0 y1 y2 y3 y4 y5 y6
      unfold spec_GoodTerm.j1
      repeat' first
      | (with_reducible exact ih0 _ _ _ _ _ _ _)
      | (with_reducible exact ih1 _ _ _ _ _ _ _)
      | (with_reducible exact ih2 _ _ _ _ _ _ _)
      | (with_reducible exact ih3 _ _ _ _ _ _ _)
      | (with_reducible exact spec_SmallPre.mono _ _)
      | (with_reducible exact spec_ValidPre.mono _ _)
      | (with_reducible exact LeO.refl _)
      | (with_reducible exact LeO.none _)
      | (with_reducible refine LeO.ite ?_ ?_)
      | (with_reducible refine LeO.bind ?_ (fun _ => ?_))
      | exact ih0 _ _ _ _ _ _ _
      | exact ih1 _ _ _ _ _ _ _
      | exact ih2 _ _ _ _ _ _ _
      | exact ih3 _ _ _ _ _ _ _
      | exact spec_SmallPre.mono _ _
      | exact spec_ValidPre.mono _ _
      | exact LeO.none _
      | refine LeO.ite ?_ ?_
      | refine LeO.bind ?_ (fun _ => ?_)
    · intro y0 y1 y2 y3 y4 y5 y6
      unfold spec_GoodTerm.j2
      repeat' first
      | (with_reducible exact ih0 _ _ _ _ _ _ _)
      | (with_reducible exact ih1 _ _ _ _ _ _ _)
      | (with_reducible exact ih2 _ _ _ _ _ _ _)
      | (with_reducible exact ih3 _ _ _ _ _ _ _)
      | (with_reducible exact spec_SmallPre.mono _ _)
      | (with_reducible exact spec_ValidPre.mono _ _)
      | (with_reducible exact LeO.refl _)
      | (with_reducible exact LeO.none _)
      | (with_reducible refine LeO.ite ?_ ?_)
      | (with_reducible refine LeO.bind ?_ (fun _ => ?_))
      | exact ih0 _ _ _ _ _ _ _
      | exact ih1 _ _ _ _ _ _ _
      | exact ih2 _ _ _ _ _ _ _
      | exact ih3 _ _ _ _ _ _ _
      | exact spec_SmallPre.mono _ _
      | exact spec_ValidPre.mono _ _
      | exact LeO.none _
      | refine LeO.ite ?_ ?_
      | refine LeO.bind ?_ (fun _ => ?_)
    · intro y0 y1 y2 y3 y4 y5 y6
      unfold spec_GoodTerm.j3
      repeat' first
      | (with_reducible exact ih0 _ _ _ _ _ _ _)
      | (with_reducible exact ih1 _ _ _ _ _ _ _)
      | (with_reducible exact ih2 _ _ _ _ _ _ _)
      | (with_reducible exact ih3 _ _ _ _ _ _ _)
      | (with_reducible exact spec_SmallPre.mono _ _)
      | (with_reducible exact spec_ValidPre.mono _ _)
      | (with_reducible exact LeO.refl _)
      | (with_reducible exact LeO.none _)
      | (with_reducible refine LeO.ite ?_ ?_)
      | (with_reducible refine LeO.bind ?_ (fun _ => ?_))
      | exact ih0 _ _ _ _ _ _ _
      | exact ih1 _ _ _ _ _ _ _
      | exact ih2 _ _ _ _ _ _ _
      | exact ih3 _ _ _ _ _ _ _
      | exact spec_SmallPre.mono _ _
      | exact spec_ValidPre.mono _ _
      | exact LeO.none _
      | refine LeO.ite ?_ ?_
      | refine LeO.bind ?_ (fun _ => ?_)

theorem spec_GoodTerm.mono : ∀ a0 a1 a2 a3 a4 a5 k, LeO (spec_GoodTerm.f k a0 a1 a2 a3 a4 a5) (spec_GoodTerm.f (k + 1) a0 a1 a2 a3 a4 a5) := by
  intro a0 a1 a2 a3 a4 a5 k
  obtain ⟨ih0, ih1, ih2, ih3⟩ := spec_GoodTerm.mono_l k
  unfold spec_GoodTerm.f
  repeat' first
      | (with_reducible exact ih0 _ _ _ _ _ _ _)
      | (with_reducible exact ih1 _ _ _ _ _ _ _)
      | (with_reducible exact ih2 _ _ _ _ _ _ _)
      | (with_reducible exact ih3 _ _ _ _ _ _ _)
      | (with_reducible exact spec_SmallPre.mono _ _)
      | (with_reducible exact spec_ValidPre.mono _ _)
      | (with_reducible exact LeO.refl _)
      | (with_reducible exact LeO.none _)
      | (with_reducible refine LeO.ite ?_ ?_)
      | (with_reducible refine LeO.bind ?_ (fun _ => ?_))
      | exact ih0 _ _ _ _ _ _ _
      | exact ih1 _ _ _ _ _ _ _
      | exact ih2 _ _ _ _ _ _ _
      | exact ih3 _ _ _ _ _ _ _
      | exact spec_SmallPre.mono _ _
      | exact spec_ValidPre.mono _ _
      | exact LeO.none _
      | refine LeO.ite ?_ ?_
      | refine LeO.bind ?_ (fun _ => ?_)

set_option maxHeartbeats 80000000 in
set_option maxRecDepth 100000 in
theorem spec_GoodTerm.calls (k : Nat) (a0_0 : Int) (a0_1 : Int) (a0_2 : Int) (a0_3 : Int) (a0_4 : Int) (a0_5 : ByteArray) (r : Bool) (w : World) (h : spec_GoodTerm.f k a0_0 a0_1 a0_2 a0_3 a0_4 a0_5 = some r) :
  Calls Tryd.prog 15 #[.agg #[.int .i64 a0_0, .int .i64 a0_1, .int .u64 a0_2, .int .u64 a0_3, .int .u64 a0_4, .string a0_5]] w fun e w' => e = .returned (.bool r) ∧ Below w.heap.size w w' := by
 have hu24 := Tryd.underlying24
 have HB := Aside0.mk (Below.refl w.heap.size w)
 have H : (if a0_2 = 0 then (if a0_3 = 0 then (spec_GoodTerm.j0 k (a0_4 == 0) a0_0 a0_1 a0_2 a0_3 a0_4 a0_5) else (spec_GoodTerm.j0 k false a0_0 a0_1 a0_2 a0_3 a0_4 a0_5)) else (spec_GoodTerm.j0 k false a0_0 a0_1 a0_2 a0_3 a0_4 a0_5)) = some r := h
 clear h
 have HC2 := Aside0.mk H
 clear H
 go_enter Tryd.func15, Tryd.ntmps15
 go_upto_region 1 with (first | ((with_reducible refine gate_dst (N := 1) rfl ?_); refine box_event ?hg (N := 1) ?hd (cs := #[.int .i64 a0_0, .int .i64 a0_1, .int .u64 a0_2, .int .u64 a0_3, .int .u64 a0_4, .string a0_5]) (t := 24) ?hr ?_; (case hd => rfl); (case hg => rfl); (case hr => first | (go_simp; done) | (go_simp; rfl) | (go_simp; simp [u8w]; done)); intro gb123 hg w3 hbox hb; have n0_ := Aside0.mk (below_step (by repeat (first | (with_reducible first | exact HB.out | apply below_alloc | apply pw_below_drewN | apply below_drew1) | exact HB.out)) hb); have n1_ := Aside0.mk (hbox); have n2_ := Aside0.mk ((by rw [hg]; exact (below_size (by repeat (first | (with_reducible first | exact HB.out | apply below_alloc | apply pw_below_drewN | apply below_drew1) | exact HB.out))) : w.heap.size ≤ gb123)); have n3_ := Aside0.mk ((by rw [hg]; exact (below_size (by repeat (first | (with_reducible first | exact HB.out | apply below_alloc | apply pw_below_drewN | apply below_drew1) | exact HB.out))) : w.heap.size ≤ gb123)); clear HB; have HB := n0_; have BK123 := n1_; have GW123 := n2_; have GE123 := n3_; clear n0_ n1_ n2_ n3_; clear hb hbox hg))
 (try simp only [Act.put, List.setIfInBounds_toArray, List.set_cons_zero, List.set_cons_succ])
 go_cut [3] (fun v3 wc => ∃ (kq : Nat) (x3_1 : Bool), v3 = .bool x3_1 ∧ Aside0 (spec_GoodTerm.j0 kq x3_1 a0_0 a0_1 a0_2 a0_3 a0_4 a0_5 = some r) ∧ Aside0 (kq ≤ k) ∧ Aside0 (wc.heap[gb123]? = some (.cells #[.int .i64 a0_0, .int .i64 a0_1, .int .u64 a0_2, .int .u64 a0_3, .int .u64 a0_4, .string a0_5] 24 (0, 0))) ∧ Aside0 (Below w.heap.size w wc))
 case first =>
  have H := HC2.out
  clear HC2
  by_cases c4 : a0_2 = 0
  ·
   rw [if_pos c4] at H
   have c4b0 : (a0_2 == 0) = true := beq_iff_eq.mpr c4
   have c4b1 : (a0_2 != 0) = false := bne_eq_false_iff_eq.mpr c4
   clear c4
   (first | rw [c4b0] | (simp only [i64_w, i32_w]; rw [c4b0]) | skip)
   by_cases c5 : a0_3 = 0
   ·
    rw [if_pos c5] at H
    have c5b0 : (a0_3 == 0) = true := beq_iff_eq.mpr c5
    have c5b1 : (a0_3 != 0) = false := bne_eq_false_iff_eq.mpr c5
    clear c5
    have H' := Aside0.mk H
    clear H
    have hcz6_0 : w3.cell? ⟨gb123, 0, none⟩ = some (.int .i64 a0_0) := (blk_cell BK123.out 0).trans rfl
    have hcz6_1 : w3.cell? ⟨gb123, 1, none⟩ = some (.int .i64 a0_1) := (blk_cell BK123.out 1).trans rfl
    have hcz6_2 : w3.cell? ⟨gb123, 2, none⟩ = some (.int .u64 a0_2) := (blk_cell BK123.out 2).trans rfl
    have hcz6_3 : w3.cell? ⟨gb123, 3, none⟩ = some (.int .u64 a0_3) := (blk_cell BK123.out 3).trans rfl
    have hcz6_4 : w3.cell? ⟨gb123, 4, none⟩ = some (.int .u64 a0_4) := (blk_cell BK123.out 4).trans rfl
    have hcz6_5 : w3.cell? ⟨gb123, 5, none⟩ = some (.string a0_5) := (blk_cell BK123.out 5).trans rfl
    have hfz6_0 := blk_frozen BK123.out 0
    have hfz6_1 := blk_frozen BK123.out 1
    have hfz6_2 := blk_frozen BK123.out 2
    have hfz6_3 := blk_frozen BK123.out 3
    have hfz6_4 := blk_frozen BK123.out 4
    have hfz6_5 := blk_frozen BK123.out 5
    go_wp2
    go_meet
    case rel => exact ⟨_, ((a0_4 == 0)), (by first | rfl | (simp; done) | (simp [*]; done)), H', ⟨by first | omega | exact Nat.le_refl _⟩, ⟨by (with_reducible repeat (first | refine blk_drewN ?_ _ | refine blk_drew ?_ | refine blk_alloc ?_ _)); exact BK123.out⟩, ⟨by repeat (first | (with_reducible first | exact HB.out | apply below_alloc | apply pw_below_drewN | apply below_drew1 | refine below_set ?_ GE123.out) | exact HB.out)⟩⟩
   ·
    rw [if_neg c5] at H
    have c5b0 : (a0_3 == 0) = false := beq_eq_false_iff_ne.mpr c5
    have c5b1 : (a0_3 != 0) = true := bne_iff_ne.mpr c5
    have H' := Aside0.mk H
    clear H
    have hcz7_0 : w3.cell? ⟨gb123, 0, none⟩ = some (.int .i64 a0_0) := (blk_cell BK123.out 0).trans rfl
    have hcz7_1 : w3.cell? ⟨gb123, 1, none⟩ = some (.int .i64 a0_1) := (blk_cell BK123.out 1).trans rfl
    have hcz7_2 : w3.cell? ⟨gb123, 2, none⟩ = some (.int .u64 a0_2) := (blk_cell BK123.out 2).trans rfl
    have hcz7_3 : w3.cell? ⟨gb123, 3, none⟩ = some (.int .u64 a0_3) := (blk_cell BK123.out 3).trans rfl
    have hcz7_4 : w3.cell? ⟨gb123, 4, none⟩ = some (.int .u64 a0_4) := (blk_cell BK123.out 4).trans rfl
    have hcz7_5 : w3.cell? ⟨gb123, 5, none⟩ = some (.string a0_5) := (blk_cell BK123.out 5).trans rfl
    have hfz7_0 := blk_frozen BK123.out 0
    have hfz7_1 := blk_frozen BK123.out 1
    have hfz7_2 := blk_frozen BK123.out 2
    have hfz7_3 := blk_frozen BK123.out 3
    have hfz7_4 := blk_frozen BK123.out 4
    have hfz7_5 := blk_frozen BK123.out 5
    go_wp2
    go_meet
    case rel => exact ⟨_, (false), (by first | rfl | (simp; done) | (simp [*]; done)), H', ⟨by first | omega | exact Nat.le_refl _⟩, ⟨by (with_reducible repeat (first | refine blk_drewN ?_ _ | refine blk_drew ?_ | refine blk_alloc ?_ _)); exact BK123.out⟩, ⟨by repeat (first | (with_reducible first | exact HB.out | apply below_alloc | apply pw_below_drewN | apply below_drew1 | refine below_set ?_ GE123.out) | exact HB.out)⟩⟩
  ·
   rw [if_neg c4] at H
   have c4b0 : (a0_2 == 0) = false := beq_eq_false_iff_ne.mpr c4
   have c4b1 : (a0_2 != 0) = true := bne_iff_ne.mpr c4
   (first | rw [c4b0] | (simp only [i64_w, i32_w]; rw [c4b0]) | skip)
   have H' := Aside0.mk H
   clear H
   have hcz8_0 : w3.cell? ⟨gb123, 0, none⟩ = some (.int .i64 a0_0) := (blk_cell BK123.out 0).trans rfl
   have hcz8_1 : w3.cell? ⟨gb123, 1, none⟩ = some (.int .i64 a0_1) := (blk_cell BK123.out 1).trans rfl
   have hcz8_2 : w3.cell? ⟨gb123, 2, none⟩ = some (.int .u64 a0_2) := (blk_cell BK123.out 2).trans rfl
   have hcz8_3 : w3.cell? ⟨gb123, 3, none⟩ = some (.int .u64 a0_3) := (blk_cell BK123.out 3).trans rfl
   have hcz8_4 : w3.cell? ⟨gb123, 4, none⟩ = some (.int .u64 a0_4) := (blk_cell BK123.out 4).trans rfl
   have hcz8_5 : w3.cell? ⟨gb123, 5, none⟩ = some (.string a0_5) := (blk_cell BK123.out 5).trans rfl
   have hfz8_0 := blk_frozen BK123.out 0
   have hfz8_1 := blk_frozen BK123.out 1
   have hfz8_2 := blk_frozen BK123.out 2
   have hfz8_3 := blk_frozen BK123.out 3
   have hfz8_4 := blk_frozen BK123.out 4
   have hfz8_5 := blk_frozen BK123.out 5
   go_wp2
   go_meet
   case rel => exact ⟨_, (false), (by first | rfl | (simp; done) | (simp [*]; done)), H', ⟨by first | omega | exact Nat.le_refl _⟩, ⟨by (with_reducible repeat (first | refine blk_drewN ?_ _ | refine blk_drew ?_ | refine blk_alloc ?_ _)); exact BK123.out⟩, ⟨by repeat (first | (with_reducible first | exact HB.out | apply below_alloc | apply pw_below_drewN | apply below_drew1 | refine below_set ?_ GE123.out) | exact HB.out)⟩⟩
 case rest =>
  clear HC2
  try clear c1
  try clear p2
  try clear c4
  try clear c4b0
  try clear c4b1
  try clear c5
  try clear c5b0
  try clear c5b1
  try clear hcz6_0
  try clear hcz6_1
  try clear hcz6_2
  try clear hcz6_3
  try clear hcz6_4
  try clear hcz6_5
  try clear hcz7_0
  try clear hcz7_1
  try clear hcz7_2
  try clear hcz7_3
  try clear hcz7_4
  try clear hcz7_5
  try clear hcz8_0
  try clear hcz8_1
  try clear hcz8_2
  try clear hcz8_3
  try clear hcz8_4
  try clear hcz8_5
  try clear hfz6_0
  try clear hfz6_1
  try clear hfz6_2
  try clear hfz6_3
  try clear hfz6_4
  try clear hfz6_5
  try clear hfz7_0
  try clear hfz7_1
  try clear hfz7_2
  try clear hfz7_3
  try clear hfz7_4
  try clear hfz7_5
  try clear hfz8_0
  try clear hfz8_1
  try clear hfz8_2
  try clear hfz8_3
  try clear hfz8_4
  try clear hfz8_5
  obtain ⟨kq, x3_1, rfl, HA, HJ1, BK123, HB⟩ := hcut
  cases kq with
  | zero => exact absurd HA.out (by simp [spec_GoodTerm.j0])
  | succ kj1 =>
   have H := HA.out
   clear HA
   simp only [spec_GoodTerm.j0] at H
   have HC9 := Aside0.mk H
   clear H
   go_upto_region 2 with (fail)
   go_cut [17] (fun v17 wc => ∃ (kq : Nat) (x17_8 : Bool), v17 = .bool x17_8 ∧ Aside0 (spec_GoodTerm.j1 kq x17_8 a0_0 a0_1 a0_2 a0_3 a0_4 a0_5 = some r) ∧ Aside0 (kq ≤ kj1) ∧ Aside0 (wc.heap[gb123]? = some (.cells #[.int .i64 a0_0, .int .i64 a0_1, .int .u64 a0_2, .int .u64 a0_3, .int .u64 a0_4, .string a0_5] 24 (0, 0))) ∧ Aside0 (Below w.heap.size w wc))
   case first =>
    have H := HC9.out
    clear HC9
    by_cases c10 : a0_1 = 0
    ·
     rw [if_pos c10] at H
     have c10b0 : (a0_1 == 0) = true := beq_iff_eq.mpr c10
     have c10b1 : (a0_1 != 0) = false := bne_eq_false_iff_eq.mpr c10
     clear c10
     (first | rw [c10b0] | (simp only [i64_w, i32_w]; rw [c10b0]) | skip)
     by_cases c11 : a0_0 = 0
     ·
      rw [if_pos c11] at H
      have c11b0 : (a0_0 == 0) = true := beq_iff_eq.mpr c11
      have c11b1 : (a0_0 != 0) = false := bne_eq_false_iff_eq.mpr c11
      clear c11
      by_cases c12 : a0_1 = 3
      ·
       rw [if_pos c12] at H
       have c12b0 : (a0_1 == 3) = true := beq_iff_eq.mpr c12
       have c12b1 : (a0_1 != 3) = false := bne_eq_false_iff_eq.mpr c12
       clear c12
       by_cases c13 : a0_0 = 6
       ·
        rw [if_pos c13] at H
        have c13b0 : (a0_0 == 6) = true := beq_iff_eq.mpr c13
        have c13b1 : (a0_0 != 6) = false := bne_eq_false_iff_eq.mpr c13
        clear c13
        have H' := Aside0.mk H
        clear H
        have hcz14_0 : wc.cell? ⟨gb123, 0, none⟩ = some (.int .i64 a0_0) := (blk_cell BK123.out 0).trans rfl
        have hcz14_1 : wc.cell? ⟨gb123, 1, none⟩ = some (.int .i64 a0_1) := (blk_cell BK123.out 1).trans rfl
        have hcz14_2 : wc.cell? ⟨gb123, 2, none⟩ = some (.int .u64 a0_2) := (blk_cell BK123.out 2).trans rfl
        have hcz14_3 : wc.cell? ⟨gb123, 3, none⟩ = some (.int .u64 a0_3) := (blk_cell BK123.out 3).trans rfl
        have hcz14_4 : wc.cell? ⟨gb123, 4, none⟩ = some (.int .u64 a0_4) := (blk_cell BK123.out 4).trans rfl
        have hcz14_5 : wc.cell? ⟨gb123, 5, none⟩ = some (.string a0_5) := (blk_cell BK123.out 5).trans rfl
        have hfz14_0 := blk_frozen BK123.out 0
        have hfz14_1 := blk_frozen BK123.out 1
        have hfz14_2 := blk_frozen BK123.out 2
        have hfz14_3 := blk_frozen BK123.out 3
        have hfz14_4 := blk_frozen BK123.out 4
        have hfz14_5 := blk_frozen BK123.out 5
        go_wp2
        go_meet
        case rel => exact ⟨_, (x3_1), (by first | rfl | (simp; done) | (simp [*]; done)), H', ⟨by have := HJ1.out; first | omega | exact Nat.le_refl _⟩, ⟨by (with_reducible repeat (first | refine blk_drewN ?_ _ | refine blk_drew ?_ | refine blk_alloc ?_ _)); exact BK123.out⟩, ⟨by repeat (first | (with_reducible first | exact HB.out | apply below_alloc | apply pw_below_drewN | apply below_drew1 | refine below_set ?_ GE123.out) | exact HB.out)⟩⟩
       ·
        rw [if_neg c13] at H
        have c13b0 : (a0_0 == 6) = false := beq_eq_false_iff_ne.mpr c13
        have c13b1 : (a0_0 != 6) = true := bne_iff_ne.mpr c13
        have H' := Aside0.mk H
        clear H
        have hcz15_0 : wc.cell? ⟨gb123, 0, none⟩ = some (.int .i64 a0_0) := (blk_cell BK123.out 0).trans rfl
        have hcz15_1 : wc.cell? ⟨gb123, 1, none⟩ = some (.int .i64 a0_1) := (blk_cell BK123.out 1).trans rfl
        have hcz15_2 : wc.cell? ⟨gb123, 2, none⟩ = some (.int .u64 a0_2) := (blk_cell BK123.out 2).trans rfl
        have hcz15_3 : wc.cell? ⟨gb123, 3, none⟩ = some (.int .u64 a0_3) := (blk_cell BK123.out 3).trans rfl
        have hcz15_4 : wc.cell? ⟨gb123, 4, none⟩ = some (.int .u64 a0_4) := (blk_cell BK123.out 4).trans rfl
        have hcz15_5 : wc.cell? ⟨gb123, 5, none⟩ = some (.string a0_5) := (blk_cell BK123.out 5).trans rfl
        have hfz15_0 := blk_frozen BK123.out 0
        have hfz15_1 := blk_frozen BK123.out 1
        have hfz15_2 := blk_frozen BK123.out 2
        have hfz15_3 := blk_frozen BK123.out 3
        have hfz15_4 := blk_frozen BK123.out 4
        have hfz15_5 := blk_frozen BK123.out 5
        go_wp2
        go_meet
        case rel => exact ⟨_, (false), (by first | rfl | (simp; done) | (simp [*]; done)), H', ⟨by have := HJ1.out; first | omega | exact Nat.le_refl _⟩, ⟨by (with_reducible repeat (first | refine blk_drewN ?_ _ | refine blk_drew ?_ | refine blk_alloc ?_ _)); exact BK123.out⟩, ⟨by repeat (first | (with_reducible first | exact HB.out | apply below_alloc | apply pw_below_drewN | apply below_drew1 | refine below_set ?_ GE123.out) | exact HB.out)⟩⟩
      ·
       rw [if_neg c12] at H
       have c12b0 : (a0_1 == 3) = false := beq_eq_false_iff_ne.mpr c12
       have c12b1 : (a0_1 != 3) = true := bne_iff_ne.mpr c12
       have H' := Aside0.mk H
       clear H
       have hcz16_0 : wc.cell? ⟨gb123, 0, none⟩ = some (.int .i64 a0_0) := (blk_cell BK123.out 0).trans rfl
       have hcz16_1 : wc.cell? ⟨gb123, 1, none⟩ = some (.int .i64 a0_1) := (blk_cell BK123.out 1).trans rfl
       have hcz16_2 : wc.cell? ⟨gb123, 2, none⟩ = some (.int .u64 a0_2) := (blk_cell BK123.out 2).trans rfl
       have hcz16_3 : wc.cell? ⟨gb123, 3, none⟩ = some (.int .u64 a0_3) := (blk_cell BK123.out 3).trans rfl
       have hcz16_4 : wc.cell? ⟨gb123, 4, none⟩ = some (.int .u64 a0_4) := (blk_cell BK123.out 4).trans rfl
       have hcz16_5 : wc.cell? ⟨gb123, 5, none⟩ = some (.string a0_5) := (blk_cell BK123.out 5).trans rfl
       have hfz16_0 := blk_frozen BK123.out 0
       have hfz16_1 := blk_frozen BK123.out 1
       have hfz16_2 := blk_frozen BK123.out 2
       have hfz16_3 := blk_frozen BK123.out 3
       have hfz16_4 := blk_frozen BK123.out 4
       have hfz16_5 := blk_frozen BK123.out 5
       go_wp2
       go_meet
       case rel => exact ⟨_, (false), (by first | rfl | (simp; done) | (simp [*]; done)), H', ⟨by have := HJ1.out; first | omega | exact Nat.le_refl _⟩, ⟨by (with_reducible repeat (first | refine blk_drewN ?_ _ | refine blk_drew ?_ | refine blk_alloc ?_ _)); exact BK123.out⟩, ⟨by repeat (first | (with_reducible first | exact HB.out | apply below_alloc | apply pw_below_drewN | apply below_drew1 | refine below_set ?_ GE123.out) | exact HB.out)⟩⟩
     ·
      rw [if_neg c11] at H
      have c11b0 : (a0_0 == 0) = false := beq_eq_false_iff_ne.mpr c11
      have c11b1 : (a0_0 != 0) = true := bne_iff_ne.mpr c11
      by_cases c17 : a0_0 = 4
      ·
       rw [if_pos c17] at H
       have c17b0 : (a0_0 == 4) = true := beq_iff_eq.mpr c17
       have c17b1 : (a0_0 != 4) = false := bne_eq_false_iff_eq.mpr c17
       clear c17
       by_cases c18 : a0_1 = 3
       ·
        rw [if_pos c18] at H
        have c18b0 : (a0_1 == 3) = true := beq_iff_eq.mpr c18
        have c18b1 : (a0_1 != 3) = false := bne_eq_false_iff_eq.mpr c18
        clear c18
        by_cases c19 : a0_0 = 6
        ·
         rw [if_pos c19] at H
         have c19b0 : (a0_0 == 6) = true := beq_iff_eq.mpr c19
         have c19b1 : (a0_0 != 6) = false := bne_eq_false_iff_eq.mpr c19
         clear c19
         have H' := Aside0.mk H
         clear H
         have hcz20_0 : wc.cell? ⟨gb123, 0, none⟩ = some (.int .i64 a0_0) := (blk_cell BK123.out 0).trans rfl
         have hcz20_1 : wc.cell? ⟨gb123, 1, none⟩ = some (.int .i64 a0_1) := (blk_cell BK123.out 1).trans rfl
         have hcz20_2 : wc.cell? ⟨gb123, 2, none⟩ = some (.int .u64 a0_2) := (blk_cell BK123.out 2).trans rfl
         have hcz20_3 : wc.cell? ⟨gb123, 3, none⟩ = some (.int .u64 a0_3) := (blk_cell BK123.out 3).trans rfl
         have hcz20_4 : wc.cell? ⟨gb123, 4, none⟩ = some (.int .u64 a0_4) := (blk_cell BK123.out 4).trans rfl
         have hcz20_5 : wc.cell? ⟨gb123, 5, none⟩ = some (.string a0_5) := (blk_cell BK123.out 5).trans rfl
         have hfz20_0 := blk_frozen BK123.out 0
         have hfz20_1 := blk_frozen BK123.out 1
         have hfz20_2 := blk_frozen BK123.out 2
         have hfz20_3 := blk_frozen BK123.out 3
         have hfz20_4 := blk_frozen BK123.out 4
         have hfz20_5 := blk_frozen BK123.out 5
         go_wp2
         go_meet
         case rel => exact ⟨_, (x3_1), (by first | rfl | (simp; done) | (simp [*]; done)), H', ⟨by have := HJ1.out; first | omega | exact Nat.le_refl _⟩, ⟨by (with_reducible repeat (first | refine blk_drewN ?_ _ | refine blk_drew ?_ | refine blk_alloc ?_ _)); exact BK123.out⟩, ⟨by repeat (first | (with_reducible first | exact HB.out | apply below_alloc | apply pw_below_drewN | apply below_drew1 | refine below_set ?_ GE123.out) | exact HB.out)⟩⟩
        ·
         rw [if_neg c19] at H
         have c19b0 : (a0_0 == 6) = false := beq_eq_false_iff_ne.mpr c19
         have c19b1 : (a0_0 != 6) = true := bne_iff_ne.mpr c19
         have H' := Aside0.mk H
         clear H
         have hcz21_0 : wc.cell? ⟨gb123, 0, none⟩ = some (.int .i64 a0_0) := (blk_cell BK123.out 0).trans rfl
         have hcz21_1 : wc.cell? ⟨gb123, 1, none⟩ = some (.int .i64 a0_1) := (blk_cell BK123.out 1).trans rfl
         have hcz21_2 : wc.cell? ⟨gb123, 2, none⟩ = some (.int .u64 a0_2) := (blk_cell BK123.out 2).trans rfl
         have hcz21_3 : wc.cell? ⟨gb123, 3, none⟩ = some (.int .u64 a0_3) := (blk_cell BK123.out 3).trans rfl
         have hcz21_4 : wc.cell? ⟨gb123, 4, none⟩ = some (.int .u64 a0_4) := (blk_cell BK123.out 4).trans rfl
         have hcz21_5 : wc.cell? ⟨gb123, 5, none⟩ = some (.string a0_5) := (blk_cell BK123.out 5).trans rfl
         have hfz21_0 := blk_frozen BK123.out 0
         have hfz21_1 := blk_frozen BK123.out 1
         have hfz21_2 := blk_frozen BK123.out 2
         have hfz21_3 := blk_frozen BK123.out 3
         have hfz21_4 := blk_frozen BK123.out 4
         have hfz21_5 := blk_frozen BK123.out 5
         go_wp2
         go_meet
         case rel => exact ⟨_, (false), (by first | rfl | (simp; done) | (simp [*]; done)), H', ⟨by have := HJ1.out; first | omega | exact Nat.le_refl _⟩, ⟨by (with_reducible repeat (first | refine blk_drewN ?_ _ | refine blk_drew ?_ | refine blk_alloc ?_ _)); exact BK123.out⟩, ⟨by repeat (first | (with_reducible first | exact HB.out | apply below_alloc | apply pw_below_drewN | apply below_drew1 | refine below_set ?_ GE123.out) | exact HB.out)⟩⟩
       ·
        rw [if_neg c18] at H
        have c18b0 : (a0_1 == 3) = false := beq_eq_false_iff_ne.mpr c18
        have c18b1 : (a0_1 != 3) = true := bne_iff_ne.mpr c18
        have H' := Aside0.mk H
        clear H
        have hcz22_0 : wc.cell? ⟨gb123, 0, none⟩ = some (.int .i64 a0_0) := (blk_cell BK123.out 0).trans rfl
        have hcz22_1 : wc.cell? ⟨gb123, 1, none⟩ = some (.int .i64 a0_1) := (blk_cell BK123.out 1).trans rfl
        have hcz22_2 : wc.cell? ⟨gb123, 2, none⟩ = some (.int .u64 a0_2) := (blk_cell BK123.out 2).trans rfl
        have hcz22_3 : wc.cell? ⟨gb123, 3, none⟩ = some (.int .u64 a0_3) := (blk_cell BK123.out 3).trans rfl
        have hcz22_4 : wc.cell? ⟨gb123, 4, none⟩ = some (.int .u64 a0_4) := (blk_cell BK123.out 4).trans rfl
        have hcz22_5 : wc.cell? ⟨gb123, 5, none⟩ = some (.string a0_5) := (blk_cell BK123.out 5).trans rfl
        have hfz22_0 := blk_frozen BK123.out 0
        have hfz22_1 := blk_frozen BK123.out 1
        have hfz22_2 := blk_frozen BK123.out 2
        have hfz22_3 := blk_frozen BK123.out 3
        have hfz22_4 := blk_frozen BK123.out 4
        have hfz22_5 := blk_frozen BK123.out 5
        go_wp2
        go_meet
        case rel => exact ⟨_, (false), (by first | rfl | (simp; done) | (simp [*]; done)), H', ⟨by have := HJ1.out; first | omega | exact Nat.le_refl _⟩, ⟨by (with_reducible repeat (first | refine blk_drewN ?_ _ | refine blk_drew ?_ | refine blk_alloc ?_ _)); exact BK123.out⟩, ⟨by repeat (first | (with_reducible first | exact HB.out | apply below_alloc | apply pw_below_drewN | apply below_drew1 | refine below_set ?_ GE123.out) | exact HB.out)⟩⟩
      ·
       rw [if_neg c17] at H
       have c17b0 : (a0_0 == 4) = false := beq_eq_false_iff_ne.mpr c17
       have c17b1 : (a0_0 != 4) = true := bne_iff_ne.mpr c17
       by_cases c23 : a0_0 = 6
       ·
        rw [if_pos c23] at H
        have c23b0 : (a0_0 == 6) = true := beq_iff_eq.mpr c23
        have c23b1 : (a0_0 != 6) = false := bne_eq_false_iff_eq.mpr c23
        clear c23
        by_cases c24 : a0_1 = 3
        ·
         rw [if_pos c24] at H
         have c24b0 : (a0_1 == 3) = true := beq_iff_eq.mpr c24
         have c24b1 : (a0_1 != 3) = false := bne_eq_false_iff_eq.mpr c24
         clear c24
         have H' := Aside0.mk H
         clear H
         have hcz25_0 : wc.cell? ⟨gb123, 0, none⟩ = some (.int .i64 a0_0) := (blk_cell BK123.out 0).trans rfl
         have hcz25_1 : wc.cell? ⟨gb123, 1, none⟩ = some (.int .i64 a0_1) := (blk_cell BK123.out 1).trans rfl
         have hcz25_2 : wc.cell? ⟨gb123, 2, none⟩ = some (.int .u64 a0_2) := (blk_cell BK123.out 2).trans rfl
         have hcz25_3 : wc.cell? ⟨gb123, 3, none⟩ = some (.int .u64 a0_3) := (blk_cell BK123.out 3).trans rfl
         have hcz25_4 : wc.cell? ⟨gb123, 4, none⟩ = some (.int .u64 a0_4) := (blk_cell BK123.out 4).trans rfl
         have hcz25_5 : wc.cell? ⟨gb123, 5, none⟩ = some (.string a0_5) := (blk_cell BK123.out 5).trans rfl
         have hfz25_0 := blk_frozen BK123.out 0
         have hfz25_1 := blk_frozen BK123.out 1
         have hfz25_2 := blk_frozen BK123.out 2
         have hfz25_3 := blk_frozen BK123.out 3
         have hfz25_4 := blk_frozen BK123.out 4
         have hfz25_5 := blk_frozen BK123.out 5
         go_wp2
         go_meet
         case rel => exact ⟨_, (x3_1), (by first | rfl | (simp; done) | (simp [*]; done)), H', ⟨by have := HJ1.out; first | omega | exact Nat.le_refl _⟩, ⟨by (with_reducible repeat (first | refine blk_drewN ?_ _ | refine blk_drew ?_ | refine blk_alloc ?_ _)); exact BK123.out⟩, ⟨by repeat (first | (with_reducible first | exact HB.out | apply below_alloc | apply pw_below_drewN | apply below_drew1 | refine below_set ?_ GE123.out) | exact HB.out)⟩⟩
        ·
         rw [if_neg c24] at H
         have c24b0 : (a0_1 == 3) = false := beq_eq_false_iff_ne.mpr c24
         have c24b1 : (a0_1 != 3) = true := bne_iff_ne.mpr c24
         have H' := Aside0.mk H
         clear H
         have hcz26_0 : wc.cell? ⟨gb123, 0, none⟩ = some (.int .i64 a0_0) := (blk_cell BK123.out 0).trans rfl
         have hcz26_1 : wc.cell? ⟨gb123, 1, none⟩ = some (.int .i64 a0_1) := (blk_cell BK123.out 1).trans rfl
         have hcz26_2 : wc.cell? ⟨gb123, 2, none⟩ = some (.int .u64 a0_2) := (blk_cell BK123.out 2).trans rfl
         have hcz26_3 : wc.cell? ⟨gb123, 3, none⟩ = some (.int .u64 a0_3) := (blk_cell BK123.out 3).trans rfl
         have hcz26_4 : wc.cell? ⟨gb123, 4, none⟩ = some (.int .u64 a0_4) := (blk_cell BK123.out 4).trans rfl
         have hcz26_5 : wc.cell? ⟨gb123, 5, none⟩ = some (.string a0_5) := (blk_cell BK123.out 5).trans rfl
         have hfz26_0 := blk_frozen BK123.out 0
         have hfz26_1 := blk_frozen BK123.out 1
         have hfz26_2 := blk_frozen BK123.out 2
         have hfz26_3 := blk_frozen BK123.out 3
         have hfz26_4 := blk_frozen BK123.out 4
         have hfz26_5 := blk_frozen BK123.out 5
         go_wp2
         go_meet
         case rel => exact ⟨_, (false), (by first | rfl | (simp; done) | (simp [*]; done)), H', ⟨by have := HJ1.out; first | omega | exact Nat.le_refl _⟩, ⟨by (with_reducible repeat (first | refine blk_drewN ?_ _ | refine blk_drew ?_ | refine blk_alloc ?_ _)); exact BK123.out⟩, ⟨by repeat (first | (with_reducible first | exact HB.out | apply below_alloc | apply pw_below_drewN | apply below_drew1 | refine below_set ?_ GE123.out) | exact HB.out)⟩⟩
       ·
        rw [if_neg c23] at H
        have c23b0 : (a0_0 == 6) = false := beq_eq_false_iff_ne.mpr c23
        have c23b1 : (a0_0 != 6) = true := bne_iff_ne.mpr c23
        have H' := Aside0.mk H
        clear H
        have hcz27_0 : wc.cell? ⟨gb123, 0, none⟩ = some (.int .i64 a0_0) := (blk_cell BK123.out 0).trans rfl
        have hcz27_1 : wc.cell? ⟨gb123, 1, none⟩ = some (.int .i64 a0_1) := (blk_cell BK123.out 1).trans rfl
        have hcz27_2 : wc.cell? ⟨gb123, 2, none⟩ = some (.int .u64 a0_2) := (blk_cell BK123.out 2).trans rfl
        have hcz27_3 : wc.cell? ⟨gb123, 3, none⟩ = some (.int .u64 a0_3) := (blk_cell BK123.out 3).trans rfl
        have hcz27_4 : wc.cell? ⟨gb123, 4, none⟩ = some (.int .u64 a0_4) := (blk_cell BK123.out 4).trans rfl
        have hcz27_5 : wc.cell? ⟨gb123, 5, none⟩ = some (.string a0_5) := (blk_cell BK123.out 5).trans rfl
        have hfz27_0 := blk_frozen BK123.out 0
        have hfz27_1 := blk_frozen BK123.out 1
        have hfz27_2 := blk_frozen BK123.out 2
        have hfz27_3 := blk_frozen BK123.out 3
        have hfz27_4 := blk_frozen BK123.out 4
        have hfz27_5 := blk_frozen BK123.out 5
        go_wp2
        go_meet
        case rel => exact ⟨_, (true), (by first | rfl | (simp; done) | (simp [*]; done)), H', ⟨by have := HJ1.out; first | omega | exact Nat.le_refl _⟩, ⟨by (with_reducible repeat (first | refine blk_drewN ?_ _ | refine blk_drew ?_ | refine blk_alloc ?_ _)); exact BK123.out⟩, ⟨by repeat (first | (with_reducible first | exact HB.out | apply below_alloc | apply pw_below_drewN | apply below_drew1 | refine below_set ?_ GE123.out) | exact HB.out)⟩⟩
    ·
     rw [if_neg c10] at H
     have c10b0 : (a0_1 == 0) = false := beq_eq_false_iff_ne.mpr c10
     have c10b1 : (a0_1 != 0) = true := bne_iff_ne.mpr c10
     (first | rw [c10b0] | (simp only [i64_w, i32_w]; rw [c10b0]) | skip)
     by_cases c28 : a0_1 = 3
     ·
      rw [if_pos c28] at H
      have c28b0 : (a0_1 == 3) = true := beq_iff_eq.mpr c28
      have c28b1 : (a0_1 != 3) = false := bne_eq_false_iff_eq.mpr c28
      clear c28
      by_cases c29 : a0_0 = 6
      ·
       rw [if_pos c29] at H
       have c29b0 : (a0_0 == 6) = true := beq_iff_eq.mpr c29
       have c29b1 : (a0_0 != 6) = false := bne_eq_false_iff_eq.mpr c29
       clear c29
       have H' := Aside0.mk H
       clear H
       have hcz30_0 : wc.cell? ⟨gb123, 0, none⟩ = some (.int .i64 a0_0) := (blk_cell BK123.out 0).trans rfl
       have hcz30_1 : wc.cell? ⟨gb123, 1, none⟩ = some (.int .i64 a0_1) := (blk_cell BK123.out 1).trans rfl
       have hcz30_2 : wc.cell? ⟨gb123, 2, none⟩ = some (.int .u64 a0_2) := (blk_cell BK123.out 2).trans rfl
       have hcz30_3 : wc.cell? ⟨gb123, 3, none⟩ = some (.int .u64 a0_3) := (blk_cell BK123.out 3).trans rfl
       have hcz30_4 : wc.cell? ⟨gb123, 4, none⟩ = some (.int .u64 a0_4) := (blk_cell BK123.out 4).trans rfl
       have hcz30_5 : wc.cell? ⟨gb123, 5, none⟩ = some (.string a0_5) := (blk_cell BK123.out 5).trans rfl
       have hfz30_0 := blk_frozen BK123.out 0
       have hfz30_1 := blk_frozen BK123.out 1
       have hfz30_2 := blk_frozen BK123.out 2
       have hfz30_3 := blk_frozen BK123.out 3
       have hfz30_4 := blk_frozen BK123.out 4
       have hfz30_5 := blk_frozen BK123.out 5
       go_wp2
       go_meet
       case rel => exact ⟨_, (x3_1), (by first | rfl | (simp; done) | (simp [*]; done)), H', ⟨by have := HJ1.out; first | omega | exact Nat.le_refl _⟩, ⟨by (with_reducible repeat (first | refine blk_drewN ?_ _ | refine blk_drew ?_ | refine blk_alloc ?_ _)); exact BK123.out⟩, ⟨by repeat (first | (with_reducible first | exact HB.out | apply below_alloc | apply pw_below_drewN | apply below_drew1 | refine below_set ?_ GE123.out) | exact HB.out)⟩⟩
      ·
       rw [if_neg c29] at H
       have c29b0 : (a0_0 == 6) = false := beq_eq_false_iff_ne.mpr c29
       have c29b1 : (a0_0 != 6) = true := bne_iff_ne.mpr c29
       have H' := Aside0.mk H
       clear H
       have hcz31_0 : wc.cell? ⟨gb123, 0, none⟩ = some (.int .i64 a0_0) := (blk_cell BK123.out 0).trans rfl
       have hcz31_1 : wc.cell? ⟨gb123, 1, none⟩ = some (.int .i64 a0_1) := (blk_cell BK123.out 1).trans rfl
       have hcz31_2 : wc.cell? ⟨gb123, 2, none⟩ = some (.int .u64 a0_2) := (blk_cell BK123.out 2).trans rfl
       have hcz31_3 : wc.cell? ⟨gb123, 3, none⟩ = some (.int .u64 a0_3) := (blk_cell BK123.out 3).trans rfl
       have hcz31_4 : wc.cell? ⟨gb123, 4, none⟩ = some (.int .u64 a0_4) := (blk_cell BK123.out 4).trans rfl
       have hcz31_5 : wc.cell? ⟨gb123, 5, none⟩ = some (.string a0_5) := (blk_cell BK123.out 5).trans rfl
       have hfz31_0 := blk_frozen BK123.out 0
       have hfz31_1 := blk_frozen BK123.out 1
       have hfz31_2 := blk_frozen BK123.out 2
       have hfz31_3 := blk_frozen BK123.out 3
       have hfz31_4 := blk_frozen BK123.out 4
       have hfz31_5 := blk_frozen BK123.out 5
       go_wp2
       go_meet
       case rel => exact ⟨_, (false), (by first | rfl | (simp; done) | (simp [*]; done)), H', ⟨by have := HJ1.out; first | omega | exact Nat.le_refl _⟩, ⟨by (with_reducible repeat (first | refine blk_drewN ?_ _ | refine blk_drew ?_ | refine blk_alloc ?_ _)); exact BK123.out⟩, ⟨by repeat (first | (with_reducible first | exact HB.out | apply below_alloc | apply pw_below_drewN | apply below_drew1 | refine below_set ?_ GE123.out) | exact HB.out)⟩⟩
     ·
      rw [if_neg c28] at H
      have c28b0 : (a0_1 == 3) = false := beq_eq_false_iff_ne.mpr c28
      have c28b1 : (a0_1 != 3) = true := bne_iff_ne.mpr c28
      have H' := Aside0.mk H
      clear H
      have hcz32_0 : wc.cell? ⟨gb123, 0, none⟩ = some (.int .i64 a0_0) := (blk_cell BK123.out 0).trans rfl
      have hcz32_1 : wc.cell? ⟨gb123, 1, none⟩ = some (.int .i64 a0_1) := (blk_cell BK123.out 1).trans rfl
      have hcz32_2 : wc.cell? ⟨gb123, 2, none⟩ = some (.int .u64 a0_2) := (blk_cell BK123.out 2).trans rfl
      have hcz32_3 : wc.cell? ⟨gb123, 3, none⟩ = some (.int .u64 a0_3) := (blk_cell BK123.out 3).trans rfl
      have hcz32_4 : wc.cell? ⟨gb123, 4, none⟩ = some (.int .u64 a0_4) := (blk_cell BK123.out 4).trans rfl
      have hcz32_5 : wc.cell? ⟨gb123, 5, none⟩ = some (.string a0_5) := (blk_cell BK123.out 5).trans rfl
      have hfz32_0 := blk_frozen BK123.out 0
      have hfz32_1 := blk_frozen BK123.out 1
      have hfz32_2 := blk_frozen BK123.out 2
      have hfz32_3 := blk_frozen BK123.out 3
      have hfz32_4 := blk_frozen BK123.out 4
      have hfz32_5 := blk_frozen BK123.out 5
      go_wp2
      go_meet
      case rel => exact ⟨_, (false), (by first | rfl | (simp; done) | (simp [*]; done)), H', ⟨by have := HJ1.out; first | omega | exact Nat.le_refl _⟩, ⟨by (with_reducible repeat (first | refine blk_drewN ?_ _ | refine blk_drew ?_ | refine blk_alloc ?_ _)); exact BK123.out⟩, ⟨by repeat (first | (with_reducible first | exact HB.out | apply below_alloc | apply pw_below_drewN | apply below_drew1 | refine below_set ?_ GE123.out) | exact HB.out)⟩⟩
   case rest =>
    clear HC9
    try clear c1
    try clear c2
    try clear p2
    try clear c4
    try clear c4b0
    try clear c4b1
    try clear c5
    try clear c5b0
    try clear c5b1
    try clear c10
    try clear c10b0
    try clear c10b1
    try clear c11
    try clear c11b0
    try clear c11b1
    try clear c12
    try clear c12b0
    try clear c12b1
    try clear c13
    try clear c13b0
    try clear c13b1
    try clear c15
    try clear c17
    try clear c17b0
    try clear c17b1
    try clear c18
    try clear c18b0
    try clear c18b1
    try clear c19
    try clear c19b0
    try clear c19b1
    try clear c23
    try clear c23b0
    try clear c23b1
    try clear c24
    try clear c24b0
    try clear c24b1
    try clear c28
    try clear c28b0
    try clear c28b1
    try clear c29
    try clear c29b0
    try clear c29b1
    try clear hcz14_0
    try clear hcz14_1
    try clear hcz14_2
    try clear hcz14_3
    try clear hcz14_4
    try clear hcz14_5
    try clear hcz15_0
    try clear hcz15_1
    try clear hcz15_2
    try clear hcz15_3
    try clear hcz15_4
    try clear hcz15_5
    try clear hcz16_0
    try clear hcz16_1
    try clear hcz16_2
    try clear hcz16_3
    try clear hcz16_4
    try clear hcz16_5
    try clear hcz20_0
    try clear hcz20_1
    try clear hcz20_2
    try clear hcz20_3
    try clear hcz20_4
    try clear hcz20_5
    try clear hcz21_0
    try clear hcz21_1
    try clear hcz21_2
    try clear hcz21_3
    try clear hcz21_4
    try clear hcz21_5
    try clear hcz22_0
    try clear hcz22_1
    try clear hcz22_2
    try clear hcz22_3
    try clear hcz22_4
    try clear hcz22_5
    try clear hcz25_0
    try clear hcz25_1
    try clear hcz25_2
    try clear hcz25_3
    try clear hcz25_4
    try clear hcz25_5
    try clear hcz26_0
    try clear hcz26_1
    try clear hcz26_2
    try clear hcz26_3
    try clear hcz26_4
    try clear hcz26_5
    try clear hcz27_0
    try clear hcz27_1
    try clear hcz27_2
    try clear hcz27_3
    try clear hcz27_4
    try clear hcz27_5
    try clear hcz30_0
    try clear hcz30_1
    try clear hcz30_2
    try clear hcz30_3
    try clear hcz30_4
    try clear hcz30_5
    try clear hcz31_0
    try clear hcz31_1
    try clear hcz31_2
    try clear hcz31_3
    try clear hcz31_4
    try clear hcz31_5
    try clear hcz32_0
    try clear hcz32_1
    try clear hcz32_2
    try clear hcz32_3
    try clear hcz32_4
    try clear hcz32_5
    try clear hcz6_0
    try clear hcz6_1
    try clear hcz6_2
    try clear hcz6_3
    try clear hcz6_4
    try clear hcz6_5
    try clear hcz7_0
    try clear hcz7_1
    try clear hcz7_2
    try clear hcz7_3
    try clear hcz7_4
    try clear hcz7_5
    try clear hcz8_0
    try clear hcz8_1
    try clear hcz8_2
    try clear hcz8_3
    try clear hcz8_4
    try clear hcz8_5
    try clear hfz14_0
    try clear hfz14_1
    try clear hfz14_2
    try clear hfz14_3
    try clear hfz14_4
    try clear hfz14_5
    try clear hfz15_0
    try clear hfz15_1
    try clear hfz15_2
    try clear hfz15_3
    try clear hfz15_4
    try clear hfz15_5
    try clear hfz16_0
    try clear hfz16_1
    try clear hfz16_2
    try clear hfz16_3
    try clear hfz16_4
    try clear hfz16_5
    try clear hfz20_0
    try clear hfz20_1
    try clear hfz20_2
    try clear hfz20_3
    try clear hfz20_4
    try clear hfz20_5
    try clear hfz21_0
    try clear hfz21_1
    try clear hfz21_2
    try clear hfz21_3
    try clear hfz21_4
    try clear hfz21_5
    try clear hfz22_0
    try clear hfz22_1
    try clear hfz22_2
    try clear hfz22_3
    try clear hfz22_4
    try clear hfz22_5
    try clear hfz25_0
    try clear hfz25_1
    try clear hfz25_2
    try clear hfz25_3
    try clear hfz25_4
    try clear hfz25_5
    try clear hfz26_0
    try clear hfz26_1
    try clear hfz26_2
    try clear hfz26_3
    try clear hfz26_4
    try clear hfz26_5
    try clear hfz27_0
    try clear hfz27_1
    try clear hfz27_2
    try clear hfz27_3
    try clear hfz27_4
    try clear hfz27_5
    try clear hfz30_0
    try clear hfz30_1
    try clear hfz30_2
    try clear hfz30_3
    try clear hfz30_4
    try clear hfz30_5
    try clear hfz31_0
    try clear hfz31_1
    try clear hfz31_2
    try clear hfz31_3
    try clear hfz31_4
    try clear hfz31_5
    try clear hfz32_0
    try clear hfz32_1
    try clear hfz32_2
    try clear hfz32_3
    try clear hfz32_4
    try clear hfz32_5
    try clear hfz6_0
    try clear hfz6_1
    try clear hfz6_2
    try clear hfz6_3
    try clear hfz6_4
    try clear hfz6_5
    try clear hfz7_0
    try clear hfz7_1
    try clear hfz7_2
    try clear hfz7_3
    try clear hfz7_4
    try clear hfz7_5
    try clear hfz8_0
    try clear hfz8_1
    try clear hfz8_2
    try clear hfz8_3
    try clear hfz8_4
    try clear hfz8_5
    try clear p2
    obtain ⟨kq, x17_8, rfl, HA, HJ8, BK123, HB⟩ := hcut
    cases kq with
    | zero => exact absurd HA.out (by simp [spec_GoodTerm.j1])
    | succ kj8 =>
     have H := HA.out
     clear HA
     simp only [spec_GoodTerm.j1] at H
     by_cases c33 : x17_8 = true
     ·
      subst c33
      have H1 : (some false) = some r := by rw [if_pos rfl] at H; exact H
      clear H
      have H := H1
      clear H1
      obtain rfl := Option.some.inj H
      go_wp2
      go_ret
      exact ⟨by first | rfl | (simp [errW_none, errW_some] <;> rfl) | (simp [*, errW_none, errW_some] <;> rfl) | (simp [bneNil]; done), by repeat (first | (with_reducible first | exact HB.out | apply below_alloc | apply pw_below_drewN | apply below_drew1 | refine below_set ?_ GE123.out) | exact HB.out)⟩
     ·
      replace c33 := Bool.eq_false_iff.mpr c33
      subst c33
      have H1 : (if a0_0 < 0 then (spec_GoodTerm.j2 kj8 true a0_0 a0_1 a0_2 a0_3 a0_4 a0_5) else (if a0_0 ≥ 8 then (spec_GoodTerm.j2 kj8 true a0_0 a0_1 a0_2 a0_3 a0_4 a0_5) else (if a0_1 < 0 then (spec_GoodTerm.j2 kj8 true a0_0 a0_1 a0_2 a0_3 a0_4 a0_5) else (spec_GoodTerm.j2 kj8 (decide (a0_1 > 3)) a0_0 a0_1 a0_2 a0_3 a0_4 a0_5)))) = some r := by rw [if_neg (show ¬ (false = true) by decide)] at H; exact H
      clear H
      have H := H1
      clear H1
      have HC34 := Aside0.mk H
      clear H
      go_upto_region 4 with (fail)
      go_cut [49] (fun v49 wc => ∃ (kq : Nat) (x49_33 : Bool), v49 = .bool x49_33 ∧ Aside0 (spec_GoodTerm.j2 kq x49_33 a0_0 a0_1 a0_2 a0_3 a0_4 a0_5 = some r) ∧ Aside0 (kq ≤ kj8) ∧ Aside0 (wc.heap[gb123]? = some (.cells #[.int .i64 a0_0, .int .i64 a0_1, .int .u64 a0_2, .int .u64 a0_3, .int .u64 a0_4, .string a0_5] 24 (0, 0))) ∧ Aside0 (Below w.heap.size w wc))
      case first =>
       have H := HC34.out
       clear HC34
       by_cases c35 : a0_0 < 0
       ·
        rw [if_pos c35] at H
        have c35b0 : decide (a0_0 < 0) = true := decide_eq_true c35
        clear c35
        (first | rw [c35b0] | (simp only [i64_w, i32_w]; rw [c35b0]) | skip)
        have H' := Aside0.mk H
        clear H
        have hcz36_0 : wc.cell? ⟨gb123, 0, none⟩ = some (.int .i64 a0_0) := (blk_cell BK123.out 0).trans rfl
        have hcz36_1 : wc.cell? ⟨gb123, 1, none⟩ = some (.int .i64 a0_1) := (blk_cell BK123.out 1).trans rfl
        have hcz36_2 : wc.cell? ⟨gb123, 2, none⟩ = some (.int .u64 a0_2) := (blk_cell BK123.out 2).trans rfl
        have hcz36_3 : wc.cell? ⟨gb123, 3, none⟩ = some (.int .u64 a0_3) := (blk_cell BK123.out 3).trans rfl
        have hcz36_4 : wc.cell? ⟨gb123, 4, none⟩ = some (.int .u64 a0_4) := (blk_cell BK123.out 4).trans rfl
        have hcz36_5 : wc.cell? ⟨gb123, 5, none⟩ = some (.string a0_5) := (blk_cell BK123.out 5).trans rfl
        have hfz36_0 := blk_frozen BK123.out 0
        have hfz36_1 := blk_frozen BK123.out 1
        have hfz36_2 := blk_frozen BK123.out 2
        have hfz36_3 := blk_frozen BK123.out 3
        have hfz36_4 := blk_frozen BK123.out 4
        have hfz36_5 := blk_frozen BK123.out 5
        go_wp2
        go_meet
        case rel => exact ⟨_, (true), (by first | rfl | (simp; done) | (simp [*]; done)), H', ⟨by have := HJ1.out; have := HJ8.out; first | omega | exact Nat.le_refl _⟩, ⟨by (with_reducible repeat (first | refine blk_drewN ?_ _ | refine blk_drew ?_ | refine blk_alloc ?_ _)); exact BK123.out⟩, ⟨by repeat (first | (with_reducible first | exact HB.out | apply below_alloc | apply pw_below_drewN | apply below_drew1 | refine below_set ?_ GE123.out) | exact HB.out)⟩⟩
       ·
        rw [if_neg c35] at H
        have c35b0 : decide (a0_0 < 0) = false := decide_eq_false c35
        clear c35
        (first | rw [c35b0] | (simp only [i64_w, i32_w]; rw [c35b0]) | skip)
        by_cases c37 : a0_0 ≥ 8
        ·
         rw [if_pos c37] at H
         have c37b0 : decide (8 ≤ a0_0) = true := decide_eq_true c37
         clear c37
         have H' := Aside0.mk H
         clear H
         have hcz38_0 : wc.cell? ⟨gb123, 0, none⟩ = some (.int .i64 a0_0) := (blk_cell BK123.out 0).trans rfl
         have hcz38_1 : wc.cell? ⟨gb123, 1, none⟩ = some (.int .i64 a0_1) := (blk_cell BK123.out 1).trans rfl
         have hcz38_2 : wc.cell? ⟨gb123, 2, none⟩ = some (.int .u64 a0_2) := (blk_cell BK123.out 2).trans rfl
         have hcz38_3 : wc.cell? ⟨gb123, 3, none⟩ = some (.int .u64 a0_3) := (blk_cell BK123.out 3).trans rfl
         have hcz38_4 : wc.cell? ⟨gb123, 4, none⟩ = some (.int .u64 a0_4) := (blk_cell BK123.out 4).trans rfl
         have hcz38_5 : wc.cell? ⟨gb123, 5, none⟩ = some (.string a0_5) := (blk_cell BK123.out 5).trans rfl
         have hfz38_0 := blk_frozen BK123.out 0
         have hfz38_1 := blk_frozen BK123.out 1
         have hfz38_2 := blk_frozen BK123.out 2
         have hfz38_3 := blk_frozen BK123.out 3
         have hfz38_4 := blk_frozen BK123.out 4
         have hfz38_5 := blk_frozen BK123.out 5
         go_wp2
         go_meet
         case rel => exact ⟨_, (true), (by first | rfl | (simp; done) | (simp [*]; done)), H', ⟨by have := HJ1.out; have := HJ8.out; first | omega | exact Nat.le_refl _⟩, ⟨by (with_reducible repeat (first | refine blk_drewN ?_ _ | refine blk_drew ?_ | refine blk_alloc ?_ _)); exact BK123.out⟩, ⟨by repeat (first | (with_reducible first | exact HB.out | apply below_alloc | apply pw_below_drewN | apply below_drew1 | refine below_set ?_ GE123.out) | exact HB.out)⟩⟩
        ·
         rw [if_neg c37] at H
         have c37b0 : decide (8 ≤ a0_0) = false := decide_eq_false c37
         clear c37
         by_cases c39 : a0_1 < 0
         ·
          rw [if_pos c39] at H
          have c39b0 : decide (a0_1 < 0) = true := decide_eq_true c39
          clear c39
          have H' := Aside0.mk H
          clear H
          have hcz40_0 : wc.cell? ⟨gb123, 0, none⟩ = some (.int .i64 a0_0) := (blk_cell BK123.out 0).trans rfl
          have hcz40_1 : wc.cell? ⟨gb123, 1, none⟩ = some (.int .i64 a0_1) := (blk_cell BK123.out 1).trans rfl
          have hcz40_2 : wc.cell? ⟨gb123, 2, none⟩ = some (.int .u64 a0_2) := (blk_cell BK123.out 2).trans rfl
          have hcz40_3 : wc.cell? ⟨gb123, 3, none⟩ = some (.int .u64 a0_3) := (blk_cell BK123.out 3).trans rfl
          have hcz40_4 : wc.cell? ⟨gb123, 4, none⟩ = some (.int .u64 a0_4) := (blk_cell BK123.out 4).trans rfl
          have hcz40_5 : wc.cell? ⟨gb123, 5, none⟩ = some (.string a0_5) := (blk_cell BK123.out 5).trans rfl
          have hfz40_0 := blk_frozen BK123.out 0
          have hfz40_1 := blk_frozen BK123.out 1
          have hfz40_2 := blk_frozen BK123.out 2
          have hfz40_3 := blk_frozen BK123.out 3
          have hfz40_4 := blk_frozen BK123.out 4
          have hfz40_5 := blk_frozen BK123.out 5
          go_wp2
          go_meet
          case rel => exact ⟨_, (true), (by first | rfl | (simp; done) | (simp [*]; done)), H', ⟨by have := HJ1.out; have := HJ8.out; first | omega | exact Nat.le_refl _⟩, ⟨by (with_reducible repeat (first | refine blk_drewN ?_ _ | refine blk_drew ?_ | refine blk_alloc ?_ _)); exact BK123.out⟩, ⟨by repeat (first | (with_reducible first | exact HB.out | apply below_alloc | apply pw_below_drewN | apply below_drew1 | refine below_set ?_ GE123.out) | exact HB.out)⟩⟩
         ·
          rw [if_neg c39] at H
          have c39b0 : decide (a0_1 < 0) = false := decide_eq_false c39
          clear c39
          have H' := Aside0.mk H
          clear H
          have hcz41_0 : wc.cell? ⟨gb123, 0, none⟩ = some (.int .i64 a0_0) := (blk_cell BK123.out 0).trans rfl
          have hcz41_1 : wc.cell? ⟨gb123, 1, none⟩ = some (.int .i64 a0_1) := (blk_cell BK123.out 1).trans rfl
          have hcz41_2 : wc.cell? ⟨gb123, 2, none⟩ = some (.int .u64 a0_2) := (blk_cell BK123.out 2).trans rfl
          have hcz41_3 : wc.cell? ⟨gb123, 3, none⟩ = some (.int .u64 a0_3) := (blk_cell BK123.out 3).trans rfl
          have hcz41_4 : wc.cell? ⟨gb123, 4, none⟩ = some (.int .u64 a0_4) := (blk_cell BK123.out 4).trans rfl
          have hcz41_5 : wc.cell? ⟨gb123, 5, none⟩ = some (.string a0_5) := (blk_cell BK123.out 5).trans rfl
          have hfz41_0 := blk_frozen BK123.out 0
          have hfz41_1 := blk_frozen BK123.out 1
          have hfz41_2 := blk_frozen BK123.out 2
          have hfz41_3 := blk_frozen BK123.out 3
          have hfz41_4 := blk_frozen BK123.out 4
          have hfz41_5 := blk_frozen BK123.out 5
          go_wp2
          go_meet
          case rel => exact ⟨_, (decide (a0_1 > 3)), (by first | rfl | (simp; done) | (simp [*]; done)), H', ⟨by have := HJ1.out; have := HJ8.out; first | omega | exact Nat.le_refl _⟩, ⟨by (with_reducible repeat (first | refine blk_drewN ?_ _ | refine blk_drew ?_ | refine blk_alloc ?_ _)); exact BK123.out⟩, ⟨by repeat (first | (with_reducible first | exact HB.out | apply below_alloc | apply pw_below_drewN | apply below_drew1 | refine below_set ?_ GE123.out) | exact HB.out)⟩⟩
      case rest =>
       clear HC34
       try clear c1
       try clear c2
       try clear p2
       try clear c3
       try clear c4
       try clear c4b0
       try clear c4b1
       try clear c5
       try clear c5b0
       try clear c5b1
       try clear c10
       try clear c10b0
       try clear c10b1
       try clear c11
       try clear c11b0
       try clear c11b1
       try clear c12
       try clear c12b0
       try clear c12b1
       try clear c13
       try clear c13b0
       try clear c13b1
       try clear c15
       try clear c17
       try clear c17b0
       try clear c17b1
       try clear c18
       try clear c18b0
       try clear c18b1
       try clear c19
       try clear c19b0
       try clear c19b1
       try clear c23
       try clear c23b0
       try clear c23b1
       try clear c24
       try clear c24b0
       try clear c24b1
       try clear c28
       try clear c28b0
       try clear c28b1
       try clear c29
       try clear c29b0
       try clear c29b1
       try clear c33
       try clear c35
       try clear c35b0
       try clear c37
       try clear c37b0
       try clear c39
       try clear c39b0
       try clear hcz14_0
       try clear hcz14_1
       try clear hcz14_2
       try clear hcz14_3
       try clear hcz14_4
       try clear hcz14_5
       try clear hcz15_0
       try clear hcz15_1
       try clear hcz15_2
       try clear hcz15_3
       try clear hcz15_4
       try clear hcz15_5
       try clear hcz16_0
       try clear hcz16_1
       try clear hcz16_2
       try clear hcz16_3
       try clear hcz16_4
       try clear hcz16_5
       try clear hcz20_0
       try clear hcz20_1
       try clear hcz20_2
       try clear hcz20_3
       try clear hcz20_4
       try clear hcz20_5
       try clear hcz21_0
       try clear hcz21_1
       try clear hcz21_2
       try clear hcz21_3
       try clear hcz21_4
       try clear hcz21_5
       try clear hcz22_0
       try clear hcz22_1
       try clear hcz22_2
       try clear hcz22_3
       try clear hcz22_4
       try clear hcz22_5
       try clear hcz25_0
       try clear hcz25_1
       try clear hcz25_2
       try clear hcz25_3
       try clear hcz25_4
       try clear hcz25_5
       try clear hcz26_0
       try clear hcz26_1
       try clear hcz26_2
       try clear hcz26_3
       try clear hcz26_4
       try clear hcz26_5
       try clear hcz27_0
       try clear hcz27_1
       try clear hcz27_2
       try clear hcz27_3
       try clear hcz27_4
       try clear hcz27_5
       try clear hcz30_0
       try clear hcz30_1
       try clear hcz30_2
       try clear hcz30_3
       try clear hcz30_4
       try clear hcz30_5
       try clear hcz31_0
       try clear hcz31_1
       try clear hcz31_2
       try clear hcz31_3
       try clear hcz31_4
       try clear hcz31_5
       try clear hcz32_0
       try clear hcz32_1
       try clear hcz32_2
       try clear hcz32_3
       try clear hcz32_4
       try clear hcz32_5
       try clear hcz36_0
       try clear hcz36_1
       try clear hcz36_2
       try clear hcz36_3
       try clear hcz36_4
       try clear hcz36_5
       try clear hcz38_0
       try clear hcz38_1
       try clear hcz38_2
       try clear hcz38_3
       try clear hcz38_4
       try clear hcz38_5
       try clear hcz40_0
       try clear hcz40_1
       try clear hcz40_2
       try clear hcz40_3
       try clear hcz40_4
       try clear hcz40_5
       try clear hcz41_0
       try clear hcz41_1
       try clear hcz41_2
       try clear hcz41_3
       try clear hcz41_4
       try clear hcz41_5
       try clear hcz6_0
       try clear hcz6_1
       try clear hcz6_2
       try clear hcz6_3
       try clear hcz6_4
       try clear hcz6_5
       try clear hcz7_0
       try clear hcz7_1
       try clear hcz7_2
       try clear hcz7_3
       try clear hcz7_4
       try clear hcz7_5
       try clear hcz8_0
       try clear hcz8_1
       try clear hcz8_2
       try clear hcz8_3
       try clear hcz8_4
       try clear hcz8_5
       try clear hfz14_0
       try clear hfz14_1
       try clear hfz14_2
       try clear hfz14_3
       try clear hfz14_4
       try clear hfz14_5
       try clear hfz15_0
       try clear hfz15_1
       try clear hfz15_2
       try clear hfz15_3
       try clear hfz15_4
       try clear hfz15_5
       try clear hfz16_0
       try clear hfz16_1
       try clear hfz16_2
       try clear hfz16_3
       try clear hfz16_4
       try clear hfz16_5
       try clear hfz20_0
       try clear hfz20_1
       try clear hfz20_2
       try clear hfz20_3
       try clear hfz20_4
       try clear hfz20_5
       try clear hfz21_0
       try clear hfz21_1
       try clear hfz21_2
       try clear hfz21_3
       try clear hfz21_4
       try clear hfz21_5
       try clear hfz22_0
       try clear hfz22_1
       try clear hfz22_2
       try clear hfz22_3
       try clear hfz22_4
       try clear hfz22_5
       try clear hfz25_0
       try clear hfz25_1
       try clear hfz25_2
       try clear hfz25_3
       try clear hfz25_4
       try clear hfz25_5
       try clear hfz26_0
       try clear hfz26_1
       try clear hfz26_2
       try clear hfz26_3
       try clear hfz26_4
       try clear hfz26_5
       try clear hfz27_0
       try clear hfz27_1
       try clear hfz27_2
       try clear hfz27_3
       try clear hfz27_4
       try clear hfz27_5
       try clear hfz30_0
       try clear hfz30_1
       try clear hfz30_2
       try clear hfz30_3
       try clear hfz30_4
       try clear hfz30_5
       try clear hfz31_0
       try clear hfz31_1
       try clear hfz31_2
       try clear hfz31_3
       try clear hfz31_4
       try clear hfz31_5
       try clear hfz32_0
       try clear hfz32_1
       try clear hfz32_2
       try clear hfz32_3
       try clear hfz32_4
       try clear hfz32_5
       try clear hfz36_0
       try clear hfz36_1
       try clear hfz36_2
       try clear hfz36_3
       try clear hfz36_4
       try clear hfz36_5
       try clear hfz38_0
       try clear hfz38_1
       try clear hfz38_2
       try clear hfz38_3
       try clear hfz38_4
       try clear hfz38_5
       try clear hfz40_0
       try clear hfz40_1
       try clear hfz40_2
       try clear hfz40_3
       try clear hfz40_4
       try clear hfz40_5
       try clear hfz41_0
       try clear hfz41_1
       try clear hfz41_2
       try clear hfz41_3
       try clear hfz41_4
       try clear hfz41_5
       try clear hfz6_0
       try clear hfz6_1
       try clear hfz6_2
       try clear hfz6_3
       try clear hfz6_4
       try clear hfz6_5
       try clear hfz7_0
       try clear hfz7_1
       try clear hfz7_2
       try clear hfz7_3
       try clear hfz7_4
       try clear hfz7_5
       try clear hfz8_0
       try clear hfz8_1
       try clear hfz8_2
       try clear hfz8_3
       try clear hfz8_4
       try clear hfz8_5
       try clear p2
       obtain ⟨kq, x49_33, rfl, HA, HJ33, BK123, HB⟩ := hcut
       cases kq with
       | zero => exact absurd HA.out (by simp [spec_GoodTerm.j2])
       | succ kj33 =>
        have H := HA.out
        clear HA
        simp only [spec_GoodTerm.j2] at H
        by_cases c42 : x49_33 = true
        ·
         subst c42
         have H1 : (some false) = some r := by rw [if_pos rfl] at H; exact H
         clear H
         have H := H1
         clear H1
         obtain rfl := Option.some.inj H
         go_wp2
         go_ret
         exact ⟨by first | rfl | (simp [errW_none, errW_some] <;> rfl) | (simp [*, errW_none, errW_some] <;> rfl) | (simp [bneNil]; done), by repeat (first | (with_reducible first | exact HB.out | apply below_alloc | apply pw_below_drewN | apply below_drew1 | refine below_set ?_ GE123.out) | exact HB.out)⟩
        ·
         replace c42 := Bool.eq_false_iff.mpr c42
         subst c42
         have H1 : (if a0_1 < 3 then (if a0_4 = 0 then (if a0_5.toList = ([] : List UInt8) then (if a0_1 < 2 then (if a0_3 = 0 then (if a0_1 < 1 then (spec_GoodTerm.j3 kj33 (a0_2 != 0) a0_0 a0_1 a0_2 a0_3 a0_4 a0_5) else (spec_GoodTerm.j3 kj33 false a0_0 a0_1 a0_2 a0_3 a0_4 a0_5)) else (spec_GoodTerm.j3 kj33 true a0_0 a0_1 a0_2 a0_3 a0_4 a0_5)) else (if a0_1 < 1 then (spec_GoodTerm.j3 kj33 (a0_2 != 0) a0_0 a0_1 a0_2 a0_3 a0_4 a0_5) else (spec_GoodTerm.j3 kj33 false a0_0 a0_1 a0_2 a0_3 a0_4 a0_5))) else (spec_GoodTerm.j3 kj33 true a0_0 a0_1 a0_2 a0_3 a0_4 a0_5)) else (spec_GoodTerm.j3 kj33 true a0_0 a0_1 a0_2 a0_3 a0_4 a0_5)) else (if a0_1 < 2 then (if a0_3 = 0 then (if a0_1 < 1 then (spec_GoodTerm.j3 kj33 (a0_2 != 0) a0_0 a0_1 a0_2 a0_3 a0_4 a0_5) else (spec_GoodTerm.j3 kj33 false a0_0 a0_1 a0_2 a0_3 a0_4 a0_5)) else (spec_GoodTerm.j3 kj33 true a0_0 a0_1 a0_2 a0_3 a0_4 a0_5)) else (if a0_1 < 1 then (spec_GoodTerm.j3 kj33 (a0_2 != 0) a0_0 a0_1 a0_2 a0_3 a0_4 a0_5) else (spec_GoodTerm.j3 kj33 false a0_0 a0_1 a0_2 a0_3 a0_4 a0_5)))) = some r := by rw [if_neg (show ¬ (false = true) by decide)] at H; exact H
         clear H
         have H := H1
         clear H1
         have HC43 := Aside0.mk H
         clear H
         go_upto_region 6 with (fail)
         go_cut [68] (fun v68 wc => ∃ (kq : Nat) (x68_42 : Bool), v68 = .bool x68_42 ∧ Aside0 (spec_GoodTerm.j3 kq x68_42 a0_0 a0_1 a0_2 a0_3 a0_4 a0_5 = some r) ∧ Aside0 (kq ≤ kj33) ∧ Aside0 (wc.heap[gb123]? = some (.cells #[.int .i64 a0_0, .int .i64 a0_1, .int .u64 a0_2, .int .u64 a0_3, .int .u64 a0_4, .string a0_5] 24 (0, 0))) ∧ Aside0 (Below w.heap.size w wc))
         case first =>
          have H := HC43.out
          clear HC43
          by_cases c44 : a0_1 < 3
          ·
           rw [if_pos c44] at H
           have c44b0 : decide (a0_1 < 3) = true := decide_eq_true c44
           clear c44
           (first | rw [c44b0] | (simp only [i64_w, i32_w]; rw [c44b0]) | skip)
           by_cases c45 : a0_4 = 0
           ·
            rw [if_pos c45] at H
            have c45b0 : (a0_4 == 0) = true := beq_iff_eq.mpr c45
            have c45b1 : (a0_4 != 0) = false := bne_eq_false_iff_eq.mpr c45
            clear c45
            by_cases c46 : a0_5.toList = ([] : List UInt8)
            ·
             rw [if_pos c46] at H
             have c46b0 : (a0_5.toList == ([] : List UInt8)) = true := beq_iff_eq.mpr c46
             have c46b1 : (a0_5.toList != ([] : List UInt8)) = false := bne_eq_false_iff_eq.mpr c46
             clear c46
             by_cases c47 : a0_1 < 2
             ·
              rw [if_pos c47] at H
              have c47b0 : decide (a0_1 < 2) = true := decide_eq_true c47
              clear c47
              by_cases c48 : a0_3 = 0
              ·
               rw [if_pos c48] at H
               have c48b0 : (a0_3 == 0) = true := beq_iff_eq.mpr c48
               have c48b1 : (a0_3 != 0) = false := bne_eq_false_iff_eq.mpr c48
               clear c48
               by_cases c49 : a0_1 < 1
               ·
                rw [if_pos c49] at H
                have c49b0 : decide (a0_1 < 1) = true := decide_eq_true c49
                clear c49
                have H' := Aside0.mk H
                clear H
                have hcz50_0 : wc.cell? ⟨gb123, 0, none⟩ = some (.int .i64 a0_0) := (blk_cell BK123.out 0).trans rfl
                have hcz50_1 : wc.cell? ⟨gb123, 1, none⟩ = some (.int .i64 a0_1) := (blk_cell BK123.out 1).trans rfl
                have hcz50_2 : wc.cell? ⟨gb123, 2, none⟩ = some (.int .u64 a0_2) := (blk_cell BK123.out 2).trans rfl
                have hcz50_3 : wc.cell? ⟨gb123, 3, none⟩ = some (.int .u64 a0_3) := (blk_cell BK123.out 3).trans rfl
                have hcz50_4 : wc.cell? ⟨gb123, 4, none⟩ = some (.int .u64 a0_4) := (blk_cell BK123.out 4).trans rfl
                have hcz50_5 : wc.cell? ⟨gb123, 5, none⟩ = some (.string a0_5) := (blk_cell BK123.out 5).trans rfl
                have hfz50_0 := blk_frozen BK123.out 0
                have hfz50_1 := blk_frozen BK123.out 1
                have hfz50_2 := blk_frozen BK123.out 2
                have hfz50_3 := blk_frozen BK123.out 3
                have hfz50_4 := blk_frozen BK123.out 4
                have hfz50_5 := blk_frozen BK123.out 5
                go_wp2
                go_meet
                case rel => exact ⟨_, ((a0_2 != 0)), (by first | rfl | (simp; done) | (simp [*]; done)), H', ⟨by have := HJ1.out; have := HJ8.out; have := HJ33.out; first | omega | exact Nat.le_refl _⟩, ⟨by (with_reducible repeat (first | refine blk_drewN ?_ _ | refine blk_drew ?_ | refine blk_alloc ?_ _)); exact BK123.out⟩, ⟨by repeat (first | (with_reducible first | exact HB.out | apply below_alloc | apply pw_below_drewN | apply below_drew1 | refine below_set ?_ GE123.out) | exact HB.out)⟩⟩
               ·
                rw [if_neg c49] at H
                have c49b0 : decide (a0_1 < 1) = false := decide_eq_false c49
                clear c49
                have H' := Aside0.mk H
                clear H
                have hcz51_0 : wc.cell? ⟨gb123, 0, none⟩ = some (.int .i64 a0_0) := (blk_cell BK123.out 0).trans rfl
                have hcz51_1 : wc.cell? ⟨gb123, 1, none⟩ = some (.int .i64 a0_1) := (blk_cell BK123.out 1).trans rfl
                have hcz51_2 : wc.cell? ⟨gb123, 2, none⟩ = some (.int .u64 a0_2) := (blk_cell BK123.out 2).trans rfl
                have hcz51_3 : wc.cell? ⟨gb123, 3, none⟩ = some (.int .u64 a0_3) := (blk_cell BK123.out 3).trans rfl
                have hcz51_4 : wc.cell? ⟨gb123, 4, none⟩ = some (.int .u64 a0_4) := (blk_cell BK123.out 4).trans rfl
                have hcz51_5 : wc.cell? ⟨gb123, 5, none⟩ = some (.string a0_5) := (blk_cell BK123.out 5).trans rfl
                have hfz51_0 := blk_frozen BK123.out 0
                have hfz51_1 := blk_frozen BK123.out 1
                have hfz51_2 := blk_frozen BK123.out 2
                have hfz51_3 := blk_frozen BK123.out 3
                have hfz51_4 := blk_frozen BK123.out 4
                have hfz51_5 := blk_frozen BK123.out 5
                go_wp2
                go_meet
                case rel => exact ⟨_, (false), (by first | rfl | (simp; done) | (simp [*]; done)), H', ⟨by have := HJ1.out; have := HJ8.out; have := HJ33.out; first | omega | exact Nat.le_refl _⟩, ⟨by (with_reducible repeat (first | refine blk_drewN ?_ _ | refine blk_drew ?_ | refine blk_alloc ?_ _)); exact BK123.out⟩, ⟨by repeat (first | (with_reducible first | exact HB.out | apply below_alloc | apply pw_below_drewN | apply below_drew1 | refine below_set ?_ GE123.out) | exact HB.out)⟩⟩
              ·
               rw [if_neg c48] at H
               have c48b0 : (a0_3 == 0) = false := beq_eq_false_iff_ne.mpr c48
               have c48b1 : (a0_3 != 0) = true := bne_iff_ne.mpr c48
               have H' := Aside0.mk H
               clear H
               have hcz52_0 : wc.cell? ⟨gb123, 0, none⟩ = some (.int .i64 a0_0) := (blk_cell BK123.out 0).trans rfl
               have hcz52_1 : wc.cell? ⟨gb123, 1, none⟩ = some (.int .i64 a0_1) := (blk_cell BK123.out 1).trans rfl
               have hcz52_2 : wc.cell? ⟨gb123, 2, none⟩ = some (.int .u64 a0_2) := (blk_cell BK123.out 2).trans rfl
               have hcz52_3 : wc.cell? ⟨gb123, 3, none⟩ = some (.int .u64 a0_3) := (blk_cell BK123.out 3).trans rfl
               have hcz52_4 : wc.cell? ⟨gb123, 4, none⟩ = some (.int .u64 a0_4) := (blk_cell BK123.out 4).trans rfl
               have hcz52_5 : wc.cell? ⟨gb123, 5, none⟩ = some (.string a0_5) := (blk_cell BK123.out 5).trans rfl
               have hfz52_0 := blk_frozen BK123.out 0
               have hfz52_1 := blk_frozen BK123.out 1
               have hfz52_2 := blk_frozen BK123.out 2
               have hfz52_3 := blk_frozen BK123.out 3
               have hfz52_4 := blk_frozen BK123.out 4
               have hfz52_5 := blk_frozen BK123.out 5
               go_wp2
               go_meet
               case rel => exact ⟨_, (true), (by first | rfl | (simp; done) | (simp [*]; done)), H', ⟨by have := HJ1.out; have := HJ8.out; have := HJ33.out; first | omega | exact Nat.le_refl _⟩, ⟨by (with_reducible repeat (first | refine blk_drewN ?_ _ | refine blk_drew ?_ | refine blk_alloc ?_ _)); exact BK123.out⟩, ⟨by repeat (first | (with_reducible first | exact HB.out | apply below_alloc | apply pw_below_drewN | apply below_drew1 | refine below_set ?_ GE123.out) | exact HB.out)⟩⟩
             ·
              rw [if_neg c47] at H
              have c47b0 : decide (a0_1 < 2) = false := decide_eq_false c47
              clear c47
              by_cases c53 : a0_1 < 1
              ·
               rw [if_pos c53] at H
               have c53b0 : decide (a0_1 < 1) = true := decide_eq_true c53
               clear c53
               have H' := Aside0.mk H
               clear H
               have hcz54_0 : wc.cell? ⟨gb123, 0, none⟩ = some (.int .i64 a0_0) := (blk_cell BK123.out 0).trans rfl
               have hcz54_1 : wc.cell? ⟨gb123, 1, none⟩ = some (.int .i64 a0_1) := (blk_cell BK123.out 1).trans rfl
               have hcz54_2 : wc.cell? ⟨gb123, 2, none⟩ = some (.int .u64 a0_2) := (blk_cell BK123.out 2).trans rfl
               have hcz54_3 : wc.cell? ⟨gb123, 3, none⟩ = some (.int .u64 a0_3) := (blk_cell BK123.out 3).trans rfl
               have hcz54_4 : wc.cell? ⟨gb123, 4, none⟩ = some (.int .u64 a0_4) := (blk_cell BK123.out 4).trans rfl
               have hcz54_5 : wc.cell? ⟨gb123, 5, none⟩ = some (.string a0_5) := (blk_cell BK123.out 5).trans rfl
               have hfz54_0 := blk_frozen BK123.out 0
               have hfz54_1 := blk_frozen BK123.out 1
               have hfz54_2 := blk_frozen BK123.out 2
               have hfz54_3 := blk_frozen BK123.out 3
               have hfz54_4 := blk_frozen BK123.out 4
               have hfz54_5 := blk_frozen BK123.out 5
               go_wp2
               go_meet
               case rel => exact ⟨_, ((a0_2 != 0)), (by first | rfl | (simp; done) | (simp [*]; done)), H', ⟨by have := HJ1.out; have := HJ8.out; have := HJ33.out; first | omega | exact Nat.le_refl _⟩, ⟨by (with_reducible repeat (first | refine blk_drewN ?_ _ | refine blk_drew ?_ | refine blk_alloc ?_ _)); exact BK123.out⟩, ⟨by repeat (first | (with_reducible first | exact HB.out | apply below_alloc | apply pw_below_drewN | apply below_drew1 | refine below_set ?_ GE123.out) | exact HB.out)⟩⟩
              ·
               rw [if_neg c53] at H
               have c53b0 : decide (a0_1 < 1) = false := decide_eq_false c53
               clear c53
               have H' := Aside0.mk H
               clear H
               have hcz55_0 : wc.cell? ⟨gb123, 0, none⟩ = some (.int .i64 a0_0) := (blk_cell BK123.out 0).trans rfl
               have hcz55_1 : wc.cell? ⟨gb123, 1, none⟩ = some (.int .i64 a0_1) := (blk_cell BK123.out 1).trans rfl
               have hcz55_2 : wc.cell? ⟨gb123, 2, none⟩ = some (.int .u64 a0_2) := (blk_cell BK123.out 2).trans rfl
               have hcz55_3 : wc.cell? ⟨gb123, 3, none⟩ = some (.int .u64 a0_3) := (blk_cell BK123.out 3).trans rfl
               have hcz55_4 : wc.cell? ⟨gb123, 4, none⟩ = some (.int .u64 a0_4) := (blk_cell BK123.out 4).trans rfl
               have hcz55_5 : wc.cell? ⟨gb123, 5, none⟩ = some (.string a0_5) := (blk_cell BK123.out 5).trans rfl
               have hfz55_0 := blk_frozen BK123.out 0
               have hfz55_1 := blk_frozen BK123.out 1
               have hfz55_2 := blk_frozen BK123.out 2
               have hfz55_3 := blk_frozen BK123.out 3
               have hfz55_4 := blk_frozen BK123.out 4
               have hfz55_5 := blk_frozen BK123.out 5
               go_wp2
               go_meet
               case rel => exact ⟨_, (false), (by first | rfl | (simp; done) | (simp [*]; done)), H', ⟨by have := HJ1.out; have := HJ8.out; have := HJ33.out; first | omega | exact Nat.le_refl _⟩, ⟨by (with_reducible repeat (first | refine blk_drewN ?_ _ | refine blk_drew ?_ | refine blk_alloc ?_ _)); exact BK123.out⟩, ⟨by repeat (first | (with_reducible first | exact HB.out | apply below_alloc | apply pw_below_drewN | apply below_drew1 | refine below_set ?_ GE123.out) | exact HB.out)⟩⟩
            ·
             rw [if_neg c46] at H
             have c46b0 : (a0_5.toList == ([] : List UInt8)) = false := beq_eq_false_iff_ne.mpr c46
             have c46b1 : (a0_5.toList != ([] : List UInt8)) = true := bne_iff_ne.mpr c46
             have H' := Aside0.mk H
             clear H
             have hcz56_0 : wc.cell? ⟨gb123, 0, none⟩ = some (.int .i64 a0_0) := (blk_cell BK123.out 0).trans rfl
             have hcz56_1 : wc.cell? ⟨gb123, 1, none⟩ = some (.int .i64 a0_1) := (blk_cell BK123.out 1).trans rfl
             have hcz56_2 : wc.cell? ⟨gb123, 2, none⟩ = some (.int .u64 a0_2) := (blk_cell BK123.out 2).trans rfl
             have hcz56_3 : wc.cell? ⟨gb123, 3, none⟩ = some (.int .u64 a0_3) := (blk_cell BK123.out 3).trans rfl
             have hcz56_4 : wc.cell? ⟨gb123, 4, none⟩ = some (.int .u64 a0_4) := (blk_cell BK123.out 4).trans rfl
             have hcz56_5 : wc.cell? ⟨gb123, 5, none⟩ = some (.string a0_5) := (blk_cell BK123.out 5).trans rfl
             have hfz56_0 := blk_frozen BK123.out 0
             have hfz56_1 := blk_frozen BK123.out 1
             have hfz56_2 := blk_frozen BK123.out 2
             have hfz56_3 := blk_frozen BK123.out 3
             have hfz56_4 := blk_frozen BK123.out 4
             have hfz56_5 := blk_frozen BK123.out 5
             go_wp2
             go_meet
             case rel => exact ⟨_, (true), (by first | rfl | (simp; done) | (simp [*]; done)), H', ⟨by have := HJ1.out; have := HJ8.out; have := HJ33.out; first | omega | exact Nat.le_refl _⟩, ⟨by (with_reducible repeat (first | refine blk_drewN ?_ _ | refine blk_drew ?_ | refine blk_alloc ?_ _)); exact BK123.out⟩, ⟨by repeat (first | (with_reducible first | exact HB.out | apply below_alloc | apply pw_below_drewN | apply below_drew1 | refine below_set ?_ GE123.out) | exact HB.out)⟩⟩
           ·
            rw [if_neg c45] at H
            have c45b0 : (a0_4 == 0) = false := beq_eq_false_iff_ne.mpr c45
            have c45b1 : (a0_4 != 0) = true := bne_iff_ne.mpr c45
            have H' := Aside0.mk H
            clear H
            have hcz57_0 : wc.cell? ⟨gb123, 0, none⟩ = some (.int .i64 a0_0) := (blk_cell BK123.out 0).trans rfl
            have hcz57_1 : wc.cell? ⟨gb123, 1, none⟩ = some (.int .i64 a0_1) := (blk_cell BK123.out 1).trans rfl
            have hcz57_2 : wc.cell? ⟨gb123, 2, none⟩ = some (.int .u64 a0_2) := (blk_cell BK123.out 2).trans rfl
            have hcz57_3 : wc.cell? ⟨gb123, 3, none⟩ = some (.int .u64 a0_3) := (blk_cell BK123.out 3).trans rfl
            have hcz57_4 : wc.cell? ⟨gb123, 4, none⟩ = some (.int .u64 a0_4) := (blk_cell BK123.out 4).trans rfl
            have hcz57_5 : wc.cell? ⟨gb123, 5, none⟩ = some (.string a0_5) := (blk_cell BK123.out 5).trans rfl
            have hfz57_0 := blk_frozen BK123.out 0
            have hfz57_1 := blk_frozen BK123.out 1
            have hfz57_2 := blk_frozen BK123.out 2
            have hfz57_3 := blk_frozen BK123.out 3
            have hfz57_4 := blk_frozen BK123.out 4
            have hfz57_5 := blk_frozen BK123.out 5
            go_wp2
            go_meet
            case rel => exact ⟨_, (true), (by first | rfl | (simp; done) | (simp [*]; done)), H', ⟨by have := HJ1.out; have := HJ8.out; have := HJ33.out; first | omega | exact Nat.le_refl _⟩, ⟨by (with_reducible repeat (first | refine blk_drewN ?_ _ | refine blk_drew ?_ | refine blk_alloc ?_ _)); exact BK123.out⟩, ⟨by repeat (first | (with_reducible first | exact HB.out | apply below_alloc | apply pw_below_drewN | apply below_drew1 | refine below_set ?_ GE123.out) | exact HB.out)⟩⟩
          ·
           rw [if_neg c44] at H
           have c44b0 : decide (a0_1 < 3) = false := decide_eq_false c44
           clear c44
           (first | rw [c44b0] | (simp only [i64_w, i32_w]; rw [c44b0]) | skip)
           by_cases c58 : a0_1 < 2
           ·
            rw [if_pos c58] at H
            have c58b0 : decide (a0_1 < 2) = true := decide_eq_true c58
            clear c58
            by_cases c59 : a0_3 = 0
            ·
             rw [if_pos c59] at H
             have c59b0 : (a0_3 == 0) = true := beq_iff_eq.mpr c59
             have c59b1 : (a0_3 != 0) = false := bne_eq_false_iff_eq.mpr c59
             clear c59
             by_cases c60 : a0_1 < 1
             ·
              rw [if_pos c60] at H
              have c60b0 : decide (a0_1 < 1) = true := decide_eq_true c60
              clear c60
              have H' := Aside0.mk H
              clear H
              have hcz61_0 : wc.cell? ⟨gb123, 0, none⟩ = some (.int .i64 a0_0) := (blk_cell BK123.out 0).trans rfl
              have hcz61_1 : wc.cell? ⟨gb123, 1, none⟩ = some (.int .i64 a0_1) := (blk_cell BK123.out 1).trans rfl
              have hcz61_2 : wc.cell? ⟨gb123, 2, none⟩ = some (.int .u64 a0_2) := (blk_cell BK123.out 2).trans rfl
              have hcz61_3 : wc.cell? ⟨gb123, 3, none⟩ = some (.int .u64 a0_3) := (blk_cell BK123.out 3).trans rfl
              have hcz61_4 : wc.cell? ⟨gb123, 4, none⟩ = some (.int .u64 a0_4) := (blk_cell BK123.out 4).trans rfl
              have hcz61_5 : wc.cell? ⟨gb123, 5, none⟩ = some (.string a0_5) := (blk_cell BK123.out 5).trans rfl
              have hfz61_0 := blk_frozen BK123.out 0
              have hfz61_1 := blk_frozen BK123.out 1
              have hfz61_2 := blk_frozen BK123.out 2
              have hfz61_3 := blk_frozen BK123.out 3
              have hfz61_4 := blk_frozen BK123.out 4
              have hfz61_5 := blk_frozen BK123.out 5
              go_wp2
              go_meet
              case rel => exact ⟨_, ((a0_2 != 0)), (by first | rfl | (simp; done) | (simp [*]; done)), H', ⟨by have := HJ1.out; have := HJ8.out; have := HJ33.out; first | omega | exact Nat.le_refl _⟩, ⟨by (with_reducible repeat (first | refine blk_drewN ?_ _ | refine blk_drew ?_ | refine blk_alloc ?_ _)); exact BK123.out⟩, ⟨by repeat (first | (with_reducible first | exact HB.out | apply below_alloc | apply pw_below_drewN | apply below_drew1 | refine below_set ?_ GE123.out) | exact HB.out)⟩⟩
             ·
              rw [if_neg c60] at H
              have c60b0 : decide (a0_1 < 1) = false := decide_eq_false c60
              clear c60
              have H' := Aside0.mk H
              clear H
              have hcz62_0 : wc.cell? ⟨gb123, 0, none⟩ = some (.int .i64 a0_0) := (blk_cell BK123.out 0).trans rfl
              have hcz62_1 : wc.cell? ⟨gb123, 1, none⟩ = some (.int .i64 a0_1) := (blk_cell BK123.out 1).trans rfl
              have hcz62_2 : wc.cell? ⟨gb123, 2, none⟩ = some (.int .u64 a0_2) := (blk_cell BK123.out 2).trans rfl
              have hcz62_3 : wc.cell? ⟨gb123, 3, none⟩ = some (.int .u64 a0_3) := (blk_cell BK123.out 3).trans rfl
              have hcz62_4 : wc.cell? ⟨gb123, 4, none⟩ = some (.int .u64 a0_4) := (blk_cell BK123.out 4).trans rfl
              have hcz62_5 : wc.cell? ⟨gb123, 5, none⟩ = some (.string a0_5) := (blk_cell BK123.out 5).trans rfl
              have hfz62_0 := blk_frozen BK123.out 0
              have hfz62_1 := blk_frozen BK123.out 1
              have hfz62_2 := blk_frozen BK123.out 2
              have hfz62_3 := blk_frozen BK123.out 3
              have hfz62_4 := blk_frozen BK123.out 4
              have hfz62_5 := blk_frozen BK123.out 5
              go_wp2
              go_meet
              case rel => exact ⟨_, (false), (by first | rfl | (simp; done) | (simp [*]; done)), H', ⟨by have := HJ1.out; have := HJ8.out; have := HJ33.out; first | omega | exact Nat.le_refl _⟩, ⟨by (with_reducible repeat (first | refine blk_drewN ?_ _ | refine blk_drew ?_ | refine blk_alloc ?_ _)); exact BK123.out⟩, ⟨by repeat (first | (with_reducible first | exact HB.out | apply below_alloc | apply pw_below_drewN | apply below_drew1 | refine below_set ?_ GE123.out) | exact HB.out)⟩⟩
            ·
             rw [if_neg c59] at H
             have c59b0 : (a0_3 == 0) = false := beq_eq_false_iff_ne.mpr c59
             have c59b1 : (a0_3 != 0) = true := bne_iff_ne.mpr c59
             have H' := Aside0.mk H
             clear H
             have hcz63_0 : wc.cell? ⟨gb123, 0, none⟩ = some (.int .i64 a0_0) := (blk_cell BK123.out 0).trans rfl
             have hcz63_1 : wc.cell? ⟨gb123, 1, none⟩ = some (.int .i64 a0_1) := (blk_cell BK123.out 1).trans rfl
             have hcz63_2 : wc.cell? ⟨gb123, 2, none⟩ = some (.int .u64 a0_2) := (blk_cell BK123.out 2).trans rfl
             have hcz63_3 : wc.cell? ⟨gb123, 3, none⟩ = some (.int .u64 a0_3) := (blk_cell BK123.out 3).trans rfl
             have hcz63_4 : wc.cell? ⟨gb123, 4, none⟩ = some (.int .u64 a0_4) := (blk_cell BK123.out 4).trans rfl
             have hcz63_5 : wc.cell? ⟨gb123, 5, none⟩ = some (.string a0_5) := (blk_cell BK123.out 5).trans rfl
             have hfz63_0 := blk_frozen BK123.out 0
             have hfz63_1 := blk_frozen BK123.out 1
             have hfz63_2 := blk_frozen BK123.out 2
             have hfz63_3 := blk_frozen BK123.out 3
             have hfz63_4 := blk_frozen BK123.out 4
             have hfz63_5 := blk_frozen BK123.out 5
             go_wp2
             go_meet
             case rel => exact ⟨_, (true), (by first | rfl | (simp; done) | (simp [*]; done)), H', ⟨by have := HJ1.out; have := HJ8.out; have := HJ33.out; first | omega | exact Nat.le_refl _⟩, ⟨by (with_reducible repeat (first | refine blk_drewN ?_ _ | refine blk_drew ?_ | refine blk_alloc ?_ _)); exact BK123.out⟩, ⟨by repeat (first | (with_reducible first | exact HB.out | apply below_alloc | apply pw_below_drewN | apply below_drew1 | refine below_set ?_ GE123.out) | exact HB.out)⟩⟩
           ·
            rw [if_neg c58] at H
            have c58b0 : decide (a0_1 < 2) = false := decide_eq_false c58
            clear c58
            by_cases c64 : a0_1 < 1
            ·
             rw [if_pos c64] at H
             have c64b0 : decide (a0_1 < 1) = true := decide_eq_true c64
             clear c64
             have H' := Aside0.mk H
             clear H
             have hcz65_0 : wc.cell? ⟨gb123, 0, none⟩ = some (.int .i64 a0_0) := (blk_cell BK123.out 0).trans rfl
             have hcz65_1 : wc.cell? ⟨gb123, 1, none⟩ = some (.int .i64 a0_1) := (blk_cell BK123.out 1).trans rfl
             have hcz65_2 : wc.cell? ⟨gb123, 2, none⟩ = some (.int .u64 a0_2) := (blk_cell BK123.out 2).trans rfl
             have hcz65_3 : wc.cell? ⟨gb123, 3, none⟩ = some (.int .u64 a0_3) := (blk_cell BK123.out 3).trans rfl
             have hcz65_4 : wc.cell? ⟨gb123, 4, none⟩ = some (.int .u64 a0_4) := (blk_cell BK123.out 4).trans rfl
             have hcz65_5 : wc.cell? ⟨gb123, 5, none⟩ = some (.string a0_5) := (blk_cell BK123.out 5).trans rfl
             have hfz65_0 := blk_frozen BK123.out 0
             have hfz65_1 := blk_frozen BK123.out 1
             have hfz65_2 := blk_frozen BK123.out 2
             have hfz65_3 := blk_frozen BK123.out 3
             have hfz65_4 := blk_frozen BK123.out 4
             have hfz65_5 := blk_frozen BK123.out 5
             go_wp2
             go_meet
             case rel => exact ⟨_, ((a0_2 != 0)), (by first | rfl | (simp; done) | (simp [*]; done)), H', ⟨by have := HJ1.out; have := HJ8.out; have := HJ33.out; first | omega | exact Nat.le_refl _⟩, ⟨by (with_reducible repeat (first | refine blk_drewN ?_ _ | refine blk_drew ?_ | refine blk_alloc ?_ _)); exact BK123.out⟩, ⟨by repeat (first | (with_reducible first | exact HB.out | apply below_alloc | apply pw_below_drewN | apply below_drew1 | refine below_set ?_ GE123.out) | exact HB.out)⟩⟩
            ·
             rw [if_neg c64] at H
             have c64b0 : decide (a0_1 < 1) = false := decide_eq_false c64
             clear c64
             have H' := Aside0.mk H
             clear H
             have hcz66_0 : wc.cell? ⟨gb123, 0, none⟩ = some (.int .i64 a0_0) := (blk_cell BK123.out 0).trans rfl
             have hcz66_1 : wc.cell? ⟨gb123, 1, none⟩ = some (.int .i64 a0_1) := (blk_cell BK123.out 1).trans rfl
             have hcz66_2 : wc.cell? ⟨gb123, 2, none⟩ = some (.int .u64 a0_2) := (blk_cell BK123.out 2).trans rfl
             have hcz66_3 : wc.cell? ⟨gb123, 3, none⟩ = some (.int .u64 a0_3) := (blk_cell BK123.out 3).trans rfl
             have hcz66_4 : wc.cell? ⟨gb123, 4, none⟩ = some (.int .u64 a0_4) := (blk_cell BK123.out 4).trans rfl
             have hcz66_5 : wc.cell? ⟨gb123, 5, none⟩ = some (.string a0_5) := (blk_cell BK123.out 5).trans rfl
             have hfz66_0 := blk_frozen BK123.out 0
             have hfz66_1 := blk_frozen BK123.out 1
             have hfz66_2 := blk_frozen BK123.out 2
             have hfz66_3 := blk_frozen BK123.out 3
             have hfz66_4 := blk_frozen BK123.out 4
             have hfz66_5 := blk_frozen BK123.out 5
             go_wp2
             go_meet
             case rel => exact ⟨_, (false), (by first | rfl | (simp; done) | (simp [*]; done)), H', ⟨by have := HJ1.out; have := HJ8.out; have := HJ33.out; first | omega | exact Nat.le_refl _⟩, ⟨by (with_reducible repeat (first | refine blk_drewN ?_ _ | refine blk_drew ?_ | refine blk_alloc ?_ _)); exact BK123.out⟩, ⟨by repeat (first | (with_reducible first | exact HB.out | apply below_alloc | apply pw_below_drewN | apply below_drew1 | refine below_set ?_ GE123.out) | exact HB.out)⟩⟩
         case rest =>
          clear HC43
          try clear c1
          try clear c2
          try clear p2
          try clear c3
          try clear c4
          try clear c4b0
          try clear c4b1
          try clear c5
          try clear c5b0
          try clear c5b1
          try clear c6
          try clear c10
          try clear c10b0
          try clear c10b1
          try clear c11
          try clear c11b0
          try clear c11b1
          try clear c12
          try clear c12b0
          try clear c12b1
          try clear c13
          try clear c13b0
          try clear c13b1
          try clear c15
          try clear c17
          try clear c17b0
          try clear c17b1
          try clear c18
          try clear c18b0
          try clear c18b1
          try clear c19
          try clear c19b0
          try clear c19b1
          try clear c23
          try clear c23b0
          try clear c23b1
          try clear c24
          try clear c24b0
          try clear c24b1
          try clear c28
          try clear c28b0
          try clear c28b1
          try clear c29
          try clear c29b0
          try clear c29b1
          try clear c33
          try clear c35
          try clear c35b0
          try clear c37
          try clear c37b0
          try clear c39
          try clear c39b0
          try clear c42
          try clear c44
          try clear c44b0
          try clear c45
          try clear c45b0
          try clear c45b1
          try clear c46
          try clear c46b0
          try clear c46b1
          try clear c47
          try clear c47b0
          try clear c48
          try clear c48b0
          try clear c48b1
          try clear c49
          try clear c49b0
          try clear c53
          try clear c53b0
          try clear c58
          try clear c58b0
          try clear c59
          try clear c59b0
          try clear c59b1
          try clear c60
          try clear c60b0
          try clear c64
          try clear c64b0
          try clear hcz14_0
          try clear hcz14_1
          try clear hcz14_2
          try clear hcz14_3
          try clear hcz14_4
          try clear hcz14_5
          try clear hcz15_0
          try clear hcz15_1
          try clear hcz15_2
          try clear hcz15_3
          try clear hcz15_4
          try clear hcz15_5
          try clear hcz16_0
          try clear hcz16_1
          try clear hcz16_2
          try clear hcz16_3
          try clear hcz16_4
          try clear hcz16_5
          try clear hcz20_0
          try clear hcz20_1
          try clear hcz20_2
          try clear hcz20_3
          try clear hcz20_4
          try clear hcz20_5
          try clear hcz21_0
          try clear hcz21_1
          try clear hcz21_2
          try clear hcz21_3
          try clear hcz21_4
          try clear hcz21_5
          try clear hcz22_0
          try clear hcz22_1
          try clear hcz22_2
          try clear hcz22_3
          try clear hcz22_4
          try clear hcz22_5
          try clear hcz25_0
          try clear hcz25_1
          try clear hcz25_2
          try clear hcz25_3
          try clear hcz25_4
          try clear hcz25_5
          try clear hcz26_0
          try clear hcz26_1
          try clear hcz26_2
          try clear hcz26_3
          try clear hcz26_4
          try clear hcz26_5
          try clear hcz27_0
          try clear hcz27_1
          try clear hcz27_2
          try clear hcz27_3
          try clear hcz27_4
          try clear hcz27_5
          try clear hcz30_0
          try clear hcz30_1
          try clear hcz30_2
          try clear hcz30_3
          try clear hcz30_4
          try clear hcz30_5
          try clear hcz31_0
          try clear hcz31_1
          try clear hcz31_2
          try clear hcz31_3
          try clear hcz31_4
          try clear hcz31_5
          try clear hcz32_0
          try clear hcz32_1
          try clear hcz32_2
          try clear hcz32_3
          try clear hcz32_4
          try clear hcz32_5
          try clear hcz36_0
          try clear hcz36_1
          try clear hcz36_2
          try clear hcz36_3
          try clear hcz36_4
          try clear hcz36_5
          try clear hcz38_0
          try clear hcz38_1
          try clear hcz38_2
          try clear hcz38_3
          try clear hcz38_4
          try clear hcz38_5
          try clear hcz40_0
          try clear hcz40_1
          try clear hcz40_2
          try clear hcz40_3
          try clear hcz40_4
          try clear hcz40_5
          try clear hcz41_0
          try clear hcz41_1
          try clear hcz41_2
          try clear hcz41_3
          try clear hcz41_4
          try clear hcz41_5
          try clear hcz50_0
          try clear hcz50_1
          try clear hcz50_2
          try clear hcz50_3
          try clear hcz50_4
          try clear hcz50_5
          try clear hcz51_0
          try clear hcz51_1
          try clear hcz51_2
          try clear hcz51_3
          try clear hcz51_4
          try clear hcz51_5
          try clear hcz52_0
          try clear hcz52_1
          try clear hcz52_2
          try clear hcz52_3
          try clear hcz52_4
          try clear hcz52_5
          try clear hcz54_0
          try clear hcz54_1
          try clear hcz54_2
          try clear hcz54_3
          try clear hcz54_4
          try clear hcz54_5
          try clear hcz55_0
          try clear hcz55_1
          try clear hcz55_2
          try clear hcz55_3
          try clear hcz55_4
          try clear hcz55_5
          try clear hcz56_0
          try clear hcz56_1
          try clear hcz56_2
          try clear hcz56_3
          try clear hcz56_4
          try clear hcz56_5
          try clear hcz57_0
          try clear hcz57_1
          try clear hcz57_2
          try clear hcz57_3
          try clear hcz57_4
          try clear hcz57_5
          try clear hcz61_0
          try clear hcz61_1
          try clear hcz61_2
          try clear hcz61_3
          try clear hcz61_4
          try clear hcz61_5
          try clear hcz62_0
          try clear hcz62_1
          try clear hcz62_2
          try clear hcz62_3
          try clear hcz62_4
          try clear hcz62_5
          try clear hcz63_0
          try clear hcz63_1
          try clear hcz63_2
          try clear hcz63_3
          try clear hcz63_4
          try clear hcz63_5
          try clear hcz65_0
          try clear hcz65_1
          try clear hcz65_2
          try clear hcz65_3
          try clear hcz65_4
          try clear hcz65_5
          try clear hcz66_0
          try clear hcz66_1
          try clear hcz66_2
          try clear hcz66_3
          try clear hcz66_4
          try clear hcz66_5
          try clear hcz6_0
          try clear hcz6_1
          try clear hcz6_2
          try clear hcz6_3
          try clear hcz6_4
          try clear hcz6_5
          try clear hcz7_0
          try clear hcz7_1
          try clear hcz7_2
          try clear hcz7_3
          try clear hcz7_4
          try clear hcz7_5
          try clear hcz8_0
          try clear hcz8_1
          try clear hcz8_2
          try clear hcz8_3
          try clear hcz8_4
          try clear hcz8_5
          try clear hfz14_0
          try clear hfz14_1
          try clear hfz14_2
          try clear hfz14_3
          try clear hfz14_4
          try clear hfz14_5
          try clear hfz15_0
          try clear hfz15_1
          try clear hfz15_2
          try clear hfz15_3
          try clear hfz15_4
          try clear hfz15_5
          try clear hfz16_0
          try clear hfz16_1
          try clear hfz16_2
          try clear hfz16_3
          try clear hfz16_4
          try clear hfz16_5
          try clear hfz20_0
          try clear hfz20_1
          try clear hfz20_2
          try clear hfz20_3
          try clear hfz20_4
          try clear hfz20_5
          try clear hfz21_0
          try clear hfz21_1
          try clear hfz21_2
          try clear hfz21_3
          try clear hfz21_4
          try clear hfz21_5
          try clear hfz22_0
          try clear hfz22_1
          try clear hfz22_2
          try clear hfz22_3
          try clear hfz22_4
          try clear hfz22_5
          try clear hfz25_0
          try clear hfz25_1
          try clear hfz25_2
          try clear hfz25_3
          try clear hfz25_4
          try clear hfz25_5
          try clear hfz26_0
          try clear hfz26_1
          try clear hfz26_2
          try clear hfz26_3
          try clear hfz26_4
          try clear hfz26_5
          try clear hfz27_0
          try clear hfz27_1
          try clear hfz27_2
          try clear hfz27_3
          try clear hfz27_4
          try clear hfz27_5
          try clear hfz30_0
          try clear hfz30_1
          try clear hfz30_2
          try clear hfz30_3
          try clear hfz30_4
          try clear hfz30_5
          try clear hfz31_0
          try clear hfz31_1
          try clear hfz31_2
          try clear hfz31_3
          try clear hfz31_4
          try clear hfz31_5
          try clear hfz32_0
          try clear hfz32_1
          try clear hfz32_2
          try clear hfz32_3
          try clear hfz32_4
          try clear hfz32_5
          try clear hfz36_0
          try clear hfz36_1
          try clear hfz36_2
          try clear hfz36_3
          try clear hfz36_4
          try clear hfz36_5
          try clear hfz38_0
          try clear hfz38_1
          try clear hfz38_2
          try clear hfz38_3
          try clear hfz38_4
          try clear hfz38_5
          try clear hfz40_0
          try clear hfz40_1
          try clear hfz40_2
          try clear hfz40_3
          try clear hfz40_4
          try clear hfz40_5
          try clear hfz41_0
          try clear hfz41_1
          try clear hfz41_2
          try clear hfz41_3
          try clear hfz41_4
          try clear hfz41_5
          try clear hfz50_0
          try clear hfz50_1
          try clear hfz50_2
          try clear hfz50_3
          try clear hfz50_4
          try clear hfz50_5
          try clear hfz51_0
          try clear hfz51_1
          try clear hfz51_2
          try clear hfz51_3
          try clear hfz51_4
          try clear hfz51_5
          try clear hfz52_0
          try clear hfz52_1
          try clear hfz52_2
          try clear hfz52_3
          try clear hfz52_4
          try clear hfz52_5
          try clear hfz54_0
          try clear hfz54_1
          try clear hfz54_2
          try clear hfz54_3
          try clear hfz54_4
          try clear hfz54_5
          try clear hfz55_0
          try clear hfz55_1
          try clear hfz55_2
          try clear hfz55_3
          try clear hfz55_4
          try clear hfz55_5
          try clear hfz56_0
          try clear hfz56_1
          try clear hfz56_2
          try clear hfz56_3
          try clear hfz56_4
          try clear hfz56_5
          try clear hfz57_0
          try clear hfz57_1
          try clear hfz57_2
          try clear hfz57_3
          try clear hfz57_4
          try clear hfz57_5
          try clear hfz61_0
          try clear hfz61_1
          try clear hfz61_2
          try clear hfz61_3
          try clear hfz61_4
          try clear hfz61_5
          try clear hfz62_0
          try clear hfz62_1
          try clear hfz62_2
          try clear hfz62_3
          try clear hfz62_4
          try clear hfz62_5
          try clear hfz63_0
          try clear hfz63_1
          try clear hfz63_2
          try clear hfz63_3
          try clear hfz63_4
          try clear hfz63_5
          try clear hfz65_0
          try clear hfz65_1
          try clear hfz65_2
          try clear hfz65_3
          try clear hfz65_4
          try clear hfz65_5
          try clear hfz66_0
          try clear hfz66_1
          try clear hfz66_2
          try clear hfz66_3
          try clear hfz66_4
          try clear hfz66_5
          try clear hfz6_0
          try clear hfz6_1
          try clear hfz6_2
          try clear hfz6_3
          try clear hfz6_4
          try clear hfz6_5
          try clear hfz7_0
          try clear hfz7_1
          try clear hfz7_2
          try clear hfz7_3
          try clear hfz7_4
          try clear hfz7_5
          try clear hfz8_0
          try clear hfz8_1
          try clear hfz8_2
          try clear hfz8_3
          try clear hfz8_4
          try clear hfz8_5
          try clear p2
          obtain ⟨kq, x68_42, rfl, HA, HJ42, BK123, HB⟩ := hcut
          cases kq with
          | zero => exact absurd HA.out (by simp [spec_GoodTerm.j3])
          | succ kj42 =>
           have H := HA.out
           clear HA
           simp only [spec_GoodTerm.j3] at H
           by_cases c67 : x68_42 = true
           ·
            subst c67
            have H1 : (some false) = some r := by rw [if_pos rfl] at H; exact H
            clear H
            have H := H1
            clear H1
            obtain rfl := Option.some.inj H
            go_wp2
            go_ret
            exact ⟨by first | rfl | (simp [errW_none, errW_some] <;> rfl) | (simp [*, errW_none, errW_some] <;> rfl) | (simp [bneNil]; done), by repeat (first | (with_reducible first | exact HB.out | apply below_alloc | apply pw_below_drewN | apply below_drew1 | refine below_set ?_ GE123.out) | exact HB.out)⟩
           ·
            replace c67 := Bool.eq_false_iff.mpr c67
            subst c67
            have H1 : (if a0_5.toList = ([] : List UInt8) then (some true) else ((spec_ValidPre.f kj42 a0_5).bind fun t124 => (if t124 = true then ((spec_SmallPre.f kj42 a0_5).bind fun t125 => (some t125)) else (some false)))) = some r := by rw [if_neg (show ¬ (false = true) by decide)] at H; exact H
            clear H
            have H := H1
            clear H1
            by_cases c68 : a0_5.toList = ([] : List UInt8)
            ·
             rw [if_pos c68] at H
             have c68b0 : (a0_5.toList == ([] : List UInt8)) = true := beq_iff_eq.mpr c68
             have c68b1 : (a0_5.toList != ([] : List UInt8)) = false := bne_eq_false_iff_eq.mpr c68
             clear c68
             obtain rfl := Option.some.inj H
             have hcz69_0 : wc.cell? ⟨gb123, 0, none⟩ = some (.int .i64 a0_0) := (blk_cell BK123.out 0).trans rfl
             have hcz69_1 : wc.cell? ⟨gb123, 1, none⟩ = some (.int .i64 a0_1) := (blk_cell BK123.out 1).trans rfl
             have hcz69_2 : wc.cell? ⟨gb123, 2, none⟩ = some (.int .u64 a0_2) := (blk_cell BK123.out 2).trans rfl
             have hcz69_3 : wc.cell? ⟨gb123, 3, none⟩ = some (.int .u64 a0_3) := (blk_cell BK123.out 3).trans rfl
             have hcz69_4 : wc.cell? ⟨gb123, 4, none⟩ = some (.int .u64 a0_4) := (blk_cell BK123.out 4).trans rfl
             have hcz69_5 : wc.cell? ⟨gb123, 5, none⟩ = some (.string a0_5) := (blk_cell BK123.out 5).trans rfl
             have hfz69_0 := blk_frozen BK123.out 0
             have hfz69_1 := blk_frozen BK123.out 1
             have hfz69_2 := blk_frozen BK123.out 2
             have hfz69_3 := blk_frozen BK123.out 3
             have hfz69_4 := blk_frozen BK123.out 4
             have hfz69_5 := blk_frozen BK123.out 5
             go_wp2
             go_ret
             exact ⟨by first | rfl | (simp [errW_none, errW_some] <;> rfl) | (simp [*, errW_none, errW_some] <;> rfl) | (simp [bneNil]; done), by repeat (first | (with_reducible first | exact HB.out | apply below_alloc | apply pw_below_drewN | apply below_drew1 | refine below_set ?_ GE123.out) | exact HB.out)⟩
            ·
             rw [if_neg c68] at H
             have c68b0 : (a0_5.toList == ([] : List UInt8)) = false := beq_eq_false_iff_ne.mpr c68
             have c68b1 : (a0_5.toList != ([] : List UInt8)) = true := bne_iff_ne.mpr c68
             replace H := Option.bind_eq_some_iff.mp H
             obtain ⟨t124, A700, H⟩ := H
             replace H : (if t124 = true then ((spec_SmallPre.f kj42 a0_5).bind fun t125 => (some t125)) else (some false)) = some r := H
             have A70 := Aside0.mk A700
             clear A700
             by_cases c71 : t124 = true
             ·
              subst c71
              have H1 : ((spec_SmallPre.f kj42 a0_5).bind fun t125 => (some t125)) = some r := by rw [if_pos rfl] at H; exact H
              clear H
              have H := H1
              clear H1
              replace H := Option.bind_eq_some_iff.mp H
              obtain ⟨t125, A720, H⟩ := H
              replace H : (some t125) = some r := H
              have A72 := Aside0.mk A720
              clear A720
              obtain rfl := Option.some.inj H
              have hcz73_0 : wc.cell? ⟨gb123, 0, none⟩ = some (.int .i64 a0_0) := (blk_cell BK123.out 0).trans rfl
              have hcz73_1 : wc.cell? ⟨gb123, 1, none⟩ = some (.int .i64 a0_1) := (blk_cell BK123.out 1).trans rfl
              have hcz73_2 : wc.cell? ⟨gb123, 2, none⟩ = some (.int .u64 a0_2) := (blk_cell BK123.out 2).trans rfl
              have hcz73_3 : wc.cell? ⟨gb123, 3, none⟩ = some (.int .u64 a0_3) := (blk_cell BK123.out 3).trans rfl
              have hcz73_4 : wc.cell? ⟨gb123, 4, none⟩ = some (.int .u64 a0_4) := (blk_cell BK123.out 4).trans rfl
              have hcz73_5 : wc.cell? ⟨gb123, 5, none⟩ = some (.string a0_5) := (blk_cell BK123.out 5).trans rfl
              have hfz73_0 := blk_frozen BK123.out 0
              have hfz73_1 := blk_frozen BK123.out 1
              have hfz73_2 := blk_frozen BK123.out 2
              have hfz73_3 := blk_frozen BK123.out 3
              have hfz73_4 := blk_frozen BK123.out 4
              have hfz73_5 := blk_frozen BK123.out 5
              go_wp2_with (first | (go_at_call 49; (with_reducible refine (spec_ValidPre.calls kj42 a0_5 true _ A70.out).mono ?_); rintro e w74 ⟨rfl, hb⟩; have n0_ := Aside0.mk (blk_below (g := gb123) (o := .cells #[.int .i64 a0_0, .int .i64 a0_1, .int .u64 a0_2, .int .u64 a0_3, .int .u64 a0_4, .string a0_5] 24 (0, 0)) (by (with_reducible repeat (first | refine blk_drewN ?_ _ | refine blk_drew ?_ | refine blk_alloc ?_ _)); exact BK123.out) hb); have n1_ := Aside0.mk (below_step (by repeat (first | (with_reducible first | exact HB.out | apply below_alloc | apply pw_below_drewN | apply below_drew1 | refine below_set ?_ GE123.out) | exact HB.out)) hb); clear BK123; clear HB; have BK123 := n0_; have HB := n1_; clear n0_ n1_; (try clear hb); (try clear hb2); (try clear hk); (try clear hi); have hcz75_0 : w74.cell? ⟨gb123, 0, none⟩ = some (.int .i64 a0_0) := (blk_cell BK123.out 0).trans rfl; have hcz75_1 : w74.cell? ⟨gb123, 1, none⟩ = some (.int .i64 a0_1) := (blk_cell BK123.out 1).trans rfl; have hcz75_2 : w74.cell? ⟨gb123, 2, none⟩ = some (.int .u64 a0_2) := (blk_cell BK123.out 2).trans rfl; have hcz75_3 : w74.cell? ⟨gb123, 3, none⟩ = some (.int .u64 a0_3) := (blk_cell BK123.out 3).trans rfl; have hcz75_4 : w74.cell? ⟨gb123, 4, none⟩ = some (.int .u64 a0_4) := (blk_cell BK123.out 4).trans rfl; have hcz75_5 : w74.cell? ⟨gb123, 5, none⟩ = some (.string a0_5) := (blk_cell BK123.out 5).trans rfl; have hfz75_0 := blk_frozen BK123.out 0; have hfz75_1 := blk_frozen BK123.out 1; have hfz75_2 := blk_frozen BK123.out 2; have hfz75_3 := blk_frozen BK123.out 3; have hfz75_4 := blk_frozen BK123.out 4; have hfz75_5 := blk_frozen BK123.out 5) | (go_at_call 50; (with_reducible refine (spec_SmallPre.calls kj42 a0_5 t125 _ A72.out).mono ?_); rintro e w76 ⟨rfl, hb⟩; have n0_ := Aside0.mk (blk_below (g := gb123) (o := .cells #[.int .i64 a0_0, .int .i64 a0_1, .int .u64 a0_2, .int .u64 a0_3, .int .u64 a0_4, .string a0_5] 24 (0, 0)) (by (with_reducible repeat (first | refine blk_drewN ?_ _ | refine blk_drew ?_ | refine blk_alloc ?_ _)); exact BK123.out) hb); have n1_ := Aside0.mk (below_step (by repeat (first | (with_reducible first | exact HB.out | apply below_alloc | apply pw_below_drewN | apply below_drew1 | refine below_set ?_ GE123.out) | exact HB.out)) hb); clear BK123; clear HB; have BK123 := n0_; have HB := n1_; clear n0_ n1_; (try clear hb); (try clear hb2); (try clear hk); (try clear hi)))
              go_ret
              exact ⟨by first | rfl | (simp [errW_none, errW_some] <;> rfl) | (simp [*, errW_none, errW_some] <;> rfl) | (simp [bneNil]; done), by repeat (first | (with_reducible first | exact HB.out | apply below_alloc | apply pw_below_drewN | apply below_drew1 | refine below_set ?_ GE123.out) | exact HB.out)⟩
             ·
              replace c71 := Bool.eq_false_iff.mpr c71
              subst c71
              have H1 : (some false) = some r := by rw [if_neg (show ¬ (false = true) by decide)] at H; exact H
              clear H
              have H := H1
              clear H1
              obtain rfl := Option.some.inj H
              have hcz77_0 : wc.cell? ⟨gb123, 0, none⟩ = some (.int .i64 a0_0) := (blk_cell BK123.out 0).trans rfl
              have hcz77_1 : wc.cell? ⟨gb123, 1, none⟩ = some (.int .i64 a0_1) := (blk_cell BK123.out 1).trans rfl
              have hcz77_2 : wc.cell? ⟨gb123, 2, none⟩ = some (.int .u64 a0_2) := (blk_cell BK123.out 2).trans rfl
              have hcz77_3 : wc.cell? ⟨gb123, 3, none⟩ = some (.int .u64 a0_3) := (blk_cell BK123.out 3).trans rfl
              have hcz77_4 : wc.cell? ⟨gb123, 4, none⟩ = some (.int .u64 a0_4) := (blk_cell BK123.out 4).trans rfl
              have hcz77_5 : wc.cell? ⟨gb123, 5, none⟩ = some (.string a0_5) := (blk_cell BK123.out 5).trans rfl
              have hfz77_0 := blk_frozen BK123.out 0
              have hfz77_1 := blk_frozen BK123.out 1
              have hfz77_2 := blk_frozen BK123.out 2
              have hfz77_3 := blk_frozen BK123.out 3
              have hfz77_4 := blk_frozen BK123.out 4
              have hfz77_5 := blk_frozen BK123.out 5
              go_wp2_with (first | (go_at_call 49; (with_reducible refine (spec_ValidPre.calls kj42 a0_5 false _ A70.out).mono ?_); rintro e w78 ⟨rfl, hb⟩; have n0_ := Aside0.mk (blk_below (g := gb123) (o := .cells #[.int .i64 a0_0, .int .i64 a0_1, .int .u64 a0_2, .int .u64 a0_3, .int .u64 a0_4, .string a0_5] 24 (0, 0)) (by (with_reducible repeat (first | refine blk_drewN ?_ _ | refine blk_drew ?_ | refine blk_alloc ?_ _)); exact BK123.out) hb); have n1_ := Aside0.mk (below_step (by repeat (first | (with_reducible first | exact HB.out | apply below_alloc | apply pw_below_drewN | apply below_drew1 | refine below_set ?_ GE123.out) | exact HB.out)) hb); clear BK123; clear HB; have BK123 := n0_; have HB := n1_; clear n0_ n1_; (try clear hb); (try clear hb2); (try clear hk); (try clear hi)))
              go_ret
              exact ⟨by first | rfl | (simp [errW_none, errW_some] <;> rfl) | (simp [*, errW_none, errW_some] <;> rfl) | (simp [bneNil]; done), by repeat (first | (with_reducible first | exact HB.out | apply below_alloc | apply pw_below_drewN | apply below_drew1 | refine below_set ?_ GE123.out) | exact HB.out)⟩

end Go.Proofs.YtllkoadcpobdaaaDoor.PX
namespace Go.Proofs.YtllkoadcpobdaaaDoor.PX

open Go.RowKit Go.Proofs.YtllkoadcpobdaaaDoorW.PrintWords Go.Proofs.YtllkoadcpobdaaaDoorW.PrintLast Go.Proofs.YtllkoadcpobdaaaDoorW.PrintMore

attribute [local go_sem] max2_int min2_int max_two min_two max_three min_three max_four min_four   -- for this text's walks alone

set_option linter.unusedVariables false

set_option linter.unusedSimpArgs false

def spec_Least.f (a0_0 : Int) (a0_1 : Int) (a0_2 : Int) (a0_3 : Int) (a0_4 : Int) (a0_5 : ByteArray) : Option (Int × Int × Int × ByteArray × ByteArray) := some (a0_2, a0_3, a0_4, a0_5, (⟨#[]⟩ : ByteArray))

set_option maxHeartbeats 80000000 in
set_option maxRecDepth 100000 in
theorem spec_Least.calls (a0_0 : Int) (a0_1 : Int) (a0_2 : Int) (a0_3 : Int) (a0_4 : Int) (a0_5 : ByteArray) (r1 : Int) (r2 : Int) (r3 : Int) (r4 : ByteArray) (r5 : ByteArray) (w : World) (h : spec_Least.f a0_0 a0_1 a0_2 a0_3 a0_4 a0_5 = some (r1, r2, r3, r4, r5)) :
  Calls Tryd.prog 56 #[.agg #[.int .i64 a0_0, .int .i64 a0_1, .int .u64 a0_2, .int .u64 a0_3, .int .u64 a0_4, .string a0_5]] w fun e w' => e = .returned (.agg #[.int .u64 r1, .int .u64 r2, .int .u64 r3, .string r4, .string r5]) ∧ Below w.heap.size w w' := by
 have hu24 := Tryd.underlying24
 have hu26 := Tryd.underlying26
 have HB := Aside0.mk (Below.refl w.heap.size w)
 have H : (some (a0_2, a0_3, a0_4, a0_5, (⟨#[]⟩ : ByteArray))) = some (r1, r2, r3, r4, r5) := h
 clear h
 simp only [Option.some.injEq, Prod.mk.injEq] at H
 obtain ⟨rfl, rfl, rfl, rfl, rfl⟩ := H
 go_enter Tryd.func56, Tryd.ntmps56
 go_wp2_with (first | ((with_reducible refine gate_dst (N := 1) rfl ?_); refine box_event ?hg (N := 1) ?hd (cs := #[.int .i64 a0_0, .int .i64 a0_1, .int .u64 a0_2, .int .u64 a0_3, .int .u64 a0_4, .string a0_5]) (t := 24) ?hr ?_; (case hd => rfl); (case hg => rfl); (case hr => first | (go_simp; done) | (go_simp; rfl) | (go_simp; simp [u8w]; done)); intro gb148 hg w2 hbox hb; have n0_ := Aside0.mk (below_step (by repeat (first | (with_reducible first | exact HB.out | apply below_alloc | apply pw_below_drewN | apply below_drew1) | exact HB.out)) hb); have n1_ := Aside0.mk (hbox); have n2_ := Aside0.mk ((by rw [hg]; exact (below_size (by repeat (first | (with_reducible first | exact HB.out | apply below_alloc | apply pw_below_drewN | apply below_drew1) | exact HB.out))) : w.heap.size ≤ gb148)); have n3_ := Aside0.mk ((by rw [hg]; exact (below_size (by repeat (first | (with_reducible first | exact HB.out | apply below_alloc | apply pw_below_drewN | apply below_drew1) | exact HB.out))) : w.heap.size ≤ gb148)); clear HB; have HB := n0_; have BK148 := n1_; have GW148 := n2_; have GE148 := n3_; clear n0_ n1_ n2_ n3_; clear hb hbox hg) | ((with_reducible refine gate_dst (N := 2) rfl ?_); refine box_event ?hg (N := 2) ?hd (cs := #[.int .u64 0, .int .u64 0, .int .u64 0, .string (⟨#[]⟩ : ByteArray), .string (⟨#[]⟩ : ByteArray)]) (t := 26) ?hr ?_; (case hd => rfl); (case hg => rfl); (case hr => first | (go_simp; done) | (go_simp; rfl) | (go_simp; simp [u8w]; done)); intro gb149 hg w3 hbox hb; have n0_ := Aside0.mk (blk_below (g := gb148) (o := .cells #[.int .i64 a0_0, .int .i64 a0_1, .int .u64 a0_2, .int .u64 a0_3, .int .u64 a0_4, .string a0_5] 24 (0, 0)) (by (with_reducible repeat (first | refine blk_drewN ?_ _ | refine blk_drew ?_ | refine blk_alloc ?_ _)); exact BK148.out) hb); have n1_ := Aside0.mk (below_step (by repeat (first | (with_reducible first | exact HB.out | apply below_alloc | apply pw_below_drewN | apply below_drew1 | refine below_set ?_ GE148.out) | exact HB.out)) hb); have n2_ := Aside0.mk (hbox); have n3_ := Aside0.mk ((by rw [hg]; exact (below_size (by repeat (first | (with_reducible first | exact HB.out | apply below_alloc | apply pw_below_drewN | apply below_drew1 | refine below_set ?_ GE148.out) | exact HB.out))) : w.heap.size ≤ gb149)); have n4_ := Aside0.mk ((by rw [hg]; exact (below_size (by repeat (first | (with_reducible first | exact HB.out | apply below_alloc | apply pw_below_drewN | apply below_drew1 | refine below_set ?_ GE148.out) | exact HB.out))) : w.heap.size ≤ gb149)); have n5_ := Aside0.mk ((by rw [hg]; exact Nat.ne_of_lt (blk_lt (g := gb148) (o := .cells #[.int .i64 a0_0, .int .i64 a0_1, .int .u64 a0_2, .int .u64 a0_3, .int .u64 a0_4, .string a0_5] 24 (0, 0)) (by (with_reducible repeat (first | refine blk_drewN ?_ _ | refine blk_drew ?_ | refine blk_alloc ?_ _)); exact BK148.out)) : gb148 ≠ gb149)); have n6_ := Aside0.mk ((by rw [hg]; exact Nat.ne_of_gt (blk_lt (g := gb148) (o := .cells #[.int .i64 a0_0, .int .i64 a0_1, .int .u64 a0_2, .int .u64 a0_3, .int .u64 a0_4, .string a0_5] 24 (0, 0)) (by (with_reducible repeat (first | refine blk_drewN ?_ _ | refine blk_drew ?_ | refine blk_alloc ?_ _)); exact BK148.out)) : gb149 ≠ gb148)); clear BK148; clear HB; have BK148 := n0_; have HB := n1_; have BK149 := n2_; have GW149 := n3_; have GE149 := n4_; have NB148_149 := n5_; have NB149_148 := n6_; clear n0_ n1_ n2_ n3_ n4_ n5_ n6_; clear hb hbox hg; have hnb4 := NB148_149.out; have hnc4 := NB149_148.out; have hcz5_0 : w3.cell? ⟨gb148, 0, none⟩ = some (.int .i64 a0_0) := (blk_cell BK148.out 0).trans rfl; have hcz5_1 : w3.cell? ⟨gb148, 1, none⟩ = some (.int .i64 a0_1) := (blk_cell BK148.out 1).trans rfl; have hcz5_2 : w3.cell? ⟨gb148, 2, none⟩ = some (.int .u64 a0_2) := (blk_cell BK148.out 2).trans rfl; have hcz5_3 : w3.cell? ⟨gb148, 3, none⟩ = some (.int .u64 a0_3) := (blk_cell BK148.out 3).trans rfl; have hcz5_4 : w3.cell? ⟨gb148, 4, none⟩ = some (.int .u64 a0_4) := (blk_cell BK148.out 4).trans rfl; have hcz5_5 : w3.cell? ⟨gb148, 5, none⟩ = some (.string a0_5) := (blk_cell BK148.out 5).trans rfl; have hfz5_0 := blk_frozen BK148.out 0; have hfz5_1 := blk_frozen BK148.out 1; have hfz5_2 := blk_frozen BK148.out 2; have hfz5_3 := blk_frozen BK148.out 3; have hfz5_4 := blk_frozen BK148.out 4; have hfz5_5 := blk_frozen BK148.out 5; have hcz6_0 : w3.cell? ⟨gb149, 0, none⟩ = some (.int .u64 0) := (blk_cell BK149.out 0).trans rfl; have hcz6_1 : w3.cell? ⟨gb149, 1, none⟩ = some (.int .u64 0) := (blk_cell BK149.out 1).trans rfl; have hcz6_2 : w3.cell? ⟨gb149, 2, none⟩ = some (.int .u64 0) := (blk_cell BK149.out 2).trans rfl; have hcz6_3 : w3.cell? ⟨gb149, 3, none⟩ = some (.string (⟨#[]⟩ : ByteArray)) := (blk_cell BK149.out 3).trans rfl; have hcz6_4 : w3.cell? ⟨gb149, 4, none⟩ = some (.string (⟨#[]⟩ : ByteArray)) := (blk_cell BK149.out 4).trans rfl; have hfz6_0 := blk_frozen BK149.out 0; have hfz6_1 := blk_frozen BK149.out 1; have hfz6_2 := blk_frozen BK149.out 2; have hfz6_3 := blk_frozen BK149.out 3; have hfz6_4 := blk_frozen BK149.out 4))
 refine bodyPost_ret (results_cell_row rfl _ _ gb149 26 #[.int .u64 a0_2, .int .u64 a0_3, .int .u64 a0_4, .string a0_5, .string (⟨#[]⟩ : ByteArray)] (0, 0) _ rfl (by (with_reducible repeat (first | refine blk_drewN ?_ _ | refine blk_drew ?_ | refine blk_alloc ?_ _)); refine blk_put (cs := #[.int .u64 a0_2, .int .u64 a0_3, .int .u64 a0_4, .string a0_5, .string (⟨#[]⟩ : ByteArray)]) ?_ 4 _ rfl; (with_reducible repeat (first | refine blk_drewN ?_ _ | refine blk_drew ?_ | refine blk_alloc ?_ _)); refine blk_put (cs := #[.int .u64 a0_2, .int .u64 a0_3, .int .u64 a0_4, .string (⟨#[]⟩ : ByteArray), .string (⟨#[]⟩ : ByteArray)]) ?_ 3 _ rfl; (with_reducible repeat (first | refine blk_drewN ?_ _ | refine blk_drew ?_ | refine blk_alloc ?_ _)); refine blk_put (cs := #[.int .u64 a0_2, .int .u64 a0_3, .int .u64 0, .string (⟨#[]⟩ : ByteArray), .string (⟨#[]⟩ : ByteArray)]) ?_ 2 _ rfl; (with_reducible repeat (first | refine blk_drewN ?_ _ | refine blk_drew ?_ | refine blk_alloc ?_ _)); refine blk_put (cs := #[.int .u64 a0_2, .int .u64 0, .int .u64 0, .string (⟨#[]⟩ : ByteArray), .string (⟨#[]⟩ : ByteArray)]) ?_ 1 _ rfl; (with_reducible repeat (first | refine blk_drewN ?_ _ | refine blk_drew ?_ | refine blk_alloc ?_ _)); refine blk_put (cs := #[.int .u64 0, .int .u64 0, .int .u64 0, .string (⟨#[]⟩ : ByteArray), .string (⟨#[]⟩ : ByteArray)]) ?_ 0 _ rfl; (with_reducible repeat (first | refine blk_drewN ?_ _ | refine blk_drew ?_ | refine blk_alloc ?_ _)); exact BK149.out) Tryd.underlying26 rfl (by kernel_rfl)) rfl ?_
 exact ⟨by first | rfl | (simp [errW_none, errW_some] <;> rfl) | (simp [*, errW_none, errW_some] <;> rfl) | (simp [bneNil]; done), by repeat (first | (with_reducible first | exact HB.out | apply below_alloc | apply pw_below_drewN | apply below_drew1 | refine below_set ?_ GE148.out | refine below_set ?_ GE149.out) | exact HB.out)⟩

def spec_Bare.f (a0_0 : Int) (a0_1 : Int) (a0_2 : Int) (a0_3 : ByteArray) (a0_4 : ByteArray) : Option (Int × Int × Int × ByteArray × ByteArray) := some (a0_0, a0_1, a0_2, (⟨#[]⟩ : ByteArray), (⟨#[]⟩ : ByteArray))

set_option maxHeartbeats 80000000 in
set_option maxRecDepth 100000 in
theorem spec_Bare.calls (a0_0 : Int) (a0_1 : Int) (a0_2 : Int) (a0_3 : ByteArray) (a0_4 : ByteArray) (r1 : Int) (r2 : Int) (r3 : Int) (r4 : ByteArray) (r5 : ByteArray) (w : World) (h : spec_Bare.f a0_0 a0_1 a0_2 a0_3 a0_4 = some (r1, r2, r3, r4, r5)) :
  Calls Tryd.prog 41 #[.agg #[.int .u64 a0_0, .int .u64 a0_1, .int .u64 a0_2, .string a0_3, .string a0_4]] w fun e w' => e = .returned (.agg #[.int .u64 r1, .int .u64 r2, .int .u64 r3, .string r4, .string r5]) ∧ Below w.heap.size w w' := by
 have hu26 := Tryd.underlying26
 have HB := Aside0.mk (Below.refl w.heap.size w)
 have H : (some (a0_0, a0_1, a0_2, (⟨#[]⟩ : ByteArray), (⟨#[]⟩ : ByteArray))) = some (r1, r2, r3, r4, r5) := h
 clear h
 simp only [Option.some.injEq, Prod.mk.injEq] at H
 obtain ⟨rfl, rfl, rfl, rfl, rfl⟩ := H
 go_enter Tryd.func41, Tryd.ntmps41
 go_wp2_with (first | ((with_reducible refine gate_dst (N := 1) rfl ?_); refine box_event ?hg (N := 1) ?hd (cs := #[.int .u64 a0_0, .int .u64 a0_1, .int .u64 a0_2, .string a0_3, .string a0_4]) (t := 26) ?hr ?_; (case hd => rfl); (case hg => rfl); (case hr => first | (go_simp; done) | (go_simp; rfl) | (go_simp; simp [u8w]; done)); intro gb207 hg w2 hbox hb; have n0_ := Aside0.mk (below_step (by repeat (first | (with_reducible first | exact HB.out | apply below_alloc | apply pw_below_drewN | apply below_drew1) | exact HB.out)) hb); have n1_ := Aside0.mk (hbox); have n2_ := Aside0.mk ((by rw [hg]; exact (below_size (by repeat (first | (with_reducible first | exact HB.out | apply below_alloc | apply pw_below_drewN | apply below_drew1) | exact HB.out))) : w.heap.size ≤ gb207)); have n3_ := Aside0.mk ((by rw [hg]; exact (below_size (by repeat (first | (with_reducible first | exact HB.out | apply below_alloc | apply pw_below_drewN | apply below_drew1) | exact HB.out))) : w.heap.size ≤ gb207)); clear HB; have HB := n0_; have BK207 := n1_; have GW207 := n2_; have GE207 := n3_; clear n0_ n1_ n2_ n3_; clear hb hbox hg) | ((with_reducible refine gate_dst (N := 2) rfl ?_); refine box_event ?hg (N := 2) ?hd (cs := #[.int .u64 0, .int .u64 0, .int .u64 0, .string (⟨#[]⟩ : ByteArray), .string (⟨#[]⟩ : ByteArray)]) (t := 26) ?hr ?_; (case hd => rfl); (case hg => rfl); (case hr => first | (go_simp; done) | (go_simp; rfl) | (go_simp; simp [u8w]; done)); intro gb208 hg w3 hbox hb; have n0_ := Aside0.mk (blk_below (g := gb207) (o := .cells #[.int .u64 a0_0, .int .u64 a0_1, .int .u64 a0_2, .string a0_3, .string a0_4] 26 (0, 0)) (by (with_reducible repeat (first | refine blk_drewN ?_ _ | refine blk_drew ?_ | refine blk_alloc ?_ _)); exact BK207.out) hb); have n1_ := Aside0.mk (below_step (by repeat (first | (with_reducible first | exact HB.out | apply below_alloc | apply pw_below_drewN | apply below_drew1 | refine below_set ?_ GE207.out) | exact HB.out)) hb); have n2_ := Aside0.mk (hbox); have n3_ := Aside0.mk ((by rw [hg]; exact (below_size (by repeat (first | (with_reducible first | exact HB.out | apply below_alloc | apply pw_below_drewN | apply below_drew1 | refine below_set ?_ GE207.out) | exact HB.out))) : w.heap.size ≤ gb208)); have n4_ := Aside0.mk ((by rw [hg]; exact (below_size (by repeat (first | (with_reducible first | exact HB.out | apply below_alloc | apply pw_below_drewN | apply below_drew1 | refine below_set ?_ GE207.out) | exact HB.out))) : w.heap.size ≤ gb208)); have n5_ := Aside0.mk ((by rw [hg]; exact Nat.ne_of_lt (blk_lt (g := gb207) (o := .cells #[.int .u64 a0_0, .int .u64 a0_1, .int .u64 a0_2, .string a0_3, .string a0_4] 26 (0, 0)) (by (with_reducible repeat (first | refine blk_drewN ?_ _ | refine blk_drew ?_ | refine blk_alloc ?_ _)); exact BK207.out)) : gb207 ≠ gb208)); have n6_ := Aside0.mk ((by rw [hg]; exact Nat.ne_of_gt (blk_lt (g := gb207) (o := .cells #[.int .u64 a0_0, .int .u64 a0_1, .int .u64 a0_2, .string a0_3, .string a0_4] 26 (0, 0)) (by (with_reducible repeat (first | refine blk_drewN ?_ _ | refine blk_drew ?_ | refine blk_alloc ?_ _)); exact BK207.out)) : gb208 ≠ gb207)); clear BK207; clear HB; have BK207 := n0_; have HB := n1_; have BK208 := n2_; have GW208 := n3_; have GE208 := n4_; have NB207_208 := n5_; have NB208_207 := n6_; clear n0_ n1_ n2_ n3_ n4_ n5_ n6_; clear hb hbox hg; have hnb4 := NB207_208.out; have hnc4 := NB208_207.out; have hcz5_0 : w3.cell? ⟨gb207, 0, none⟩ = some (.int .u64 a0_0) := (blk_cell BK207.out 0).trans rfl; have hcz5_1 : w3.cell? ⟨gb207, 1, none⟩ = some (.int .u64 a0_1) := (blk_cell BK207.out 1).trans rfl; have hcz5_2 : w3.cell? ⟨gb207, 2, none⟩ = some (.int .u64 a0_2) := (blk_cell BK207.out 2).trans rfl; have hcz5_3 : w3.cell? ⟨gb207, 3, none⟩ = some (.string a0_3) := (blk_cell BK207.out 3).trans rfl; have hcz5_4 : w3.cell? ⟨gb207, 4, none⟩ = some (.string a0_4) := (blk_cell BK207.out 4).trans rfl; have hfz5_0 := blk_frozen BK207.out 0; have hfz5_1 := blk_frozen BK207.out 1; have hfz5_2 := blk_frozen BK207.out 2; have hfz5_3 := blk_frozen BK207.out 3; have hfz5_4 := blk_frozen BK207.out 4; have hcz6_0 : w3.cell? ⟨gb208, 0, none⟩ = some (.int .u64 0) := (blk_cell BK208.out 0).trans rfl; have hcz6_1 : w3.cell? ⟨gb208, 1, none⟩ = some (.int .u64 0) := (blk_cell BK208.out 1).trans rfl; have hcz6_2 : w3.cell? ⟨gb208, 2, none⟩ = some (.int .u64 0) := (blk_cell BK208.out 2).trans rfl; have hcz6_3 : w3.cell? ⟨gb208, 3, none⟩ = some (.string (⟨#[]⟩ : ByteArray)) := (blk_cell BK208.out 3).trans rfl; have hcz6_4 : w3.cell? ⟨gb208, 4, none⟩ = some (.string (⟨#[]⟩ : ByteArray)) := (blk_cell BK208.out 4).trans rfl; have hfz6_0 := blk_frozen BK208.out 0; have hfz6_1 := blk_frozen BK208.out 1; have hfz6_2 := blk_frozen BK208.out 2; have hfz6_3 := blk_frozen BK208.out 3; have hfz6_4 := blk_frozen BK208.out 4))
 refine bodyPost_ret (results_cell_row rfl _ _ gb208 26 #[.int .u64 a0_0, .int .u64 a0_1, .int .u64 a0_2, .string (⟨#[]⟩ : ByteArray), .string (⟨#[]⟩ : ByteArray)] (0, 0) _ rfl (by (with_reducible repeat (first | refine blk_drewN ?_ _ | refine blk_drew ?_ | refine blk_alloc ?_ _)); refine blk_put (cs := #[.int .u64 a0_0, .int .u64 a0_1, .int .u64 a0_2, .string (⟨#[]⟩ : ByteArray), .string (⟨#[]⟩ : ByteArray)]) ?_ 4 _ rfl; (with_reducible repeat (first | refine blk_drewN ?_ _ | refine blk_drew ?_ | refine blk_alloc ?_ _)); refine blk_put (cs := #[.int .u64 a0_0, .int .u64 a0_1, .int .u64 a0_2, .string (⟨#[]⟩ : ByteArray), .string (⟨#[]⟩ : ByteArray)]) ?_ 3 _ rfl; (with_reducible repeat (first | refine blk_drewN ?_ _ | refine blk_drew ?_ | refine blk_alloc ?_ _)); refine blk_put (cs := #[.int .u64 a0_0, .int .u64 a0_1, .int .u64 0, .string (⟨#[]⟩ : ByteArray), .string (⟨#[]⟩ : ByteArray)]) ?_ 2 _ rfl; (with_reducible repeat (first | refine blk_drewN ?_ _ | refine blk_drew ?_ | refine blk_alloc ?_ _)); refine blk_put (cs := #[.int .u64 a0_0, .int .u64 0, .int .u64 0, .string (⟨#[]⟩ : ByteArray), .string (⟨#[]⟩ : ByteArray)]) ?_ 1 _ rfl; (with_reducible repeat (first | refine blk_drewN ?_ _ | refine blk_drew ?_ | refine blk_alloc ?_ _)); refine blk_put (cs := #[.int .u64 0, .int .u64 0, .int .u64 0, .string (⟨#[]⟩ : ByteArray), .string (⟨#[]⟩ : ByteArray)]) ?_ 0 _ rfl; (with_reducible repeat (first | refine blk_drewN ?_ _ | refine blk_drew ?_ | refine blk_alloc ?_ _)); exact BK208.out) Tryd.underlying26 rfl (by kernel_rfl)) rfl ?_
 exact ⟨by first | rfl | (simp [errW_none, errW_some] <;> rfl) | (simp [*, errW_none, errW_some] <;> rfl) | (simp [bneNil]; done), by repeat (first | (with_reducible first | exact HB.out | apply below_alloc | apply pw_below_drewN | apply below_drew1 | refine below_set ?_ GE207.out | refine below_set ?_ GE208.out) | exact HB.out)⟩

def laws_zzFits12.l0 : Nat → List (S24) → Int → Int → Option (Bool)
  | 0, _, _, _ => none
  | k + 1, x8, x9, x10 => if x10 < x9 then (if 0 ≤ x10 then (if x10 < (x8.length : Int) then ((laws_zzFits13.f ((rd_T24 x8 x10).f0) ((rd_T24 x8 x10).f1) ((rd_T24 x8 x10).f2) ((rd_T24 x8 x10).f3) ((rd_T24 x8 x10).f4) ((rd_T24 x8 x10).f5)).bind fun t372 => (if t372 = true then (laws_zzFits12.l0 k x8 x9 (wrap64 (x10 + 1))) else (some false))) else (none)) else (none)) else (some true)

def laws_zzFits12.f (k : Nat) (l0 : List (S24)) : Option (Bool) := if (l0.length : Int) > 2147483647 then (some false) else (laws_zzFits12.l0 k l0 (l0.length : Int) 0)

set_option maxHeartbeats 80000000 in
set_option maxRecDepth 100000 in
theorem laws_zzFits12.calls (k : Nat) (A0 : Option Addr) (c0 : Nat) (l0 : List (S24)) (r : Bool) (w : World) (hr0 : Kd.C k24 w A0 l0.length l0) (hc0 : l0.length ≤ c0) (h : laws_zzFits12.f k l0 = some r) :
  Calls Tryd.prog 34 #[.slice A0 l0.length c0] w fun e w' => e = .returned (.bool r) ∧ Below w.heap.size w w' := by
 have hu24 := Tryd.underlying24
 have HR0 := Aside0.mk hr0
 have HC0 := Aside0.mk hc0
 clear hr0 hc0
 have HB := Aside0.mk (Below.refl w.heap.size w)
 have H : (if (l0.length : Int) > 2147483647 then (some false) else (laws_zzFits12.l0 k l0 (l0.length : Int) 0)) = some r := h
 clear h
 by_cases c2 : (l0.length : Int) > 2147483647
 ·
  rw [if_pos c2] at H
  have c2b0 : decide (2147483647 < (l0.length : Int)) = true := decide_eq_true c2
  have c2b1 : decide (2147483647 < l0.length) = true := decide_eq_true (by omega)
  clear c2
  obtain rfl := Option.some.inj H
  go_enter Tryd.func34, Tryd.ntmps34
  go_wp2
  go_ret
  exact ⟨by first | rfl | (simp [errW_none, errW_some] <;> rfl) | (simp [*, errW_none, errW_some] <;> rfl) | (simp [bneNil]; done), by repeat (first | (with_reducible first | exact HB.out | apply below_alloc | apply pw_below_drewN | apply below_drew1) | exact HB.out)⟩
 ·
  rw [if_neg c2] at H
  have c2b0 : decide (2147483647 < (l0.length : Int)) = false := decide_eq_false c2
  have c2b1 : decide (2147483647 < l0.length) = false := decide_eq_false (by omega)
  clear c2
  have H' := Aside0.mk H
  clear H
  go_enter Tryd.func34, Tryd.ntmps34
  go_wp2
  go_loopg [10] k (fun kq v10 w' => ∃ (x10_1 : Int), v10 = .int .i64 x10_1 ∧ Aside0 (laws_zzFits12.l0 kq l0 (l0.length : Int) x10_1 = some r) ∧ Aside0 (kq ≤ k) ∧ Aside0 (Below w.heap.size w w'))
  case atStart => exact ⟨(0), (by first | rfl | (simp; done) | (simp [*]; done)), H', ⟨Nat.le_refl _⟩, ⟨by repeat (first | (with_reducible first | exact HB.out | apply below_alloc | apply pw_below_drewN | apply below_drew1) | exact HB.out)⟩⟩
  case round =>
   clear H'
   try clear c2
   try clear c2b0
   try clear c2b1
   try clear p2
   obtain ⟨x10_1, rfl, HA, HK1, HB⟩ := hrel
   cases gk with
   | zero => exact absurd HA.out (by simp [laws_zzFits12.l0])
   | succ k1 =>
    have H := HA.out
    clear HA
    simp only [laws_zzFits12.l0] at H
    by_cases c3 : x10_1 < (l0.length : Int)
    ·
     rw [if_pos c3] at H
     have c3b0 : decide (x10_1 < (l0.length : Int)) = true := decide_eq_true c3
     clear c3
     by_cases c4 : 0 ≤ x10_1
     ·
      rw [if_pos c4] at H
      have c4b0 : decide (0 ≤ x10_1) = true := decide_eq_true c4
      clear c4
      by_cases c5 : x10_1 < (l0.length : Int)
      ·
       rw [if_pos c5] at H
       have c5b0 : decide (x10_1 < (l0.length : Int)) = true := decide_eq_true c5
       clear c5
       replace H := Option.bind_eq_some_iff.mp H
       obtain ⟨t372, A60, H⟩ := H
       replace H : (if t372 = true then (laws_zzFits12.l0 k1 l0 (l0.length : Int) (wrap64 (x10_1 + 1))) else (some false)) = some r := H
       have A6 := Aside0.mk A60
       clear A60
       by_cases c7 : t372 = true
       ·
        subst c7
        have H1 : (laws_zzFits12.l0 k1 l0 (l0.length : Int) (wrap64 (x10_1 + 1))) = some r := by rw [if_pos rfl] at H; exact H
        clear H
        have H := H1
        clear H1
        have H' := Aside0.mk H
        clear H
        have p370 : 0 ≤ (x10_1 : Int) := of_decide_eq_true (by first | (with_reducible assumption) | assumption)
        have q370 : x10_1 < (l0.length : Int) := of_decide_eq_true (by first | (with_reducible assumption) | assumption)
        obtain ⟨ad370, e370, hx370_0, hx370_1, hx370_2, hx370_3, hx370_4, hx370_5⟩ := at_T24 HR0.out x10_1 p370 q370
        cases e370
        replace hx370_0 := (HB.out.cell (World.block_lt_of_cell? w _ hx370_0)).trans hx370_0
        replace hx370_1 := (HB.out.cell (World.block_lt_of_cell? w _ hx370_1)).trans hx370_1
        replace hx370_2 := (HB.out.cell (World.block_lt_of_cell? w _ hx370_2)).trans hx370_2
        replace hx370_3 := (HB.out.cell (World.block_lt_of_cell? w _ hx370_3)).trans hx370_3
        replace hx370_4 := (HB.out.cell (World.block_lt_of_cell? w _ hx370_4)).trans hx370_4
        replace hx370_5 := (HB.out.cell (World.block_lt_of_cell? w _ hx370_5)).trans hx370_5
        replace p370 := eq_true p370
        replace q370 := eq_true q370
        go_wp2_with (first | ((with_reducible refine gate_dst (N := 4) rfl ?_); refine box_event ?hg (N := 4) ?hd (cs := #[.int .i64 0, .int .i64 0, .int .u64 0, .int .u64 0, .int .u64 0, .string (⟨#[]⟩ : ByteArray)]) (t := 24) ?hr ?_; (case hd => rfl); (case hg => rfl); (case hr => first | (go_simp; done) | (go_simp; rfl) | (go_simp; simp [u8w]; done)); intro gb371 hg w8 hbox hb; have n0_ := Aside0.mk (below_step (by repeat (first | (with_reducible first | exact HB.out | apply below_alloc | apply pw_below_drewN | apply below_drew1) | exact HB.out)) hb); have n1_ := Aside0.mk (hbox); have n2_ := Aside0.mk ((by rw [hg]; exact (below_size (by repeat (first | (with_reducible first | exact HB.out | apply below_alloc | apply pw_below_drewN | apply below_drew1) | exact HB.out))) : w.heap.size ≤ gb371)); have n3_ := Aside0.mk ((by rw [hg]; exact (below_size (by repeat (first | (with_reducible first | exact HB.out | apply below_alloc | apply pw_below_drewN | apply below_drew1) | exact HB.out))) : w.heap.size ≤ gb371)); clear HB; have HB := n0_; have BK371 := n1_; have GW371 := n2_; have GE371 := n3_; clear n0_ n1_ n2_ n3_; clear hb hbox hg; have hcz9_0 : w8.cell? ⟨gb371, 0, none⟩ = some (.int .i64 0) := (blk_cell BK371.out 0).trans rfl; have hcz9_1 : w8.cell? ⟨gb371, 1, none⟩ = some (.int .i64 0) := (blk_cell BK371.out 1).trans rfl; have hcz9_2 : w8.cell? ⟨gb371, 2, none⟩ = some (.int .u64 0) := (blk_cell BK371.out 2).trans rfl; have hcz9_3 : w8.cell? ⟨gb371, 3, none⟩ = some (.int .u64 0) := (blk_cell BK371.out 3).trans rfl; have hcz9_4 : w8.cell? ⟨gb371, 4, none⟩ = some (.int .u64 0) := (blk_cell BK371.out 4).trans rfl; have hcz9_5 : w8.cell? ⟨gb371, 5, none⟩ = some (.string (⟨#[]⟩ : ByteArray)) := (blk_cell BK371.out 5).trans rfl; have hfz9_0 := blk_frozen BK371.out 0; have hfz9_1 := blk_frozen BK371.out 1; have hfz9_2 := blk_frozen BK371.out 2; have hfz9_3 := blk_frozen BK371.out 3; have hfz9_4 := blk_frozen BK371.out 4; have hfz9_5 := blk_frozen BK371.out 5) | ((with_reducible refine gate_callee (f := 13) rfl ?_); refine goesL_ (some 15) rfl rfl Tryd.func13 (by kernel_rfl) rfl #[.agg #[.int .i64 ((rd_T24 l0 x10_1).f0), .int .i64 ((rd_T24 l0 x10_1).f1), .int .u64 ((rd_T24 l0 x10_1).f2), .int .u64 ((rd_T24 l0 x10_1).f3), .int .u64 ((rd_T24 l0 x10_1).f4), .string ((rd_T24 l0 x10_1).f5)]] rfl (by (try simp only [List.map_toArray, List.map_cons, List.map_nil]); first | done | rfl | (simp only [List.length_drop, List.length_take]; rfl)) ?_; (with_reducible refine (laws_zzFits13.calls ((rd_T24 l0 x10_1).f0) ((rd_T24 l0 x10_1).f1) ((rd_T24 l0 x10_1).f2) ((rd_T24 l0 x10_1).f3) ((rd_T24 l0 x10_1).f4) ((rd_T24 l0 x10_1).f5) true _ A6.out).mono ?_); rintro e w10 ⟨rfl, hb⟩; refine ⟨_, rfl, ?_⟩; have n0_ := Aside0.mk (blk_below (g := gb371) (o := .cells #[.int .i64 ((rd_T24 l0 x10_1).f0), .int .i64 ((rd_T24 l0 x10_1).f1), .int .u64 ((rd_T24 l0 x10_1).f2), .int .u64 ((rd_T24 l0 x10_1).f3), .int .u64 ((rd_T24 l0 x10_1).f4), .string ((rd_T24 l0 x10_1).f5)] 24 (0, 0)) (by (with_reducible repeat (first | refine blk_drewN ?_ _ | refine blk_drew ?_ | refine blk_alloc ?_ _)); refine blk_put (cs := #[.int .i64 ((rd_T24 l0 x10_1).f0), .int .i64 ((rd_T24 l0 x10_1).f1), .int .u64 ((rd_T24 l0 x10_1).f2), .int .u64 ((rd_T24 l0 x10_1).f3), .int .u64 ((rd_T24 l0 x10_1).f4), .string (⟨#[]⟩ : ByteArray)]) ?_ 5 _ rfl; (with_reducible repeat (first | refine blk_drewN ?_ _ | refine blk_drew ?_ | refine blk_alloc ?_ _)); refine blk_put (cs := #[.int .i64 ((rd_T24 l0 x10_1).f0), .int .i64 ((rd_T24 l0 x10_1).f1), .int .u64 ((rd_T24 l0 x10_1).f2), .int .u64 ((rd_T24 l0 x10_1).f3), .int .u64 0, .string (⟨#[]⟩ : ByteArray)]) ?_ 4 _ rfl; (with_reducible repeat (first | refine blk_drewN ?_ _ | refine blk_drew ?_ | refine blk_alloc ?_ _)); refine blk_put (cs := #[.int .i64 ((rd_T24 l0 x10_1).f0), .int .i64 ((rd_T24 l0 x10_1).f1), .int .u64 ((rd_T24 l0 x10_1).f2), .int .u64 0, .int .u64 0, .string (⟨#[]⟩ : ByteArray)]) ?_ 3 _ rfl; (with_reducible repeat (first | refine blk_drewN ?_ _ | refine blk_drew ?_ | refine blk_alloc ?_ _)); refine blk_put (cs := #[.int .i64 ((rd_T24 l0 x10_1).f0), .int .i64 ((rd_T24 l0 x10_1).f1), .int .u64 0, .int .u64 0, .int .u64 0, .string (⟨#[]⟩ : ByteArray)]) ?_ 2 _ rfl; (with_reducible repeat (first | refine blk_drewN ?_ _ | refine blk_drew ?_ | refine blk_alloc ?_ _)); refine blk_put (cs := #[.int .i64 ((rd_T24 l0 x10_1).f0), .int .i64 0, .int .u64 0, .int .u64 0, .int .u64 0, .string (⟨#[]⟩ : ByteArray)]) ?_ 1 _ rfl; (with_reducible repeat (first | refine blk_drewN ?_ _ | refine blk_drew ?_ | refine blk_alloc ?_ _)); refine blk_put (cs := #[.int .i64 0, .int .i64 0, .int .u64 0, .int .u64 0, .int .u64 0, .string (⟨#[]⟩ : ByteArray)]) ?_ 0 _ rfl; (with_reducible repeat (first | refine blk_drewN ?_ _ | refine blk_drew ?_ | refine blk_alloc ?_ _)); exact BK371.out) hb); have n1_ := Aside0.mk (below_step (by repeat (first | (with_reducible first | exact HB.out | apply below_alloc | apply pw_below_drewN | apply below_drew1 | refine below_set ?_ GE371.out) | exact HB.out)) hb); clear BK371; clear HB; have BK371 := n0_; have HB := n1_; clear n0_ n1_; (try clear hb); (try clear hb2); (try clear hk); (try clear hi)))
        go_roundg k1
        case measure => have := HK1.out; omega
        case rel => exact ⟨(wrap64 (x10_1 + 1)), (by first | rfl | (simp; done) | (simp [*]; done)), H', ⟨by have := HK1.out; omega⟩, ⟨by repeat (first | (with_reducible first | exact HB.out | apply below_alloc | apply pw_below_drewN | apply below_drew1 | refine below_set ?_ GE371.out) | exact HB.out)⟩⟩
       ·
        replace c7 := Bool.eq_false_iff.mpr c7
        subst c7
        have H1 : (some false) = some r := by rw [if_neg (show ¬ (false = true) by decide)] at H; exact H
        clear H
        have H := H1
        clear H1
        obtain rfl := Option.some.inj H
        have p370 : 0 ≤ (x10_1 : Int) := of_decide_eq_true (by first | (with_reducible assumption) | assumption)
        have q370 : x10_1 < (l0.length : Int) := of_decide_eq_true (by first | (with_reducible assumption) | assumption)
        obtain ⟨ad370, e370, hx370_0, hx370_1, hx370_2, hx370_3, hx370_4, hx370_5⟩ := at_T24 HR0.out x10_1 p370 q370
        cases e370
        replace hx370_0 := (HB.out.cell (World.block_lt_of_cell? w _ hx370_0)).trans hx370_0
        replace hx370_1 := (HB.out.cell (World.block_lt_of_cell? w _ hx370_1)).trans hx370_1
        replace hx370_2 := (HB.out.cell (World.block_lt_of_cell? w _ hx370_2)).trans hx370_2
        replace hx370_3 := (HB.out.cell (World.block_lt_of_cell? w _ hx370_3)).trans hx370_3
        replace hx370_4 := (HB.out.cell (World.block_lt_of_cell? w _ hx370_4)).trans hx370_4
        replace hx370_5 := (HB.out.cell (World.block_lt_of_cell? w _ hx370_5)).trans hx370_5
        replace p370 := eq_true p370
        replace q370 := eq_true q370
        go_wp2_with (first | ((with_reducible refine gate_dst (N := 4) rfl ?_); refine box_event ?hg (N := 4) ?hd (cs := #[.int .i64 0, .int .i64 0, .int .u64 0, .int .u64 0, .int .u64 0, .string (⟨#[]⟩ : ByteArray)]) (t := 24) ?hr ?_; (case hd => rfl); (case hg => rfl); (case hr => first | (go_simp; done) | (go_simp; rfl) | (go_simp; simp [u8w]; done)); intro gb371 hg w11 hbox hb; have n0_ := Aside0.mk (below_step (by repeat (first | (with_reducible first | exact HB.out | apply below_alloc | apply pw_below_drewN | apply below_drew1) | exact HB.out)) hb); have n1_ := Aside0.mk (hbox); have n2_ := Aside0.mk ((by rw [hg]; exact (below_size (by repeat (first | (with_reducible first | exact HB.out | apply below_alloc | apply pw_below_drewN | apply below_drew1) | exact HB.out))) : w.heap.size ≤ gb371)); have n3_ := Aside0.mk ((by rw [hg]; exact (below_size (by repeat (first | (with_reducible first | exact HB.out | apply below_alloc | apply pw_below_drewN | apply below_drew1) | exact HB.out))) : w.heap.size ≤ gb371)); clear HB; have HB := n0_; have BK371 := n1_; have GW371 := n2_; have GE371 := n3_; clear n0_ n1_ n2_ n3_; clear hb hbox hg; have hcz12_0 : w11.cell? ⟨gb371, 0, none⟩ = some (.int .i64 0) := (blk_cell BK371.out 0).trans rfl; have hcz12_1 : w11.cell? ⟨gb371, 1, none⟩ = some (.int .i64 0) := (blk_cell BK371.out 1).trans rfl; have hcz12_2 : w11.cell? ⟨gb371, 2, none⟩ = some (.int .u64 0) := (blk_cell BK371.out 2).trans rfl; have hcz12_3 : w11.cell? ⟨gb371, 3, none⟩ = some (.int .u64 0) := (blk_cell BK371.out 3).trans rfl; have hcz12_4 : w11.cell? ⟨gb371, 4, none⟩ = some (.int .u64 0) := (blk_cell BK371.out 4).trans rfl; have hcz12_5 : w11.cell? ⟨gb371, 5, none⟩ = some (.string (⟨#[]⟩ : ByteArray)) := (blk_cell BK371.out 5).trans rfl; have hfz12_0 := blk_frozen BK371.out 0; have hfz12_1 := blk_frozen BK371.out 1; have hfz12_2 := blk_frozen BK371.out 2; have hfz12_3 := blk_frozen BK371.out 3; have hfz12_4 := blk_frozen BK371.out 4; have hfz12_5 := blk_frozen BK371.out 5) | ((with_reducible refine gate_callee (f := 13) rfl ?_); refine goesL_ (some 15) rfl rfl Tryd.func13 (by kernel_rfl) rfl #[.agg #[.int .i64 ((rd_T24 l0 x10_1).f0), .int .i64 ((rd_T24 l0 x10_1).f1), .int .u64 ((rd_T24 l0 x10_1).f2), .int .u64 ((rd_T24 l0 x10_1).f3), .int .u64 ((rd_T24 l0 x10_1).f4), .string ((rd_T24 l0 x10_1).f5)]] rfl (by (try simp only [List.map_toArray, List.map_cons, List.map_nil]); first | done | rfl | (simp only [List.length_drop, List.length_take]; rfl)) ?_; (with_reducible refine (laws_zzFits13.calls ((rd_T24 l0 x10_1).f0) ((rd_T24 l0 x10_1).f1) ((rd_T24 l0 x10_1).f2) ((rd_T24 l0 x10_1).f3) ((rd_T24 l0 x10_1).f4) ((rd_T24 l0 x10_1).f5) false _ A6.out).mono ?_); rintro e w13 ⟨rfl, hb⟩; refine ⟨_, rfl, ?_⟩; have n0_ := Aside0.mk (blk_below (g := gb371) (o := .cells #[.int .i64 ((rd_T24 l0 x10_1).f0), .int .i64 ((rd_T24 l0 x10_1).f1), .int .u64 ((rd_T24 l0 x10_1).f2), .int .u64 ((rd_T24 l0 x10_1).f3), .int .u64 ((rd_T24 l0 x10_1).f4), .string ((rd_T24 l0 x10_1).f5)] 24 (0, 0)) (by (with_reducible repeat (first | refine blk_drewN ?_ _ | refine blk_drew ?_ | refine blk_alloc ?_ _)); refine blk_put (cs := #[.int .i64 ((rd_T24 l0 x10_1).f0), .int .i64 ((rd_T24 l0 x10_1).f1), .int .u64 ((rd_T24 l0 x10_1).f2), .int .u64 ((rd_T24 l0 x10_1).f3), .int .u64 ((rd_T24 l0 x10_1).f4), .string (⟨#[]⟩ : ByteArray)]) ?_ 5 _ rfl; (with_reducible repeat (first | refine blk_drewN ?_ _ | refine blk_drew ?_ | refine blk_alloc ?_ _)); refine blk_put (cs := #[.int .i64 ((rd_T24 l0 x10_1).f0), .int .i64 ((rd_T24 l0 x10_1).f1), .int .u64 ((rd_T24 l0 x10_1).f2), .int .u64 ((rd_T24 l0 x10_1).f3), .int .u64 0, .string (⟨#[]⟩ : ByteArray)]) ?_ 4 _ rfl; (with_reducible repeat (first | refine blk_drewN ?_ _ | refine blk_drew ?_ | refine blk_alloc ?_ _)); refine blk_put (cs := #[.int .i64 ((rd_T24 l0 x10_1).f0), .int .i64 ((rd_T24 l0 x10_1).f1), .int .u64 ((rd_T24 l0 x10_1).f2), .int .u64 0, .int .u64 0, .string (⟨#[]⟩ : ByteArray)]) ?_ 3 _ rfl; (with_reducible repeat (first | refine blk_drewN ?_ _ | refine blk_drew ?_ | refine blk_alloc ?_ _)); refine blk_put (cs := #[.int .i64 ((rd_T24 l0 x10_1).f0), .int .i64 ((rd_T24 l0 x10_1).f1), .int .u64 0, .int .u64 0, .int .u64 0, .string (⟨#[]⟩ : ByteArray)]) ?_ 2 _ rfl; (with_reducible repeat (first | refine blk_drewN ?_ _ | refine blk_drew ?_ | refine blk_alloc ?_ _)); refine blk_put (cs := #[.int .i64 ((rd_T24 l0 x10_1).f0), .int .i64 0, .int .u64 0, .int .u64 0, .int .u64 0, .string (⟨#[]⟩ : ByteArray)]) ?_ 1 _ rfl; (with_reducible repeat (first | refine blk_drewN ?_ _ | refine blk_drew ?_ | refine blk_alloc ?_ _)); refine blk_put (cs := #[.int .i64 0, .int .i64 0, .int .u64 0, .int .u64 0, .int .u64 0, .string (⟨#[]⟩ : ByteArray)]) ?_ 0 _ rfl; (with_reducible repeat (first | refine blk_drewN ?_ _ | refine blk_drew ?_ | refine blk_alloc ?_ _)); exact BK371.out) hb); have n1_ := Aside0.mk (below_step (by repeat (first | (with_reducible first | exact HB.out | apply below_alloc | apply pw_below_drewN | apply below_drew1 | refine below_set ?_ GE371.out) | exact HB.out)) hb); clear BK371; clear HB; have BK371 := n0_; have HB := n1_; clear n0_ n1_; (try clear hb); (try clear hb2); (try clear hk); (try clear hi)))
        go_ret
        exact ⟨by first | rfl | (simp [errW_none, errW_some] <;> rfl) | (simp [*, errW_none, errW_some] <;> rfl) | (simp [bneNil]; done), by repeat (first | (with_reducible first | exact HB.out | apply below_alloc | apply pw_below_drewN | apply below_drew1 | refine below_set ?_ GE371.out) | exact HB.out)⟩
      ·
       rw [if_neg c5] at H
       exact absurd H (by simp)
     ·
      rw [if_neg c4] at H
      exact absurd H (by simp)
    ·
     rw [if_neg c3] at H
     have c3b0 : decide (x10_1 < (l0.length : Int)) = false := decide_eq_false c3
     clear c3
     obtain rfl := Option.some.inj H
     go_wp2
     go_ret
     exact ⟨by first | rfl | (simp [errW_none, errW_some] <;> rfl) | (simp [*, errW_none, errW_some] <;> rfl) | (simp [bneNil]; done), by repeat (first | (with_reducible first | exact HB.out | apply below_alloc | apply pw_below_drewN | apply below_drew1) | exact HB.out)⟩

end Go.Proofs.YtllkoadcpobdaaaDoor.PX
namespace Go.Proofs.YtllkoadcpobdaaaDoor.PX

open Go.RowKit Go.Proofs.YtllkoadcpobdaaaDoorW.PrintWords Go.Proofs.YtllkoadcpobdaaaDoorW.PrintLast Go.Proofs.YtllkoadcpobdaaaDoorW.PrintMore

attribute [local go_sem] max2_int min2_int max_two min_two max_three min_three max_four min_four   -- for this text's walks alone

set_option linter.unusedVariables false

set_option linter.unusedSimpArgs false

mutual
def spec_GoodTerms.l0 : Nat → Int → Int → List (List (S24)) → Int → Int → Option (Bool)
  | 0, _, _, _, _, _ => none
  | k + 1, x1, x5, x10, x11, x12 => if x12 < x11 then (if 0 ≤ x12 then (if x12 < (x10.length : Int) then (spec_GoodTerms.l1 k x1 x5 (rd_L5 x10 x12) x10 x11 x12 (rd_L5 x10 x12) ((rd_L5 x10 x12).length : Int) 0) else (none)) else (none)) else (some (decide (x5 > 0)))
def spec_GoodTerms.l1 : Nat → Int → Int → List (S24) → List (List (S24)) → Int → Int → List (S24) → Int → Int → Option (Bool)
  | 0, _, _, _, _, _, _, _, _, _ => none
  | k + 1, x1, x5, x7, x10, x11, x12, x16, x17, x18 => if x18 < x17 then (if 0 ≤ x18 then (if x18 < (x16.length : Int) then ((spec_GoodTerm.f k ((rd_T24 x16 x18).f0) ((rd_T24 x16 x18).f1) ((rd_T24 x16 x18).f2) ((rd_T24 x16 x18).f3) ((rd_T24 x16 x18).f4) ((rd_T24 x16 x18).f5)).bind fun t376 => (if t376 = true then (spec_GoodTerms.l1 k x1 x5 x7 x10 x11 x12 x16 x17 (wrap64 (x18 + 1))) else (some false))) else (none)) else (none)) else (if (x7.length : Int) = 0 then (some false) else (if (wrap64 (x5 + (x7.length : Int))) > x1 then (some false) else (spec_GoodTerms.l0 k x1 (wrap64 (x5 + (x7.length : Int))) x10 x11 (wrap64 (x12 + 1)))))
end

def spec_GoodTerms.f (k : Nat) (l0 : List (List (S24))) (a1 : Int) : Option (Bool) := spec_GoodTerms.l0 k a1 0 l0 (l0.length : Int) 0

set_option maxHeartbeats 80000000 in
set_option maxRecDepth 100000 in
theorem spec_GoodTerms.calls (k : Nat) (A0 : Option Addr) (c0 : Nat) (l0 : List (List (S24))) (a1 : Int) (r : Bool) (w : World) (hr0 : Kd.C (Kd.slice 24 k24) w A0 l0.length l0) (hc0 : l0.length ≤ c0) (h : spec_GoodTerms.f k l0 a1 = some r) :
  Calls Tryd.prog 72 #[.slice A0 l0.length c0, .int .i64 a1] w fun e w' => e = .returned (.bool r) ∧ Below w.heap.size w w' := by
 have hu24 := Tryd.underlying24
 have HR0 := Aside0.mk hr0
 have HC0 := Aside0.mk hc0
 clear hr0 hc0
 have HB := Aside0.mk (Below.refl w.heap.size w)
 have H : (spec_GoodTerms.l0 k a1 0 l0 (l0.length : Int) 0) = some r := h
 clear h
 have H' := Aside0.mk H
 clear H
 go_enter Tryd.func72, Tryd.ntmps72
 go_wp2
 go_loopg [5, 12] k (fun kq v5 v12 w' => ∃ (x5_1 : Int) (x12_1 : Int), v5 = .int .i64 x5_1 ∧ v12 = .int .i64 x12_1 ∧ Aside0 (spec_GoodTerms.l0 kq a1 x5_1 l0 (l0.length : Int) x12_1 = some r) ∧ Aside0 (kq ≤ k) ∧ Aside0 (Below w.heap.size w w'))
 case atStart => exact ⟨(0), (0), (by first | rfl | (simp; done) | (simp [*]; done)), (by first | rfl | (simp; done) | (simp [*]; done)), H', ⟨Nat.le_refl _⟩, ⟨by repeat (first | (with_reducible first | exact HB.out | apply below_alloc | apply pw_below_drewN | apply below_drew1) | exact HB.out)⟩⟩
 case round =>
  clear H'
  try clear p2
  obtain ⟨x5_1, x12_1, rfl, rfl, HA, HK1, HB⟩ := hrel
  cases gk with
  | zero => exact absurd HA.out (by simp [spec_GoodTerms.l0])
  | succ k1 =>
   have H := HA.out
   clear HA
   simp only [spec_GoodTerms.l0] at H
   by_cases c3 : x12_1 < (l0.length : Int)
   ·
    rw [if_pos c3] at H
    have c3b0 : decide (x12_1 < (l0.length : Int)) = true := decide_eq_true c3
    clear c3
    by_cases c4 : 0 ≤ x12_1
    ·
     rw [if_pos c4] at H
     have c4b0 : decide (0 ≤ x12_1) = true := decide_eq_true c4
     clear c4
     by_cases c5 : x12_1 < (l0.length : Int)
     ·
      rw [if_pos c5] at H
      have c5b0 : decide (x12_1 < (l0.length : Int)) = true := decide_eq_true c5
      clear c5
      have H' := Aside0.mk H
      clear H
      have p373 : 0 ≤ (x12_1 : Int) := of_decide_eq_true (by first | (with_reducible assumption) | assumption)
      have q373 : x12_1 < (l0.length : Int) := of_decide_eq_true (by first | (with_reducible assumption) | assumption)
      obtain ⟨ad373, A373_0, c373_0, e373, hx373_0, hl373_0, hi373_0⟩ := at_L5 HR0.out x12_1 p373 q373
      cases e373
      replace hx373_0 := (HB.out.cell (World.block_lt_of_cell? w _ hx373_0)).trans hx373_0
      have HR373_0 := Aside0.mk hi373_0
      have HC373_0 := Aside0.mk hl373_0
      clear hi373_0 hl373_0
      replace p373 := eq_true p373
      replace q373 := eq_true q373
      go_wp2
      go_loopg [18] k1 (fun kq v18 w' => ∃ (x18_2 : Int), v18 = .int .i64 x18_2 ∧ Aside0 (spec_GoodTerms.l1 kq a1 x5_1 (rd_L5 l0 x12_1) l0 (l0.length : Int) x12_1 (rd_L5 l0 x12_1) ((rd_L5 l0 x12_1).length : Int) x18_2 = some r) ∧ Aside0 (kq ≤ k1) ∧ Aside0 (Below w.heap.size w w'))
      case atStart => exact ⟨(0), (by first | rfl | (simp; done) | (simp [*]; done)), H', ⟨Nat.le_refl _⟩, ⟨by repeat (first | (with_reducible first | exact HB.out | apply below_alloc | apply pw_below_drewN | apply below_drew1) | exact HB.out)⟩⟩
      case round =>
       clear H'
       try clear p2
       try clear c3
       try clear c3b0
       try clear p3
       try clear q3
       try clear hx3
       try clear c4
       try clear c4b0
       try clear c5
       try clear c5b0
       try clear hx373_0
       try clear p2
       try clear p373
       try clear q373
       obtain ⟨x18_2, rfl, HA, HK2, HB⟩ := hrel
       cases gk with
       | zero => exact absurd HA.out (by simp [spec_GoodTerms.l1])
       | succ k2 =>
        have H := HA.out
        clear HA
        simp only [spec_GoodTerms.l1] at H
        by_cases c6 : x18_2 < ((rd_L5 l0 x12_1).length : Int)
        ·
         rw [if_pos c6] at H
         have c6b0 : decide (x18_2 < ((rd_L5 l0 x12_1).length : Int)) = true := decide_eq_true c6
         clear c6
         by_cases c7 : 0 ≤ x18_2
         ·
          rw [if_pos c7] at H
          have c7b0 : decide (0 ≤ x18_2) = true := decide_eq_true c7
          clear c7
          by_cases c8 : x18_2 < ((rd_L5 l0 x12_1).length : Int)
          ·
           rw [if_pos c8] at H
           have c8b0 : decide (x18_2 < ((rd_L5 l0 x12_1).length : Int)) = true := decide_eq_true c8
           clear c8
           replace H := Option.bind_eq_some_iff.mp H
           obtain ⟨t376, A90, H⟩ := H
           replace H : (if t376 = true then (spec_GoodTerms.l1 k2 a1 x5_1 (rd_L5 l0 x12_1) l0 (l0.length : Int) x12_1 (rd_L5 l0 x12_1) ((rd_L5 l0 x12_1).length : Int) (wrap64 (x18_2 + 1))) else (some false)) = some r := H
           have A9 := Aside0.mk A90
           clear A90
           by_cases c10 : t376 = true
           ·
            subst c10
            have H1 : (spec_GoodTerms.l1 k2 a1 x5_1 (rd_L5 l0 x12_1) l0 (l0.length : Int) x12_1 (rd_L5 l0 x12_1) ((rd_L5 l0 x12_1).length : Int) (wrap64 (x18_2 + 1))) = some r := by rw [if_pos rfl] at H; exact H
            clear H
            have H := H1
            clear H1
            have H' := Aside0.mk H
            clear H
            have p374 : 0 ≤ (x18_2 : Int) := of_decide_eq_true (by first | (with_reducible assumption) | assumption)
            have q374 : x18_2 < ((rd_L5 l0 x12_1).length : Int) := of_decide_eq_true (by first | (with_reducible assumption) | assumption)
            obtain ⟨ad374, e374, hx374_0, hx374_1, hx374_2, hx374_3, hx374_4, hx374_5⟩ := at_T24 HR373_0.out x18_2 p374 q374
            cases e374
            replace hx374_0 := (HB.out.cell (World.block_lt_of_cell? w _ hx374_0)).trans hx374_0
            replace hx374_1 := (HB.out.cell (World.block_lt_of_cell? w _ hx374_1)).trans hx374_1
            replace hx374_2 := (HB.out.cell (World.block_lt_of_cell? w _ hx374_2)).trans hx374_2
            replace hx374_3 := (HB.out.cell (World.block_lt_of_cell? w _ hx374_3)).trans hx374_3
            replace hx374_4 := (HB.out.cell (World.block_lt_of_cell? w _ hx374_4)).trans hx374_4
            replace hx374_5 := (HB.out.cell (World.block_lt_of_cell? w _ hx374_5)).trans hx374_5
            replace p374 := eq_true p374
            replace q374 := eq_true q374
            go_wp2_with (first | ((with_reducible refine gate_dst (N := 9) rfl ?_); refine box_event ?hg (N := 9) ?hd (cs := #[.int .i64 0, .int .i64 0, .int .u64 0, .int .u64 0, .int .u64 0, .string (⟨#[]⟩ : ByteArray)]) (t := 24) ?hr ?_; (case hd => rfl); (case hg => rfl); (case hr => first | (go_simp; done) | (go_simp; rfl) | (go_simp; simp [u8w]; done)); intro gb375 hg w11 hbox hb; have n0_ := Aside0.mk (below_step (by repeat (first | (with_reducible first | exact HB.out | apply below_alloc | apply pw_below_drewN | apply below_drew1) | exact HB.out)) hb); have n1_ := Aside0.mk (hbox); have n2_ := Aside0.mk ((by rw [hg]; exact (below_size (by repeat (first | (with_reducible first | exact HB.out | apply below_alloc | apply pw_below_drewN | apply below_drew1) | exact HB.out))) : w.heap.size ≤ gb375)); have n3_ := Aside0.mk ((by rw [hg]; exact (below_size (by repeat (first | (with_reducible first | exact HB.out | apply below_alloc | apply pw_below_drewN | apply below_drew1) | exact HB.out))) : w.heap.size ≤ gb375)); clear HB; have HB := n0_; have BK375 := n1_; have GW375 := n2_; have GE375 := n3_; clear n0_ n1_ n2_ n3_; clear hb hbox hg; have hcz12_0 : w11.cell? ⟨gb375, 0, none⟩ = some (.int .i64 0) := (blk_cell BK375.out 0).trans rfl; have hcz12_1 : w11.cell? ⟨gb375, 1, none⟩ = some (.int .i64 0) := (blk_cell BK375.out 1).trans rfl; have hcz12_2 : w11.cell? ⟨gb375, 2, none⟩ = some (.int .u64 0) := (blk_cell BK375.out 2).trans rfl; have hcz12_3 : w11.cell? ⟨gb375, 3, none⟩ = some (.int .u64 0) := (blk_cell BK375.out 3).trans rfl; have hcz12_4 : w11.cell? ⟨gb375, 4, none⟩ = some (.int .u64 0) := (blk_cell BK375.out 4).trans rfl; have hcz12_5 : w11.cell? ⟨gb375, 5, none⟩ = some (.string (⟨#[]⟩ : ByteArray)) := (blk_cell BK375.out 5).trans rfl; have hfz12_0 := blk_frozen BK375.out 0; have hfz12_1 := blk_frozen BK375.out 1; have hfz12_2 := blk_frozen BK375.out 2; have hfz12_3 := blk_frozen BK375.out 3; have hfz12_4 := blk_frozen BK375.out 4; have hfz12_5 := blk_frozen BK375.out 5) | ((with_reducible refine gate_callee (f := 15) rfl ?_); refine goesL_ (some 23) rfl rfl Tryd.func15 (by kernel_rfl) rfl #[.agg #[.int .i64 ((rd_T24 (rd_L5 l0 x12_1) x18_2).f0), .int .i64 ((rd_T24 (rd_L5 l0 x12_1) x18_2).f1), .int .u64 ((rd_T24 (rd_L5 l0 x12_1) x18_2).f2), .int .u64 ((rd_T24 (rd_L5 l0 x12_1) x18_2).f3), .int .u64 ((rd_T24 (rd_L5 l0 x12_1) x18_2).f4), .string ((rd_T24 (rd_L5 l0 x12_1) x18_2).f5)]] rfl (by (try simp only [List.map_toArray, List.map_cons, List.map_nil]); first | done | rfl | (simp only [List.length_drop, List.length_take]; rfl)) ?_; (with_reducible refine (spec_GoodTerm.calls k2 ((rd_T24 (rd_L5 l0 x12_1) x18_2).f0) ((rd_T24 (rd_L5 l0 x12_1) x18_2).f1) ((rd_T24 (rd_L5 l0 x12_1) x18_2).f2) ((rd_T24 (rd_L5 l0 x12_1) x18_2).f3) ((rd_T24 (rd_L5 l0 x12_1) x18_2).f4) ((rd_T24 (rd_L5 l0 x12_1) x18_2).f5) true _ A9.out).mono ?_); rintro e w13 ⟨rfl, hb⟩; refine ⟨_, rfl, ?_⟩; have n0_ := Aside0.mk (blk_below (g := gb375) (o := .cells #[.int .i64 ((rd_T24 (rd_L5 l0 x12_1) x18_2).f0), .int .i64 ((rd_T24 (rd_L5 l0 x12_1) x18_2).f1), .int .u64 ((rd_T24 (rd_L5 l0 x12_1) x18_2).f2), .int .u64 ((rd_T24 (rd_L5 l0 x12_1) x18_2).f3), .int .u64 ((rd_T24 (rd_L5 l0 x12_1) x18_2).f4), .string ((rd_T24 (rd_L5 l0 x12_1) x18_2).f5)] 24 (0, 0)) (by (with_reducible repeat (first | refine blk_drewN ?_ _ | refine blk_drew ?_ | refine blk_alloc ?_ _)); refine blk_put (cs := #[.int .i64 ((rd_T24 (rd_L5 l0 x12_1) x18_2).f0), .int .i64 ((rd_T24 (rd_L5 l0 x12_1) x18_2).f1), .int .u64 ((rd_T24 (rd_L5 l0 x12_1) x18_2).f2), .int .u64 ((rd_T24 (rd_L5 l0 x12_1) x18_2).f3), .int .u64 ((rd_T24 (rd_L5 l0 x12_1) x18_2).f4), .string (⟨#[]⟩ : ByteArray)]) ?_ 5 _ rfl; (with_reducible repeat (first | refine blk_drewN ?_ _ | refine blk_drew ?_ | refine blk_alloc ?_ _)); refine blk_put (cs := #[.int .i64 ((rd_T24 (rd_L5 l0 x12_1) x18_2).f0), .int .i64 ((rd_T24 (rd_L5 l0 x12_1) x18_2).f1), .int .u64 ((rd_T24 (rd_L5 l0 x12_1) x18_2).f2), .int .u64 ((rd_T24 (rd_L5 l0 x12_1) x18_2).f3), .int .u64 0, .string (⟨#[]⟩ : ByteArray)]) ?_ 4 _ rfl; (with_reducible repeat (first | refine blk_drewN ?_ _ | refine blk_drew ?_ | refine blk_alloc ?_ _)); refine blk_put (cs := #[.int .i64 ((rd_T24 (rd_L5 l0 x12_1) x18_2).f0), .int .i64 ((rd_T24 (rd_L5 l0 x12_1) x18_2).f1), .int .u64 ((rd_T24 (rd_L5 l0 x12_1) x18_2).f2), .int .u64 0, .int .u64 0, .string (⟨#[]⟩ : ByteArray)]) ?_ 3 _ rfl; (with_reducible repeat (first | refine blk_drewN ?_ _ | refine blk_drew ?_ | refine blk_alloc ?_ _)); refine blk_put (cs := #[.int .i64 ((rd_T24 (rd_L5 l0 x12_1) x18_2).f0), .int .i64 ((rd_T24 (rd_L5 l0 x12_1) x18_2).f1), .int .u64 0, .int .u64 0, .int .u64 0, .string (⟨#[]⟩ : ByteArray)]) ?_ 2 _ rfl; (with_reducible repeat (first | refine blk_drewN ?_ _ | refine blk_drew ?_ | refine blk_alloc ?_ _)); refine blk_put (cs := #[.int .i64 ((rd_T24 (rd_L5 l0 x12_1) x18_2).f0), .int .i64 0, .int .u64 0, .int .u64 0, .int .u64 0, .string (⟨#[]⟩ : ByteArray)]) ?_ 1 _ rfl; (with_reducible repeat (first | refine blk_drewN ?_ _ | refine blk_drew ?_ | refine blk_alloc ?_ _)); refine blk_put (cs := #[.int .i64 0, .int .i64 0, .int .u64 0, .int .u64 0, .int .u64 0, .string (⟨#[]⟩ : ByteArray)]) ?_ 0 _ rfl; (with_reducible repeat (first | refine blk_drewN ?_ _ | refine blk_drew ?_ | refine blk_alloc ?_ _)); exact BK375.out) hb); have n1_ := Aside0.mk (below_step (by repeat (first | (with_reducible first | exact HB.out | apply below_alloc | apply pw_below_drewN | apply below_drew1 | refine below_set ?_ GE375.out) | exact HB.out)) hb); clear BK375; clear HB; have BK375 := n0_; have HB := n1_; clear n0_ n1_; (try clear hb); (try clear hb2); (try clear hk); (try clear hi)))
            go_roundg k2
            case measure => have := HK1.out; have := HK2.out; omega
            case rel => exact ⟨(wrap64 (x18_2 + 1)), (by first | rfl | (simp; done) | (simp [*]; done)), H', ⟨by have := HK1.out; have := HK2.out; omega⟩, ⟨by repeat (first | (with_reducible first | exact HB.out | apply below_alloc | apply pw_below_drewN | apply below_drew1 | refine below_set ?_ GE375.out) | exact HB.out)⟩⟩
           ·
            replace c10 := Bool.eq_false_iff.mpr c10
            subst c10
            have H1 : (some false) = some r := by rw [if_neg (show ¬ (false = true) by decide)] at H; exact H
            clear H
            have H := H1
            clear H1
            obtain rfl := Option.some.inj H
            have p374 : 0 ≤ (x18_2 : Int) := of_decide_eq_true (by first | (with_reducible assumption) | assumption)
            have q374 : x18_2 < ((rd_L5 l0 x12_1).length : Int) := of_decide_eq_true (by first | (with_reducible assumption) | assumption)
            obtain ⟨ad374, e374, hx374_0, hx374_1, hx374_2, hx374_3, hx374_4, hx374_5⟩ := at_T24 HR373_0.out x18_2 p374 q374
            cases e374
            replace hx374_0 := (HB.out.cell (World.block_lt_of_cell? w _ hx374_0)).trans hx374_0
            replace hx374_1 := (HB.out.cell (World.block_lt_of_cell? w _ hx374_1)).trans hx374_1
            replace hx374_2 := (HB.out.cell (World.block_lt_of_cell? w _ hx374_2)).trans hx374_2
            replace hx374_3 := (HB.out.cell (World.block_lt_of_cell? w _ hx374_3)).trans hx374_3
            replace hx374_4 := (HB.out.cell (World.block_lt_of_cell? w _ hx374_4)).trans hx374_4
            replace hx374_5 := (HB.out.cell (World.block_lt_of_cell? w _ hx374_5)).trans hx374_5
            replace p374 := eq_true p374
            replace q374 := eq_true q374
            go_wp2_with (first | ((with_reducible refine gate_dst (N := 9) rfl ?_); refine box_event ?hg (N := 9) ?hd (cs := #[.int .i64 0, .int .i64 0, .int .u64 0, .int .u64 0, .int .u64 0, .string (⟨#[]⟩ : ByteArray)]) (t := 24) ?hr ?_; (case hd => rfl); (case hg => rfl); (case hr => first | (go_simp; done) | (go_simp; rfl) | (go_simp; simp [u8w]; done)); intro gb375 hg w14 hbox hb; have n0_ := Aside0.mk (below_step (by repeat (first | (with_reducible first | exact HB.out | apply below_alloc | apply pw_below_drewN | apply below_drew1) | exact HB.out)) hb); have n1_ := Aside0.mk (hbox); have n2_ := Aside0.mk ((by rw [hg]; exact (below_size (by repeat (first | (with_reducible first | exact HB.out | apply below_alloc | apply pw_below_drewN | apply below_drew1) | exact HB.out))) : w.heap.size ≤ gb375)); have n3_ := Aside0.mk ((by rw [hg]; exact (below_size (by repeat (first | (with_reducible first | exact HB.out | apply below_alloc | apply pw_below_drewN | apply below_drew1) | exact HB.out))) : w.heap.size ≤ gb375)); clear HB; have HB := n0_; have BK375 := n1_; have GW375 := n2_; have GE375 := n3_; clear n0_ n1_ n2_ n3_; clear hb hbox hg; have hcz15_0 : w14.cell? ⟨gb375, 0, none⟩ = some (.int .i64 0) := (blk_cell BK375.out 0).trans rfl; have hcz15_1 : w14.cell? ⟨gb375, 1, none⟩ = some (.int .i64 0) := (blk_cell BK375.out 1).trans rfl; have hcz15_2 : w14.cell? ⟨gb375, 2, none⟩ = some (.int .u64 0) := (blk_cell BK375.out 2).trans rfl; have hcz15_3 : w14.cell? ⟨gb375, 3, none⟩ = some (.int .u64 0) := (blk_cell BK375.out 3).trans rfl; have hcz15_4 : w14.cell? ⟨gb375, 4, none⟩ = some (.int .u64 0) := (blk_cell BK375.out 4).trans rfl; have hcz15_5 : w14.cell? ⟨gb375, 5, none⟩ = some (.string (⟨#[]⟩ : ByteArray)) := (blk_cell BK375.out 5).trans rfl; have hfz15_0 := blk_frozen BK375.out 0; have hfz15_1 := blk_frozen BK375.out 1; have hfz15_2 := blk_frozen BK375.out 2; have hfz15_3 := blk_frozen BK375.out 3; have hfz15_4 := blk_frozen BK375.out 4; have hfz15_5 := blk_frozen BK375.out 5) | ((with_reducible refine gate_callee (f := 15) rfl ?_); refine goesL_ (some 23) rfl rfl Tryd.func15 (by kernel_rfl) rfl #[.agg #[.int .i64 ((rd_T24 (rd_L5 l0 x12_1) x18_2).f0), .int .i64 ((rd_T24 (rd_L5 l0 x12_1) x18_2).f1), .int .u64 ((rd_T24 (rd_L5 l0 x12_1) x18_2).f2), .int .u64 ((rd_T24 (rd_L5 l0 x12_1) x18_2).f3), .int .u64 ((rd_T24 (rd_L5 l0 x12_1) x18_2).f4), .string ((rd_T24 (rd_L5 l0 x12_1) x18_2).f5)]] rfl (by (try simp only [List.map_toArray, List.map_cons, List.map_nil]); first | done | rfl | (simp only [List.length_drop, List.length_take]; rfl)) ?_; (with_reducible refine (spec_GoodTerm.calls k2 ((rd_T24 (rd_L5 l0 x12_1) x18_2).f0) ((rd_T24 (rd_L5 l0 x12_1) x18_2).f1) ((rd_T24 (rd_L5 l0 x12_1) x18_2).f2) ((rd_T24 (rd_L5 l0 x12_1) x18_2).f3) ((rd_T24 (rd_L5 l0 x12_1) x18_2).f4) ((rd_T24 (rd_L5 l0 x12_1) x18_2).f5) false _ A9.out).mono ?_); rintro e w16 ⟨rfl, hb⟩; refine ⟨_, rfl, ?_⟩; have n0_ := Aside0.mk (blk_below (g := gb375) (o := .cells #[.int .i64 ((rd_T24 (rd_L5 l0 x12_1) x18_2).f0), .int .i64 ((rd_T24 (rd_L5 l0 x12_1) x18_2).f1), .int .u64 ((rd_T24 (rd_L5 l0 x12_1) x18_2).f2), .int .u64 ((rd_T24 (rd_L5 l0 x12_1) x18_2).f3), .int .u64 ((rd_T24 (rd_L5 l0 x12_1) x18_2).f4), .string ((rd_T24 (rd_L5 l0 x12_1) x18_2).f5)] 24 (0, 0)) (by (with_reducible repeat (first | refine blk_drewN ?_ _ | refine blk_drew ?_ | refine blk_alloc ?_ _)); refine blk_put (cs := #[.int .i64 ((rd_T24 (rd_L5 l0 x12_1) x18_2).f0), .int .i64 ((rd_T24 (rd_L5 l0 x12_1) x18_2).f1), .int .u64 ((rd_T24 (rd_L5 l0 x12_1) x18_2).f2), .int .u64 ((rd_T24 (rd_L5 l0 x12_1) x18_2).f3), .int .u64 ((rd_T24 (rd_L5 l0 x12_1) x18_2).f4), .string (⟨#[]⟩ : ByteArray)]) ?_ 5 _ rfl; (with_reducible repeat (first | refine blk_drewN ?_ _ | refine blk_drew ?_ | refine blk_alloc ?_ _)); refine blk_put (cs := #[.int .i64 ((rd_T24 (rd_L5 l0 x12_1) x18_2).f0), .int .i64 ((rd_T24 (rd_L5 l0 x12_1) x18_2).f1), .int .u64 ((rd_T24 (rd_L5 l0 x12_1) x18_2).f2), .int .u64 ((rd_T24 (rd_L5 l0 x12_1) x18_2).f3), .int .u64 0, .string (⟨#[]⟩ : ByteArray)]) ?_ 4 _ rfl; (with_reducible repeat (first | refine blk_drewN ?_ _ | refine blk_drew ?_ | refine blk_alloc ?_ _)); refine blk_put (cs := #[.int .i64 ((rd_T24 (rd_L5 l0 x12_1) x18_2).f0), .int .i64 ((rd_T24 (rd_L5 l0 x12_1) x18_2).f1), .int .u64 ((rd_T24 (rd_L5 l0 x12_1) x18_2).f2), .int .u64 0, .int .u64 0, .string (⟨#[]⟩ : ByteArray)]) ?_ 3 _ rfl; (with_reducible repeat (first | refine blk_drewN ?_ _ | refine blk_drew ?_ | refine blk_alloc ?_ _)); refine blk_put (cs := #[.int .i64 ((rd_T24 (rd_L5 l0 x12_1) x18_2).f0), .int .i64 ((rd_T24 (rd_L5 l0 x12_1) x18_2).f1), .int .u64 0, .int .u64 0, .int .u64 0, .string (⟨#[]⟩ : ByteArray)]) ?_ 2 _ rfl; (with_reducible repeat (first | refine blk_drewN ?_ _ | refine blk_drew ?_ | refine blk_alloc ?_ _)); refine blk_put (cs := #[.int .i64 ((rd_T24 (rd_L5 l0 x12_1) x18_2).f0), .int .i64 0, .int .u64 0, .int .u64 0, .int .u64 0, .string (⟨#[]⟩ : ByteArray)]) ?_ 1 _ rfl; (with_reducible repeat (first | refine blk_drewN ?_ _ | refine blk_drew ?_ | refine blk_alloc ?_ _)); refine blk_put (cs := #[.int .i64 0, .int .i64 0, .int .u64 0, .int .u64 0, .int .u64 0, .string (⟨#[]⟩ : ByteArray)]) ?_ 0 _ rfl; (with_reducible repeat (first | refine blk_drewN ?_ _ | refine blk_drew ?_ | refine blk_alloc ?_ _)); exact BK375.out) hb); have n1_ := Aside0.mk (below_step (by repeat (first | (with_reducible first | exact HB.out | apply below_alloc | apply pw_below_drewN | apply below_drew1 | refine below_set ?_ GE375.out) | exact HB.out)) hb); clear BK375; clear HB; have BK375 := n0_; have HB := n1_; clear n0_ n1_; (try clear hb); (try clear hb2); (try clear hk); (try clear hi)))
            go_ret
            exact ⟨by first | rfl | (simp [errW_none, errW_some] <;> rfl) | (simp [*, errW_none, errW_some] <;> rfl) | (simp [bneNil]; done), by repeat (first | (with_reducible first | exact HB.out | apply below_alloc | apply pw_below_drewN | apply below_drew1 | refine below_set ?_ GE375.out) | exact HB.out)⟩
          ·
           rw [if_neg c8] at H
           exact absurd H (by simp)
         ·
          rw [if_neg c7] at H
          exact absurd H (by simp)
        ·
         rw [if_neg c6] at H
         have c6b0 : decide (x18_2 < ((rd_L5 l0 x12_1).length : Int)) = false := decide_eq_false c6
         clear c6
         by_cases c17 : ((rd_L5 l0 x12_1).length : Int) = 0
         ·
          rw [if_pos c17] at H
          have c17b0 : (((rd_L5 l0 x12_1).length : Int) == 0) = true := beq_iff_eq.mpr c17
          have c17b1 : (((rd_L5 l0 x12_1).length : Int) != 0) = false := bne_eq_false_iff_eq.mpr c17
          clear c17
          obtain rfl := Option.some.inj H
          go_wp2
          go_ret
          exact ⟨by first | rfl | (simp [errW_none, errW_some] <;> rfl) | (simp [*, errW_none, errW_some] <;> rfl) | (simp [bneNil]; done), by repeat (first | (with_reducible first | exact HB.out | apply below_alloc | apply pw_below_drewN | apply below_drew1) | exact HB.out)⟩
         ·
          rw [if_neg c17] at H
          have c17b0 : (((rd_L5 l0 x12_1).length : Int) == 0) = false := beq_eq_false_iff_ne.mpr c17
          have c17b1 : (((rd_L5 l0 x12_1).length : Int) != 0) = true := bne_iff_ne.mpr c17
          have c17b2 : ¬ ((rd_L5 l0 x12_1) = []) := fun h_ => c17 (by rw [h_]; rfl)
          by_cases c18 : (wrap64 (x5_1 + ((rd_L5 l0 x12_1).length : Int))) > a1
          ·
           rw [if_pos c18] at H
           have c18b0 : decide (a1 < (wrap64 (x5_1 + ((rd_L5 l0 x12_1).length : Int)))) = true := decide_eq_true c18
           clear c18
           obtain rfl := Option.some.inj H
           go_wp2
           go_ret
           exact ⟨by first | rfl | (simp [errW_none, errW_some] <;> rfl) | (simp [*, errW_none, errW_some] <;> rfl) | (simp [bneNil]; done), by repeat (first | (with_reducible first | exact HB.out | apply below_alloc | apply pw_below_drewN | apply below_drew1) | exact HB.out)⟩
          ·
           rw [if_neg c18] at H
           have c18b0 : decide (a1 < (wrap64 (x5_1 + ((rd_L5 l0 x12_1).length : Int)))) = false := decide_eq_false c18
           clear c18
           have H' := Aside0.mk H
           clear H
           go_wp2
           go_roundg k2
           case measure => have := HK1.out; have := HK2.out; omega
           case rel => exact ⟨(wrap64 (x5_1 + ((rd_L5 l0 x12_1).length : Int))), (wrap64 (x12_1 + 1)), (by first | rfl | (simp; done) | (simp [*]; done)), (by first | rfl | (simp; done) | (simp [*]; done)), H', ⟨by have := HK1.out; have := HK2.out; omega⟩, ⟨by repeat (first | (with_reducible first | exact HB.out | apply below_alloc | apply pw_below_drewN | apply below_drew1) | exact HB.out)⟩⟩
     ·
      rw [if_neg c5] at H
      exact absurd H (by simp)
    ·
     rw [if_neg c4] at H
     exact absurd H (by simp)
   ·
    rw [if_neg c3] at H
    have c3b0 : decide (x12_1 < (l0.length : Int)) = false := decide_eq_false c3
    clear c3
    obtain rfl := Option.some.inj H
    go_wp2
    go_ret
    exact ⟨by first | rfl | (simp [errW_none, errW_some] <;> rfl) | (simp [*, errW_none, errW_some] <;> rfl) | (simp [bneNil]; done), by repeat (first | (with_reducible first | exact HB.out | apply below_alloc | apply pw_below_drewN | apply below_drew1) | exact HB.out)⟩

mutual
def laws_scGood.l0 : Nat → List (List (S24)) → Int → Int → Option (Bool)
  | 0, _, _, _ => none
  | k + 1, x10, x11, x12 => if x12 < x11 then (if 0 ≤ x12 then (if x12 < (x10.length : Int) then (laws_scGood.l1 k x10 x11 x12 (rd_L5 x10 x12) ((rd_L5 x10 x12).length : Int) 0) else (none)) else (none)) else (some true)
def laws_scGood.l1 : Nat → List (List (S24)) → Int → Int → List (S24) → Int → Int → Option (Bool)
  | 0, _, _, _, _, _, _ => none
  | k + 1, x10, x11, x12, x16, x17, x18 => if x18 < x17 then (if 0 ≤ x18 then (if x18 < (x16.length : Int) then (if (((rd_T24 x16 x18).f5).size : Int) > 64 then (some false) else (laws_scGood.l1 k x10 x11 x12 x16 x17 (wrap64 (x18 + 1)))) else (none)) else (none)) else (laws_scGood.l0 k x10 x11 (wrap64 (x12 + 1)))
end

def laws_scGood.f (k : Nat) (l0 : List (List (S24))) : Option (Bool) := (spec_GoodTerms.f k l0 24).bind fun t377 => (if t377 = true then (laws_scGood.l0 k l0 (l0.length : Int) 0) else (some false))

set_option maxHeartbeats 80000000 in
set_option maxRecDepth 100000 in
theorem laws_scGood.calls (k : Nat) (A0 : Option Addr) (c0 : Nat) (l0 : List (List (S24))) (r : Bool) (w : World) (hr0 : Kd.C (Kd.slice 24 k24) w A0 l0.length l0) (hc0 : l0.length ≤ c0) (h : laws_scGood.f k l0 = some r) :
  Calls Tryd.prog 67 #[.slice A0 l0.length c0] w fun e w' => e = .returned (.bool r) ∧ Below w.heap.size w w' := by
 have hu24 := Tryd.underlying24
 have HR0 := Aside0.mk hr0
 have HC0 := Aside0.mk hc0
 clear hr0 hc0
 have HB := Aside0.mk (Below.refl w.heap.size w)
 have H : ((spec_GoodTerms.f k l0 24).bind fun t377 => (if t377 = true then (laws_scGood.l0 k l0 (l0.length : Int) 0) else (some false))) = some r := h
 clear h
 replace H := Option.bind_eq_some_iff.mp H
 obtain ⟨t377, A20, H⟩ := H
 replace H : (if t377 = true then (laws_scGood.l0 k l0 (l0.length : Int) 0) else (some false)) = some r := H
 have A2 := Aside0.mk A20
 clear A20
 by_cases c3 : t377 = true
 ·
  subst c3
  have H1 : (laws_scGood.l0 k l0 (l0.length : Int) 0) = some r := by rw [if_pos rfl] at H; exact H
  clear H
  have H := H1
  clear H1
  have H' := Aside0.mk H
  clear H
  go_enter Tryd.func67, Tryd.ntmps67
  go_wp2_with (first | ((with_reducible refine gate_callee (f := 72) rfl ?_); refine goesL_ (some 8) rfl rfl Tryd.func72 (by kernel_rfl) rfl #[.slice A0 l0.length c0, .int .i64 24] rfl (by (try simp only [List.map_toArray, List.map_cons, List.map_nil]); first | done | rfl | (simp only [List.length_drop, List.length_take]; rfl)) ?_; (with_reducible refine (spec_GoodTerms.calls k _ _ l0 24 true _ ?side1 ?side2 A2.out).mono ?_); (case side1 => repeat (first | exact HR0.out | (with_reducible refine Kd.C_alloc ?_ _) | (with_reducible refine Kd.C_drewN ?_ _) | (with_reducible refine Kd.C_drew ?_))); (case side2 => exact HC0.out); rintro e w4 ⟨rfl, hb⟩; refine ⟨_, rfl, ?_⟩; have n0_ := Aside0.mk (below_step (by repeat (first | (with_reducible first | exact HB.out | apply below_alloc | apply pw_below_drewN | apply below_drew1) | exact HB.out)) hb); clear HB; have HB := n0_; clear n0_; (try clear hb); (try clear hb2); (try clear hk); (try clear hi)))
  go_loopg [12] k (fun kq v12 w' => ∃ (x12_1 : Int), v12 = .int .i64 x12_1 ∧ Aside0 (laws_scGood.l0 kq l0 (l0.length : Int) x12_1 = some r) ∧ Aside0 (kq ≤ k) ∧ Aside0 (Below w.heap.size w w'))
  case atStart => exact ⟨(0), (by first | rfl | (simp; done) | (simp [*]; done)), H', ⟨Nat.le_refl _⟩, ⟨by repeat (first | (with_reducible first | exact HB.out | apply below_alloc | apply pw_below_drewN | apply below_drew1) | exact HB.out)⟩⟩
  case round =>
   clear H'
   try clear p2
   try clear c3
   obtain ⟨x12_1, rfl, HA, HK1, HB⟩ := hrel
   cases gk with
   | zero => exact absurd HA.out (by simp [laws_scGood.l0])
   | succ k1 =>
    have H := HA.out
    clear HA
    simp only [laws_scGood.l0] at H
    by_cases c5 : x12_1 < (l0.length : Int)
    ·
     rw [if_pos c5] at H
     have c5b0 : decide (x12_1 < (l0.length : Int)) = true := decide_eq_true c5
     clear c5
     by_cases c6 : 0 ≤ x12_1
     ·
      rw [if_pos c6] at H
      have c6b0 : decide (0 ≤ x12_1) = true := decide_eq_true c6
      clear c6
      by_cases c7 : x12_1 < (l0.length : Int)
      ·
       rw [if_pos c7] at H
       have c7b0 : decide (x12_1 < (l0.length : Int)) = true := decide_eq_true c7
       clear c7
       have H' := Aside0.mk H
       clear H
       have p378 : 0 ≤ (x12_1 : Int) := of_decide_eq_true (by first | (with_reducible assumption) | assumption)
       have q378 : x12_1 < (l0.length : Int) := of_decide_eq_true (by first | (with_reducible assumption) | assumption)
       obtain ⟨ad378, A378_0, c378_0, e378, hx378_0, hl378_0, hi378_0⟩ := at_L5 HR0.out x12_1 p378 q378
       cases e378
       replace hx378_0 := (HB.out.cell (World.block_lt_of_cell? w _ hx378_0)).trans hx378_0
       have HR378_0 := Aside0.mk hi378_0
       have HC378_0 := Aside0.mk hl378_0
       clear hi378_0 hl378_0
       replace p378 := eq_true p378
       replace q378 := eq_true q378
       go_wp2
       go_loopg [18] k1 (fun kq v18 w' => ∃ (x18_2 : Int), v18 = .int .i64 x18_2 ∧ Aside0 (laws_scGood.l1 kq l0 (l0.length : Int) x12_1 (rd_L5 l0 x12_1) ((rd_L5 l0 x12_1).length : Int) x18_2 = some r) ∧ Aside0 (kq ≤ k1) ∧ Aside0 (Below w.heap.size w w'))
       case atStart => exact ⟨(0), (by first | rfl | (simp; done) | (simp [*]; done)), H', ⟨Nat.le_refl _⟩, ⟨by repeat (first | (with_reducible first | exact HB.out | apply below_alloc | apply pw_below_drewN | apply below_drew1) | exact HB.out)⟩⟩
       case round =>
        clear H'
        try clear p2
        try clear c3
        try clear p3
        try clear q3
        try clear hx3
        try clear c5
        try clear c5b0
        try clear c6
        try clear c6b0
        try clear c7
        try clear c7b0
        try clear hx378_0
        try clear p2
        try clear p378
        try clear q378
        obtain ⟨x18_2, rfl, HA, HK2, HB⟩ := hrel
        cases gk with
        | zero => exact absurd HA.out (by simp [laws_scGood.l1])
        | succ k2 =>
         have H := HA.out
         clear HA
         simp only [laws_scGood.l1] at H
         by_cases c8 : x18_2 < ((rd_L5 l0 x12_1).length : Int)
         ·
          rw [if_pos c8] at H
          have c8b0 : decide (x18_2 < ((rd_L5 l0 x12_1).length : Int)) = true := decide_eq_true c8
          clear c8
          by_cases c9 : 0 ≤ x18_2
          ·
           rw [if_pos c9] at H
           have c9b0 : decide (0 ≤ x18_2) = true := decide_eq_true c9
           clear c9
           by_cases c10 : x18_2 < ((rd_L5 l0 x12_1).length : Int)
           ·
            rw [if_pos c10] at H
            have c10b0 : decide (x18_2 < ((rd_L5 l0 x12_1).length : Int)) = true := decide_eq_true c10
            clear c10
            by_cases c11 : (((rd_T24 (rd_L5 l0 x12_1) x18_2).f5).size : Int) > 64
            ·
             rw [if_pos c11] at H
             have c11b0 : decide (64 < (((rd_T24 (rd_L5 l0 x12_1) x18_2).f5).size : Int)) = true := decide_eq_true c11
             have c11b1 : decide (64 < ((rd_T24 (rd_L5 l0 x12_1) x18_2).f5).size) = true := decide_eq_true (by omega)
             clear c11
             obtain rfl := Option.some.inj H
             have p379 : 0 ≤ (x18_2 : Int) := of_decide_eq_true (by first | (with_reducible assumption) | assumption)
             have q379 : x18_2 < ((rd_L5 l0 x12_1).length : Int) := of_decide_eq_true (by first | (with_reducible assumption) | assumption)
             obtain ⟨ad379, e379, hx379_0, hx379_1, hx379_2, hx379_3, hx379_4, hx379_5⟩ := at_T24 HR378_0.out x18_2 p379 q379
             cases e379
             replace hx379_0 := (HB.out.cell (World.block_lt_of_cell? w _ hx379_0)).trans hx379_0
             replace hx379_1 := (HB.out.cell (World.block_lt_of_cell? w _ hx379_1)).trans hx379_1
             replace hx379_2 := (HB.out.cell (World.block_lt_of_cell? w _ hx379_2)).trans hx379_2
             replace hx379_3 := (HB.out.cell (World.block_lt_of_cell? w _ hx379_3)).trans hx379_3
             replace hx379_4 := (HB.out.cell (World.block_lt_of_cell? w _ hx379_4)).trans hx379_4
             replace hx379_5 := (HB.out.cell (World.block_lt_of_cell? w _ hx379_5)).trans hx379_5
             replace p379 := eq_true p379
             replace q379 := eq_true q379
             go_wp2_with (first | ((with_reducible refine gate_dst (N := 6) rfl ?_); refine box_event ?hg (N := 6) ?hd (cs := #[.int .i64 0, .int .i64 0, .int .u64 0, .int .u64 0, .int .u64 0, .string (⟨#[]⟩ : ByteArray)]) (t := 24) ?hr ?_; (case hd => rfl); (case hg => rfl); (case hr => first | (go_simp; done) | (go_simp; rfl) | (go_simp; simp [u8w]; done)); intro gb380 hg w12 hbox hb; have n0_ := Aside0.mk (below_step (by repeat (first | (with_reducible first | exact HB.out | apply below_alloc | apply pw_below_drewN | apply below_drew1) | exact HB.out)) hb); have n1_ := Aside0.mk (hbox); have n2_ := Aside0.mk ((by rw [hg]; exact (below_size (by repeat (first | (with_reducible first | exact HB.out | apply below_alloc | apply pw_below_drewN | apply below_drew1) | exact HB.out))) : w.heap.size ≤ gb380)); have n3_ := Aside0.mk ((by rw [hg]; exact (below_size (by repeat (first | (with_reducible first | exact HB.out | apply below_alloc | apply pw_below_drewN | apply below_drew1) | exact HB.out))) : w.heap.size ≤ gb380)); clear HB; have HB := n0_; have BK380 := n1_; have GW380 := n2_; have GE380 := n3_; clear n0_ n1_ n2_ n3_; clear hb hbox hg; have hcz13_0 : w12.cell? ⟨gb380, 0, none⟩ = some (.int .i64 0) := (blk_cell BK380.out 0).trans rfl; have hcz13_1 : w12.cell? ⟨gb380, 1, none⟩ = some (.int .i64 0) := (blk_cell BK380.out 1).trans rfl; have hcz13_2 : w12.cell? ⟨gb380, 2, none⟩ = some (.int .u64 0) := (blk_cell BK380.out 2).trans rfl; have hcz13_3 : w12.cell? ⟨gb380, 3, none⟩ = some (.int .u64 0) := (blk_cell BK380.out 3).trans rfl; have hcz13_4 : w12.cell? ⟨gb380, 4, none⟩ = some (.int .u64 0) := (blk_cell BK380.out 4).trans rfl; have hcz13_5 : w12.cell? ⟨gb380, 5, none⟩ = some (.string (⟨#[]⟩ : ByteArray)) := (blk_cell BK380.out 5).trans rfl; have hfz13_0 := blk_frozen BK380.out 0; have hfz13_1 := blk_frozen BK380.out 1; have hfz13_2 := blk_frozen BK380.out 2; have hfz13_3 := blk_frozen BK380.out 3; have hfz13_4 := blk_frozen BK380.out 4; have hfz13_5 := blk_frozen BK380.out 5))
             go_ret
             exact ⟨by first | rfl | (simp [errW_none, errW_some] <;> rfl) | (simp [*, errW_none, errW_some] <;> rfl) | (simp [bneNil]; done), by repeat (first | (with_reducible first | exact HB.out | apply below_alloc | apply pw_below_drewN | apply below_drew1 | refine below_set ?_ GE380.out) | exact HB.out)⟩
            ·
             rw [if_neg c11] at H
             have c11b0 : decide (64 < (((rd_T24 (rd_L5 l0 x12_1) x18_2).f5).size : Int)) = false := decide_eq_false c11
             have c11b1 : decide (64 < ((rd_T24 (rd_L5 l0 x12_1) x18_2).f5).size) = false := decide_eq_false (by omega)
             clear c11
             have H' := Aside0.mk H
             clear H
             have p379 : 0 ≤ (x18_2 : Int) := of_decide_eq_true (by first | (with_reducible assumption) | assumption)
             have q379 : x18_2 < ((rd_L5 l0 x12_1).length : Int) := of_decide_eq_true (by first | (with_reducible assumption) | assumption)
             obtain ⟨ad379, e379, hx379_0, hx379_1, hx379_2, hx379_3, hx379_4, hx379_5⟩ := at_T24 HR378_0.out x18_2 p379 q379
             cases e379
             replace hx379_0 := (HB.out.cell (World.block_lt_of_cell? w _ hx379_0)).trans hx379_0
             replace hx379_1 := (HB.out.cell (World.block_lt_of_cell? w _ hx379_1)).trans hx379_1
             replace hx379_2 := (HB.out.cell (World.block_lt_of_cell? w _ hx379_2)).trans hx379_2
             replace hx379_3 := (HB.out.cell (World.block_lt_of_cell? w _ hx379_3)).trans hx379_3
             replace hx379_4 := (HB.out.cell (World.block_lt_of_cell? w _ hx379_4)).trans hx379_4
             replace hx379_5 := (HB.out.cell (World.block_lt_of_cell? w _ hx379_5)).trans hx379_5
             replace p379 := eq_true p379
             replace q379 := eq_true q379
             go_wp2_with (first | ((with_reducible refine gate_dst (N := 6) rfl ?_); refine box_event ?hg (N := 6) ?hd (cs := #[.int .i64 0, .int .i64 0, .int .u64 0, .int .u64 0, .int .u64 0, .string (⟨#[]⟩ : ByteArray)]) (t := 24) ?hr ?_; (case hd => rfl); (case hg => rfl); (case hr => first | (go_simp; done) | (go_simp; rfl) | (go_simp; simp [u8w]; done)); intro gb380 hg w14 hbox hb; have n0_ := Aside0.mk (below_step (by repeat (first | (with_reducible first | exact HB.out | apply below_alloc | apply pw_below_drewN | apply below_drew1) | exact HB.out)) hb); have n1_ := Aside0.mk (hbox); have n2_ := Aside0.mk ((by rw [hg]; exact (below_size (by repeat (first | (with_reducible first | exact HB.out | apply below_alloc | apply pw_below_drewN | apply below_drew1) | exact HB.out))) : w.heap.size ≤ gb380)); have n3_ := Aside0.mk ((by rw [hg]; exact (below_size (by repeat (first | (with_reducible first | exact HB.out | apply below_alloc | apply pw_below_drewN | apply below_drew1) | exact HB.out))) : w.heap.size ≤ gb380)); clear HB; have HB := n0_; have BK380 := n1_; have GW380 := n2_; have GE380 := n3_; clear n0_ n1_ n2_ n3_; clear hb hbox hg; have hcz15_0 : w14.cell? ⟨gb380, 0, none⟩ = some (.int .i64 0) := (blk_cell BK380.out 0).trans rfl; have hcz15_1 : w14.cell? ⟨gb380, 1, none⟩ = some (.int .i64 0) := (blk_cell BK380.out 1).trans rfl; have hcz15_2 : w14.cell? ⟨gb380, 2, none⟩ = some (.int .u64 0) := (blk_cell BK380.out 2).trans rfl; have hcz15_3 : w14.cell? ⟨gb380, 3, none⟩ = some (.int .u64 0) := (blk_cell BK380.out 3).trans rfl; have hcz15_4 : w14.cell? ⟨gb380, 4, none⟩ = some (.int .u64 0) := (blk_cell BK380.out 4).trans rfl; have hcz15_5 : w14.cell? ⟨gb380, 5, none⟩ = some (.string (⟨#[]⟩ : ByteArray)) := (blk_cell BK380.out 5).trans rfl; have hfz15_0 := blk_frozen BK380.out 0; have hfz15_1 := blk_frozen BK380.out 1; have hfz15_2 := blk_frozen BK380.out 2; have hfz15_3 := blk_frozen BK380.out 3; have hfz15_4 := blk_frozen BK380.out 4; have hfz15_5 := blk_frozen BK380.out 5))
             go_roundg k2
             case measure => have := HK1.out; have := HK2.out; omega
             case rel => exact ⟨(wrap64 (x18_2 + 1)), (by first | rfl | (simp; done) | (simp [*]; done)), H', ⟨by have := HK1.out; have := HK2.out; omega⟩, ⟨by repeat (first | (with_reducible first | exact HB.out | apply below_alloc | apply pw_below_drewN | apply below_drew1 | refine below_set ?_ GE380.out) | exact HB.out)⟩⟩
           ·
            rw [if_neg c10] at H
            exact absurd H (by simp)
          ·
           rw [if_neg c9] at H
           exact absurd H (by simp)
         ·
          rw [if_neg c8] at H
          have c8b0 : decide (x18_2 < ((rd_L5 l0 x12_1).length : Int)) = false := decide_eq_false c8
          clear c8
          have H' := Aside0.mk H
          clear H
          go_wp2
          go_roundg k2
          case measure => have := HK1.out; have := HK2.out; omega
          case rel => exact ⟨(wrap64 (x12_1 + 1)), (by first | rfl | (simp; done) | (simp [*]; done)), H', ⟨by have := HK1.out; have := HK2.out; omega⟩, ⟨by repeat (first | (with_reducible first | exact HB.out | apply below_alloc | apply pw_below_drewN | apply below_drew1) | exact HB.out)⟩⟩
      ·
       rw [if_neg c7] at H
       exact absurd H (by simp)
     ·
      rw [if_neg c6] at H
      exact absurd H (by simp)
    ·
     rw [if_neg c5] at H
     have c5b0 : decide (x12_1 < (l0.length : Int)) = false := decide_eq_false c5
     clear c5
     obtain rfl := Option.some.inj H
     go_wp2
     go_ret
     exact ⟨by first | rfl | (simp [errW_none, errW_some] <;> rfl) | (simp [*, errW_none, errW_some] <;> rfl) | (simp [bneNil]; done), by repeat (first | (with_reducible first | exact HB.out | apply below_alloc | apply pw_below_drewN | apply below_drew1) | exact HB.out)⟩
 ·
  replace c3 := Bool.eq_false_iff.mpr c3
  subst c3
  have H1 : (some false) = some r := by rw [if_neg (show ¬ (false = true) by decide)] at H; exact H
  clear H
  have H := H1
  clear H1
  obtain rfl := Option.some.inj H
  go_enter Tryd.func67, Tryd.ntmps67
  go_wp2_with (first | ((with_reducible refine gate_callee (f := 72) rfl ?_); refine goesL_ (some 8) rfl rfl Tryd.func72 (by kernel_rfl) rfl #[.slice A0 l0.length c0, .int .i64 24] rfl (by (try simp only [List.map_toArray, List.map_cons, List.map_nil]); first | done | rfl | (simp only [List.length_drop, List.length_take]; rfl)) ?_; (with_reducible refine (spec_GoodTerms.calls k _ _ l0 24 false _ ?side1 ?side2 A2.out).mono ?_); (case side1 => repeat (first | exact HR0.out | (with_reducible refine Kd.C_alloc ?_ _) | (with_reducible refine Kd.C_drewN ?_ _) | (with_reducible refine Kd.C_drew ?_))); (case side2 => exact HC0.out); rintro e w16 ⟨rfl, hb⟩; refine ⟨_, rfl, ?_⟩; have n0_ := Aside0.mk (below_step (by repeat (first | (with_reducible first | exact HB.out | apply below_alloc | apply pw_below_drewN | apply below_drew1) | exact HB.out)) hb); clear HB; have HB := n0_; clear n0_; (try clear hb); (try clear hb2); (try clear hk); (try clear hi)))
  go_ret
  exact ⟨by first | rfl | (simp [errW_none, errW_some] <;> rfl) | (simp [*, errW_none, errW_some] <;> rfl) | (simp [bneNil]; done), by repeat (first | (with_reducible first | exact HB.out | apply below_alloc | apply pw_below_drewN | apply below_drew1) | exact HB.out)⟩

def laws_zzFits11.l0 : Nat → List (List (S24)) → Int → Int → Option (Bool)
  | 0, _, _, _ => none
  | k + 1, x8, x9, x10 => if x10 < x9 then (if 0 ≤ x10 then (if x10 < (x8.length : Int) then ((laws_zzFits12.f k (rd_L5 x8 x10)).bind fun t488 => (if t488 = true then (laws_zzFits11.l0 k x8 x9 (wrap64 (x10 + 1))) else (some false))) else (none)) else (none)) else (some true)

def laws_zzFits11.f (k : Nat) (l0 : List (List (S24))) : Option (Bool) := if (l0.length : Int) > 2147483647 then (some false) else (laws_zzFits11.l0 k l0 (l0.length : Int) 0)

end Go.Proofs.YtllkoadcpobdaaaDoor.PX
