/- The row and the tied card of FnSemverIncPatchLeast, out of its printed walk and its plain law. For every input that the statement lets in. -/
import Derived.Test.YtekmeoemnekmcaaDoorZCardSemverIncPatchLeast0
import Derived.Test.YtekmeoemnekmcaaDoorZCardSemverIncPatchLeast4
import Derived.Test.YtekmeoemnekmcaaDoorZCardSemverIncPatchLeast5
import Derived.Test.YtekmeoemnekmcaaDoorProg
import Derived.Below
import Derived.Deep.Draws
import Derived.Deep.AppendLies
import Derived.Maps.AppendAt
import Derived.OwnWalk
import Derived.Laws.BytesArg
import Derived.Laws.MakeOwn
import Derived.Laws.OwnMore
import Derived.Deep.OwnRows
import Derived.Tactics
import Derived.Lib.ConvBytes
import Derived.Laws.Slices
import Derived.WalkKit
import Derived.KernelRfl
import Derived.RowKit3
import Derived.Deep.LoopGhost
import Derived.Deep.QuietTactic
import Derived.BigQuiet
import Derived.WideLaws
import Derived.Deep.DeepCutAuto
import Derived.Deep.CutBlock
import Derived.Deep.RegionHeld3
import Derived.Laws.Rows
import Derived.Lib.AppendStr
import Derived.ArgAppend
import Derived.Laws.IdiomCopy
import Derived.OrdersHeld
import Derived.Laws.BitsLemmas
import Derived.RowKit
import Derived.Laws.StructEq
namespace Go.Proofs.YtekmeoemnekmcaaDoor.PX

open Go.RowKit Go.Proofs.YtekmeoemnekmcaaDoorW.PrintWords Go.Proofs.YtekmeoemnekmcaaDoorW.PrintLast Go.Proofs.YtekmeoemnekmcaaDoorW.PrintMore

attribute [local go_sem] max2_int min2_int max_two min_two max_three min_three max_four min_four   -- for this text's walks alone

set_option linter.unusedVariables false

set_option linter.unusedSimpArgs false

def errW : Option Int → Value
  | none => .nilIface
  | some c => .iface 0 (.int .i64 c)

theorem errW_none : errW none = .nilIface := rfl

theorem errW_some (c : Int) : errW (some c) = .iface 0 (.int .i64 c) := rfl

theorem info9 : (Tryd.prog.info? 9).map (fun i => (i.zero, i.size, i.bytes)) = some (some (.string ⟨#[]⟩), 1, 16) := by kernel_rfl

theorem bneNil (l : List UInt8) : (l != []) = !l.isEmpty := by cases l <;> rfl

theorem u8w (x : Int) : IntKind.u8.wrap x = x % 256 := by simp [IntKind.wrap, IntKind.bits, IntKind.signed]

theorem szL1 (a : UInt8) : (⟨#[a]⟩ : ByteArray).size = 1 := rfl

theorem szL2 (a b : UInt8) : (⟨#[a, b]⟩ : ByteArray).size = 2 := rfl

theorem szL3 (a b c : UInt8) : (⟨#[a, b, c]⟩ : ByteArray).size = 3 := rfl

structure S28 where
  f0 : Int
  f1 : Int
  f2 : Int
  f3 : ByteArray
  f4 : ByteArray

def z28 : S28 := ⟨(0 : Int), (0 : Int), (0 : Int), (⟨#[]⟩ : ByteArray), (⟨#[]⟩ : ByteArray)⟩

def k28 : Kd S28 := Kd.iso (Kd.pair (Kd.int .u64) (Kd.pair (Kd.int .u64) (Kd.pair (Kd.int .u64) (Kd.pair Kd.string Kd.string)))) (fun x : S28 => (x.f0, x.f1, x.f2, x.f3, x.f4))

theorem k28_open {w : World} {x : S28} {cs : List Value} (h : k28.K w x cs) : cs = [.int .u64 x.f0, .int .u64 x.f1, .int .u64 x.f2, .string x.f3, .string x.f4] := by
  obtain ⟨_, _, rfl, rfl, ⟨_, _, rfl, rfl, ⟨_, _, rfl, rfl, ⟨_, _, rfl, rfl, rfl⟩⟩⟩⟩ := h
  exact rfl

theorem k28_mk (w : World) (x : S28)  : k28.K w x [.int .u64 x.f0, .int .u64 x.f1, .int .u64 x.f2, .string x.f3, .string x.f4] := ⟨[.int .u64 x.f0], [.int .u64 x.f1, .int .u64 x.f2, .string x.f3, .string x.f4], rfl, rfl, ⟨[.int .u64 x.f1], [.int .u64 x.f2, .string x.f3, .string x.f4], rfl, rfl, ⟨[.int .u64 x.f2], [.string x.f3, .string x.f4], rfl, rfl, ⟨[.string x.f3], [.string x.f4], rfl, rfl, rfl⟩⟩⟩⟩

theorem k28_mkM (w : World) (base : Nat) (ok : Nat → Prop) (x : S28)  : k28.M w base ok x [.int .u64 x.f0, .int .u64 x.f1, .int .u64 x.f2, .string x.f3, .string x.f4] := ⟨[.int .u64 x.f0], [.int .u64 x.f1, .int .u64 x.f2, .string x.f3, .string x.f4], rfl, rfl, ⟨[.int .u64 x.f1], [.int .u64 x.f2, .string x.f3, .string x.f4], rfl, rfl, ⟨[.int .u64 x.f2], [.string x.f3, .string x.f4], rfl, rfl, ⟨[.string x.f3], [.string x.f4], rfl, rfl, rfl⟩⟩⟩⟩

def rd_T28 (xs : List S28) (i : Int) : S28 := xs.getD i.toNat z28

theorem at_T28 {w : World} {A : Option Addr} {n : Nat} {xs : List S28} (h : Kd.C k28 w A n xs) (i : Int) (h0 : 0 ≤ i) (h1 : i < n) : ∃ ad , A = some ad ∧ w.cell? (ad.add (i.toNat * 5)) = some (.int .u64 (rd_T28 xs i).f0) ∧ w.cell? ⟨(ad.add (i.toNat * 5)).block, (ad.add (i.toNat * 5)).off + 1, none⟩ = some (.int .u64 (rd_T28 xs i).f1) ∧ w.cell? ⟨(ad.add (i.toNat * 5)).block, (ad.add (i.toNat * 5)).off + 2, none⟩ = some (.int .u64 (rd_T28 xs i).f2) ∧ w.cell? ⟨(ad.add (i.toNat * 5)).block, (ad.add (i.toNat * 5)).off + 3, none⟩ = some (.string (rd_T28 xs i).f3) ∧ w.cell? ⟨(ad.add (i.toNat * 5)).block, (ad.add (i.toNat * 5)).off + 4, none⟩ = some (.string (rd_T28 xs i).f4) := by
  obtain ⟨ad, c, e, _, hK, hc0⟩ := Kd.C_get h z28 i h0 h1
  have hc : ∀ j u, c[j]? = some u → w.cell? (ad.add (i.toNat * 5 + j)) = some u := hc0
  obtain rfl := k28_open hK
  exact ⟨ad, e, hc 0 _ rfl, by rw [← add_field _ _ 1 (by omega)]; exact hc 1 _ rfl, by rw [← add_field _ _ 2 (by omega)]; exact hc 2 _ rfl, by rw [← add_field _ _ 3 (by omega)]; exact hc 3 _ rfl, by rw [← add_field _ _ 4 (by omega)]; exact hc 4 _ rfl⟩

end Go.Proofs.YtekmeoemnekmcaaDoor.PX
namespace Go.Proofs.YtekmeoemnekmcaaDoor.PX

open Go.RowKit Go.Proofs.YtekmeoemnekmcaaDoorW.PrintWords Go.Proofs.YtekmeoemnekmcaaDoorW.PrintLast Go.Proofs.YtekmeoemnekmcaaDoorW.PrintMore

attribute [local go_sem] max2_int min2_int max_two min_two max_three min_three max_four min_four   -- for this text's walks alone

set_option linter.unusedVariables false

set_option linter.unusedSimpArgs false

def laws_zzFits14.f (a0_0 : Int) (a0_1 : Int) (a0_2 : Int) (a0_3 : ByteArray) (a0_4 : ByteArray) : Option (Bool) := if (a0_3.size : Int) > 2147483647 then (some false) else (if (a0_4.size : Int) > 2147483647 then (some false) else (some true))

set_option maxHeartbeats 80000000 in
set_option maxRecDepth 100000 in
theorem laws_zzFits14.calls (a0_0 : Int) (a0_1 : Int) (a0_2 : Int) (a0_3 : ByteArray) (a0_4 : ByteArray) (r : Bool) (w : World) (h : laws_zzFits14.f a0_0 a0_1 a0_2 a0_3 a0_4 = some r) :
    Calls Tryd.prog 16 #[.agg #[.int .u64 a0_0, .int .u64 a0_1, .int .u64 a0_2, .string a0_3, .string a0_4]] w fun e w' => e = .returned (.bool r) ∧ Below w.heap.size w w' := by
  have hu28 := Tryd.underlying28
  have HB := Aside0.mk (Below.refl w.heap.size w)
  have H : (if (a0_3.size : Int) > 2147483647 then (some false) else (if (a0_4.size : Int) > 2147483647 then (some false) else (some true))) = some r := h
  clear h
  by_cases c2 : (a0_3.size : Int) > 2147483647
  · rw [if_pos c2] at H
    have c2b0 : decide (2147483647 < (a0_3.size : Int)) = true := decide_eq_true c2
    have c2b1 : decide (2147483647 < a0_3.size) = true := decide_eq_true (by omega)
    clear c2
    obtain rfl := Option.some.inj H
    go_enter Tryd.func16, Tryd.ntmps16
    go_wp2_with (first | ((with_reducible refine gate_dst (N := 1) rfl ?_); refine box_event ?hg (N := 1) ?hd (cs := #[.int .u64 a0_0, .int .u64 a0_1, .int .u64 a0_2, .string a0_3, .string a0_4]) (t := 28) ?hr ?_; (case hd => rfl); (case hg => rfl); (case hr => first | (go_simp; done) | (go_simp; rfl) | (go_simp; simp [u8w]; done)); intro gb101 hg w3 hbox hb; have n0_ := Aside0.mk (below_step (by repeat (first | (with_reducible first | exact HB.out | apply below_alloc | apply pw_below_drewN | apply below_drew1) | exact HB.out)) hb); have n1_ := Aside0.mk (hbox); have n2_ := Aside0.mk ((by rw [hg]; exact (below_size (by repeat (first | (with_reducible first | exact HB.out | apply below_alloc | apply pw_below_drewN | apply below_drew1) | exact HB.out))) : w.heap.size ≤ gb101)); have n3_ := Aside0.mk ((by rw [hg]; exact (below_size (by repeat (first | (with_reducible first | exact HB.out | apply below_alloc | apply pw_below_drewN | apply below_drew1) | exact HB.out))) : w.heap.size ≤ gb101)); clear HB; have HB := n0_; have BK101 := n1_; have GW101 := n2_; have GE101 := n3_; clear n0_ n1_ n2_ n3_; clear hb hbox hg; have hcz4_0 : w3.cell? ⟨gb101, 0, none⟩ = some (.int .u64 a0_0) := (blk_cell BK101.out 0).trans rfl; have hcz4_1 : w3.cell? ⟨gb101, 1, none⟩ = some (.int .u64 a0_1) := (blk_cell BK101.out 1).trans rfl; have hcz4_2 : w3.cell? ⟨gb101, 2, none⟩ = some (.int .u64 a0_2) := (blk_cell BK101.out 2).trans rfl; have hcz4_3 : w3.cell? ⟨gb101, 3, none⟩ = some (.string a0_3) := (blk_cell BK101.out 3).trans rfl; have hcz4_4 : w3.cell? ⟨gb101, 4, none⟩ = some (.string a0_4) := (blk_cell BK101.out 4).trans rfl; have hfz4_0 := blk_frozen BK101.out 0; have hfz4_1 := blk_frozen BK101.out 1; have hfz4_2 := blk_frozen BK101.out 2; have hfz4_3 := blk_frozen BK101.out 3; have hfz4_4 := blk_frozen BK101.out 4))
    go_ret
    exact ⟨by first | rfl | (simp [errW_none, errW_some] <;> rfl) | (simp [*, errW_none, errW_some] <;> rfl) | (simp [bneNil]; done), by repeat (first | (with_reducible first | exact HB.out | apply below_alloc | apply pw_below_drewN | apply below_drew1 | refine below_set ?_ GE101.out) | exact HB.out)⟩
  · rw [if_neg c2] at H
    have c2b0 : decide (2147483647 < (a0_3.size : Int)) = false := decide_eq_false c2
    have c2b1 : decide (2147483647 < a0_3.size) = false := decide_eq_false (by omega)
    clear c2
    by_cases c5 : (a0_4.size : Int) > 2147483647
    · rw [if_pos c5] at H
      have c5b0 : decide (2147483647 < (a0_4.size : Int)) = true := decide_eq_true c5
      have c5b1 : decide (2147483647 < a0_4.size) = true := decide_eq_true (by omega)
      clear c5
      obtain rfl := Option.some.inj H
      go_enter Tryd.func16, Tryd.ntmps16
      go_wp2_with (first | ((with_reducible refine gate_dst (N := 1) rfl ?_); refine box_event ?hg (N := 1) ?hd (cs := #[.int .u64 a0_0, .int .u64 a0_1, .int .u64 a0_2, .string a0_3, .string a0_4]) (t := 28) ?hr ?_; (case hd => rfl); (case hg => rfl); (case hr => first | (go_simp; done) | (go_simp; rfl) | (go_simp; simp [u8w]; done)); intro gb101 hg w6 hbox hb; have n0_ := Aside0.mk (below_step (by repeat (first | (with_reducible first | exact HB.out | apply below_alloc | apply pw_below_drewN | apply below_drew1) | exact HB.out)) hb); have n1_ := Aside0.mk (hbox); have n2_ := Aside0.mk ((by rw [hg]; exact (below_size (by repeat (first | (with_reducible first | exact HB.out | apply below_alloc | apply pw_below_drewN | apply below_drew1) | exact HB.out))) : w.heap.size ≤ gb101)); have n3_ := Aside0.mk ((by rw [hg]; exact (below_size (by repeat (first | (with_reducible first | exact HB.out | apply below_alloc | apply pw_below_drewN | apply below_drew1) | exact HB.out))) : w.heap.size ≤ gb101)); clear HB; have HB := n0_; have BK101 := n1_; have GW101 := n2_; have GE101 := n3_; clear n0_ n1_ n2_ n3_; clear hb hbox hg; have hcz7_0 : w6.cell? ⟨gb101, 0, none⟩ = some (.int .u64 a0_0) := (blk_cell BK101.out 0).trans rfl; have hcz7_1 : w6.cell? ⟨gb101, 1, none⟩ = some (.int .u64 a0_1) := (blk_cell BK101.out 1).trans rfl; have hcz7_2 : w6.cell? ⟨gb101, 2, none⟩ = some (.int .u64 a0_2) := (blk_cell BK101.out 2).trans rfl; have hcz7_3 : w6.cell? ⟨gb101, 3, none⟩ = some (.string a0_3) := (blk_cell BK101.out 3).trans rfl; have hcz7_4 : w6.cell? ⟨gb101, 4, none⟩ = some (.string a0_4) := (blk_cell BK101.out 4).trans rfl; have hfz7_0 := blk_frozen BK101.out 0; have hfz7_1 := blk_frozen BK101.out 1; have hfz7_2 := blk_frozen BK101.out 2; have hfz7_3 := blk_frozen BK101.out 3; have hfz7_4 := blk_frozen BK101.out 4))
      go_ret
      exact ⟨by first | rfl | (simp [errW_none, errW_some] <;> rfl) | (simp [*, errW_none, errW_some] <;> rfl) | (simp [bneNil]; done), by repeat (first | (with_reducible first | exact HB.out | apply below_alloc | apply pw_below_drewN | apply below_drew1 | refine below_set ?_ GE101.out) | exact HB.out)⟩
    · rw [if_neg c5] at H
      have c5b0 : decide (2147483647 < (a0_4.size : Int)) = false := decide_eq_false c5
      have c5b1 : decide (2147483647 < a0_4.size) = false := decide_eq_false (by omega)
      clear c5
      obtain rfl := Option.some.inj H
      go_enter Tryd.func16, Tryd.ntmps16
      go_wp2_with (first | ((with_reducible refine gate_dst (N := 1) rfl ?_); refine box_event ?hg (N := 1) ?hd (cs := #[.int .u64 a0_0, .int .u64 a0_1, .int .u64 a0_2, .string a0_3, .string a0_4]) (t := 28) ?hr ?_; (case hd => rfl); (case hg => rfl); (case hr => first | (go_simp; done) | (go_simp; rfl) | (go_simp; simp [u8w]; done)); intro gb101 hg w8 hbox hb; have n0_ := Aside0.mk (below_step (by repeat (first | (with_reducible first | exact HB.out | apply below_alloc | apply pw_below_drewN | apply below_drew1) | exact HB.out)) hb); have n1_ := Aside0.mk (hbox); have n2_ := Aside0.mk ((by rw [hg]; exact (below_size (by repeat (first | (with_reducible first | exact HB.out | apply below_alloc | apply pw_below_drewN | apply below_drew1) | exact HB.out))) : w.heap.size ≤ gb101)); have n3_ := Aside0.mk ((by rw [hg]; exact (below_size (by repeat (first | (with_reducible first | exact HB.out | apply below_alloc | apply pw_below_drewN | apply below_drew1) | exact HB.out))) : w.heap.size ≤ gb101)); clear HB; have HB := n0_; have BK101 := n1_; have GW101 := n2_; have GE101 := n3_; clear n0_ n1_ n2_ n3_; clear hb hbox hg; have hcz9_0 : w8.cell? ⟨gb101, 0, none⟩ = some (.int .u64 a0_0) := (blk_cell BK101.out 0).trans rfl; have hcz9_1 : w8.cell? ⟨gb101, 1, none⟩ = some (.int .u64 a0_1) := (blk_cell BK101.out 1).trans rfl; have hcz9_2 : w8.cell? ⟨gb101, 2, none⟩ = some (.int .u64 a0_2) := (blk_cell BK101.out 2).trans rfl; have hcz9_3 : w8.cell? ⟨gb101, 3, none⟩ = some (.string a0_3) := (blk_cell BK101.out 3).trans rfl; have hcz9_4 : w8.cell? ⟨gb101, 4, none⟩ = some (.string a0_4) := (blk_cell BK101.out 4).trans rfl; have hfz9_0 := blk_frozen BK101.out 0; have hfz9_1 := blk_frozen BK101.out 1; have hfz9_2 := blk_frozen BK101.out 2; have hfz9_3 := blk_frozen BK101.out 3; have hfz9_4 := blk_frozen BK101.out 4))
      go_ret
      exact ⟨by first | rfl | (simp [errW_none, errW_some] <;> rfl) | (simp [*, errW_none, errW_some] <;> rfl) | (simp [bneNil]; done), by repeat (first | (with_reducible first | exact HB.out | apply below_alloc | apply pw_below_drewN | apply below_drew1 | refine below_set ?_ GE101.out) | exact HB.out)⟩

def laws_svShort.l0 : Nat → List ByteArray → Int → Int → Option (Bool)
  | 0, _, _, _ => none
  | k + 1, x5, x6, x7 => if x7 < x6 then (if 0 ≤ x7 then (if x7 < (x5.length : Int) then (if ((rdOf ByteArray.empty x5 x7).size : Int) > 65536 then (some false) else (laws_svShort.l0 k x5 x6 (wrap64 (x7 + 1)))) else (none)) else (none)) else (some true)

def laws_svShort.f (k : Nat) (l0 : List ByteArray) : Option (Bool) := laws_svShort.l0 k l0 (l0.length : Int) 0

theorem laws_svShort.mono_l : ∀ k, (∀ y0 y1 y2, LeO (laws_svShort.l0 k y0 y1 y2) (laws_svShort.l0 (k + 1) y0 y1 y2))
  | 0 => fun _ _ _ r h => by simp [laws_svShort.l0] at h
  | k + 1 => by
    have ih0 := laws_svShort.mono_l k
    · intro y0 y1 y2
      unfold laws_svShort.l0
      repeat' first
      | (with_reducible exact ih0 _ _ _)
      | (with_reducible exact LeO.refl _)
      | (with_reducible exact LeO.none _)
      | (with_reducible refine LeO.ite ?_ ?_)
      | (with_reducible refine LeO.bind ?_ (fun _ => ?_))
      | exact ih0 _ _ _
      | exact LeO.none _
      | refine LeO.ite ?_ ?_
      | refine LeO.bind ?_ (fun _ => ?_)

theorem laws_svShort.mono : ∀ a0 k, LeO (laws_svShort.f k a0) (laws_svShort.f (k + 1) a0) := by
  intro a0 k
  have ih0 := laws_svShort.mono_l k
  unfold laws_svShort.f
  repeat' first
      | (with_reducible exact ih0 _ _ _)
      | (with_reducible exact LeO.refl _)
      | (with_reducible exact LeO.none _)
      | (with_reducible refine LeO.ite ?_ ?_)
      | (with_reducible refine LeO.bind ?_ (fun _ => ?_))
      | exact ih0 _ _ _
      | exact LeO.none _
      | refine LeO.ite ?_ ?_
      | refine LeO.bind ?_ (fun _ => ?_)

set_option maxHeartbeats 80000000 in
set_option maxRecDepth 100000 in
theorem laws_svShort.calls (k : Nat) (A0 : Option Addr) (c0 : Nat) (l0 : List ByteArray) (r : Bool) (w : World) (hr0 : Kd.C Kd.string w A0 l0.length l0) (hc0 : l0.length ≤ c0) (h : laws_svShort.f k l0 = some r) :
    Calls Tryd.prog 10 #[.slice A0 l0.length c0] w fun e w' => e = .returned (.bool r) ∧ Drawn0 w w' := by
  have HR0 := Aside0.mk hr0
  have HC0 := Aside0.mk hc0
  clear hr0 hc0
  have H : (laws_svShort.l0 k l0 (l0.length : Int) 0) = some r := h
  clear h
  have H' := Aside0.mk H
  clear H
  go_enter Tryd.func10, Tryd.ntmps10
  go_wp2
  go_loopg [7] k (fun kq v7 w' => ∃ (x7_1 : Int), v7 = .int .i64 x7_1 ∧ Aside0 (laws_svShort.l0 kq l0 (l0.length : Int) x7_1 = some r) ∧ Aside0 (kq ≤ k) ∧ Drawn0 w w')
  case atStart => exact ⟨(0), (by first | rfl | (simp; done) | (simp [*]; done)), H', ⟨Nat.le_refl _⟩, by repeat (first | exact Drawn0.refl _ | apply Drawn0.step)⟩
  case round =>
    clear H'
    try clear c1
    obtain ⟨x7_1, rfl, HA, HK1, ⟨m1, rfl⟩⟩ := hrel
    cases gk with
    | zero => exact absurd HA.out (by simp [laws_svShort.l0])
    | succ k1 =>
      have H := HA.out
      clear HA
      simp only [laws_svShort.l0] at H
      by_cases c2 : x7_1 < (l0.length : Int)
      · rw [if_pos c2] at H
        have c2b0 : decide (x7_1 < (l0.length : Int)) = true := decide_eq_true c2
        clear c2
        by_cases c3 : 0 ≤ x7_1
        · rw [if_pos c3] at H
          have c3b0 : decide (0 ≤ x7_1) = true := decide_eq_true c3
          clear c3
          by_cases c4 : x7_1 < (l0.length : Int)
          · rw [if_pos c4] at H
            have c4b0 : decide (x7_1 < (l0.length : Int)) = true := decide_eq_true c4
            clear c4
            by_cases c5 : ((rdOf ByteArray.empty l0 x7_1).size : Int) > 65536
            · rw [if_pos c5] at H
              have c5b0 : decide (65536 < ((rdOf ByteArray.empty l0 x7_1).size : Int)) = true := decide_eq_true c5
              have c5b1 : decide (65536 < (rdOf ByteArray.empty l0 x7_1).size) = true := decide_eq_true (by omega)
              clear c5
              obtain rfl := Option.some.inj H
              have p102 : 0 ≤ (x7_1 : Int) := of_decide_eq_true (by first | (with_reducible assumption) | assumption)
              have q102 : x7_1 < (l0.length : Int) := of_decide_eq_true (by first | (with_reducible assumption) | assumption)
              obtain ⟨ad102, e102, hx102_0⟩ := Kd.at_string HR0.out x7_1 p102 q102
              cases e102
              replace p102 := eq_true p102
              replace q102 := eq_true q102
              go_wp2
              go_ret
              exact ⟨by first | rfl | (simp; done) | (simp [*]; done) | (simp [bneNil]; done), by repeat (first | exact Drawn0.refl _ | apply Drawn0.step)⟩
            · rw [if_neg c5] at H
              have c5b0 : decide (65536 < ((rdOf ByteArray.empty l0 x7_1).size : Int)) = false := decide_eq_false c5
              have c5b1 : decide (65536 < (rdOf ByteArray.empty l0 x7_1).size) = false := decide_eq_false (by omega)
              clear c5
              have H' := Aside0.mk H
              clear H
              have p102 : 0 ≤ (x7_1 : Int) := of_decide_eq_true (by first | (with_reducible assumption) | assumption)
              have q102 : x7_1 < (l0.length : Int) := of_decide_eq_true (by first | (with_reducible assumption) | assumption)
              obtain ⟨ad102, e102, hx102_0⟩ := Kd.at_string HR0.out x7_1 p102 q102
              cases e102
              replace p102 := eq_true p102
              replace q102 := eq_true q102
              go_wp2
              go_roundg k1
              case measure => have := HK1.out; omega
              case rel => exact ⟨(wrap64 (x7_1 + 1)), (by first | rfl | (simp; done) | (simp [*]; done)), H', ⟨by have := HK1.out; omega⟩, by repeat (first | exact Drawn0.refl _ | apply Drawn0.step)⟩
          · rw [if_neg c4] at H
            exact absurd H (by simp)
        · rw [if_neg c3] at H
          exact absurd H (by simp)
      · rw [if_neg c2] at H
        have c2b0 : decide (x7_1 < (l0.length : Int)) = false := decide_eq_false c2
        clear c2
        obtain rfl := Option.some.inj H
        go_wp2
        go_ret
        exact ⟨by first | rfl | (simp; done) | (simp [*]; done) | (simp [bneNil]; done), by repeat (first | exact Drawn0.refl _ | apply Drawn0.step)⟩

def spec_Identifiers.l0 : Nat → ByteArray → List ByteArray → Int → Int → Option (List ByteArray)
  | 0, _, _, _, _ => none
  | k + 1, x0, x3, x4, x5 => if x5 < (x0.size : Int) then (if 0 ≤ x5 then (if (bt x0 x5) = 46 then (if 0 ≤ x4 then (if x4 ≤ x5 then (if x5 ≤ (x0.size : Int) then (if x3.length < 8796093022208 then (spec_Identifiers.l0 k x0 (x3 ++ [x0.extract (x4 : Int).toNat (x5 : Int).toNat]) (wrap64 (x5 + 1)) (wrap64 (x5 + 1))) else (none)) else (none)) else (none)) else (none)) else (spec_Identifiers.l0 k x0 x3 x4 (wrap64 (x5 + 1)))) else (none)) else (if 0 ≤ x4 then (if x4 ≤ (x0.size : Int) then (if x3.length < 8796093022208 then (some (x3 ++ [x0.extract (x4 : Int).toNat x0.size])) else (none)) else (none)) else (none))

def spec_Identifiers.f (k : Nat) (a0 : ByteArray) : Option (List ByteArray) := spec_Identifiers.l0 k a0 ([] : List ByteArray) 0 0

theorem spec_Identifiers.mono_l : ∀ k, (∀ y0 y1 y2 y3, LeO (spec_Identifiers.l0 k y0 y1 y2 y3) (spec_Identifiers.l0 (k + 1) y0 y1 y2 y3))
  | 0 => fun _ _ _ _ r h => by simp [spec_Identifiers.l0] at h
  | k + 1 => by
    have ih0 := spec_Identifiers.mono_l k
    · intro y0 y1 y2 y3
      unfold spec_Identifiers.l0
      repeat' first
      | (with_reducible exact ih0 _ _ _ _)
      | (with_reducible exact LeO.refl _)
      | (with_reducible exact LeO.none _)
      | (with_reducible refine LeO.ite ?_ ?_)
      | (with_reducible refine LeO.bind ?_ (fun _ => ?_))
      | exact ih0 _ _ _ _
      | exact LeO.none _
      | refine LeO.ite ?_ ?_
      | refine LeO.bind ?_ (fun _ => ?_)

theorem spec_Identifiers.mono : ∀ a0 k, LeO (spec_Identifiers.f k a0) (spec_Identifiers.f (k + 1) a0) := by
  intro a0 k
  have ih0 := spec_Identifiers.mono_l k
  unfold spec_Identifiers.f
  repeat' first
      | (with_reducible exact ih0 _ _ _ _)
      | (with_reducible exact LeO.refl _)
      | (with_reducible exact LeO.none _)
      | (with_reducible refine LeO.ite ?_ ?_)
      | (with_reducible refine LeO.bind ?_ (fun _ => ?_))
      | exact ih0 _ _ _ _
      | exact LeO.none _
      | refine LeO.ite ?_ ?_
      | refine LeO.bind ?_ (fun _ => ?_)

set_option maxHeartbeats 80000000 in
set_option maxRecDepth 100000 in
theorem spec_Identifiers.calls (k : Nat) (a0 : ByteArray) (r : List ByteArray) (w : World) (h : spec_Identifiers.f k a0 = some r) :
    Calls Tryd.prog 13 #[.string a0] w fun e w' => ∃ v0_ : Value, e = .returned (v0_) ∧ Kd.R Kd.string 9 w' w.heap.size (fun _ => True) v0_ r ∧ Below w.heap.size w w' := by
  have HB := Aside0.mk (Below.refl w.heap.size w)
  have H : (spec_Identifiers.l0 k a0 ([] : List ByteArray) 0 0) = some r := h
  clear h
  have H' := Aside0.mk H
  clear H
  go_enter Tryd.func13, Tryd.ntmps13
  go_wp2
  go_loopg [3, 4, 5] k (fun kq v3 v4 v5 w' => ∃ (x3_1 : List ByteArray) (x4_1 : Int) (x5_1 : Int), v4 = .int .i64 x4_1 ∧ v5 = .int .i64 x5_1 ∧ Aside0 (spec_Identifiers.l0 kq a0 x3_1 x4_1 x5_1 = some r) ∧ Aside0 (kq ≤ k) ∧ Aside0 (Kd.R Kd.string 9 w' w.heap.size (fun _ => True) v3 x3_1) ∧ Aside0 (Below w.heap.size w w'))
  case atStart => exact ⟨(([] : List ByteArray)), (0), (0), (by first | rfl | (simp; done) | (simp [*]; done)), (by first | rfl | (simp; done) | (simp [*]; done)), H', ⟨Nat.le_refl _⟩, ⟨by first | exact Kd.R_nil _ _ _ _ _ | exact Kd.N_nil _ _ _ _ _ | exact Kd.V_nil _ _ _ _ _ | exact Kd.Q_nil _ _ _ _ _ | exact Kd.S_nil _ _ _ _ _⟩, ⟨by repeat (first | (with_reducible first | exact HB.out | apply below_alloc | apply pw_below_drewN | apply below_drew1) | exact HB.out)⟩⟩
  case round =>
    clear H'
    try clear c1
    obtain ⟨x3_1, x4_1, x5_1, rfl, rfl, HA, HK1, HO_3, HB⟩ := hrel
    cases gk with
    | zero => exact absurd HA.out (by simp [spec_Identifiers.l0])
    | succ k1 =>
      have H := HA.out
      clear HA
      simp only [spec_Identifiers.l0] at H
      by_cases c2 : x5_1 < (a0.size : Int)
      · rw [if_pos c2] at H
        have c2b0 : decide (x5_1 < (a0.size : Int)) = true := decide_eq_true c2
        clear c2
        by_cases c3 : 0 ≤ x5_1
        · rw [if_pos c3] at H
          have c3b0 : decide (0 ≤ x5_1) = true := decide_eq_true c3
          clear c3
          by_cases c5 : (bt a0 x5_1) = 46
          · rw [if_pos c5] at H
            have c5b0 : ((bt a0 x5_1) == 46) = true := beq_iff_eq.mpr c5
            have c5b1 : ((bt a0 x5_1) != 46) = false := bne_eq_false_iff_eq.mpr c5
            clear c5
            by_cases c6 : 0 ≤ x4_1
            · rw [if_pos c6] at H
              have c6b0 := eq_true c6
              have c6b1 : decide (0 ≤ x4_1) = true := decide_eq_true c6
              clear c6
              by_cases c7 : x4_1 ≤ x5_1
              · rw [if_pos c7] at H
                have c7b0 := eq_true c7
                have c7b1 : decide (x4_1 ≤ x5_1) = true := decide_eq_true c7
                clear c7
                by_cases c8 : x5_1 ≤ (a0.size : Int)
                · rw [if_pos c8] at H
                  have c8b0 := eq_true c8
                  have c8b1 : decide (x5_1 ≤ (a0.size : Int)) = true := decide_eq_true c8
                  clear c8
                  by_cases c9 : x3_1.length < 8796093022208
                  · rw [if_pos c9] at H
                    have LMc9 := Aside0.mk c9
                    clear c9
                    obtain ⟨y103, hy103⟩ : ∃ y_ : List ByteArray, y_ = (x3_1 ++ [a0.extract (x4_1 : Int).toNat (x5_1 : Int).toNat]) := ⟨_, rfl⟩
                    replace H : (spec_Identifiers.l0 k1 a0 y103 (wrap64 (x5_1 + 1)) (wrap64 (x5_1 + 1))) = some r := by first | (rw [hy103]; with_reducible exact H) | (have H2_ := (Option.bind_some _ _).symm.trans H; rw [hy103]; with_reducible exact H2_) | (have H2_ := (Option.bind_some _ _).symm.trans H; with_reducible exact H2_) | with_reducible exact H | (rw [hy103]; exact H) | exact H
                    have Ny103 := Aside0.mk hy103
                    clear hy103
                    have H' := Aside0.mk H
                    clear H
                    have p4 : 0 ≤ (x5_1 : Int) := of_decide_eq_true (by first | (with_reducible assumption) | assumption)
                    have q4 : x5_1 < (a0.size : Int) := of_decide_eq_true (by first | (with_reducible assumption) | assumption)
                    have hx4 := bt_at a0 x5_1
                    replace p4 := eq_true p4
                    replace q4 := eq_true q4
                    go_wp2_with (first | ((with_reducible refine gate_builtin (b := .append) (xs := #[.tmp 16, .tmp 21]) rfl ?_); at_builtin; refine Kd.R_append Kd.string (w0 := w) w.heap.size rfl (.tmp 16) (.tmp 21) 24 9 (.string ⟨#[]⟩) 16 rfl Tryd.underlying24 info9 rfl (by decide) (by omega) u3 x3_1 (a0.extract (x4_1 : Int).toNat (x5_1 : Int).toNat) [.string (a0.extract (x4_1 : Int).toNat (x5_1 : Int).toNat)] (fun _ => True) (fun _ => False) rfl rfl ?aP (fun _ hk => hk.elim) ?aF ?aO ?aB ?aS ?aL ?_; (case aP => exact rfl); (case aB => exact (by repeat (first | (with_reducible first | exact HB.out | apply below_alloc | apply pw_below_drewN | apply below_drew1) | exact HB.out))); (case aF => exact (fun _ _ => trivial)); (case aO => exact (by (with_reducible repeat (first | apply Kd.R_alloc | apply Kd.R_drewN | apply Kd.R_drew)); exact HO_3.out)); (case aS => exact (below_size (by repeat (first | (with_reducible first | exact HB.out | apply below_alloc | apply pw_below_drewN | apply below_drew1) | exact HB.out)))); (case aL => have := LMc9.out; omega); intro v104 w10 ho hb hg hat; rw [← Ny103.out] at ho; have n0_ := Aside0.mk (hb); have n1_ := Aside0.mk (ho); clear HB; clear HO_3; have HB := n0_; have HO105 := n1_; clear n0_ n1_; clear ho hb hg hat))
                    go_roundg k1
                    case measure => have := HK1.out; omega
                    case rel => exact ⟨(y103), (wrap64 (x5_1 + 1)), (wrap64 (x5_1 + 1)), (by first | rfl | (simp; done) | (simp [*]; done)), (by first | rfl | (simp; done) | (simp [*]; done)), H', ⟨by have := HK1.out; omega⟩, ⟨by (with_reducible repeat (first | apply Kd.R_alloc | apply Kd.R_drewN | apply Kd.R_drew)); exact HO105.out⟩, ⟨by repeat (first | (with_reducible first | exact HB.out | apply below_alloc | apply pw_below_drewN | apply below_drew1) | exact HB.out)⟩⟩
                  · rw [if_neg c9] at H
                    exact absurd H (by simp)
                · rw [if_neg c8] at H
                  exact absurd H (by simp)
              · rw [if_neg c7] at H
                exact absurd H (by simp)
            · rw [if_neg c6] at H
              exact absurd H (by simp)
          · rw [if_neg c5] at H
            have c5b0 : ((bt a0 x5_1) == 46) = false := beq_eq_false_iff_ne.mpr c5
            have c5b1 : ((bt a0 x5_1) != 46) = true := bne_iff_ne.mpr c5
            have H' := Aside0.mk H
            clear H
            have p4 : 0 ≤ (x5_1 : Int) := of_decide_eq_true (by first | (with_reducible assumption) | assumption)
            have q4 : x5_1 < (a0.size : Int) := of_decide_eq_true (by first | (with_reducible assumption) | assumption)
            have hx4 := bt_at a0 x5_1
            replace p4 := eq_true p4
            replace q4 := eq_true q4
            go_wp2
            go_roundg k1
            case measure => have := HK1.out; omega
            case rel => exact ⟨(x3_1), (x4_1), (wrap64 (x5_1 + 1)), (by first | rfl | (simp; done) | (simp [*]; done)), (by first | rfl | (simp; done) | (simp [*]; done)), H', ⟨by have := HK1.out; omega⟩, ⟨by (with_reducible repeat (first | apply Kd.R_alloc | apply Kd.R_drewN | apply Kd.R_drew)); exact HO_3.out⟩, ⟨by repeat (first | (with_reducible first | exact HB.out | apply below_alloc | apply pw_below_drewN | apply below_drew1) | exact HB.out)⟩⟩
        · rw [if_neg c3] at H
          exact absurd H (by simp)
      · rw [if_neg c2] at H
        have c2b0 : decide (x5_1 < (a0.size : Int)) = false := decide_eq_false c2
        clear c2
        by_cases c11 : 0 ≤ x4_1
        · rw [if_pos c11] at H
          have c11b0 := eq_true c11
          have c11b1 : decide (0 ≤ x4_1) = true := decide_eq_true c11
          clear c11
          by_cases c12 : x4_1 ≤ (a0.size : Int)
          · rw [if_pos c12] at H
            have c12b0 := eq_true c12
            have c12b1 : decide (x4_1 ≤ (a0.size : Int)) = true := decide_eq_true c12
            clear c12
            by_cases c13 : x3_1.length < 8796093022208
            · rw [if_pos c13] at H
              have LMc13 := Aside0.mk c13
              clear c13
              obtain ⟨y106, hy106⟩ : ∃ y_ : List ByteArray, y_ = (x3_1 ++ [a0.extract (x4_1 : Int).toNat a0.size]) := ⟨_, rfl⟩
              replace H : (some y106) = some r := by first | (rw [hy106]; with_reducible exact H) | (have H2_ := (Option.bind_some _ _).symm.trans H; rw [hy106]; with_reducible exact H2_) | (have H2_ := (Option.bind_some _ _).symm.trans H; with_reducible exact H2_) | with_reducible exact H | (rw [hy106]; exact H) | exact H
              have Ny106 := Aside0.mk hy106
              clear hy106
              obtain rfl := Option.some.inj H
              go_wp2_with (first | ((with_reducible refine gate_builtin (b := .append) (xs := #[.tmp 25, .tmp 29]) rfl ?_); at_builtin; refine Kd.R_append Kd.string (w0 := w) w.heap.size rfl (.tmp 25) (.tmp 29) 24 9 (.string ⟨#[]⟩) 16 rfl Tryd.underlying24 info9 rfl (by decide) (by omega) u3 x3_1 (a0.extract (x4_1 : Int).toNat a0.size) [.string (a0.extract (x4_1 : Int).toNat a0.size)] (fun _ => True) (fun _ => False) rfl rfl ?aP (fun _ hk => hk.elim) ?aF ?aO ?aB ?aS ?aL ?_; (case aP => exact rfl); (case aB => exact (by repeat (first | (with_reducible first | exact HB.out | apply below_alloc | apply pw_below_drewN | apply below_drew1) | exact HB.out))); (case aF => exact (fun _ _ => trivial)); (case aO => exact (by (with_reducible repeat (first | apply Kd.R_alloc | apply Kd.R_drewN | apply Kd.R_drew)); exact HO_3.out)); (case aS => exact (below_size (by repeat (first | (with_reducible first | exact HB.out | apply below_alloc | apply pw_below_drewN | apply below_drew1) | exact HB.out)))); (case aL => have := LMc13.out; omega); intro v107 w14 ho hb hg hat; rw [← Ny106.out] at ho; have n0_ := Aside0.mk (hb); have n1_ := Aside0.mk (ho); clear HB; clear HO_3; have HB := n0_; have HO108 := n1_; clear n0_ n1_; clear ho hb hg hat))
              go_ret
              exact ⟨_, by first | rfl | (simp [errW_none, errW_some] <;> rfl) | (simp [*, errW_none, errW_some] <;> rfl), by (with_reducible repeat (first | apply Kd.R_alloc | apply Kd.R_drewN | apply Kd.R_drew)); exact HO108.out, by repeat (first | (with_reducible first | exact HB.out | apply below_alloc | apply pw_below_drewN | apply below_drew1) | exact HB.out)⟩
            · rw [if_neg c13] at H
              exact absurd H (by simp)
          · rw [if_neg c12] at H
            exact absurd H (by simp)
        · rw [if_neg c11] at H
          exact absurd H (by simp)

def spec_isDigit.f (a0 : Int) : Option (Bool) := if 48 ≤ a0 then (some (decide (a0 ≤ 57))) else (some false)

set_option maxHeartbeats 80000000 in
set_option maxRecDepth 100000 in
theorem spec_isDigit.calls (a0 : Int) (r : Bool) (w : World) (h : spec_isDigit.f a0 = some r) :
    Calls Tryd.prog 33 #[.int .u8 a0] w fun e w' => e = .returned (.bool r) ∧ Drawn0 w w' := by
  have H : (if 48 ≤ a0 then (some (decide (a0 ≤ 57))) else (some false)) = some r := h
  clear h
  by_cases c2 : 48 ≤ a0
  · rw [if_pos c2] at H
    have c2b0 : decide (48 ≤ a0) = true := decide_eq_true c2
    clear c2
    obtain rfl := Option.some.inj H
    go_enter Tryd.func33, Tryd.ntmps33
    go_wp2
    go_ret
    exact ⟨by first | rfl | (simp; done) | (simp [*]; done) | (simp [bneNil]; done), by repeat (first | exact Drawn0.refl _ | apply Drawn0.step)⟩
  · rw [if_neg c2] at H
    have c2b0 : decide (48 ≤ a0) = false := decide_eq_false c2
    clear c2
    obtain rfl := Option.some.inj H
    go_enter Tryd.func33, Tryd.ntmps33
    go_wp2
    go_ret
    exact ⟨by first | rfl | (simp; done) | (simp [*]; done) | (simp [bneNil]; done), by repeat (first | exact Drawn0.refl _ | apply Drawn0.step)⟩

def spec_isIdent.f (a0 : Int) : Option (Bool) := (spec_isDigit.f a0).bind fun t109 => (if t109 = true then (some true) else (if 65 ≤ a0 then (if a0 ≤ 90 then (some true) else (if 97 ≤ a0 then (if a0 ≤ 122 then (some true) else (some (a0 == 45))) else (some (a0 == 45)))) else (if 97 ≤ a0 then (if a0 ≤ 122 then (some true) else (some (a0 == 45))) else (some (a0 == 45)))))

set_option maxHeartbeats 80000000 in
set_option maxRecDepth 100000 in
theorem spec_isIdent.calls (a0 : Int) (r : Bool) (w : World) (h : spec_isIdent.f a0 = some r) :
    Calls Tryd.prog 54 #[.int .u8 a0] w fun e w' => e = .returned (.bool r) ∧ Drawn0 w w' := by
  have H : ((spec_isDigit.f a0).bind fun t109 => (if t109 = true then (some true) else (if 65 ≤ a0 then (if a0 ≤ 90 then (some true) else (if 97 ≤ a0 then (if a0 ≤ 122 then (some true) else (some (a0 == 45))) else (some (a0 == 45)))) else (if 97 ≤ a0 then (if a0 ≤ 122 then (some true) else (some (a0 == 45))) else (some (a0 == 45)))))) = some r := h
  clear h
  replace H := Option.bind_eq_some_iff.mp H
  obtain ⟨t109, A20, H⟩ := H
  replace H : (if t109 = true then (some true) else (if 65 ≤ a0 then (if a0 ≤ 90 then (some true) else (if 97 ≤ a0 then (if a0 ≤ 122 then (some true) else (some (a0 == 45))) else (some (a0 == 45)))) else (if 97 ≤ a0 then (if a0 ≤ 122 then (some true) else (some (a0 == 45))) else (some (a0 == 45))))) = some r := H
  have A2 := Aside0.mk A20
  clear A20
  by_cases c3 : t109 = true
  · subst c3
    have H1 : (some true) = some r := by rw [if_pos rfl] at H; exact H
    clear H
    have H := H1
    clear H1
    obtain rfl := Option.some.inj H
    go_enter Tryd.func54, Tryd.ntmps54
    go_wp2_with (first | ((with_reducible refine gate_callee (f := 33) rfl ?_); refine goesL_ (some 4) rfl rfl Tryd.func33 (by kernel_rfl) rfl #[.int .u8 a0] rfl (by (try simp only [List.map_toArray, List.map_cons, List.map_nil]); first | done | rfl | (simp only [List.length_drop, List.length_take]; rfl)) ?_; (with_reducible refine (spec_isDigit.calls a0 true _ A2.out).mono ?_); rintro e w' ⟨rfl, ⟨nd, rfl⟩⟩; refine ⟨_, rfl, ?_⟩))
    go_ret
    exact ⟨by first | rfl | (simp; done) | (simp [*]; done) | (simp [bneNil]; done), by repeat (first | exact Drawn0.refl _ | apply Drawn0.step)⟩
  · replace c3 := Bool.eq_false_iff.mpr c3
    subst c3
    have H1 : (if 65 ≤ a0 then (if a0 ≤ 90 then (some true) else (if 97 ≤ a0 then (if a0 ≤ 122 then (some true) else (some (a0 == 45))) else (some (a0 == 45)))) else (if 97 ≤ a0 then (if a0 ≤ 122 then (some true) else (some (a0 == 45))) else (some (a0 == 45)))) = some r := by rw [if_neg (show ¬ (false = true) by decide)] at H; exact H
    clear H
    have H := H1
    clear H1
    by_cases c4 : 65 ≤ a0
    · rw [if_pos c4] at H
      have c4b0 : decide (65 ≤ a0) = true := decide_eq_true c4
      clear c4
      by_cases c5 : a0 ≤ 90
      · rw [if_pos c5] at H
        have c5b0 : decide (a0 ≤ 90) = true := decide_eq_true c5
        clear c5
        obtain rfl := Option.some.inj H
        go_enter Tryd.func54, Tryd.ntmps54
        go_wp2_with (first | ((with_reducible refine gate_callee (f := 33) rfl ?_); refine goesL_ (some 4) rfl rfl Tryd.func33 (by kernel_rfl) rfl #[.int .u8 a0] rfl (by (try simp only [List.map_toArray, List.map_cons, List.map_nil]); first | done | rfl | (simp only [List.length_drop, List.length_take]; rfl)) ?_; (with_reducible refine (spec_isDigit.calls a0 false _ A2.out).mono ?_); rintro e w' ⟨rfl, ⟨nd, rfl⟩⟩; refine ⟨_, rfl, ?_⟩))
        go_ret
        exact ⟨by first | rfl | (simp; done) | (simp [*]; done) | (simp [bneNil]; done), by repeat (first | exact Drawn0.refl _ | apply Drawn0.step)⟩
      · rw [if_neg c5] at H
        have c5b0 : decide (a0 ≤ 90) = false := decide_eq_false c5
        clear c5
        by_cases c6 : 97 ≤ a0
        · rw [if_pos c6] at H
          have c6b0 : decide (97 ≤ a0) = true := decide_eq_true c6
          clear c6
          by_cases c7 : a0 ≤ 122
          · rw [if_pos c7] at H
            have c7b0 : decide (a0 ≤ 122) = true := decide_eq_true c7
            clear c7
            obtain rfl := Option.some.inj H
            go_enter Tryd.func54, Tryd.ntmps54
            go_wp2_with (first | ((with_reducible refine gate_callee (f := 33) rfl ?_); refine goesL_ (some 4) rfl rfl Tryd.func33 (by kernel_rfl) rfl #[.int .u8 a0] rfl (by (try simp only [List.map_toArray, List.map_cons, List.map_nil]); first | done | rfl | (simp only [List.length_drop, List.length_take]; rfl)) ?_; (with_reducible refine (spec_isDigit.calls a0 false _ A2.out).mono ?_); rintro e w' ⟨rfl, ⟨nd, rfl⟩⟩; refine ⟨_, rfl, ?_⟩))
            go_ret
            exact ⟨by first | rfl | (simp; done) | (simp [*]; done) | (simp [bneNil]; done), by repeat (first | exact Drawn0.refl _ | apply Drawn0.step)⟩
          · rw [if_neg c7] at H
            have c7b0 : decide (a0 ≤ 122) = false := decide_eq_false c7
            clear c7
            obtain rfl := Option.some.inj H
            go_enter Tryd.func54, Tryd.ntmps54
            go_wp2_with (first | ((with_reducible refine gate_callee (f := 33) rfl ?_); refine goesL_ (some 4) rfl rfl Tryd.func33 (by kernel_rfl) rfl #[.int .u8 a0] rfl (by (try simp only [List.map_toArray, List.map_cons, List.map_nil]); first | done | rfl | (simp only [List.length_drop, List.length_take]; rfl)) ?_; (with_reducible refine (spec_isDigit.calls a0 false _ A2.out).mono ?_); rintro e w' ⟨rfl, ⟨nd, rfl⟩⟩; refine ⟨_, rfl, ?_⟩))
            go_ret
            exact ⟨by first | rfl | (simp; done) | (simp [*]; done) | (simp [bneNil]; done), by repeat (first | exact Drawn0.refl _ | apply Drawn0.step)⟩
        · rw [if_neg c6] at H
          have c6b0 : decide (97 ≤ a0) = false := decide_eq_false c6
          clear c6
          obtain rfl := Option.some.inj H
          go_enter Tryd.func54, Tryd.ntmps54
          go_wp2_with (first | ((with_reducible refine gate_callee (f := 33) rfl ?_); refine goesL_ (some 4) rfl rfl Tryd.func33 (by kernel_rfl) rfl #[.int .u8 a0] rfl (by (try simp only [List.map_toArray, List.map_cons, List.map_nil]); first | done | rfl | (simp only [List.length_drop, List.length_take]; rfl)) ?_; (with_reducible refine (spec_isDigit.calls a0 false _ A2.out).mono ?_); rintro e w' ⟨rfl, ⟨nd, rfl⟩⟩; refine ⟨_, rfl, ?_⟩))
          go_ret
          exact ⟨by first | rfl | (simp; done) | (simp [*]; done) | (simp [bneNil]; done), by repeat (first | exact Drawn0.refl _ | apply Drawn0.step)⟩
    · rw [if_neg c4] at H
      have c4b0 : decide (65 ≤ a0) = false := decide_eq_false c4
      clear c4
      by_cases c8 : 97 ≤ a0
      · rw [if_pos c8] at H
        have c8b0 : decide (97 ≤ a0) = true := decide_eq_true c8
        clear c8
        by_cases c9 : a0 ≤ 122
        · rw [if_pos c9] at H
          have c9b0 : decide (a0 ≤ 122) = true := decide_eq_true c9
          clear c9
          obtain rfl := Option.some.inj H
          go_enter Tryd.func54, Tryd.ntmps54
          go_wp2_with (first | ((with_reducible refine gate_callee (f := 33) rfl ?_); refine goesL_ (some 4) rfl rfl Tryd.func33 (by kernel_rfl) rfl #[.int .u8 a0] rfl (by (try simp only [List.map_toArray, List.map_cons, List.map_nil]); first | done | rfl | (simp only [List.length_drop, List.length_take]; rfl)) ?_; (with_reducible refine (spec_isDigit.calls a0 false _ A2.out).mono ?_); rintro e w' ⟨rfl, ⟨nd, rfl⟩⟩; refine ⟨_, rfl, ?_⟩))
          go_ret
          exact ⟨by first | rfl | (simp; done) | (simp [*]; done) | (simp [bneNil]; done), by repeat (first | exact Drawn0.refl _ | apply Drawn0.step)⟩
        · rw [if_neg c9] at H
          have c9b0 : decide (a0 ≤ 122) = false := decide_eq_false c9
          clear c9
          obtain rfl := Option.some.inj H
          go_enter Tryd.func54, Tryd.ntmps54
          go_wp2_with (first | ((with_reducible refine gate_callee (f := 33) rfl ?_); refine goesL_ (some 4) rfl rfl Tryd.func33 (by kernel_rfl) rfl #[.int .u8 a0] rfl (by (try simp only [List.map_toArray, List.map_cons, List.map_nil]); first | done | rfl | (simp only [List.length_drop, List.length_take]; rfl)) ?_; (with_reducible refine (spec_isDigit.calls a0 false _ A2.out).mono ?_); rintro e w' ⟨rfl, ⟨nd, rfl⟩⟩; refine ⟨_, rfl, ?_⟩))
          go_ret
          exact ⟨by first | rfl | (simp; done) | (simp [*]; done) | (simp [bneNil]; done), by repeat (first | exact Drawn0.refl _ | apply Drawn0.step)⟩
      · rw [if_neg c8] at H
        have c8b0 : decide (97 ≤ a0) = false := decide_eq_false c8
        clear c8
        obtain rfl := Option.some.inj H
        go_enter Tryd.func54, Tryd.ntmps54
        go_wp2_with (first | ((with_reducible refine gate_callee (f := 33) rfl ?_); refine goesL_ (some 4) rfl rfl Tryd.func33 (by kernel_rfl) rfl #[.int .u8 a0] rfl (by (try simp only [List.map_toArray, List.map_cons, List.map_nil]); first | done | rfl | (simp only [List.length_drop, List.length_take]; rfl)) ?_; (with_reducible refine (spec_isDigit.calls a0 false _ A2.out).mono ?_); rintro e w' ⟨rfl, ⟨nd, rfl⟩⟩; refine ⟨_, rfl, ?_⟩))
        go_ret
        exact ⟨by first | rfl | (simp; done) | (simp [*]; done) | (simp [bneNil]; done), by repeat (first | exact Drawn0.refl _ | apply Drawn0.step)⟩

def spec_ValidIdent.l0 : Nat → ByteArray → Int → Option (Bool)
  | 0, _, _ => none
  | k + 1, x0, x3 => if x3 < (x0.size : Int) then (if 0 ≤ x3 then ((spec_isIdent.f (bt x0 x3)).bind fun t110 => (if t110 = true then (spec_ValidIdent.l0 k x0 (wrap64 (x3 + 1))) else (some false))) else (none)) else (some (x0.toList != ([] : List UInt8)))

def spec_ValidIdent.f (k : Nat) (a0 : ByteArray) : Option (Bool) := spec_ValidIdent.l0 k a0 0

theorem spec_ValidIdent.mono_l : ∀ k, (∀ y0 y1, LeO (spec_ValidIdent.l0 k y0 y1) (spec_ValidIdent.l0 (k + 1) y0 y1))
  | 0 => fun _ _ r h => by simp [spec_ValidIdent.l0] at h
  | k + 1 => by
    have ih0 := spec_ValidIdent.mono_l k
    · intro y0 y1
      unfold spec_ValidIdent.l0
      repeat' first
      | (with_reducible exact ih0 _ _)
      | (with_reducible exact LeO.refl _)
      | (with_reducible exact LeO.none _)
      | (with_reducible refine LeO.ite ?_ ?_)
      | (with_reducible refine LeO.bind ?_ (fun _ => ?_))
      | exact ih0 _ _
      | exact LeO.none _
      | refine LeO.ite ?_ ?_
      | refine LeO.bind ?_ (fun _ => ?_)

theorem spec_ValidIdent.mono : ∀ a0 k, LeO (spec_ValidIdent.f k a0) (spec_ValidIdent.f (k + 1) a0) := by
  intro a0 k
  have ih0 := spec_ValidIdent.mono_l k
  unfold spec_ValidIdent.f
  repeat' first
      | (with_reducible exact ih0 _ _)
      | (with_reducible exact LeO.refl _)
      | (with_reducible exact LeO.none _)
      | (with_reducible refine LeO.ite ?_ ?_)
      | (with_reducible refine LeO.bind ?_ (fun _ => ?_))
      | exact ih0 _ _
      | exact LeO.none _
      | refine LeO.ite ?_ ?_
      | refine LeO.bind ?_ (fun _ => ?_)

set_option maxHeartbeats 80000000 in
set_option maxRecDepth 100000 in
theorem spec_ValidIdent.calls (k : Nat) (a0 : ByteArray) (r : Bool) (w : World) (h : spec_ValidIdent.f k a0 = some r) :
    Calls Tryd.prog 32 #[.string a0] w fun e w' => e = .returned (.bool r) ∧ Drawn0 w w' := by
  have H : (spec_ValidIdent.l0 k a0 0) = some r := h
  clear h
  have H' := Aside0.mk H
  clear H
  go_enter Tryd.func32, Tryd.ntmps32
  go_wp2
  go_loopg [3] k (fun kq v3 w' => ∃ (x3_1 : Int), v3 = .int .i64 x3_1 ∧ Aside0 (spec_ValidIdent.l0 kq a0 x3_1 = some r) ∧ Aside0 (kq ≤ k) ∧ Drawn0 w w')
  case atStart => exact ⟨(0), (by first | rfl | (simp; done) | (simp [*]; done)), H', ⟨Nat.le_refl _⟩, by repeat (first | exact Drawn0.refl _ | apply Drawn0.step)⟩
  case round =>
    clear H'
    obtain ⟨x3_1, rfl, HA, HK1, ⟨m1, rfl⟩⟩ := hrel
    cases gk with
    | zero => exact absurd HA.out (by simp [spec_ValidIdent.l0])
    | succ k1 =>
      have H := HA.out
      clear HA
      simp only [spec_ValidIdent.l0] at H
      by_cases c2 : x3_1 < (a0.size : Int)
      · rw [if_pos c2] at H
        have c2b0 : decide (x3_1 < (a0.size : Int)) = true := decide_eq_true c2
        clear c2
        by_cases c3 : 0 ≤ x3_1
        · rw [if_pos c3] at H
          have c3b0 : decide (0 ≤ x3_1) = true := decide_eq_true c3
          clear c3
          replace H := Option.bind_eq_some_iff.mp H
          obtain ⟨t110, A50, H⟩ := H
          replace H : (if t110 = true then (spec_ValidIdent.l0 k1 a0 (wrap64 (x3_1 + 1))) else (some false)) = some r := H
          have A5 := Aside0.mk A50
          clear A50
          by_cases c6 : t110 = true
          · subst c6
            have H1 : (spec_ValidIdent.l0 k1 a0 (wrap64 (x3_1 + 1))) = some r := by rw [if_pos rfl] at H; exact H
            clear H
            have H := H1
            clear H1
            have H' := Aside0.mk H
            clear H
            have p4 : 0 ≤ (x3_1 : Int) := of_decide_eq_true (by first | (with_reducible assumption) | assumption)
            have q4 : x3_1 < (a0.size : Int) := of_decide_eq_true (by first | (with_reducible assumption) | assumption)
            have hx4 := bt_at a0 x3_1
            replace p4 := eq_true p4
            replace q4 := eq_true q4
            go_wp2_with (first | ((with_reducible refine gate_callee (f := 54) rfl ?_); refine goesL_ (some 13) rfl rfl Tryd.func54 (by kernel_rfl) rfl #[.int .u8 (bt a0 x3_1)] rfl (by (try simp only [List.map_toArray, List.map_cons, List.map_nil]); first | done | rfl | (simp only [List.length_drop, List.length_take]; rfl)) ?_; (with_reducible refine (spec_isIdent.calls (bt a0 x3_1) true _ A5.out).mono ?_); rintro e w' ⟨rfl, ⟨nd, rfl⟩⟩; refine ⟨_, rfl, ?_⟩))
            go_roundg k1
            case measure => have := HK1.out; omega
            case rel => exact ⟨(wrap64 (x3_1 + 1)), (by first | rfl | (simp; done) | (simp [*]; done)), H', ⟨by have := HK1.out; omega⟩, by repeat (first | exact Drawn0.refl _ | apply Drawn0.step)⟩
          · replace c6 := Bool.eq_false_iff.mpr c6
            subst c6
            have H1 : (some false) = some r := by rw [if_neg (show ¬ (false = true) by decide)] at H; exact H
            clear H
            have H := H1
            clear H1
            obtain rfl := Option.some.inj H
            have p4 : 0 ≤ (x3_1 : Int) := of_decide_eq_true (by first | (with_reducible assumption) | assumption)
            have q4 : x3_1 < (a0.size : Int) := of_decide_eq_true (by first | (with_reducible assumption) | assumption)
            have hx4 := bt_at a0 x3_1
            replace p4 := eq_true p4
            replace q4 := eq_true q4
            go_wp2_with (first | ((with_reducible refine gate_callee (f := 54) rfl ?_); refine goesL_ (some 13) rfl rfl Tryd.func54 (by kernel_rfl) rfl #[.int .u8 (bt a0 x3_1)] rfl (by (try simp only [List.map_toArray, List.map_cons, List.map_nil]); first | done | rfl | (simp only [List.length_drop, List.length_take]; rfl)) ?_; (with_reducible refine (spec_isIdent.calls (bt a0 x3_1) false _ A5.out).mono ?_); rintro e w' ⟨rfl, ⟨nd, rfl⟩⟩; refine ⟨_, rfl, ?_⟩))
            go_ret
            exact ⟨by first | rfl | (simp; done) | (simp [*]; done) | (simp [bneNil]; done), by repeat (first | exact Drawn0.refl _ | apply Drawn0.step)⟩
        · rw [if_neg c3] at H
          exact absurd H (by simp)
      · rw [if_neg c2] at H
        have c2b0 : decide (x3_1 < (a0.size : Int)) = false := decide_eq_false c2
        clear c2
        obtain rfl := Option.some.inj H
        go_wp2
        go_ret
        exact ⟨by first | rfl | (simp; done) | (simp [*]; done) | (simp [bneNil]; done), by repeat (first | exact Drawn0.refl _ | apply Drawn0.step)⟩

def spec_ValidMeta.l0 : Nat → List ByteArray → Int → Int → Option (Bool)
  | 0, _, _, _ => none
  | k + 1, x6, x7, x8 => if x8 < x7 then (if 0 ≤ x8 then (if x8 < (x6.length : Int) then ((spec_ValidIdent.f k (rdOf ByteArray.empty x6 x8)).bind fun t115 => (if t115 = true then (spec_ValidMeta.l0 k x6 x7 (wrap64 (x8 + 1))) else (some false))) else (none)) else (none)) else (some true)

def spec_ValidMeta.f (k : Nat) (a0 : ByteArray) : Option (Bool) := (spec_Identifiers.f k a0).bind fun t111 => (spec_ValidMeta.l0 k t111 (t111.length : Int) 0)

theorem spec_ValidMeta.mono_l : ∀ k, (∀ y0 y1 y2, LeO (spec_ValidMeta.l0 k y0 y1 y2) (spec_ValidMeta.l0 (k + 1) y0 y1 y2))
  | 0 => fun _ _ _ r h => by simp [spec_ValidMeta.l0] at h
  | k + 1 => by
    have ih0 := spec_ValidMeta.mono_l k
    · intro y0 y1 y2
      unfold spec_ValidMeta.l0
      repeat' first
      | (with_reducible exact ih0 _ _ _)
      | (with_reducible exact spec_Identifiers.mono _ _)
      | (with_reducible exact spec_ValidIdent.mono _ _)
      | (with_reducible exact LeO.refl _)
      | (with_reducible exact LeO.none _)
      | (with_reducible refine LeO.ite ?_ ?_)
      | (with_reducible refine LeO.bind ?_ (fun _ => ?_))
      | exact ih0 _ _ _
      | exact spec_Identifiers.mono _ _
      | exact spec_ValidIdent.mono _ _
      | exact LeO.none _
      | refine LeO.ite ?_ ?_
      | refine LeO.bind ?_ (fun _ => ?_)

theorem spec_ValidMeta.mono : ∀ a0 k, LeO (spec_ValidMeta.f k a0) (spec_ValidMeta.f (k + 1) a0) := by
  intro a0 k
  have ih0 := spec_ValidMeta.mono_l k
  unfold spec_ValidMeta.f
  repeat' first
      | (with_reducible exact ih0 _ _ _)
      | (with_reducible exact spec_Identifiers.mono _ _)
      | (with_reducible exact spec_ValidIdent.mono _ _)
      | (with_reducible exact LeO.refl _)
      | (with_reducible exact LeO.none _)
      | (with_reducible refine LeO.ite ?_ ?_)
      | (with_reducible refine LeO.bind ?_ (fun _ => ?_))
      | exact ih0 _ _ _
      | exact spec_Identifiers.mono _ _
      | exact spec_ValidIdent.mono _ _
      | exact LeO.none _
      | refine LeO.ite ?_ ?_
      | refine LeO.bind ?_ (fun _ => ?_)

set_option maxHeartbeats 80000000 in
set_option maxRecDepth 100000 in
theorem spec_ValidMeta.calls (k : Nat) (a0 : ByteArray) (r : Bool) (w : World) (h : spec_ValidMeta.f k a0 = some r) :
    Calls Tryd.prog 12 #[.string a0] w fun e w' => e = .returned (.bool r) ∧ Below w.heap.size w w' := by
  have HB := Aside0.mk (Below.refl w.heap.size w)
  have H : ((spec_Identifiers.f k a0).bind fun t111 => (spec_ValidMeta.l0 k t111 (t111.length : Int) 0)) = some r := h
  clear h
  replace H := Option.bind_eq_some_iff.mp H
  obtain ⟨t111, A20, H⟩ := H
  replace H : (spec_ValidMeta.l0 k t111 (t111.length : Int) 0) = some r := H
  have A2 := Aside0.mk A20
  clear A20
  have H' := Aside0.mk H
  clear H
  go_enter Tryd.func12, Tryd.ntmps12
  go_wp2_with (first | ((with_reducible refine gate_callee (f := 13) rfl ?_); refine goesL_ (some 6) rfl rfl Tryd.func13 (by kernel_rfl) rfl #[.string a0] rfl (by (try simp only [List.map_toArray, List.map_cons, List.map_nil]); first | done | rfl | (simp only [List.length_drop, List.length_take]; rfl)) ?_; (with_reducible refine (spec_Identifiers.calls k a0 t111 _ A2.out).mono ?_); rintro e w3 ⟨v112, rfl, ho0, hb⟩; refine ⟨_, rfl, ?_⟩; have n0_ := Aside0.mk (Kd.R_lower ho0 (below_size (by repeat (first | (with_reducible first | exact HB.out | apply below_alloc | apply pw_below_drewN | apply below_drew1) | exact HB.out)))); have n1_ := Aside0.mk (below_step (by repeat (first | (with_reducible first | exact HB.out | apply below_alloc | apply pw_below_drewN | apply below_drew1) | exact HB.out)) hb); clear HB; have HO113 := n0_; have HB := n1_; clear n0_ n1_; (try clear hb); (try clear hb2); (try clear hk); (try clear hi); (try clear ho0); obtain ⟨Ao4, co4, eo4⟩ := Kd.R_slice HO113.out; subst eo4))
  go_loopg [8] k (fun kq v8 w' => ∃ (x8_1 : Int), v8 = .int .i64 x8_1 ∧ Aside0 (spec_ValidMeta.l0 kq t111 (t111.length : Int) x8_1 = some r) ∧ Aside0 (kq ≤ k) ∧ Aside0 (Kd.R Kd.string 9 w' w.heap.size (fun _ => True) (.slice Ao4 t111.length co4) t111) ∧ Aside0 (Below w.heap.size w w'))
  case atStart => exact ⟨(0), (by first | rfl | (simp; done) | (simp [*]; done)), H', ⟨Nat.le_refl _⟩, ⟨by (with_reducible repeat (first | apply Kd.R_alloc | apply Kd.R_drewN | apply Kd.R_drew)); exact HO113.out⟩, ⟨by repeat (first | (with_reducible first | exact HB.out | apply below_alloc | apply pw_below_drewN | apply below_drew1) | exact HB.out)⟩⟩
  case round =>
    clear H'
    try clear c1
    try clear p2
    obtain ⟨x8_1, rfl, HA, HK1, HO_6, HB⟩ := hrel
    cases gk with
    | zero => exact absurd HA.out (by simp [spec_ValidMeta.l0])
    | succ k1 =>
      have H := HA.out
      clear HA
      simp only [spec_ValidMeta.l0] at H
      by_cases c5 : x8_1 < (t111.length : Int)
      · rw [if_pos c5] at H
        have c5b0 : decide (x8_1 < (t111.length : Int)) = true := decide_eq_true c5
        clear c5
        by_cases c6 : 0 ≤ x8_1
        · rw [if_pos c6] at H
          have c6b0 : decide (0 ≤ x8_1) = true := decide_eq_true c6
          clear c6
          by_cases c7 : x8_1 < (t111.length : Int)
          · rw [if_pos c7] at H
            have c7b0 : decide (x8_1 < (t111.length : Int)) = true := decide_eq_true c7
            clear c7
            replace H := Option.bind_eq_some_iff.mp H
            obtain ⟨t115, A80, H⟩ := H
            replace H : (if t115 = true then (spec_ValidMeta.l0 k1 t111 (t111.length : Int) (wrap64 (x8_1 + 1))) else (some false)) = some r := H
            have A8 := Aside0.mk A80
            clear A80
            by_cases c9 : t115 = true
            · subst c9
              have H1 : (spec_ValidMeta.l0 k1 t111 (t111.length : Int) (wrap64 (x8_1 + 1))) = some r := by rw [if_pos rfl] at H; exact H
              clear H
              have H := H1
              clear H1
              have H' := Aside0.mk H
              clear H
              have p114 : 0 ≤ (x8_1 : Int) := of_decide_eq_true (by first | (with_reducible assumption) | assumption)
              have q114 : x8_1 < (t111.length : Int) := of_decide_eq_true (by first | (with_reducible assumption) | assumption)
              obtain ⟨ad114, e114, hx114_0⟩ := Kd.at_string (Kd.R_reads' HO_6.out).2.2 x8_1 p114 q114
              cases e114
              replace p114 := eq_true p114
              replace q114 := eq_true q114
              go_wp2_with (first | ((with_reducible refine gate_callee (f := 32) rfl ?_); refine goesL_ (some 13) rfl rfl Tryd.func32 (by kernel_rfl) rfl #[.string (rdOf ByteArray.empty t111 x8_1)] rfl (by (try simp only [List.map_toArray, List.map_cons, List.map_nil]); first | done | rfl | (simp only [List.length_drop, List.length_take]; rfl)) ?_; (with_reducible refine (spec_ValidIdent.calls k1 (rdOf ByteArray.empty t111 x8_1) true _ A8.out).mono ?_); rintro e w' ⟨rfl, ⟨nd, rfl⟩⟩; refine ⟨_, rfl, ?_⟩))
              go_roundg k1
              case measure => have := HK1.out; omega
              case rel => exact ⟨(wrap64 (x8_1 + 1)), (by first | rfl | (simp; done) | (simp [*]; done)), H', ⟨by have := HK1.out; omega⟩, ⟨by (with_reducible repeat (first | apply Kd.R_alloc | apply Kd.R_drewN | apply Kd.R_drew)); exact HO_6.out⟩, ⟨by repeat (first | (with_reducible first | exact HB.out | apply below_alloc | apply pw_below_drewN | apply below_drew1) | exact HB.out)⟩⟩
            · replace c9 := Bool.eq_false_iff.mpr c9
              subst c9
              have H1 : (some false) = some r := by rw [if_neg (show ¬ (false = true) by decide)] at H; exact H
              clear H
              have H := H1
              clear H1
              obtain rfl := Option.some.inj H
              have p114 : 0 ≤ (x8_1 : Int) := of_decide_eq_true (by first | (with_reducible assumption) | assumption)
              have q114 : x8_1 < (t111.length : Int) := of_decide_eq_true (by first | (with_reducible assumption) | assumption)
              obtain ⟨ad114, e114, hx114_0⟩ := Kd.at_string (Kd.R_reads' HO_6.out).2.2 x8_1 p114 q114
              cases e114
              replace p114 := eq_true p114
              replace q114 := eq_true q114
              go_wp2_with (first | ((with_reducible refine gate_callee (f := 32) rfl ?_); refine goesL_ (some 13) rfl rfl Tryd.func32 (by kernel_rfl) rfl #[.string (rdOf ByteArray.empty t111 x8_1)] rfl (by (try simp only [List.map_toArray, List.map_cons, List.map_nil]); first | done | rfl | (simp only [List.length_drop, List.length_take]; rfl)) ?_; (with_reducible refine (spec_ValidIdent.calls k1 (rdOf ByteArray.empty t111 x8_1) false _ A8.out).mono ?_); rintro e w' ⟨rfl, ⟨nd, rfl⟩⟩; refine ⟨_, rfl, ?_⟩))
              go_ret
              exact ⟨by first | rfl | (simp [errW_none, errW_some] <;> rfl) | (simp [*, errW_none, errW_some] <;> rfl) | (simp [bneNil]; done), by repeat (first | (with_reducible first | exact HB.out | apply below_alloc | apply pw_below_drewN | apply below_drew1) | exact HB.out)⟩
          · rw [if_neg c7] at H
            exact absurd H (by simp)
        · rw [if_neg c6] at H
          exact absurd H (by simp)
      · rw [if_neg c5] at H
        have c5b0 : decide (x8_1 < (t111.length : Int)) = false := decide_eq_false c5
        clear c5
        obtain rfl := Option.some.inj H
        go_wp2
        go_ret
        exact ⟨by first | rfl | (simp [errW_none, errW_some] <;> rfl) | (simp [*, errW_none, errW_some] <;> rfl) | (simp [bneNil]; done), by repeat (first | (with_reducible first | exact HB.out | apply below_alloc | apply pw_below_drewN | apply below_drew1) | exact HB.out)⟩

def spec_Digits.l0 : Nat → ByteArray → Int → Option (Bool)
  | 0, _, _ => none
  | k + 1, x0, x3 => if x3 < (x0.size : Int) then (if 0 ≤ x3 then ((spec_isDigit.f (bt x0 x3)).bind fun t116 => (if t116 = true then (spec_Digits.l0 k x0 (wrap64 (x3 + 1))) else (some false))) else (none)) else (some (x0.toList != ([] : List UInt8)))

def spec_Digits.f (k : Nat) (a0 : ByteArray) : Option (Bool) := spec_Digits.l0 k a0 0

theorem spec_Digits.mono_l : ∀ k, (∀ y0 y1, LeO (spec_Digits.l0 k y0 y1) (spec_Digits.l0 (k + 1) y0 y1))
  | 0 => fun _ _ r h => by simp [spec_Digits.l0] at h
  | k + 1 => by
    have ih0 := spec_Digits.mono_l k
    · intro y0 y1
      unfold spec_Digits.l0
      repeat' first
      | (with_reducible exact ih0 _ _)
      | (with_reducible exact LeO.refl _)
      | (with_reducible exact LeO.none _)
      | (with_reducible refine LeO.ite ?_ ?_)
      | (with_reducible refine LeO.bind ?_ (fun _ => ?_))
      | exact ih0 _ _
      | exact LeO.none _
      | refine LeO.ite ?_ ?_
      | refine LeO.bind ?_ (fun _ => ?_)

theorem spec_Digits.mono : ∀ a0 k, LeO (spec_Digits.f k a0) (spec_Digits.f (k + 1) a0) := by
  intro a0 k
  have ih0 := spec_Digits.mono_l k
  unfold spec_Digits.f
  repeat' first
      | (with_reducible exact ih0 _ _)
      | (with_reducible exact LeO.refl _)
      | (with_reducible exact LeO.none _)
      | (with_reducible refine LeO.ite ?_ ?_)
      | (with_reducible refine LeO.bind ?_ (fun _ => ?_))
      | exact ih0 _ _
      | exact LeO.none _
      | refine LeO.ite ?_ ?_
      | refine LeO.bind ?_ (fun _ => ?_)

set_option maxHeartbeats 80000000 in
set_option maxRecDepth 100000 in
theorem spec_Digits.calls (k : Nat) (a0 : ByteArray) (r : Bool) (w : World) (h : spec_Digits.f k a0 = some r) :
    Calls Tryd.prog 14 #[.string a0] w fun e w' => e = .returned (.bool r) ∧ Drawn0 w w' := by
  have H : (spec_Digits.l0 k a0 0) = some r := h
  clear h
  have H' := Aside0.mk H
  clear H
  go_enter Tryd.func14, Tryd.ntmps14
  go_wp2
  go_loopg [3] k (fun kq v3 w' => ∃ (x3_1 : Int), v3 = .int .i64 x3_1 ∧ Aside0 (spec_Digits.l0 kq a0 x3_1 = some r) ∧ Aside0 (kq ≤ k) ∧ Drawn0 w w')
  case atStart => exact ⟨(0), (by first | rfl | (simp; done) | (simp [*]; done)), H', ⟨Nat.le_refl _⟩, by repeat (first | exact Drawn0.refl _ | apply Drawn0.step)⟩
  case round =>
    clear H'
    try clear c1
    obtain ⟨x3_1, rfl, HA, HK1, ⟨m1, rfl⟩⟩ := hrel
    cases gk with
    | zero => exact absurd HA.out (by simp [spec_Digits.l0])
    | succ k1 =>
      have H := HA.out
      clear HA
      simp only [spec_Digits.l0] at H
      by_cases c2 : x3_1 < (a0.size : Int)
      · rw [if_pos c2] at H
        have c2b0 : decide (x3_1 < (a0.size : Int)) = true := decide_eq_true c2
        clear c2
        by_cases c3 : 0 ≤ x3_1
        · rw [if_pos c3] at H
          have c3b0 : decide (0 ≤ x3_1) = true := decide_eq_true c3
          clear c3
          replace H := Option.bind_eq_some_iff.mp H
          obtain ⟨t116, A50, H⟩ := H
          replace H : (if t116 = true then (spec_Digits.l0 k1 a0 (wrap64 (x3_1 + 1))) else (some false)) = some r := H
          have A5 := Aside0.mk A50
          clear A50
          by_cases c6 : t116 = true
          · subst c6
            have H1 : (spec_Digits.l0 k1 a0 (wrap64 (x3_1 + 1))) = some r := by rw [if_pos rfl] at H; exact H
            clear H
            have H := H1
            clear H1
            have H' := Aside0.mk H
            clear H
            have p4 : 0 ≤ (x3_1 : Int) := of_decide_eq_true (by first | (with_reducible assumption) | assumption)
            have q4 : x3_1 < (a0.size : Int) := of_decide_eq_true (by first | (with_reducible assumption) | assumption)
            have hx4 := bt_at a0 x3_1
            replace p4 := eq_true p4
            replace q4 := eq_true q4
            go_wp2_with (first | ((with_reducible refine gate_callee (f := 33) rfl ?_); refine goesL_ (some 13) rfl rfl Tryd.func33 (by kernel_rfl) rfl #[.int .u8 (bt a0 x3_1)] rfl (by (try simp only [List.map_toArray, List.map_cons, List.map_nil]); first | done | rfl | (simp only [List.length_drop, List.length_take]; rfl)) ?_; (with_reducible refine (spec_isDigit.calls (bt a0 x3_1) true _ A5.out).mono ?_); rintro e w' ⟨rfl, ⟨nd, rfl⟩⟩; refine ⟨_, rfl, ?_⟩))
            go_roundg k1
            case measure => have := HK1.out; omega
            case rel => exact ⟨(wrap64 (x3_1 + 1)), (by first | rfl | (simp; done) | (simp [*]; done)), H', ⟨by have := HK1.out; omega⟩, by repeat (first | exact Drawn0.refl _ | apply Drawn0.step)⟩
          · replace c6 := Bool.eq_false_iff.mpr c6
            subst c6
            have H1 : (some false) = some r := by rw [if_neg (show ¬ (false = true) by decide)] at H; exact H
            clear H
            have H := H1
            clear H1
            obtain rfl := Option.some.inj H
            have p4 : 0 ≤ (x3_1 : Int) := of_decide_eq_true (by first | (with_reducible assumption) | assumption)
            have q4 : x3_1 < (a0.size : Int) := of_decide_eq_true (by first | (with_reducible assumption) | assumption)
            have hx4 := bt_at a0 x3_1
            replace p4 := eq_true p4
            replace q4 := eq_true q4
            go_wp2_with (first | ((with_reducible refine gate_callee (f := 33) rfl ?_); refine goesL_ (some 13) rfl rfl Tryd.func33 (by kernel_rfl) rfl #[.int .u8 (bt a0 x3_1)] rfl (by (try simp only [List.map_toArray, List.map_cons, List.map_nil]); first | done | rfl | (simp only [List.length_drop, List.length_take]; rfl)) ?_; (with_reducible refine (spec_isDigit.calls (bt a0 x3_1) false _ A5.out).mono ?_); rintro e w' ⟨rfl, ⟨nd, rfl⟩⟩; refine ⟨_, rfl, ?_⟩))
            go_ret
            exact ⟨by first | rfl | (simp; done) | (simp [*]; done) | (simp [bneNil]; done), by repeat (first | exact Drawn0.refl _ | apply Drawn0.step)⟩
        · rw [if_neg c3] at H
          exact absurd H (by simp)
      · rw [if_neg c2] at H
        have c2b0 : decide (x3_1 < (a0.size : Int)) = false := decide_eq_false c2
        clear c2
        obtain rfl := Option.some.inj H
        go_wp2
        go_ret
        exact ⟨by first | rfl | (simp; done) | (simp [*]; done) | (simp [bneNil]; done), by repeat (first | exact Drawn0.refl _ | apply Drawn0.step)⟩

def spec_ValidPre.l0 : Nat → List ByteArray → Int → Int → Option (Bool)
  | 0, _, _, _ => none
  | k + 1, x6, x7, x8 => if x8 < x7 then (if 0 ≤ x8 then (if x8 < (x6.length : Int) then ((spec_ValidIdent.f k (rdOf ByteArray.empty x6 x8)).bind fun t121 => (if t121 = true then ((spec_Digits.f k (rdOf ByteArray.empty x6 x8)).bind fun t122 => (if t122 = true then (if ((rdOf ByteArray.empty x6 x8).size : Int) > 1 then (if 0 < ((rdOf ByteArray.empty x6 x8).size : Int) then (if (bt (rdOf ByteArray.empty x6 x8) 0) = 48 then (some false) else (spec_ValidPre.l0 k x6 x7 (wrap64 (x8 + 1)))) else (none)) else (spec_ValidPre.l0 k x6 x7 (wrap64 (x8 + 1)))) else (spec_ValidPre.l0 k x6 x7 (wrap64 (x8 + 1))))) else (some false))) else (none)) else (none)) else (some true)

def spec_ValidPre.f (k : Nat) (a0 : ByteArray) : Option (Bool) := (spec_Identifiers.f k a0).bind fun t117 => (spec_ValidPre.l0 k t117 (t117.length : Int) 0)

theorem spec_ValidPre.mono_l : ∀ k, (∀ y0 y1 y2, LeO (spec_ValidPre.l0 k y0 y1 y2) (spec_ValidPre.l0 (k + 1) y0 y1 y2))
  | 0 => fun _ _ _ r h => by simp [spec_ValidPre.l0] at h
  | k + 1 => by
    have ih0 := spec_ValidPre.mono_l k
    · intro y0 y1 y2
      unfold spec_ValidPre.l0
      repeat' first
      | (with_reducible exact ih0 _ _ _)
      | (with_reducible exact spec_Digits.mono _ _)
      | (with_reducible exact spec_Identifiers.mono _ _)
      | (with_reducible exact spec_ValidIdent.mono _ _)
      | (with_reducible exact LeO.refl _)
      | (with_reducible exact LeO.none _)
      | (with_reducible refine LeO.ite ?_ ?_)
      | (with_reducible refine LeO.bind ?_ (fun _ => ?_))
      | exact ih0 _ _ _
      | exact spec_Digits.mono _ _
      | exact spec_Identifiers.mono _ _
      | exact spec_ValidIdent.mono _ _
      | exact LeO.none _
      | refine LeO.ite ?_ ?_
      | refine LeO.bind ?_ (fun _ => ?_)

theorem spec_ValidPre.mono : ∀ a0 k, LeO (spec_ValidPre.f k a0) (spec_ValidPre.f (k + 1) a0) := by
  intro a0 k
  have ih0 := spec_ValidPre.mono_l k
  unfold spec_ValidPre.f
  repeat' first
      | (with_reducible exact ih0 _ _ _)
      | (with_reducible exact spec_Digits.mono _ _)
      | (with_reducible exact spec_Identifiers.mono _ _)
      | (with_reducible exact spec_ValidIdent.mono _ _)
      | (with_reducible exact LeO.refl _)
      | (with_reducible exact LeO.none _)
      | (with_reducible refine LeO.ite ?_ ?_)
      | (with_reducible refine LeO.bind ?_ (fun _ => ?_))
      | exact ih0 _ _ _
      | exact spec_Digits.mono _ _
      | exact spec_Identifiers.mono _ _
      | exact spec_ValidIdent.mono _ _
      | exact LeO.none _
      | refine LeO.ite ?_ ?_
      | refine LeO.bind ?_ (fun _ => ?_)

set_option maxHeartbeats 80000000 in
set_option maxRecDepth 100000 in
theorem spec_ValidPre.calls (k : Nat) (a0 : ByteArray) (r : Bool) (w : World) (h : spec_ValidPre.f k a0 = some r) :
    Calls Tryd.prog 38 #[.string a0] w fun e w' => e = .returned (.bool r) ∧ Below w.heap.size w w' := by
  have HB := Aside0.mk (Below.refl w.heap.size w)
  have H : ((spec_Identifiers.f k a0).bind fun t117 => (spec_ValidPre.l0 k t117 (t117.length : Int) 0)) = some r := h
  clear h
  replace H := Option.bind_eq_some_iff.mp H
  obtain ⟨t117, A20, H⟩ := H
  replace H : (spec_ValidPre.l0 k t117 (t117.length : Int) 0) = some r := H
  have A2 := Aside0.mk A20
  clear A20
  have H' := Aside0.mk H
  clear H
  go_enter Tryd.func38, Tryd.ntmps38
  go_wp2_with (first | ((with_reducible refine gate_callee (f := 13) rfl ?_); refine goesL_ (some 6) rfl rfl Tryd.func13 (by kernel_rfl) rfl #[.string a0] rfl (by (try simp only [List.map_toArray, List.map_cons, List.map_nil]); first | done | rfl | (simp only [List.length_drop, List.length_take]; rfl)) ?_; (with_reducible refine (spec_Identifiers.calls k a0 t117 _ A2.out).mono ?_); rintro e w3 ⟨v118, rfl, ho0, hb⟩; refine ⟨_, rfl, ?_⟩; have n0_ := Aside0.mk (Kd.R_lower ho0 (below_size (by repeat (first | (with_reducible first | exact HB.out | apply below_alloc | apply pw_below_drewN | apply below_drew1) | exact HB.out)))); have n1_ := Aside0.mk (below_step (by repeat (first | (with_reducible first | exact HB.out | apply below_alloc | apply pw_below_drewN | apply below_drew1) | exact HB.out)) hb); clear HB; have HO119 := n0_; have HB := n1_; clear n0_ n1_; (try clear hb); (try clear hb2); (try clear hk); (try clear hi); (try clear ho0); obtain ⟨Ao4, co4, eo4⟩ := Kd.R_slice HO119.out; subst eo4))
  go_loopg [8] k (fun kq v8 w' => ∃ (x8_1 : Int), v8 = .int .i64 x8_1 ∧ Aside0 (spec_ValidPre.l0 kq t117 (t117.length : Int) x8_1 = some r) ∧ Aside0 (kq ≤ k) ∧ Aside0 (Kd.R Kd.string 9 w' w.heap.size (fun _ => True) (.slice Ao4 t117.length co4) t117) ∧ Aside0 (Below w.heap.size w w'))
  case atStart => exact ⟨(0), (by first | rfl | (simp; done) | (simp [*]; done)), H', ⟨Nat.le_refl _⟩, ⟨by (with_reducible repeat (first | apply Kd.R_alloc | apply Kd.R_drewN | apply Kd.R_drew)); exact HO119.out⟩, ⟨by repeat (first | (with_reducible first | exact HB.out | apply below_alloc | apply pw_below_drewN | apply below_drew1) | exact HB.out)⟩⟩
  case round =>
    clear H'
    try clear c1
    try clear p2
    try clear c3
    obtain ⟨x8_1, rfl, HA, HK1, HO_6, HB⟩ := hrel
    cases gk with
    | zero => exact absurd HA.out (by simp [spec_ValidPre.l0])
    | succ k1 =>
      have H := HA.out
      clear HA
      simp only [spec_ValidPre.l0] at H
      by_cases c5 : x8_1 < (t117.length : Int)
      · rw [if_pos c5] at H
        have c5b0 : decide (x8_1 < (t117.length : Int)) = true := decide_eq_true c5
        clear c5
        by_cases c6 : 0 ≤ x8_1
        · rw [if_pos c6] at H
          have c6b0 : decide (0 ≤ x8_1) = true := decide_eq_true c6
          clear c6
          by_cases c7 : x8_1 < (t117.length : Int)
          · rw [if_pos c7] at H
            have c7b0 : decide (x8_1 < (t117.length : Int)) = true := decide_eq_true c7
            clear c7
            replace H := Option.bind_eq_some_iff.mp H
            obtain ⟨t121, A80, H⟩ := H
            replace H : (if t121 = true then ((spec_Digits.f k1 (rdOf ByteArray.empty t117 x8_1)).bind fun t122 => (if t122 = true then (if ((rdOf ByteArray.empty t117 x8_1).size : Int) > 1 then (if 0 < ((rdOf ByteArray.empty t117 x8_1).size : Int) then (if (bt (rdOf ByteArray.empty t117 x8_1) 0) = 48 then (some false) else (spec_ValidPre.l0 k1 t117 (t117.length : Int) (wrap64 (x8_1 + 1)))) else (none)) else (spec_ValidPre.l0 k1 t117 (t117.length : Int) (wrap64 (x8_1 + 1)))) else (spec_ValidPre.l0 k1 t117 (t117.length : Int) (wrap64 (x8_1 + 1))))) else (some false)) = some r := H
            have A8 := Aside0.mk A80
            clear A80
            by_cases c9 : t121 = true
            · subst c9
              have H1 : ((spec_Digits.f k1 (rdOf ByteArray.empty t117 x8_1)).bind fun t122 => (if t122 = true then (if ((rdOf ByteArray.empty t117 x8_1).size : Int) > 1 then (if 0 < ((rdOf ByteArray.empty t117 x8_1).size : Int) then (if (bt (rdOf ByteArray.empty t117 x8_1) 0) = 48 then (some false) else (spec_ValidPre.l0 k1 t117 (t117.length : Int) (wrap64 (x8_1 + 1)))) else (none)) else (spec_ValidPre.l0 k1 t117 (t117.length : Int) (wrap64 (x8_1 + 1)))) else (spec_ValidPre.l0 k1 t117 (t117.length : Int) (wrap64 (x8_1 + 1))))) = some r := by rw [if_pos rfl] at H; exact H
              clear H
              have H := H1
              clear H1
              replace H := Option.bind_eq_some_iff.mp H
              obtain ⟨t122, A100, H⟩ := H
              replace H : (if t122 = true then (if ((rdOf ByteArray.empty t117 x8_1).size : Int) > 1 then (if 0 < ((rdOf ByteArray.empty t117 x8_1).size : Int) then (if (bt (rdOf ByteArray.empty t117 x8_1) 0) = 48 then (some false) else (spec_ValidPre.l0 k1 t117 (t117.length : Int) (wrap64 (x8_1 + 1)))) else (none)) else (spec_ValidPre.l0 k1 t117 (t117.length : Int) (wrap64 (x8_1 + 1)))) else (spec_ValidPre.l0 k1 t117 (t117.length : Int) (wrap64 (x8_1 + 1)))) = some r := H
              have A10 := Aside0.mk A100
              clear A100
              by_cases c11 : t122 = true
              · subst c11
                have H1 : (if ((rdOf ByteArray.empty t117 x8_1).size : Int) > 1 then (if 0 < ((rdOf ByteArray.empty t117 x8_1).size : Int) then (if (bt (rdOf ByteArray.empty t117 x8_1) 0) = 48 then (some false) else (spec_ValidPre.l0 k1 t117 (t117.length : Int) (wrap64 (x8_1 + 1)))) else (none)) else (spec_ValidPre.l0 k1 t117 (t117.length : Int) (wrap64 (x8_1 + 1)))) = some r := by rw [if_pos rfl] at H; exact H
                clear H
                have H := H1
                clear H1
                by_cases c12 : ((rdOf ByteArray.empty t117 x8_1).size : Int) > 1
                · rw [if_pos c12] at H
                  have c12b0 : decide (1 < ((rdOf ByteArray.empty t117 x8_1).size : Int)) = true := decide_eq_true c12
                  have c12b1 : decide (1 < (rdOf ByteArray.empty t117 x8_1).size) = true := decide_eq_true (by omega)
                  clear c12
                  by_cases c13 : 0 < ((rdOf ByteArray.empty t117 x8_1).size : Int)
                  · rw [if_pos c13] at H
                    have c13b0 : decide (0 < ((rdOf ByteArray.empty t117 x8_1).size : Int)) = true := decide_eq_true c13
                    have c13b1 : decide (0 < (rdOf ByteArray.empty t117 x8_1).size) = true := decide_eq_true (by omega)
                    clear c13
                    by_cases c15 : (bt (rdOf ByteArray.empty t117 x8_1) 0) = 48
                    · rw [if_pos c15] at H
                      have c15b0 : ((bt (rdOf ByteArray.empty t117 x8_1) 0) == 48) = true := beq_iff_eq.mpr c15
                      have c15b1 : ((bt (rdOf ByteArray.empty t117 x8_1) 0) != 48) = false := bne_eq_false_iff_eq.mpr c15
                      clear c15
                      obtain rfl := Option.some.inj H
                      have p120 : 0 ≤ (x8_1 : Int) := of_decide_eq_true (by first | (with_reducible assumption) | assumption)
                      have q120 : x8_1 < (t117.length : Int) := of_decide_eq_true (by first | (with_reducible assumption) | assumption)
                      obtain ⟨ad120, e120, hx120_0⟩ := Kd.at_string (Kd.R_reads' HO_6.out).2.2 x8_1 p120 q120
                      cases e120
                      replace p120 := eq_true p120
                      replace q120 := eq_true q120
                      go_wp2_with (first | ((with_reducible refine gate_callee (f := 32) rfl ?_); refine goesL_ (some 13) rfl rfl Tryd.func32 (by kernel_rfl) rfl #[.string (rdOf ByteArray.empty t117 x8_1)] rfl (by (try simp only [List.map_toArray, List.map_cons, List.map_nil]); first | done | rfl | (simp only [List.length_drop, List.length_take]; rfl)) ?_; (with_reducible refine (spec_ValidIdent.calls k1 (rdOf ByteArray.empty t117 x8_1) true _ A8.out).mono ?_); rintro e w' ⟨rfl, ⟨nd, rfl⟩⟩; refine ⟨_, rfl, ?_⟩) | (go_at_call 14; (with_reducible refine (spec_Digits.calls k1 (rdOf ByteArray.empty t117 x8_1) true _ A10.out).mono ?_); rintro e w' ⟨rfl, ⟨nd, rfl⟩⟩; have p14 : 0 ≤ (0 : Int) := (by omega); have q14 : 0 < (rdOf ByteArray.empty t117 x8_1).size := (by have : (0 : Int) < ((rdOf ByteArray.empty t117 x8_1).size : Int) := of_decide_eq_true (by first | (with_reducible assumption) | assumption); omega); have hx14 : ∀ h : 0 < (rdOf ByteArray.empty t117 x8_1).size, (((rdOf ByteArray.empty t117 x8_1)[0]'h).toNat : Int) = bt (rdOf ByteArray.empty t117 x8_1) 0 := bt_at (rdOf ByteArray.empty t117 x8_1) 0; clear p14; have qi14 : (0 < ((rdOf ByteArray.empty t117 x8_1).size : Int)) = True := eq_true (of_decide_eq_true (by first | (with_reducible assumption) | assumption)); replace q14 := eq_true q14))
                      go_ret
                      exact ⟨by first | rfl | (simp [errW_none, errW_some] <;> rfl) | (simp [*, errW_none, errW_some] <;> rfl) | (simp [bneNil]; done), by repeat (first | (with_reducible first | exact HB.out | apply below_alloc | apply pw_below_drewN | apply below_drew1) | exact HB.out)⟩
                    · rw [if_neg c15] at H
                      have c15b0 : ((bt (rdOf ByteArray.empty t117 x8_1) 0) == 48) = false := beq_eq_false_iff_ne.mpr c15
                      have c15b1 : ((bt (rdOf ByteArray.empty t117 x8_1) 0) != 48) = true := bne_iff_ne.mpr c15
                      have H' := Aside0.mk H
                      clear H
                      have p120 : 0 ≤ (x8_1 : Int) := of_decide_eq_true (by first | (with_reducible assumption) | assumption)
                      have q120 : x8_1 < (t117.length : Int) := of_decide_eq_true (by first | (with_reducible assumption) | assumption)
                      obtain ⟨ad120, e120, hx120_0⟩ := Kd.at_string (Kd.R_reads' HO_6.out).2.2 x8_1 p120 q120
                      cases e120
                      replace p120 := eq_true p120
                      replace q120 := eq_true q120
                      go_wp2_with (first | ((with_reducible refine gate_callee (f := 32) rfl ?_); refine goesL_ (some 13) rfl rfl Tryd.func32 (by kernel_rfl) rfl #[.string (rdOf ByteArray.empty t117 x8_1)] rfl (by (try simp only [List.map_toArray, List.map_cons, List.map_nil]); first | done | rfl | (simp only [List.length_drop, List.length_take]; rfl)) ?_; (with_reducible refine (spec_ValidIdent.calls k1 (rdOf ByteArray.empty t117 x8_1) true _ A8.out).mono ?_); rintro e w' ⟨rfl, ⟨nd, rfl⟩⟩; refine ⟨_, rfl, ?_⟩) | (go_at_call 14; (with_reducible refine (spec_Digits.calls k1 (rdOf ByteArray.empty t117 x8_1) true _ A10.out).mono ?_); rintro e w' ⟨rfl, ⟨nd, rfl⟩⟩; have p14 : 0 ≤ (0 : Int) := (by omega); have q14 : 0 < (rdOf ByteArray.empty t117 x8_1).size := (by have : (0 : Int) < ((rdOf ByteArray.empty t117 x8_1).size : Int) := of_decide_eq_true (by first | (with_reducible assumption) | assumption); omega); have hx14 : ∀ h : 0 < (rdOf ByteArray.empty t117 x8_1).size, (((rdOf ByteArray.empty t117 x8_1)[0]'h).toNat : Int) = bt (rdOf ByteArray.empty t117 x8_1) 0 := bt_at (rdOf ByteArray.empty t117 x8_1) 0; clear p14; have qi14 : (0 < ((rdOf ByteArray.empty t117 x8_1).size : Int)) = True := eq_true (of_decide_eq_true (by first | (with_reducible assumption) | assumption)); replace q14 := eq_true q14))
                      go_roundg k1
                      case measure => have := HK1.out; omega
                      case rel => exact ⟨(wrap64 (x8_1 + 1)), (by first | rfl | (simp; done) | (simp [*]; done)), H', ⟨by have := HK1.out; omega⟩, ⟨by (with_reducible repeat (first | apply Kd.R_alloc | apply Kd.R_drewN | apply Kd.R_drew)); exact HO_6.out⟩, ⟨by repeat (first | (with_reducible first | exact HB.out | apply below_alloc | apply pw_below_drewN | apply below_drew1) | exact HB.out)⟩⟩
                  · rw [if_neg c13] at H
                    exact absurd H (by simp)
                · rw [if_neg c12] at H
                  have c12b0 : decide (1 < ((rdOf ByteArray.empty t117 x8_1).size : Int)) = false := decide_eq_false c12
                  have c12b1 : decide (1 < (rdOf ByteArray.empty t117 x8_1).size) = false := decide_eq_false (by omega)
                  clear c12
                  have H' := Aside0.mk H
                  clear H
                  have p120 : 0 ≤ (x8_1 : Int) := of_decide_eq_true (by first | (with_reducible assumption) | assumption)
                  have q120 : x8_1 < (t117.length : Int) := of_decide_eq_true (by first | (with_reducible assumption) | assumption)
                  obtain ⟨ad120, e120, hx120_0⟩ := Kd.at_string (Kd.R_reads' HO_6.out).2.2 x8_1 p120 q120
                  cases e120
                  replace p120 := eq_true p120
                  replace q120 := eq_true q120
                  go_wp2_with (first | ((with_reducible refine gate_callee (f := 32) rfl ?_); refine goesL_ (some 13) rfl rfl Tryd.func32 (by kernel_rfl) rfl #[.string (rdOf ByteArray.empty t117 x8_1)] rfl (by (try simp only [List.map_toArray, List.map_cons, List.map_nil]); first | done | rfl | (simp only [List.length_drop, List.length_take]; rfl)) ?_; (with_reducible refine (spec_ValidIdent.calls k1 (rdOf ByteArray.empty t117 x8_1) true _ A8.out).mono ?_); rintro e w' ⟨rfl, ⟨nd, rfl⟩⟩; refine ⟨_, rfl, ?_⟩) | (go_at_call 14; (with_reducible refine (spec_Digits.calls k1 (rdOf ByteArray.empty t117 x8_1) true _ A10.out).mono ?_); rintro e w' ⟨rfl, ⟨nd, rfl⟩⟩))
                  go_roundg k1
                  case measure => have := HK1.out; omega
                  case rel => exact ⟨(wrap64 (x8_1 + 1)), (by first | rfl | (simp; done) | (simp [*]; done)), H', ⟨by have := HK1.out; omega⟩, ⟨by (with_reducible repeat (first | apply Kd.R_alloc | apply Kd.R_drewN | apply Kd.R_drew)); exact HO_6.out⟩, ⟨by repeat (first | (with_reducible first | exact HB.out | apply below_alloc | apply pw_below_drewN | apply below_drew1) | exact HB.out)⟩⟩
              · replace c11 := Bool.eq_false_iff.mpr c11
                subst c11
                have H1 : (spec_ValidPre.l0 k1 t117 (t117.length : Int) (wrap64 (x8_1 + 1))) = some r := by rw [if_neg (show ¬ (false = true) by decide)] at H; exact H
                clear H
                have H := H1
                clear H1
                have H' := Aside0.mk H
                clear H
                have p120 : 0 ≤ (x8_1 : Int) := of_decide_eq_true (by first | (with_reducible assumption) | assumption)
                have q120 : x8_1 < (t117.length : Int) := of_decide_eq_true (by first | (with_reducible assumption) | assumption)
                obtain ⟨ad120, e120, hx120_0⟩ := Kd.at_string (Kd.R_reads' HO_6.out).2.2 x8_1 p120 q120
                cases e120
                replace p120 := eq_true p120
                replace q120 := eq_true q120
                go_wp2_with (first | ((with_reducible refine gate_callee (f := 32) rfl ?_); refine goesL_ (some 13) rfl rfl Tryd.func32 (by kernel_rfl) rfl #[.string (rdOf ByteArray.empty t117 x8_1)] rfl (by (try simp only [List.map_toArray, List.map_cons, List.map_nil]); first | done | rfl | (simp only [List.length_drop, List.length_take]; rfl)) ?_; (with_reducible refine (spec_ValidIdent.calls k1 (rdOf ByteArray.empty t117 x8_1) true _ A8.out).mono ?_); rintro e w' ⟨rfl, ⟨nd, rfl⟩⟩; refine ⟨_, rfl, ?_⟩) | (go_at_call 14; (with_reducible refine (spec_Digits.calls k1 (rdOf ByteArray.empty t117 x8_1) false _ A10.out).mono ?_); rintro e w' ⟨rfl, ⟨nd, rfl⟩⟩))
                go_roundg k1
                case measure => have := HK1.out; omega
                case rel => exact ⟨(wrap64 (x8_1 + 1)), (by first | rfl | (simp; done) | (simp [*]; done)), H', ⟨by have := HK1.out; omega⟩, ⟨by (with_reducible repeat (first | apply Kd.R_alloc | apply Kd.R_drewN | apply Kd.R_drew)); exact HO_6.out⟩, ⟨by repeat (first | (with_reducible first | exact HB.out | apply below_alloc | apply pw_below_drewN | apply below_drew1) | exact HB.out)⟩⟩
            · replace c9 := Bool.eq_false_iff.mpr c9
              subst c9
              have H1 : (some false) = some r := by rw [if_neg (show ¬ (false = true) by decide)] at H; exact H
              clear H
              have H := H1
              clear H1
              obtain rfl := Option.some.inj H
              have p120 : 0 ≤ (x8_1 : Int) := of_decide_eq_true (by first | (with_reducible assumption) | assumption)
              have q120 : x8_1 < (t117.length : Int) := of_decide_eq_true (by first | (with_reducible assumption) | assumption)
              obtain ⟨ad120, e120, hx120_0⟩ := Kd.at_string (Kd.R_reads' HO_6.out).2.2 x8_1 p120 q120
              cases e120
              replace p120 := eq_true p120
              replace q120 := eq_true q120
              go_wp2_with (first | ((with_reducible refine gate_callee (f := 32) rfl ?_); refine goesL_ (some 13) rfl rfl Tryd.func32 (by kernel_rfl) rfl #[.string (rdOf ByteArray.empty t117 x8_1)] rfl (by (try simp only [List.map_toArray, List.map_cons, List.map_nil]); first | done | rfl | (simp only [List.length_drop, List.length_take]; rfl)) ?_; (with_reducible refine (spec_ValidIdent.calls k1 (rdOf ByteArray.empty t117 x8_1) false _ A8.out).mono ?_); rintro e w' ⟨rfl, ⟨nd, rfl⟩⟩; refine ⟨_, rfl, ?_⟩))
              go_ret
              exact ⟨by first | rfl | (simp [errW_none, errW_some] <;> rfl) | (simp [*, errW_none, errW_some] <;> rfl) | (simp [bneNil]; done), by repeat (first | (with_reducible first | exact HB.out | apply below_alloc | apply pw_below_drewN | apply below_drew1) | exact HB.out)⟩
          · rw [if_neg c7] at H
            exact absurd H (by simp)
        · rw [if_neg c6] at H
          exact absurd H (by simp)
      · rw [if_neg c5] at H
        have c5b0 : decide (x8_1 < (t117.length : Int)) = false := decide_eq_false c5
        clear c5
        obtain rfl := Option.some.inj H
        go_wp2
        go_ret
        exact ⟨by first | rfl | (simp [errW_none, errW_some] <;> rfl) | (simp [*, errW_none, errW_some] <;> rfl) | (simp [bneNil]; done), by repeat (first | (with_reducible first | exact HB.out | apply below_alloc | apply pw_below_drewN | apply below_drew1) | exact HB.out)⟩

def spec_SmallPre.l0 : Nat → List ByteArray → Int → Int → Option (Bool)
  | 0, _, _, _ => none
  | k + 1, x6, x7, x8 => if x8 < x7 then (if 0 ≤ x8 then (if x8 < (x6.length : Int) then ((spec_Digits.f k (rdOf ByteArray.empty x6 x8)).bind fun t127 => (if t127 = true then (if ((rdOf ByteArray.empty x6 x8).size : Int) > 19 then (some false) else (spec_SmallPre.l0 k x6 x7 (wrap64 (x8 + 1)))) else (spec_SmallPre.l0 k x6 x7 (wrap64 (x8 + 1))))) else (none)) else (none)) else (some true)

def spec_SmallPre.f (k : Nat) (a0 : ByteArray) : Option (Bool) := (spec_Identifiers.f k a0).bind fun t123 => (spec_SmallPre.l0 k t123 (t123.length : Int) 0)

theorem spec_SmallPre.mono_l : ∀ k, (∀ y0 y1 y2, LeO (spec_SmallPre.l0 k y0 y1 y2) (spec_SmallPre.l0 (k + 1) y0 y1 y2))
  | 0 => fun _ _ _ r h => by simp [spec_SmallPre.l0] at h
  | k + 1 => by
    have ih0 := spec_SmallPre.mono_l k
    · intro y0 y1 y2
      unfold spec_SmallPre.l0
      repeat' first
      | (with_reducible exact ih0 _ _ _)
      | (with_reducible exact spec_Digits.mono _ _)
      | (with_reducible exact spec_Identifiers.mono _ _)
      | (with_reducible exact LeO.refl _)
      | (with_reducible exact LeO.none _)
      | (with_reducible refine LeO.ite ?_ ?_)
      | (with_reducible refine LeO.bind ?_ (fun _ => ?_))
      | exact ih0 _ _ _
      | exact spec_Digits.mono _ _
      | exact spec_Identifiers.mono _ _
      | exact LeO.none _
      | refine LeO.ite ?_ ?_
      | refine LeO.bind ?_ (fun _ => ?_)

theorem spec_SmallPre.mono : ∀ a0 k, LeO (spec_SmallPre.f k a0) (spec_SmallPre.f (k + 1) a0) := by
  intro a0 k
  have ih0 := spec_SmallPre.mono_l k
  unfold spec_SmallPre.f
  repeat' first
      | (with_reducible exact ih0 _ _ _)
      | (with_reducible exact spec_Digits.mono _ _)
      | (with_reducible exact spec_Identifiers.mono _ _)
      | (with_reducible exact LeO.refl _)
      | (with_reducible exact LeO.none _)
      | (with_reducible refine LeO.ite ?_ ?_)
      | (with_reducible refine LeO.bind ?_ (fun _ => ?_))
      | exact ih0 _ _ _
      | exact spec_Digits.mono _ _
      | exact spec_Identifiers.mono _ _
      | exact LeO.none _
      | refine LeO.ite ?_ ?_
      | refine LeO.bind ?_ (fun _ => ?_)

set_option maxHeartbeats 80000000 in
set_option maxRecDepth 100000 in
theorem spec_SmallPre.calls (k : Nat) (a0 : ByteArray) (r : Bool) (w : World) (h : spec_SmallPre.f k a0 = some r) :
    Calls Tryd.prog 39 #[.string a0] w fun e w' => e = .returned (.bool r) ∧ Below w.heap.size w w' := by
  have HB := Aside0.mk (Below.refl w.heap.size w)
  have H : ((spec_Identifiers.f k a0).bind fun t123 => (spec_SmallPre.l0 k t123 (t123.length : Int) 0)) = some r := h
  clear h
  replace H := Option.bind_eq_some_iff.mp H
  obtain ⟨t123, A20, H⟩ := H
  replace H : (spec_SmallPre.l0 k t123 (t123.length : Int) 0) = some r := H
  have A2 := Aside0.mk A20
  clear A20
  have H' := Aside0.mk H
  clear H
  go_enter Tryd.func39, Tryd.ntmps39
  go_wp2_with (first | ((with_reducible refine gate_callee (f := 13) rfl ?_); refine goesL_ (some 6) rfl rfl Tryd.func13 (by kernel_rfl) rfl #[.string a0] rfl (by (try simp only [List.map_toArray, List.map_cons, List.map_nil]); first | done | rfl | (simp only [List.length_drop, List.length_take]; rfl)) ?_; (with_reducible refine (spec_Identifiers.calls k a0 t123 _ A2.out).mono ?_); rintro e w3 ⟨v124, rfl, ho0, hb⟩; refine ⟨_, rfl, ?_⟩; have n0_ := Aside0.mk (Kd.R_lower ho0 (below_size (by repeat (first | (with_reducible first | exact HB.out | apply below_alloc | apply pw_below_drewN | apply below_drew1) | exact HB.out)))); have n1_ := Aside0.mk (below_step (by repeat (first | (with_reducible first | exact HB.out | apply below_alloc | apply pw_below_drewN | apply below_drew1) | exact HB.out)) hb); clear HB; have HO125 := n0_; have HB := n1_; clear n0_ n1_; (try clear hb); (try clear hb2); (try clear hk); (try clear hi); (try clear ho0); obtain ⟨Ao4, co4, eo4⟩ := Kd.R_slice HO125.out; subst eo4))
  go_loopg [8] k (fun kq v8 w' => ∃ (x8_1 : Int), v8 = .int .i64 x8_1 ∧ Aside0 (spec_SmallPre.l0 kq t123 (t123.length : Int) x8_1 = some r) ∧ Aside0 (kq ≤ k) ∧ Aside0 (Kd.R Kd.string 9 w' w.heap.size (fun _ => True) (.slice Ao4 t123.length co4) t123) ∧ Aside0 (Below w.heap.size w w'))
  case atStart => exact ⟨(0), (by first | rfl | (simp; done) | (simp [*]; done)), H', ⟨Nat.le_refl _⟩, ⟨by (with_reducible repeat (first | apply Kd.R_alloc | apply Kd.R_drewN | apply Kd.R_drew)); exact HO125.out⟩, ⟨by repeat (first | (with_reducible first | exact HB.out | apply below_alloc | apply pw_below_drewN | apply below_drew1) | exact HB.out)⟩⟩
  case round =>
    clear H'
    try clear c1
    try clear p2
    try clear c3
    obtain ⟨x8_1, rfl, HA, HK1, HO_6, HB⟩ := hrel
    cases gk with
    | zero => exact absurd HA.out (by simp [spec_SmallPre.l0])
    | succ k1 =>
      have H := HA.out
      clear HA
      simp only [spec_SmallPre.l0] at H
      by_cases c5 : x8_1 < (t123.length : Int)
      · rw [if_pos c5] at H
        have c5b0 : decide (x8_1 < (t123.length : Int)) = true := decide_eq_true c5
        clear c5
        by_cases c6 : 0 ≤ x8_1
        · rw [if_pos c6] at H
          have c6b0 : decide (0 ≤ x8_1) = true := decide_eq_true c6
          clear c6
          by_cases c7 : x8_1 < (t123.length : Int)
          · rw [if_pos c7] at H
            have c7b0 : decide (x8_1 < (t123.length : Int)) = true := decide_eq_true c7
            clear c7
            replace H := Option.bind_eq_some_iff.mp H
            obtain ⟨t127, A80, H⟩ := H
            replace H : (if t127 = true then (if ((rdOf ByteArray.empty t123 x8_1).size : Int) > 19 then (some false) else (spec_SmallPre.l0 k1 t123 (t123.length : Int) (wrap64 (x8_1 + 1)))) else (spec_SmallPre.l0 k1 t123 (t123.length : Int) (wrap64 (x8_1 + 1)))) = some r := H
            have A8 := Aside0.mk A80
            clear A80
            by_cases c9 : t127 = true
            · subst c9
              have H1 : (if ((rdOf ByteArray.empty t123 x8_1).size : Int) > 19 then (some false) else (spec_SmallPre.l0 k1 t123 (t123.length : Int) (wrap64 (x8_1 + 1)))) = some r := by rw [if_pos rfl] at H; exact H
              clear H
              have H := H1
              clear H1
              by_cases c10 : ((rdOf ByteArray.empty t123 x8_1).size : Int) > 19
              · rw [if_pos c10] at H
                have c10b0 : decide (19 < ((rdOf ByteArray.empty t123 x8_1).size : Int)) = true := decide_eq_true c10
                have c10b1 : decide (19 < (rdOf ByteArray.empty t123 x8_1).size) = true := decide_eq_true (by omega)
                clear c10
                obtain rfl := Option.some.inj H
                have p126 : 0 ≤ (x8_1 : Int) := of_decide_eq_true (by first | (with_reducible assumption) | assumption)
                have q126 : x8_1 < (t123.length : Int) := of_decide_eq_true (by first | (with_reducible assumption) | assumption)
                obtain ⟨ad126, e126, hx126_0⟩ := Kd.at_string (Kd.R_reads' HO_6.out).2.2 x8_1 p126 q126
                cases e126
                replace p126 := eq_true p126
                replace q126 := eq_true q126
                go_wp2_with (first | ((with_reducible refine gate_callee (f := 14) rfl ?_); refine goesL_ (some 13) rfl rfl Tryd.func14 (by kernel_rfl) rfl #[.string (rdOf ByteArray.empty t123 x8_1)] rfl (by (try simp only [List.map_toArray, List.map_cons, List.map_nil]); first | done | rfl | (simp only [List.length_drop, List.length_take]; rfl)) ?_; (with_reducible refine (spec_Digits.calls k1 (rdOf ByteArray.empty t123 x8_1) true _ A8.out).mono ?_); rintro e w' ⟨rfl, ⟨nd, rfl⟩⟩; refine ⟨_, rfl, ?_⟩))
                go_ret
                exact ⟨by first | rfl | (simp [errW_none, errW_some] <;> rfl) | (simp [*, errW_none, errW_some] <;> rfl) | (simp [bneNil]; done), by repeat (first | (with_reducible first | exact HB.out | apply below_alloc | apply pw_below_drewN | apply below_drew1) | exact HB.out)⟩
              · rw [if_neg c10] at H
                have c10b0 : decide (19 < ((rdOf ByteArray.empty t123 x8_1).size : Int)) = false := decide_eq_false c10
                have c10b1 : decide (19 < (rdOf ByteArray.empty t123 x8_1).size) = false := decide_eq_false (by omega)
                clear c10
                have H' := Aside0.mk H
                clear H
                have p126 : 0 ≤ (x8_1 : Int) := of_decide_eq_true (by first | (with_reducible assumption) | assumption)
                have q126 : x8_1 < (t123.length : Int) := of_decide_eq_true (by first | (with_reducible assumption) | assumption)
                obtain ⟨ad126, e126, hx126_0⟩ := Kd.at_string (Kd.R_reads' HO_6.out).2.2 x8_1 p126 q126
                cases e126
                replace p126 := eq_true p126
                replace q126 := eq_true q126
                go_wp2_with (first | ((with_reducible refine gate_callee (f := 14) rfl ?_); refine goesL_ (some 13) rfl rfl Tryd.func14 (by kernel_rfl) rfl #[.string (rdOf ByteArray.empty t123 x8_1)] rfl (by (try simp only [List.map_toArray, List.map_cons, List.map_nil]); first | done | rfl | (simp only [List.length_drop, List.length_take]; rfl)) ?_; (with_reducible refine (spec_Digits.calls k1 (rdOf ByteArray.empty t123 x8_1) true _ A8.out).mono ?_); rintro e w' ⟨rfl, ⟨nd, rfl⟩⟩; refine ⟨_, rfl, ?_⟩))
                go_roundg k1
                case measure => have := HK1.out; omega
                case rel => exact ⟨(wrap64 (x8_1 + 1)), (by first | rfl | (simp; done) | (simp [*]; done)), H', ⟨by have := HK1.out; omega⟩, ⟨by (with_reducible repeat (first | apply Kd.R_alloc | apply Kd.R_drewN | apply Kd.R_drew)); exact HO_6.out⟩, ⟨by repeat (first | (with_reducible first | exact HB.out | apply below_alloc | apply pw_below_drewN | apply below_drew1) | exact HB.out)⟩⟩
            · replace c9 := Bool.eq_false_iff.mpr c9
              subst c9
              have H1 : (spec_SmallPre.l0 k1 t123 (t123.length : Int) (wrap64 (x8_1 + 1))) = some r := by rw [if_neg (show ¬ (false = true) by decide)] at H; exact H
              clear H
              have H := H1
              clear H1
              have H' := Aside0.mk H
              clear H
              have p126 : 0 ≤ (x8_1 : Int) := of_decide_eq_true (by first | (with_reducible assumption) | assumption)
              have q126 : x8_1 < (t123.length : Int) := of_decide_eq_true (by first | (with_reducible assumption) | assumption)
              obtain ⟨ad126, e126, hx126_0⟩ := Kd.at_string (Kd.R_reads' HO_6.out).2.2 x8_1 p126 q126
              cases e126
              replace p126 := eq_true p126
              replace q126 := eq_true q126
              go_wp2_with (first | ((with_reducible refine gate_callee (f := 14) rfl ?_); refine goesL_ (some 13) rfl rfl Tryd.func14 (by kernel_rfl) rfl #[.string (rdOf ByteArray.empty t123 x8_1)] rfl (by (try simp only [List.map_toArray, List.map_cons, List.map_nil]); first | done | rfl | (simp only [List.length_drop, List.length_take]; rfl)) ?_; (with_reducible refine (spec_Digits.calls k1 (rdOf ByteArray.empty t123 x8_1) false _ A8.out).mono ?_); rintro e w' ⟨rfl, ⟨nd, rfl⟩⟩; refine ⟨_, rfl, ?_⟩))
              go_roundg k1
              case measure => have := HK1.out; omega
              case rel => exact ⟨(wrap64 (x8_1 + 1)), (by first | rfl | (simp; done) | (simp [*]; done)), H', ⟨by have := HK1.out; omega⟩, ⟨by (with_reducible repeat (first | apply Kd.R_alloc | apply Kd.R_drewN | apply Kd.R_drew)); exact HO_6.out⟩, ⟨by repeat (first | (with_reducible first | exact HB.out | apply below_alloc | apply pw_below_drewN | apply below_drew1) | exact HB.out)⟩⟩
          · rw [if_neg c7] at H
            exact absurd H (by simp)
        · rw [if_neg c6] at H
          exact absurd H (by simp)
      · rw [if_neg c5] at H
        have c5b0 : decide (x8_1 < (t123.length : Int)) = false := decide_eq_false c5
        clear c5
        obtain rfl := Option.some.inj H
        go_wp2
        go_ret
        exact ⟨by first | rfl | (simp [errW_none, errW_some] <;> rfl) | (simp [*, errW_none, errW_some] <;> rfl) | (simp [bneNil]; done), by repeat (first | (with_reducible first | exact HB.out | apply below_alloc | apply pw_below_drewN | apply below_drew1) | exact HB.out)⟩

def spec_Good.f (k : Nat) (a0_0 : Int) (a0_1 : Int) (a0_2 : Int) (a0_3 : ByteArray) (a0_4 : ByteArray) : Option (Bool) := if a0_3.toList = ([] : List UInt8) then (if a0_4.toList = ([] : List UInt8) then (some true) else ((spec_ValidMeta.f k a0_4).bind fun t129 => (some t129))) else ((spec_ValidPre.f k a0_3).bind fun t130 => (if t130 = true then ((spec_SmallPre.f k a0_3).bind fun t131 => (if t131 = true then (if a0_4.toList = ([] : List UInt8) then (some true) else ((spec_ValidMeta.f k a0_4).bind fun t132 => (some t132))) else (some false))) else (some false)))

theorem spec_Good.mono : ∀ a0 a1 a2 a3 a4 k, LeO (spec_Good.f k a0 a1 a2 a3 a4) (spec_Good.f (k + 1) a0 a1 a2 a3 a4) := by
  intro a0 a1 a2 a3 a4 k
  unfold spec_Good.f
  repeat' first
      | (with_reducible exact spec_SmallPre.mono _ _)
      | (with_reducible exact spec_ValidMeta.mono _ _)
      | (with_reducible exact spec_ValidPre.mono _ _)
      | (with_reducible exact LeO.refl _)
      | (with_reducible exact LeO.none _)
      | (with_reducible refine LeO.ite ?_ ?_)
      | (with_reducible refine LeO.bind ?_ (fun _ => ?_))
      | exact spec_SmallPre.mono _ _
      | exact spec_ValidMeta.mono _ _
      | exact spec_ValidPre.mono _ _
      | exact LeO.none _
      | refine LeO.ite ?_ ?_
      | refine LeO.bind ?_ (fun _ => ?_)

set_option maxHeartbeats 80000000 in
set_option maxRecDepth 100000 in
theorem spec_Good.calls (k : Nat) (a0_0 : Int) (a0_1 : Int) (a0_2 : Int) (a0_3 : ByteArray) (a0_4 : ByteArray) (r : Bool) (w : World) (h : spec_Good.f k a0_0 a0_1 a0_2 a0_3 a0_4 = some r) :
    Calls Tryd.prog 35 #[.agg #[.int .u64 a0_0, .int .u64 a0_1, .int .u64 a0_2, .string a0_3, .string a0_4]] w fun e w' => e = .returned (.bool r) ∧ Below w.heap.size w w' := by
  have hu28 := Tryd.underlying28
  have HB := Aside0.mk (Below.refl w.heap.size w)
  have H : (if a0_3.toList = ([] : List UInt8) then (if a0_4.toList = ([] : List UInt8) then (some true) else ((spec_ValidMeta.f k a0_4).bind fun t129 => (some t129))) else ((spec_ValidPre.f k a0_3).bind fun t130 => (if t130 = true then ((spec_SmallPre.f k a0_3).bind fun t131 => (if t131 = true then (if a0_4.toList = ([] : List UInt8) then (some true) else ((spec_ValidMeta.f k a0_4).bind fun t132 => (some t132))) else (some false))) else (some false)))) = some r := h
  clear h
  by_cases c2 : a0_3.toList = ([] : List UInt8)
  · rw [if_pos c2] at H
    have c2b0 : (a0_3.toList == ([] : List UInt8)) = true := beq_iff_eq.mpr c2
    have c2b1 : (a0_3.toList != ([] : List UInt8)) = false := bne_eq_false_iff_eq.mpr c2
    clear c2
    by_cases c3 : a0_4.toList = ([] : List UInt8)
    · rw [if_pos c3] at H
      have c3b0 : (a0_4.toList == ([] : List UInt8)) = true := beq_iff_eq.mpr c3
      have c3b1 : (a0_4.toList != ([] : List UInt8)) = false := bne_eq_false_iff_eq.mpr c3
      clear c3
      obtain rfl := Option.some.inj H
      go_enter Tryd.func35, Tryd.ntmps35
      go_wp2_with (first | ((with_reducible refine gate_dst (N := 1) rfl ?_); refine box_event ?hg (N := 1) ?hd (cs := #[.int .u64 a0_0, .int .u64 a0_1, .int .u64 a0_2, .string a0_3, .string a0_4]) (t := 28) ?hr ?_; (case hd => rfl); (case hg => rfl); (case hr => first | (go_simp; done) | (go_simp; rfl) | (go_simp; simp [u8w]; done)); intro gb128 hg w4 hbox hb; have n0_ := Aside0.mk (below_step (by repeat (first | (with_reducible first | exact HB.out | apply below_alloc | apply pw_below_drewN | apply below_drew1) | exact HB.out)) hb); have n1_ := Aside0.mk (hbox); have n2_ := Aside0.mk ((by rw [hg]; exact (below_size (by repeat (first | (with_reducible first | exact HB.out | apply below_alloc | apply pw_below_drewN | apply below_drew1) | exact HB.out))) : w.heap.size ≤ gb128)); have n3_ := Aside0.mk ((by rw [hg]; exact (below_size (by repeat (first | (with_reducible first | exact HB.out | apply below_alloc | apply pw_below_drewN | apply below_drew1) | exact HB.out))) : w.heap.size ≤ gb128)); clear HB; have HB := n0_; have BK128 := n1_; have GW128 := n2_; have GE128 := n3_; clear n0_ n1_ n2_ n3_; clear hb hbox hg; have hcz5_0 : w4.cell? ⟨gb128, 0, none⟩ = some (.int .u64 a0_0) := (blk_cell BK128.out 0).trans rfl; have hcz5_1 : w4.cell? ⟨gb128, 1, none⟩ = some (.int .u64 a0_1) := (blk_cell BK128.out 1).trans rfl; have hcz5_2 : w4.cell? ⟨gb128, 2, none⟩ = some (.int .u64 a0_2) := (blk_cell BK128.out 2).trans rfl; have hcz5_3 : w4.cell? ⟨gb128, 3, none⟩ = some (.string a0_3) := (blk_cell BK128.out 3).trans rfl; have hcz5_4 : w4.cell? ⟨gb128, 4, none⟩ = some (.string a0_4) := (blk_cell BK128.out 4).trans rfl; have hfz5_0 := blk_frozen BK128.out 0; have hfz5_1 := blk_frozen BK128.out 1; have hfz5_2 := blk_frozen BK128.out 2; have hfz5_3 := blk_frozen BK128.out 3; have hfz5_4 := blk_frozen BK128.out 4))
      go_ret
      exact ⟨by first | rfl | (simp [errW_none, errW_some] <;> rfl) | (simp [*, errW_none, errW_some] <;> rfl) | (simp [bneNil]; done), by repeat (first | (with_reducible first | exact HB.out | apply below_alloc | apply pw_below_drewN | apply below_drew1 | refine below_set ?_ GE128.out) | exact HB.out)⟩
    · rw [if_neg c3] at H
      have c3b0 : (a0_4.toList == ([] : List UInt8)) = false := beq_eq_false_iff_ne.mpr c3
      have c3b1 : (a0_4.toList != ([] : List UInt8)) = true := bne_iff_ne.mpr c3
      replace H := Option.bind_eq_some_iff.mp H
      obtain ⟨t129, A60, H⟩ := H
      replace H : (some t129) = some r := H
      have A6 := Aside0.mk A60
      clear A60
      obtain rfl := Option.some.inj H
      go_enter Tryd.func35, Tryd.ntmps35
      go_wp2_with (first | ((with_reducible refine gate_dst (N := 1) rfl ?_); refine box_event ?hg (N := 1) ?hd (cs := #[.int .u64 a0_0, .int .u64 a0_1, .int .u64 a0_2, .string a0_3, .string a0_4]) (t := 28) ?hr ?_; (case hd => rfl); (case hg => rfl); (case hr => first | (go_simp; done) | (go_simp; rfl) | (go_simp; simp [u8w]; done)); intro gb128 hg w7 hbox hb; have n0_ := Aside0.mk (below_step (by repeat (first | (with_reducible first | exact HB.out | apply below_alloc | apply pw_below_drewN | apply below_drew1) | exact HB.out)) hb); have n1_ := Aside0.mk (hbox); have n2_ := Aside0.mk ((by rw [hg]; exact (below_size (by repeat (first | (with_reducible first | exact HB.out | apply below_alloc | apply pw_below_drewN | apply below_drew1) | exact HB.out))) : w.heap.size ≤ gb128)); have n3_ := Aside0.mk ((by rw [hg]; exact (below_size (by repeat (first | (with_reducible first | exact HB.out | apply below_alloc | apply pw_below_drewN | apply below_drew1) | exact HB.out))) : w.heap.size ≤ gb128)); clear HB; have HB := n0_; have BK128 := n1_; have GW128 := n2_; have GE128 := n3_; clear n0_ n1_ n2_ n3_; clear hb hbox hg; have hcz8_0 : w7.cell? ⟨gb128, 0, none⟩ = some (.int .u64 a0_0) := (blk_cell BK128.out 0).trans rfl; have hcz8_1 : w7.cell? ⟨gb128, 1, none⟩ = some (.int .u64 a0_1) := (blk_cell BK128.out 1).trans rfl; have hcz8_2 : w7.cell? ⟨gb128, 2, none⟩ = some (.int .u64 a0_2) := (blk_cell BK128.out 2).trans rfl; have hcz8_3 : w7.cell? ⟨gb128, 3, none⟩ = some (.string a0_3) := (blk_cell BK128.out 3).trans rfl; have hcz8_4 : w7.cell? ⟨gb128, 4, none⟩ = some (.string a0_4) := (blk_cell BK128.out 4).trans rfl; have hfz8_0 := blk_frozen BK128.out 0; have hfz8_1 := blk_frozen BK128.out 1; have hfz8_2 := blk_frozen BK128.out 2; have hfz8_3 := blk_frozen BK128.out 3; have hfz8_4 := blk_frozen BK128.out 4) | (go_at_call 12; (with_reducible refine (spec_ValidMeta.calls k a0_4 t129 _ A6.out).mono ?_); rintro e w9 ⟨rfl, hb⟩; have n0_ := Aside0.mk (blk_below (g := gb128) (o := .cells #[.int .u64 a0_0, .int .u64 a0_1, .int .u64 a0_2, .string a0_3, .string a0_4] 28 (0, 0)) (by (with_reducible repeat (first | refine blk_drewN ?_ _ | refine blk_drew ?_ | refine blk_alloc ?_ _)); exact BK128.out) hb); have n1_ := Aside0.mk (below_step (by repeat (first | (with_reducible first | exact HB.out | apply below_alloc | apply pw_below_drewN | apply below_drew1 | refine below_set ?_ GE128.out) | exact HB.out)) hb); clear BK128; clear HB; have BK128 := n0_; have HB := n1_; clear n0_ n1_; (try clear hb); (try clear hb2); (try clear hk); (try clear hi)))
      go_ret
      exact ⟨by first | rfl | (simp [errW_none, errW_some] <;> rfl) | (simp [*, errW_none, errW_some] <;> rfl) | (simp [bneNil]; done), by repeat (first | (with_reducible first | exact HB.out | apply below_alloc | apply pw_below_drewN | apply below_drew1 | refine below_set ?_ GE128.out) | exact HB.out)⟩
  · rw [if_neg c2] at H
    have c2b0 : (a0_3.toList == ([] : List UInt8)) = false := beq_eq_false_iff_ne.mpr c2
    have c2b1 : (a0_3.toList != ([] : List UInt8)) = true := bne_iff_ne.mpr c2
    replace H := Option.bind_eq_some_iff.mp H
    obtain ⟨t130, A100, H⟩ := H
    replace H : (if t130 = true then ((spec_SmallPre.f k a0_3).bind fun t131 => (if t131 = true then (if a0_4.toList = ([] : List UInt8) then (some true) else ((spec_ValidMeta.f k a0_4).bind fun t132 => (some t132))) else (some false))) else (some false)) = some r := H
    have A10 := Aside0.mk A100
    clear A100
    by_cases c11 : t130 = true
    · subst c11
      have H1 : ((spec_SmallPre.f k a0_3).bind fun t131 => (if t131 = true then (if a0_4.toList = ([] : List UInt8) then (some true) else ((spec_ValidMeta.f k a0_4).bind fun t132 => (some t132))) else (some false))) = some r := by rw [if_pos rfl] at H; exact H
      clear H
      have H := H1
      clear H1
      replace H := Option.bind_eq_some_iff.mp H
      obtain ⟨t131, A120, H⟩ := H
      replace H : (if t131 = true then (if a0_4.toList = ([] : List UInt8) then (some true) else ((spec_ValidMeta.f k a0_4).bind fun t132 => (some t132))) else (some false)) = some r := H
      have A12 := Aside0.mk A120
      clear A120
      by_cases c13 : t131 = true
      · subst c13
        have H1 : (if a0_4.toList = ([] : List UInt8) then (some true) else ((spec_ValidMeta.f k a0_4).bind fun t132 => (some t132))) = some r := by rw [if_pos rfl] at H; exact H
        clear H
        have H := H1
        clear H1
        by_cases c14 : a0_4.toList = ([] : List UInt8)
        · rw [if_pos c14] at H
          have c14b0 : (a0_4.toList == ([] : List UInt8)) = true := beq_iff_eq.mpr c14
          have c14b1 : (a0_4.toList != ([] : List UInt8)) = false := bne_eq_false_iff_eq.mpr c14
          clear c14
          obtain rfl := Option.some.inj H
          go_enter Tryd.func35, Tryd.ntmps35
          go_wp2_with (first | ((with_reducible refine gate_dst (N := 1) rfl ?_); refine box_event ?hg (N := 1) ?hd (cs := #[.int .u64 a0_0, .int .u64 a0_1, .int .u64 a0_2, .string a0_3, .string a0_4]) (t := 28) ?hr ?_; (case hd => rfl); (case hg => rfl); (case hr => first | (go_simp; done) | (go_simp; rfl) | (go_simp; simp [u8w]; done)); intro gb128 hg w15 hbox hb; have n0_ := Aside0.mk (below_step (by repeat (first | (with_reducible first | exact HB.out | apply below_alloc | apply pw_below_drewN | apply below_drew1) | exact HB.out)) hb); have n1_ := Aside0.mk (hbox); have n2_ := Aside0.mk ((by rw [hg]; exact (below_size (by repeat (first | (with_reducible first | exact HB.out | apply below_alloc | apply pw_below_drewN | apply below_drew1) | exact HB.out))) : w.heap.size ≤ gb128)); have n3_ := Aside0.mk ((by rw [hg]; exact (below_size (by repeat (first | (with_reducible first | exact HB.out | apply below_alloc | apply pw_below_drewN | apply below_drew1) | exact HB.out))) : w.heap.size ≤ gb128)); clear HB; have HB := n0_; have BK128 := n1_; have GW128 := n2_; have GE128 := n3_; clear n0_ n1_ n2_ n3_; clear hb hbox hg; have hcz16_0 : w15.cell? ⟨gb128, 0, none⟩ = some (.int .u64 a0_0) := (blk_cell BK128.out 0).trans rfl; have hcz16_1 : w15.cell? ⟨gb128, 1, none⟩ = some (.int .u64 a0_1) := (blk_cell BK128.out 1).trans rfl; have hcz16_2 : w15.cell? ⟨gb128, 2, none⟩ = some (.int .u64 a0_2) := (blk_cell BK128.out 2).trans rfl; have hcz16_3 : w15.cell? ⟨gb128, 3, none⟩ = some (.string a0_3) := (blk_cell BK128.out 3).trans rfl; have hcz16_4 : w15.cell? ⟨gb128, 4, none⟩ = some (.string a0_4) := (blk_cell BK128.out 4).trans rfl; have hfz16_0 := blk_frozen BK128.out 0; have hfz16_1 := blk_frozen BK128.out 1; have hfz16_2 := blk_frozen BK128.out 2; have hfz16_3 := blk_frozen BK128.out 3; have hfz16_4 := blk_frozen BK128.out 4) | (go_at_call 38; (with_reducible refine (spec_ValidPre.calls k a0_3 true _ A10.out).mono ?_); rintro e w17 ⟨rfl, hb⟩; have n0_ := Aside0.mk (blk_below (g := gb128) (o := .cells #[.int .u64 a0_0, .int .u64 a0_1, .int .u64 a0_2, .string a0_3, .string a0_4] 28 (0, 0)) (by (with_reducible repeat (first | refine blk_drewN ?_ _ | refine blk_drew ?_ | refine blk_alloc ?_ _)); exact BK128.out) hb); have n1_ := Aside0.mk (below_step (by repeat (first | (with_reducible first | exact HB.out | apply below_alloc | apply pw_below_drewN | apply below_drew1 | refine below_set ?_ GE128.out) | exact HB.out)) hb); clear BK128; clear HB; have BK128 := n0_; have HB := n1_; clear n0_ n1_; (try clear hb); (try clear hb2); (try clear hk); (try clear hi); have hcz18_0 : w17.cell? ⟨gb128, 0, none⟩ = some (.int .u64 a0_0) := (blk_cell BK128.out 0).trans rfl; have hcz18_1 : w17.cell? ⟨gb128, 1, none⟩ = some (.int .u64 a0_1) := (blk_cell BK128.out 1).trans rfl; have hcz18_2 : w17.cell? ⟨gb128, 2, none⟩ = some (.int .u64 a0_2) := (blk_cell BK128.out 2).trans rfl; have hcz18_3 : w17.cell? ⟨gb128, 3, none⟩ = some (.string a0_3) := (blk_cell BK128.out 3).trans rfl; have hcz18_4 : w17.cell? ⟨gb128, 4, none⟩ = some (.string a0_4) := (blk_cell BK128.out 4).trans rfl; have hfz18_0 := blk_frozen BK128.out 0; have hfz18_1 := blk_frozen BK128.out 1; have hfz18_2 := blk_frozen BK128.out 2; have hfz18_3 := blk_frozen BK128.out 3; have hfz18_4 := blk_frozen BK128.out 4) | (go_at_call 39; (with_reducible refine (spec_SmallPre.calls k a0_3 true _ A12.out).mono ?_); rintro e w19 ⟨rfl, hb⟩; have n0_ := Aside0.mk (blk_below (g := gb128) (o := .cells #[.int .u64 a0_0, .int .u64 a0_1, .int .u64 a0_2, .string a0_3, .string a0_4] 28 (0, 0)) (by (with_reducible repeat (first | refine blk_drewN ?_ _ | refine blk_drew ?_ | refine blk_alloc ?_ _)); exact BK128.out) hb); have n1_ := Aside0.mk (below_step (by repeat (first | (with_reducible first | exact HB.out | apply below_alloc | apply pw_below_drewN | apply below_drew1 | refine below_set ?_ GE128.out) | exact HB.out)) hb); clear BK128; clear HB; have BK128 := n0_; have HB := n1_; clear n0_ n1_; (try clear hb); (try clear hb2); (try clear hk); (try clear hi); have hcz20_0 : w19.cell? ⟨gb128, 0, none⟩ = some (.int .u64 a0_0) := (blk_cell BK128.out 0).trans rfl; have hcz20_1 : w19.cell? ⟨gb128, 1, none⟩ = some (.int .u64 a0_1) := (blk_cell BK128.out 1).trans rfl; have hcz20_2 : w19.cell? ⟨gb128, 2, none⟩ = some (.int .u64 a0_2) := (blk_cell BK128.out 2).trans rfl; have hcz20_3 : w19.cell? ⟨gb128, 3, none⟩ = some (.string a0_3) := (blk_cell BK128.out 3).trans rfl; have hcz20_4 : w19.cell? ⟨gb128, 4, none⟩ = some (.string a0_4) := (blk_cell BK128.out 4).trans rfl; have hfz20_0 := blk_frozen BK128.out 0; have hfz20_1 := blk_frozen BK128.out 1; have hfz20_2 := blk_frozen BK128.out 2; have hfz20_3 := blk_frozen BK128.out 3; have hfz20_4 := blk_frozen BK128.out 4))
          go_ret
          exact ⟨by first | rfl | (simp [errW_none, errW_some] <;> rfl) | (simp [*, errW_none, errW_some] <;> rfl) | (simp [bneNil]; done), by repeat (first | (with_reducible first | exact HB.out | apply below_alloc | apply pw_below_drewN | apply below_drew1 | refine below_set ?_ GE128.out) | exact HB.out)⟩
        · rw [if_neg c14] at H
          have c14b0 : (a0_4.toList == ([] : List UInt8)) = false := beq_eq_false_iff_ne.mpr c14
          have c14b1 : (a0_4.toList != ([] : List UInt8)) = true := bne_iff_ne.mpr c14
          replace H := Option.bind_eq_some_iff.mp H
          obtain ⟨t132, A210, H⟩ := H
          replace H : (some t132) = some r := H
          have A21 := Aside0.mk A210
          clear A210
          obtain rfl := Option.some.inj H
          go_enter Tryd.func35, Tryd.ntmps35
          go_wp2_with (first | ((with_reducible refine gate_dst (N := 1) rfl ?_); refine box_event ?hg (N := 1) ?hd (cs := #[.int .u64 a0_0, .int .u64 a0_1, .int .u64 a0_2, .string a0_3, .string a0_4]) (t := 28) ?hr ?_; (case hd => rfl); (case hg => rfl); (case hr => first | (go_simp; done) | (go_simp; rfl) | (go_simp; simp [u8w]; done)); intro gb128 hg w22 hbox hb; have n0_ := Aside0.mk (below_step (by repeat (first | (with_reducible first | exact HB.out | apply below_alloc | apply pw_below_drewN | apply below_drew1) | exact HB.out)) hb); have n1_ := Aside0.mk (hbox); have n2_ := Aside0.mk ((by rw [hg]; exact (below_size (by repeat (first | (with_reducible first | exact HB.out | apply below_alloc | apply pw_below_drewN | apply below_drew1) | exact HB.out))) : w.heap.size ≤ gb128)); have n3_ := Aside0.mk ((by rw [hg]; exact (below_size (by repeat (first | (with_reducible first | exact HB.out | apply below_alloc | apply pw_below_drewN | apply below_drew1) | exact HB.out))) : w.heap.size ≤ gb128)); clear HB; have HB := n0_; have BK128 := n1_; have GW128 := n2_; have GE128 := n3_; clear n0_ n1_ n2_ n3_; clear hb hbox hg; have hcz23_0 : w22.cell? ⟨gb128, 0, none⟩ = some (.int .u64 a0_0) := (blk_cell BK128.out 0).trans rfl; have hcz23_1 : w22.cell? ⟨gb128, 1, none⟩ = some (.int .u64 a0_1) := (blk_cell BK128.out 1).trans rfl; have hcz23_2 : w22.cell? ⟨gb128, 2, none⟩ = some (.int .u64 a0_2) := (blk_cell BK128.out 2).trans rfl; have hcz23_3 : w22.cell? ⟨gb128, 3, none⟩ = some (.string a0_3) := (blk_cell BK128.out 3).trans rfl; have hcz23_4 : w22.cell? ⟨gb128, 4, none⟩ = some (.string a0_4) := (blk_cell BK128.out 4).trans rfl; have hfz23_0 := blk_frozen BK128.out 0; have hfz23_1 := blk_frozen BK128.out 1; have hfz23_2 := blk_frozen BK128.out 2; have hfz23_3 := blk_frozen BK128.out 3; have hfz23_4 := blk_frozen BK128.out 4) | (go_at_call 38; (with_reducible refine (spec_ValidPre.calls k a0_3 true _ A10.out).mono ?_); rintro e w24 ⟨rfl, hb⟩; have n0_ := Aside0.mk (blk_below (g := gb128) (o := .cells #[.int .u64 a0_0, .int .u64 a0_1, .int .u64 a0_2, .string a0_3, .string a0_4] 28 (0, 0)) (by (with_reducible repeat (first | refine blk_drewN ?_ _ | refine blk_drew ?_ | refine blk_alloc ?_ _)); exact BK128.out) hb); have n1_ := Aside0.mk (below_step (by repeat (first | (with_reducible first | exact HB.out | apply below_alloc | apply pw_below_drewN | apply below_drew1 | refine below_set ?_ GE128.out) | exact HB.out)) hb); clear BK128; clear HB; have BK128 := n0_; have HB := n1_; clear n0_ n1_; (try clear hb); (try clear hb2); (try clear hk); (try clear hi); have hcz25_0 : w24.cell? ⟨gb128, 0, none⟩ = some (.int .u64 a0_0) := (blk_cell BK128.out 0).trans rfl; have hcz25_1 : w24.cell? ⟨gb128, 1, none⟩ = some (.int .u64 a0_1) := (blk_cell BK128.out 1).trans rfl; have hcz25_2 : w24.cell? ⟨gb128, 2, none⟩ = some (.int .u64 a0_2) := (blk_cell BK128.out 2).trans rfl; have hcz25_3 : w24.cell? ⟨gb128, 3, none⟩ = some (.string a0_3) := (blk_cell BK128.out 3).trans rfl; have hcz25_4 : w24.cell? ⟨gb128, 4, none⟩ = some (.string a0_4) := (blk_cell BK128.out 4).trans rfl; have hfz25_0 := blk_frozen BK128.out 0; have hfz25_1 := blk_frozen BK128.out 1; have hfz25_2 := blk_frozen BK128.out 2; have hfz25_3 := blk_frozen BK128.out 3; have hfz25_4 := blk_frozen BK128.out 4) | (go_at_call 39; (with_reducible refine (spec_SmallPre.calls k a0_3 true _ A12.out).mono ?_); rintro e w26 ⟨rfl, hb⟩; have n0_ := Aside0.mk (blk_below (g := gb128) (o := .cells #[.int .u64 a0_0, .int .u64 a0_1, .int .u64 a0_2, .string a0_3, .string a0_4] 28 (0, 0)) (by (with_reducible repeat (first | refine blk_drewN ?_ _ | refine blk_drew ?_ | refine blk_alloc ?_ _)); exact BK128.out) hb); have n1_ := Aside0.mk (below_step (by repeat (first | (with_reducible first | exact HB.out | apply below_alloc | apply pw_below_drewN | apply below_drew1 | refine below_set ?_ GE128.out) | exact HB.out)) hb); clear BK128; clear HB; have BK128 := n0_; have HB := n1_; clear n0_ n1_; (try clear hb); (try clear hb2); (try clear hk); (try clear hi); have hcz27_0 : w26.cell? ⟨gb128, 0, none⟩ = some (.int .u64 a0_0) := (blk_cell BK128.out 0).trans rfl; have hcz27_1 : w26.cell? ⟨gb128, 1, none⟩ = some (.int .u64 a0_1) := (blk_cell BK128.out 1).trans rfl; have hcz27_2 : w26.cell? ⟨gb128, 2, none⟩ = some (.int .u64 a0_2) := (blk_cell BK128.out 2).trans rfl; have hcz27_3 : w26.cell? ⟨gb128, 3, none⟩ = some (.string a0_3) := (blk_cell BK128.out 3).trans rfl; have hcz27_4 : w26.cell? ⟨gb128, 4, none⟩ = some (.string a0_4) := (blk_cell BK128.out 4).trans rfl; have hfz27_0 := blk_frozen BK128.out 0; have hfz27_1 := blk_frozen BK128.out 1; have hfz27_2 := blk_frozen BK128.out 2; have hfz27_3 := blk_frozen BK128.out 3; have hfz27_4 := blk_frozen BK128.out 4) | (go_at_call 12; (with_reducible refine (spec_ValidMeta.calls k a0_4 t132 _ A21.out).mono ?_); rintro e w28 ⟨rfl, hb⟩; have n0_ := Aside0.mk (blk_below (g := gb128) (o := .cells #[.int .u64 a0_0, .int .u64 a0_1, .int .u64 a0_2, .string a0_3, .string a0_4] 28 (0, 0)) (by (with_reducible repeat (first | refine blk_drewN ?_ _ | refine blk_drew ?_ | refine blk_alloc ?_ _)); exact BK128.out) hb); have n1_ := Aside0.mk (below_step (by repeat (first | (with_reducible first | exact HB.out | apply below_alloc | apply pw_below_drewN | apply below_drew1 | refine below_set ?_ GE128.out) | exact HB.out)) hb); clear BK128; clear HB; have BK128 := n0_; have HB := n1_; clear n0_ n1_; (try clear hb); (try clear hb2); (try clear hk); (try clear hi)))
          go_ret
          exact ⟨by first | rfl | (simp [errW_none, errW_some] <;> rfl) | (simp [*, errW_none, errW_some] <;> rfl) | (simp [bneNil]; done), by repeat (first | (with_reducible first | exact HB.out | apply below_alloc | apply pw_below_drewN | apply below_drew1 | refine below_set ?_ GE128.out) | exact HB.out)⟩
      · replace c13 := Bool.eq_false_iff.mpr c13
        subst c13
        have H1 : (some false) = some r := by rw [if_neg (show ¬ (false = true) by decide)] at H; exact H
        clear H
        have H := H1
        clear H1
        obtain rfl := Option.some.inj H
        go_enter Tryd.func35, Tryd.ntmps35
        go_wp2_with (first | ((with_reducible refine gate_dst (N := 1) rfl ?_); refine box_event ?hg (N := 1) ?hd (cs := #[.int .u64 a0_0, .int .u64 a0_1, .int .u64 a0_2, .string a0_3, .string a0_4]) (t := 28) ?hr ?_; (case hd => rfl); (case hg => rfl); (case hr => first | (go_simp; done) | (go_simp; rfl) | (go_simp; simp [u8w]; done)); intro gb128 hg w29 hbox hb; have n0_ := Aside0.mk (below_step (by repeat (first | (with_reducible first | exact HB.out | apply below_alloc | apply pw_below_drewN | apply below_drew1) | exact HB.out)) hb); have n1_ := Aside0.mk (hbox); have n2_ := Aside0.mk ((by rw [hg]; exact (below_size (by repeat (first | (with_reducible first | exact HB.out | apply below_alloc | apply pw_below_drewN | apply below_drew1) | exact HB.out))) : w.heap.size ≤ gb128)); have n3_ := Aside0.mk ((by rw [hg]; exact (below_size (by repeat (first | (with_reducible first | exact HB.out | apply below_alloc | apply pw_below_drewN | apply below_drew1) | exact HB.out))) : w.heap.size ≤ gb128)); clear HB; have HB := n0_; have BK128 := n1_; have GW128 := n2_; have GE128 := n3_; clear n0_ n1_ n2_ n3_; clear hb hbox hg; have hcz30_0 : w29.cell? ⟨gb128, 0, none⟩ = some (.int .u64 a0_0) := (blk_cell BK128.out 0).trans rfl; have hcz30_1 : w29.cell? ⟨gb128, 1, none⟩ = some (.int .u64 a0_1) := (blk_cell BK128.out 1).trans rfl; have hcz30_2 : w29.cell? ⟨gb128, 2, none⟩ = some (.int .u64 a0_2) := (blk_cell BK128.out 2).trans rfl; have hcz30_3 : w29.cell? ⟨gb128, 3, none⟩ = some (.string a0_3) := (blk_cell BK128.out 3).trans rfl; have hcz30_4 : w29.cell? ⟨gb128, 4, none⟩ = some (.string a0_4) := (blk_cell BK128.out 4).trans rfl; have hfz30_0 := blk_frozen BK128.out 0; have hfz30_1 := blk_frozen BK128.out 1; have hfz30_2 := blk_frozen BK128.out 2; have hfz30_3 := blk_frozen BK128.out 3; have hfz30_4 := blk_frozen BK128.out 4) | (go_at_call 38; (with_reducible refine (spec_ValidPre.calls k a0_3 true _ A10.out).mono ?_); rintro e w31 ⟨rfl, hb⟩; have n0_ := Aside0.mk (blk_below (g := gb128) (o := .cells #[.int .u64 a0_0, .int .u64 a0_1, .int .u64 a0_2, .string a0_3, .string a0_4] 28 (0, 0)) (by (with_reducible repeat (first | refine blk_drewN ?_ _ | refine blk_drew ?_ | refine blk_alloc ?_ _)); exact BK128.out) hb); have n1_ := Aside0.mk (below_step (by repeat (first | (with_reducible first | exact HB.out | apply below_alloc | apply pw_below_drewN | apply below_drew1 | refine below_set ?_ GE128.out) | exact HB.out)) hb); clear BK128; clear HB; have BK128 := n0_; have HB := n1_; clear n0_ n1_; (try clear hb); (try clear hb2); (try clear hk); (try clear hi); have hcz32_0 : w31.cell? ⟨gb128, 0, none⟩ = some (.int .u64 a0_0) := (blk_cell BK128.out 0).trans rfl; have hcz32_1 : w31.cell? ⟨gb128, 1, none⟩ = some (.int .u64 a0_1) := (blk_cell BK128.out 1).trans rfl; have hcz32_2 : w31.cell? ⟨gb128, 2, none⟩ = some (.int .u64 a0_2) := (blk_cell BK128.out 2).trans rfl; have hcz32_3 : w31.cell? ⟨gb128, 3, none⟩ = some (.string a0_3) := (blk_cell BK128.out 3).trans rfl; have hcz32_4 : w31.cell? ⟨gb128, 4, none⟩ = some (.string a0_4) := (blk_cell BK128.out 4).trans rfl; have hfz32_0 := blk_frozen BK128.out 0; have hfz32_1 := blk_frozen BK128.out 1; have hfz32_2 := blk_frozen BK128.out 2; have hfz32_3 := blk_frozen BK128.out 3; have hfz32_4 := blk_frozen BK128.out 4) | (go_at_call 39; (with_reducible refine (spec_SmallPre.calls k a0_3 false _ A12.out).mono ?_); rintro e w33 ⟨rfl, hb⟩; have n0_ := Aside0.mk (blk_below (g := gb128) (o := .cells #[.int .u64 a0_0, .int .u64 a0_1, .int .u64 a0_2, .string a0_3, .string a0_4] 28 (0, 0)) (by (with_reducible repeat (first | refine blk_drewN ?_ _ | refine blk_drew ?_ | refine blk_alloc ?_ _)); exact BK128.out) hb); have n1_ := Aside0.mk (below_step (by repeat (first | (with_reducible first | exact HB.out | apply below_alloc | apply pw_below_drewN | apply below_drew1 | refine below_set ?_ GE128.out) | exact HB.out)) hb); clear BK128; clear HB; have BK128 := n0_; have HB := n1_; clear n0_ n1_; (try clear hb); (try clear hb2); (try clear hk); (try clear hi)))
        go_ret
        exact ⟨by first | rfl | (simp [errW_none, errW_some] <;> rfl) | (simp [*, errW_none, errW_some] <;> rfl) | (simp [bneNil]; done), by repeat (first | (with_reducible first | exact HB.out | apply below_alloc | apply pw_below_drewN | apply below_drew1 | refine below_set ?_ GE128.out) | exact HB.out)⟩
    · replace c11 := Bool.eq_false_iff.mpr c11
      subst c11
      have H1 : (some false) = some r := by rw [if_neg (show ¬ (false = true) by decide)] at H; exact H
      clear H
      have H := H1
      clear H1
      obtain rfl := Option.some.inj H
      go_enter Tryd.func35, Tryd.ntmps35
      go_wp2_with (first | ((with_reducible refine gate_dst (N := 1) rfl ?_); refine box_event ?hg (N := 1) ?hd (cs := #[.int .u64 a0_0, .int .u64 a0_1, .int .u64 a0_2, .string a0_3, .string a0_4]) (t := 28) ?hr ?_; (case hd => rfl); (case hg => rfl); (case hr => first | (go_simp; done) | (go_simp; rfl) | (go_simp; simp [u8w]; done)); intro gb128 hg w34 hbox hb; have n0_ := Aside0.mk (below_step (by repeat (first | (with_reducible first | exact HB.out | apply below_alloc | apply pw_below_drewN | apply below_drew1) | exact HB.out)) hb); have n1_ := Aside0.mk (hbox); have n2_ := Aside0.mk ((by rw [hg]; exact (below_size (by repeat (first | (with_reducible first | exact HB.out | apply below_alloc | apply pw_below_drewN | apply below_drew1) | exact HB.out))) : w.heap.size ≤ gb128)); have n3_ := Aside0.mk ((by rw [hg]; exact (below_size (by repeat (first | (with_reducible first | exact HB.out | apply below_alloc | apply pw_below_drewN | apply below_drew1) | exact HB.out))) : w.heap.size ≤ gb128)); clear HB; have HB := n0_; have BK128 := n1_; have GW128 := n2_; have GE128 := n3_; clear n0_ n1_ n2_ n3_; clear hb hbox hg; have hcz35_0 : w34.cell? ⟨gb128, 0, none⟩ = some (.int .u64 a0_0) := (blk_cell BK128.out 0).trans rfl; have hcz35_1 : w34.cell? ⟨gb128, 1, none⟩ = some (.int .u64 a0_1) := (blk_cell BK128.out 1).trans rfl; have hcz35_2 : w34.cell? ⟨gb128, 2, none⟩ = some (.int .u64 a0_2) := (blk_cell BK128.out 2).trans rfl; have hcz35_3 : w34.cell? ⟨gb128, 3, none⟩ = some (.string a0_3) := (blk_cell BK128.out 3).trans rfl; have hcz35_4 : w34.cell? ⟨gb128, 4, none⟩ = some (.string a0_4) := (blk_cell BK128.out 4).trans rfl; have hfz35_0 := blk_frozen BK128.out 0; have hfz35_1 := blk_frozen BK128.out 1; have hfz35_2 := blk_frozen BK128.out 2; have hfz35_3 := blk_frozen BK128.out 3; have hfz35_4 := blk_frozen BK128.out 4) | (go_at_call 38; (with_reducible refine (spec_ValidPre.calls k a0_3 false _ A10.out).mono ?_); rintro e w36 ⟨rfl, hb⟩; have n0_ := Aside0.mk (blk_below (g := gb128) (o := .cells #[.int .u64 a0_0, .int .u64 a0_1, .int .u64 a0_2, .string a0_3, .string a0_4] 28 (0, 0)) (by (with_reducible repeat (first | refine blk_drewN ?_ _ | refine blk_drew ?_ | refine blk_alloc ?_ _)); exact BK128.out) hb); have n1_ := Aside0.mk (below_step (by repeat (first | (with_reducible first | exact HB.out | apply below_alloc | apply pw_below_drewN | apply below_drew1 | refine below_set ?_ GE128.out) | exact HB.out)) hb); clear BK128; clear HB; have BK128 := n0_; have HB := n1_; clear n0_ n1_; (try clear hb); (try clear hb2); (try clear hk); (try clear hi)))
      go_ret
      exact ⟨by first | rfl | (simp [errW_none, errW_some] <;> rfl) | (simp [*, errW_none, errW_some] <;> rfl) | (simp [bneNil]; done), by repeat (first | (with_reducible first | exact HB.out | apply below_alloc | apply pw_below_drewN | apply below_drew1 | refine below_set ?_ GE128.out) | exact HB.out)⟩

def laws_svGood.l0 : Nat → List (S28) → Int → Int → Option (Bool)
  | 0, _, _, _ => none
  | k + 1, x5, x6, x7 => if x7 < x6 then (if 0 ≤ x7 then (if x7 < (x5.length : Int) then ((laws_svShort.f k (([(rd_T28 x5 x7).f3, (rd_T28 x5 x7).f4] : List ByteArray))).bind fun t138 => (if t138 = true then ((spec_Good.f k ((rd_T28 x5 x7).f0) ((rd_T28 x5 x7).f1) ((rd_T28 x5 x7).f2) ((rd_T28 x5 x7).f3) ((rd_T28 x5 x7).f4)).bind fun t139 => (if t139 = true then (laws_svGood.l0 k x5 x6 (wrap64 (x7 + 1))) else (some false))) else (some false))) else (none)) else (none)) else (some true)

def laws_svGood.f (k : Nat) (l0 : List (S28)) : Option (Bool) := laws_svGood.l0 k l0 (l0.length : Int) 0

theorem laws_svGood.mono_l : ∀ k, (∀ y0 y1 y2, LeO (laws_svGood.l0 k y0 y1 y2) (laws_svGood.l0 (k + 1) y0 y1 y2))
  | 0 => fun _ _ _ r h => by simp [laws_svGood.l0] at h
  | k + 1 => by
    have ih0 := laws_svGood.mono_l k
    · intro y0 y1 y2
      unfold laws_svGood.l0
      repeat' first
      | (with_reducible exact ih0 _ _ _)
      | (with_reducible exact laws_svShort.mono _ _)
      | (with_reducible exact spec_Good.mono _ _ _ _ _ _)
      | (with_reducible exact LeO.refl _)
      | (with_reducible exact LeO.none _)
      | (with_reducible refine LeO.ite ?_ ?_)
      | (with_reducible refine LeO.bind ?_ (fun _ => ?_))
      | exact ih0 _ _ _
      | exact laws_svShort.mono _ _
      | exact spec_Good.mono _ _ _ _ _ _
      | exact LeO.none _
      | refine LeO.ite ?_ ?_
      | refine LeO.bind ?_ (fun _ => ?_)

theorem laws_svGood.mono : ∀ a0 k, LeO (laws_svGood.f k a0) (laws_svGood.f (k + 1) a0) := by
  intro a0 k
  have ih0 := laws_svGood.mono_l k
  unfold laws_svGood.f
  repeat' first
      | (with_reducible exact ih0 _ _ _)
      | (with_reducible exact laws_svShort.mono _ _)
      | (with_reducible exact spec_Good.mono _ _ _ _ _ _)
      | (with_reducible exact LeO.refl _)
      | (with_reducible exact LeO.none _)
      | (with_reducible refine LeO.ite ?_ ?_)
      | (with_reducible refine LeO.bind ?_ (fun _ => ?_))
      | exact ih0 _ _ _
      | exact laws_svShort.mono _ _
      | exact spec_Good.mono _ _ _ _ _ _
      | exact LeO.none _
      | refine LeO.ite ?_ ?_
      | refine LeO.bind ?_ (fun _ => ?_)

set_option maxHeartbeats 80000000 in
set_option maxRecDepth 100000 in
theorem laws_svGood.calls (k : Nat) (A0 : Option Addr) (c0 : Nat) (l0 : List (S28)) (r : Bool) (w : World) (hr0 : Kd.C k28 w A0 l0.length l0) (hc0 : l0.length ≤ c0) (h : laws_svGood.f k l0 = some r) :
    Calls Tryd.prog 17 #[.slice A0 l0.length c0] w fun e w' => e = .returned (.bool r) ∧ Below w.heap.size w w' := by
  have hu28 := Tryd.underlying28
  have HR0 := Aside0.mk hr0
  have HC0 := Aside0.mk hc0
  clear hr0 hc0
  have HB := Aside0.mk (Below.refl w.heap.size w)
  have H : (laws_svGood.l0 k l0 (l0.length : Int) 0) = some r := h
  clear h
  have H' := Aside0.mk H
  clear H
  go_enter Tryd.func17, Tryd.ntmps17
  go_wp2
  go_loopg [7] k (fun kq v7 w' => ∃ (x7_1 : Int), v7 = .int .i64 x7_1 ∧ Aside0 (laws_svGood.l0 kq l0 (l0.length : Int) x7_1 = some r) ∧ Aside0 (kq ≤ k) ∧ Aside0 (Below w.heap.size w w'))
  case atStart => exact ⟨(0), (by first | rfl | (simp; done) | (simp [*]; done)), H', ⟨Nat.le_refl _⟩, ⟨by repeat (first | (with_reducible first | exact HB.out | apply below_alloc | apply pw_below_drewN | apply below_drew1) | exact HB.out)⟩⟩
  case round =>
    clear H'
    try clear c1
    obtain ⟨x7_1, rfl, HA, HK1, HB⟩ := hrel
    cases gk with
    | zero => exact absurd HA.out (by simp [laws_svGood.l0])
    | succ k1 =>
      have H := HA.out
      clear HA
      simp only [laws_svGood.l0] at H
      by_cases c2 : x7_1 < (l0.length : Int)
      · rw [if_pos c2] at H
        have c2b0 : decide (x7_1 < (l0.length : Int)) = true := decide_eq_true c2
        clear c2
        by_cases c3 : 0 ≤ x7_1
        · rw [if_pos c3] at H
          have c3b0 : decide (0 ≤ x7_1) = true := decide_eq_true c3
          clear c3
          by_cases c4 : x7_1 < (l0.length : Int)
          · rw [if_pos c4] at H
            have c4b0 : decide (x7_1 < (l0.length : Int)) = true := decide_eq_true c4
            clear c4
            obtain ⟨y135, hy135⟩ : ∃ y_ : List ByteArray, y_ = (([(rd_T28 l0 x7_1).f3, (rd_T28 l0 x7_1).f4] : List ByteArray)) := ⟨_, rfl⟩
            replace H : ((laws_svShort.f k1 y135).bind fun t138 => (if t138 = true then ((spec_Good.f k1 ((rd_T28 l0 x7_1).f0) ((rd_T28 l0 x7_1).f1) ((rd_T28 l0 x7_1).f2) ((rd_T28 l0 x7_1).f3) ((rd_T28 l0 x7_1).f4)).bind fun t139 => (if t139 = true then (laws_svGood.l0 k1 l0 (l0.length : Int) (wrap64 (x7_1 + 1))) else (some false))) else (some false))) = some r := by first | (rw [hy135]; with_reducible exact H) | (have H2_ := (Option.bind_some _ _).symm.trans H; rw [hy135]; with_reducible exact H2_) | (have H2_ := (Option.bind_some _ _).symm.trans H; with_reducible exact H2_) | with_reducible exact H | (rw [hy135]; exact H) | exact H
            have Ny135 := Aside0.mk hy135
            clear hy135
            replace H := Option.bind_eq_some_iff.mp H
            obtain ⟨t138, A50, H⟩ := H
            replace H : (if t138 = true then ((spec_Good.f k1 ((rd_T28 l0 x7_1).f0) ((rd_T28 l0 x7_1).f1) ((rd_T28 l0 x7_1).f2) ((rd_T28 l0 x7_1).f3) ((rd_T28 l0 x7_1).f4)).bind fun t139 => (if t139 = true then (laws_svGood.l0 k1 l0 (l0.length : Int) (wrap64 (x7_1 + 1))) else (some false))) else (some false)) = some r := H
            have A5 := Aside0.mk A50
            clear A50
            by_cases c6 : t138 = true
            · subst c6
              have H1 : ((spec_Good.f k1 ((rd_T28 l0 x7_1).f0) ((rd_T28 l0 x7_1).f1) ((rd_T28 l0 x7_1).f2) ((rd_T28 l0 x7_1).f3) ((rd_T28 l0 x7_1).f4)).bind fun t139 => (if t139 = true then (laws_svGood.l0 k1 l0 (l0.length : Int) (wrap64 (x7_1 + 1))) else (some false))) = some r := by rw [if_pos rfl] at H; exact H
              clear H
              have H := H1
              clear H1
              replace H := Option.bind_eq_some_iff.mp H
              obtain ⟨t139, A70, H⟩ := H
              replace H : (if t139 = true then (laws_svGood.l0 k1 l0 (l0.length : Int) (wrap64 (x7_1 + 1))) else (some false)) = some r := H
              have A7 := Aside0.mk A70
              clear A70
              by_cases c8 : t139 = true
              · subst c8
                have H1 : (laws_svGood.l0 k1 l0 (l0.length : Int) (wrap64 (x7_1 + 1))) = some r := by rw [if_pos rfl] at H; exact H
                clear H
                have H := H1
                clear H1
                have H' := Aside0.mk H
                clear H
                have p133 : 0 ≤ (x7_1 : Int) := of_decide_eq_true (by first | (with_reducible assumption) | assumption)
                have q133 : x7_1 < (l0.length : Int) := of_decide_eq_true (by first | (with_reducible assumption) | assumption)
                obtain ⟨ad133, e133, hx133_0, hx133_1, hx133_2, hx133_3, hx133_4⟩ := at_T28 HR0.out x7_1 p133 q133
                cases e133
                replace hx133_0 := (HB.out.cell (World.block_lt_of_cell? w _ hx133_0)).trans hx133_0
                replace hx133_1 := (HB.out.cell (World.block_lt_of_cell? w _ hx133_1)).trans hx133_1
                replace hx133_2 := (HB.out.cell (World.block_lt_of_cell? w _ hx133_2)).trans hx133_2
                replace hx133_3 := (HB.out.cell (World.block_lt_of_cell? w _ hx133_3)).trans hx133_3
                replace hx133_4 := (HB.out.cell (World.block_lt_of_cell? w _ hx133_4)).trans hx133_4
                replace p133 := eq_true p133
                replace q133 := eq_true q133
                go_wp2_with (first | ((with_reducible refine gate_dst (N := 4) rfl ?_); refine box_event ?hg (N := 4) ?hd (cs := #[.int .u64 0, .int .u64 0, .int .u64 0, .string (⟨#[]⟩ : ByteArray), .string (⟨#[]⟩ : ByteArray)]) (t := 28) ?hr ?_; (case hd => rfl); (case hg => rfl); (case hr => first | (go_simp; done) | (go_simp; rfl) | (go_simp; simp [u8w]; done)); intro gb134 hg w9 hbox hb; have n0_ := Aside0.mk (below_step (by repeat (first | (with_reducible first | exact HB.out | apply below_alloc | apply pw_below_drewN | apply below_drew1) | exact HB.out)) hb); have n1_ := Aside0.mk (hbox); have n2_ := Aside0.mk ((by rw [hg]; exact (below_size (by repeat (first | (with_reducible first | exact HB.out | apply below_alloc | apply pw_below_drewN | apply below_drew1) | exact HB.out))) : w.heap.size ≤ gb134)); have n3_ := Aside0.mk ((by rw [hg]; exact (below_size (by repeat (first | (with_reducible first | exact HB.out | apply below_alloc | apply pw_below_drewN | apply below_drew1) | exact HB.out))) : w.heap.size ≤ gb134)); clear HB; have HB := n0_; have BK134 := n1_; have GW134 := n2_; have GE134 := n3_; clear n0_ n1_ n2_ n3_; clear hb hbox hg; have hcz10_0 : w9.cell? ⟨gb134, 0, none⟩ = some (.int .u64 0) := (blk_cell BK134.out 0).trans rfl; have hcz10_1 : w9.cell? ⟨gb134, 1, none⟩ = some (.int .u64 0) := (blk_cell BK134.out 1).trans rfl; have hcz10_2 : w9.cell? ⟨gb134, 2, none⟩ = some (.int .u64 0) := (blk_cell BK134.out 2).trans rfl; have hcz10_3 : w9.cell? ⟨gb134, 3, none⟩ = some (.string (⟨#[]⟩ : ByteArray)) := (blk_cell BK134.out 3).trans rfl; have hcz10_4 : w9.cell? ⟨gb134, 4, none⟩ = some (.string (⟨#[]⟩ : ByteArray)) := (blk_cell BK134.out 4).trans rfl; have hfz10_0 := blk_frozen BK134.out 0; have hfz10_1 := blk_frozen BK134.out 1; have hfz10_2 := blk_frozen BK134.out 2; have hfz10_3 := blk_frozen BK134.out 3; have hfz10_4 := blk_frozen BK134.out 4) | ((with_reducible refine gate_dst (N := 15) rfl ?_); refine Kd.R_lit Kd.string _ 9 ?hg (N := 15) ?hd (xs := ([(rd_T28 l0 x7_1).f3, (rd_T28 l0 x7_1).f4] : List ByteArray)) (inner := [.string ((rd_T28 l0 x7_1).f3), .string ((rd_T28 l0 x7_1).f4)]) (ok := fun _ => True) (okp := fun _ => True) ?hr ?hp (fun _ hk => hk) trivial (Below.refl _ _) (Nat.le_refl _) (by simp) ?_; (case hd => rfl); (case hg => rfl); (case hr => first | (go_simp; done) | (go_simp; rfl) | (go_simp; simp [u8w]; done)); (case hp => exact (Reps.one (show Kd.M Kd.string _ _ _ ((rd_T28 l0 x7_1).f3) [.string ((rd_T28 l0 x7_1).f3)] from rfl) (Reps.one (show Kd.M Kd.string _ _ _ ((rd_T28 l0 x7_1).f4) [.string ((rd_T28 l0 x7_1).f4)] from rfl) (Reps.none _ _)))); intro v136 w11 ho12 hb hg_ hnew_; clear hg_ hnew_; (first | rw [← Ny135.out] at ho12 | (simp only [Int.reduceToNat] at ho12; rw [← Ny135.out] at ho12)); have n0_ := Aside0.mk (Kd.R_lower ho12 (below_size (by repeat (first | (with_reducible first | exact HB.out | apply below_alloc | apply pw_below_drewN | apply below_drew1 | refine below_set ?_ GE134.out) | exact HB.out)))); have n1_ := Aside0.mk (blk_below (g := gb134) (o := .cells #[.int .u64 ((rd_T28 l0 x7_1).f0), .int .u64 ((rd_T28 l0 x7_1).f1), .int .u64 ((rd_T28 l0 x7_1).f2), .string ((rd_T28 l0 x7_1).f3), .string ((rd_T28 l0 x7_1).f4)] 28 (0, 0)) (by (with_reducible repeat (first | refine blk_drewN ?_ _ | refine blk_drew ?_ | refine blk_alloc ?_ _)); refine blk_put (cs := #[.int .u64 ((rd_T28 l0 x7_1).f0), .int .u64 ((rd_T28 l0 x7_1).f1), .int .u64 ((rd_T28 l0 x7_1).f2), .string ((rd_T28 l0 x7_1).f3), .string (⟨#[]⟩ : ByteArray)]) ?_ 4 _ rfl; (with_reducible repeat (first | refine blk_drewN ?_ _ | refine blk_drew ?_ | refine blk_alloc ?_ _)); refine blk_put (cs := #[.int .u64 ((rd_T28 l0 x7_1).f0), .int .u64 ((rd_T28 l0 x7_1).f1), .int .u64 ((rd_T28 l0 x7_1).f2), .string (⟨#[]⟩ : ByteArray), .string (⟨#[]⟩ : ByteArray)]) ?_ 3 _ rfl; (with_reducible repeat (first | refine blk_drewN ?_ _ | refine blk_drew ?_ | refine blk_alloc ?_ _)); refine blk_put (cs := #[.int .u64 ((rd_T28 l0 x7_1).f0), .int .u64 ((rd_T28 l0 x7_1).f1), .int .u64 0, .string (⟨#[]⟩ : ByteArray), .string (⟨#[]⟩ : ByteArray)]) ?_ 2 _ rfl; (with_reducible repeat (first | refine blk_drewN ?_ _ | refine blk_drew ?_ | refine blk_alloc ?_ _)); refine blk_put (cs := #[.int .u64 ((rd_T28 l0 x7_1).f0), .int .u64 0, .int .u64 0, .string (⟨#[]⟩ : ByteArray), .string (⟨#[]⟩ : ByteArray)]) ?_ 1 _ rfl; (with_reducible repeat (first | refine blk_drewN ?_ _ | refine blk_drew ?_ | refine blk_alloc ?_ _)); refine blk_put (cs := #[.int .u64 0, .int .u64 0, .int .u64 0, .string (⟨#[]⟩ : ByteArray), .string (⟨#[]⟩ : ByteArray)]) ?_ 0 _ rfl; (with_reducible repeat (first | refine blk_drewN ?_ _ | refine blk_drew ?_ | refine blk_alloc ?_ _)); exact BK134.out) hb); have n2_ := Aside0.mk (below_step (by repeat (first | (with_reducible first | exact HB.out | apply below_alloc | apply pw_below_drewN | apply below_drew1 | refine below_set ?_ GE134.out) | exact HB.out)) hb); clear BK134; clear HB; have HO137 := n0_; have BK134 := n1_; have HB := n2_; clear n0_ n1_ n2_; clear hb ho12; obtain ⟨Ao13, co13, eo13⟩ := Kd.R_slice HO137.out; subst eo13) | ((with_reducible refine gate_callee (f := 10) rfl ?_); refine goesL_ (some 16) rfl rfl Tryd.func10 (by kernel_rfl) rfl #[.slice Ao13 y135.length co13] rfl (by (try simp only [List.map_toArray, List.map_cons, List.map_nil]); first | done | rfl | (simp only [List.length_drop, List.length_take]; rfl)) ?_; (with_reducible refine (laws_svShort.calls k1 _ _ y135 true _ ?side1 ?side2 A5.out).mono ?_); (case side1 => repeat (first | exact (Kd.R_reads' HO137.out).2.2 | (with_reducible refine Kd.C_alloc ?_ _) | (with_reducible refine Kd.C_drewN ?_ _) | (with_reducible refine Kd.C_drew ?_))); (case side2 => exact (Kd.R_reads' HO137.out).2.1); rintro e w' ⟨rfl, ⟨nd, rfl⟩⟩; refine ⟨_, rfl, ?_⟩; have hcz14_0 : w11.cell? ⟨gb134, 0, none⟩ = some (.int .u64 ((rd_T28 l0 x7_1).f0)) := (blk_cell BK134.out 0).trans rfl; have hcz14_1 : w11.cell? ⟨gb134, 1, none⟩ = some (.int .u64 ((rd_T28 l0 x7_1).f1)) := (blk_cell BK134.out 1).trans rfl; have hcz14_2 : w11.cell? ⟨gb134, 2, none⟩ = some (.int .u64 ((rd_T28 l0 x7_1).f2)) := (blk_cell BK134.out 2).trans rfl; have hcz14_3 : w11.cell? ⟨gb134, 3, none⟩ = some (.string ((rd_T28 l0 x7_1).f3)) := (blk_cell BK134.out 3).trans rfl; have hcz14_4 : w11.cell? ⟨gb134, 4, none⟩ = some (.string ((rd_T28 l0 x7_1).f4)) := (blk_cell BK134.out 4).trans rfl; have hfz14_0 := blk_frozen BK134.out 0; have hfz14_1 := blk_frozen BK134.out 1; have hfz14_2 := blk_frozen BK134.out 2; have hfz14_3 := blk_frozen BK134.out 3; have hfz14_4 := blk_frozen BK134.out 4) | (go_at_call 35; (with_reducible refine (spec_Good.calls k1 ((rd_T28 l0 x7_1).f0) ((rd_T28 l0 x7_1).f1) ((rd_T28 l0 x7_1).f2) ((rd_T28 l0 x7_1).f3) ((rd_T28 l0 x7_1).f4) true _ A7.out).mono ?_); rintro e w15 ⟨rfl, hb⟩; have n0_ := Aside0.mk (Kd.R_below (by (with_reducible repeat (first | apply Kd.R_alloc | apply Kd.R_drewN | apply Kd.R_drew)); exact HO137.out) hb); have n1_ := Aside0.mk (blk_below (g := gb134) (o := .cells #[.int .u64 ((rd_T28 l0 x7_1).f0), .int .u64 ((rd_T28 l0 x7_1).f1), .int .u64 ((rd_T28 l0 x7_1).f2), .string ((rd_T28 l0 x7_1).f3), .string ((rd_T28 l0 x7_1).f4)] 28 (0, 0)) (by (with_reducible repeat (first | refine blk_drewN ?_ _ | refine blk_drew ?_ | refine blk_alloc ?_ _)); exact BK134.out) hb); have n2_ := Aside0.mk (below_step (by repeat (first | (with_reducible first | exact HB.out | apply below_alloc | apply pw_below_drewN | apply below_drew1 | refine below_set ?_ GE134.out) | exact HB.out)) hb); clear HO137; clear BK134; clear HB; have HO137 := n0_; have BK134 := n1_; have HB := n2_; clear n0_ n1_ n2_; (try clear hb); (try clear hb2); (try clear hk); (try clear hi)))
                go_roundg k1
                case measure => have := HK1.out; omega
                case rel => exact ⟨(wrap64 (x7_1 + 1)), (by first | rfl | (simp; done) | (simp [*]; done)), H', ⟨by have := HK1.out; omega⟩, ⟨by repeat (first | (with_reducible first | exact HB.out | apply below_alloc | apply pw_below_drewN | apply below_drew1 | refine below_set ?_ GE134.out) | exact HB.out)⟩⟩
              · replace c8 := Bool.eq_false_iff.mpr c8
                subst c8
                have H1 : (some false) = some r := by rw [if_neg (show ¬ (false = true) by decide)] at H; exact H
                clear H
                have H := H1
                clear H1
                obtain rfl := Option.some.inj H
                have p133 : 0 ≤ (x7_1 : Int) := of_decide_eq_true (by first | (with_reducible assumption) | assumption)
                have q133 : x7_1 < (l0.length : Int) := of_decide_eq_true (by first | (with_reducible assumption) | assumption)
                obtain ⟨ad133, e133, hx133_0, hx133_1, hx133_2, hx133_3, hx133_4⟩ := at_T28 HR0.out x7_1 p133 q133
                cases e133
                replace hx133_0 := (HB.out.cell (World.block_lt_of_cell? w _ hx133_0)).trans hx133_0
                replace hx133_1 := (HB.out.cell (World.block_lt_of_cell? w _ hx133_1)).trans hx133_1
                replace hx133_2 := (HB.out.cell (World.block_lt_of_cell? w _ hx133_2)).trans hx133_2
                replace hx133_3 := (HB.out.cell (World.block_lt_of_cell? w _ hx133_3)).trans hx133_3
                replace hx133_4 := (HB.out.cell (World.block_lt_of_cell? w _ hx133_4)).trans hx133_4
                replace p133 := eq_true p133
                replace q133 := eq_true q133
                go_wp2_with (first | ((with_reducible refine gate_dst (N := 4) rfl ?_); refine box_event ?hg (N := 4) ?hd (cs := #[.int .u64 0, .int .u64 0, .int .u64 0, .string (⟨#[]⟩ : ByteArray), .string (⟨#[]⟩ : ByteArray)]) (t := 28) ?hr ?_; (case hd => rfl); (case hg => rfl); (case hr => first | (go_simp; done) | (go_simp; rfl) | (go_simp; simp [u8w]; done)); intro gb134 hg w16 hbox hb; have n0_ := Aside0.mk (below_step (by repeat (first | (with_reducible first | exact HB.out | apply below_alloc | apply pw_below_drewN | apply below_drew1) | exact HB.out)) hb); have n1_ := Aside0.mk (hbox); have n2_ := Aside0.mk ((by rw [hg]; exact (below_size (by repeat (first | (with_reducible first | exact HB.out | apply below_alloc | apply pw_below_drewN | apply below_drew1) | exact HB.out))) : w.heap.size ≤ gb134)); have n3_ := Aside0.mk ((by rw [hg]; exact (below_size (by repeat (first | (with_reducible first | exact HB.out | apply below_alloc | apply pw_below_drewN | apply below_drew1) | exact HB.out))) : w.heap.size ≤ gb134)); clear HB; have HB := n0_; have BK134 := n1_; have GW134 := n2_; have GE134 := n3_; clear n0_ n1_ n2_ n3_; clear hb hbox hg; have hcz17_0 : w16.cell? ⟨gb134, 0, none⟩ = some (.int .u64 0) := (blk_cell BK134.out 0).trans rfl; have hcz17_1 : w16.cell? ⟨gb134, 1, none⟩ = some (.int .u64 0) := (blk_cell BK134.out 1).trans rfl; have hcz17_2 : w16.cell? ⟨gb134, 2, none⟩ = some (.int .u64 0) := (blk_cell BK134.out 2).trans rfl; have hcz17_3 : w16.cell? ⟨gb134, 3, none⟩ = some (.string (⟨#[]⟩ : ByteArray)) := (blk_cell BK134.out 3).trans rfl; have hcz17_4 : w16.cell? ⟨gb134, 4, none⟩ = some (.string (⟨#[]⟩ : ByteArray)) := (blk_cell BK134.out 4).trans rfl; have hfz17_0 := blk_frozen BK134.out 0; have hfz17_1 := blk_frozen BK134.out 1; have hfz17_2 := blk_frozen BK134.out 2; have hfz17_3 := blk_frozen BK134.out 3; have hfz17_4 := blk_frozen BK134.out 4) | ((with_reducible refine gate_dst (N := 15) rfl ?_); refine Kd.R_lit Kd.string _ 9 ?hg (N := 15) ?hd (xs := ([(rd_T28 l0 x7_1).f3, (rd_T28 l0 x7_1).f4] : List ByteArray)) (inner := [.string ((rd_T28 l0 x7_1).f3), .string ((rd_T28 l0 x7_1).f4)]) (ok := fun _ => True) (okp := fun _ => True) ?hr ?hp (fun _ hk => hk) trivial (Below.refl _ _) (Nat.le_refl _) (by simp) ?_; (case hd => rfl); (case hg => rfl); (case hr => first | (go_simp; done) | (go_simp; rfl) | (go_simp; simp [u8w]; done)); (case hp => exact (Reps.one (show Kd.M Kd.string _ _ _ ((rd_T28 l0 x7_1).f3) [.string ((rd_T28 l0 x7_1).f3)] from rfl) (Reps.one (show Kd.M Kd.string _ _ _ ((rd_T28 l0 x7_1).f4) [.string ((rd_T28 l0 x7_1).f4)] from rfl) (Reps.none _ _)))); intro v136 w18 ho19 hb hg_ hnew_; clear hg_ hnew_; (first | rw [← Ny135.out] at ho19 | (simp only [Int.reduceToNat] at ho19; rw [← Ny135.out] at ho19)); have n0_ := Aside0.mk (Kd.R_lower ho19 (below_size (by repeat (first | (with_reducible first | exact HB.out | apply below_alloc | apply pw_below_drewN | apply below_drew1 | refine below_set ?_ GE134.out) | exact HB.out)))); have n1_ := Aside0.mk (blk_below (g := gb134) (o := .cells #[.int .u64 ((rd_T28 l0 x7_1).f0), .int .u64 ((rd_T28 l0 x7_1).f1), .int .u64 ((rd_T28 l0 x7_1).f2), .string ((rd_T28 l0 x7_1).f3), .string ((rd_T28 l0 x7_1).f4)] 28 (0, 0)) (by (with_reducible repeat (first | refine blk_drewN ?_ _ | refine blk_drew ?_ | refine blk_alloc ?_ _)); refine blk_put (cs := #[.int .u64 ((rd_T28 l0 x7_1).f0), .int .u64 ((rd_T28 l0 x7_1).f1), .int .u64 ((rd_T28 l0 x7_1).f2), .string ((rd_T28 l0 x7_1).f3), .string (⟨#[]⟩ : ByteArray)]) ?_ 4 _ rfl; (with_reducible repeat (first | refine blk_drewN ?_ _ | refine blk_drew ?_ | refine blk_alloc ?_ _)); refine blk_put (cs := #[.int .u64 ((rd_T28 l0 x7_1).f0), .int .u64 ((rd_T28 l0 x7_1).f1), .int .u64 ((rd_T28 l0 x7_1).f2), .string (⟨#[]⟩ : ByteArray), .string (⟨#[]⟩ : ByteArray)]) ?_ 3 _ rfl; (with_reducible repeat (first | refine blk_drewN ?_ _ | refine blk_drew ?_ | refine blk_alloc ?_ _)); refine blk_put (cs := #[.int .u64 ((rd_T28 l0 x7_1).f0), .int .u64 ((rd_T28 l0 x7_1).f1), .int .u64 0, .string (⟨#[]⟩ : ByteArray), .string (⟨#[]⟩ : ByteArray)]) ?_ 2 _ rfl; (with_reducible repeat (first | refine blk_drewN ?_ _ | refine blk_drew ?_ | refine blk_alloc ?_ _)); refine blk_put (cs := #[.int .u64 ((rd_T28 l0 x7_1).f0), .int .u64 0, .int .u64 0, .string (⟨#[]⟩ : ByteArray), .string (⟨#[]⟩ : ByteArray)]) ?_ 1 _ rfl; (with_reducible repeat (first | refine blk_drewN ?_ _ | refine blk_drew ?_ | refine blk_alloc ?_ _)); refine blk_put (cs := #[.int .u64 0, .int .u64 0, .int .u64 0, .string (⟨#[]⟩ : ByteArray), .string (⟨#[]⟩ : ByteArray)]) ?_ 0 _ rfl; (with_reducible repeat (first | refine blk_drewN ?_ _ | refine blk_drew ?_ | refine blk_alloc ?_ _)); exact BK134.out) hb); have n2_ := Aside0.mk (below_step (by repeat (first | (with_reducible first | exact HB.out | apply below_alloc | apply pw_below_drewN | apply below_drew1 | refine below_set ?_ GE134.out) | exact HB.out)) hb); clear BK134; clear HB; have HO137 := n0_; have BK134 := n1_; have HB := n2_; clear n0_ n1_ n2_; clear hb ho19; obtain ⟨Ao20, co20, eo20⟩ := Kd.R_slice HO137.out; subst eo20) | ((with_reducible refine gate_callee (f := 10) rfl ?_); refine goesL_ (some 16) rfl rfl Tryd.func10 (by kernel_rfl) rfl #[.slice Ao20 y135.length co20] rfl (by (try simp only [List.map_toArray, List.map_cons, List.map_nil]); first | done | rfl | (simp only [List.length_drop, List.length_take]; rfl)) ?_; (with_reducible refine (laws_svShort.calls k1 _ _ y135 true _ ?side1 ?side2 A5.out).mono ?_); (case side1 => repeat (first | exact (Kd.R_reads' HO137.out).2.2 | (with_reducible refine Kd.C_alloc ?_ _) | (with_reducible refine Kd.C_drewN ?_ _) | (with_reducible refine Kd.C_drew ?_))); (case side2 => exact (Kd.R_reads' HO137.out).2.1); rintro e w' ⟨rfl, ⟨nd, rfl⟩⟩; refine ⟨_, rfl, ?_⟩; have hcz21_0 : w18.cell? ⟨gb134, 0, none⟩ = some (.int .u64 ((rd_T28 l0 x7_1).f0)) := (blk_cell BK134.out 0).trans rfl; have hcz21_1 : w18.cell? ⟨gb134, 1, none⟩ = some (.int .u64 ((rd_T28 l0 x7_1).f1)) := (blk_cell BK134.out 1).trans rfl; have hcz21_2 : w18.cell? ⟨gb134, 2, none⟩ = some (.int .u64 ((rd_T28 l0 x7_1).f2)) := (blk_cell BK134.out 2).trans rfl; have hcz21_3 : w18.cell? ⟨gb134, 3, none⟩ = some (.string ((rd_T28 l0 x7_1).f3)) := (blk_cell BK134.out 3).trans rfl; have hcz21_4 : w18.cell? ⟨gb134, 4, none⟩ = some (.string ((rd_T28 l0 x7_1).f4)) := (blk_cell BK134.out 4).trans rfl; have hfz21_0 := blk_frozen BK134.out 0; have hfz21_1 := blk_frozen BK134.out 1; have hfz21_2 := blk_frozen BK134.out 2; have hfz21_3 := blk_frozen BK134.out 3; have hfz21_4 := blk_frozen BK134.out 4) | (go_at_call 35; (with_reducible refine (spec_Good.calls k1 ((rd_T28 l0 x7_1).f0) ((rd_T28 l0 x7_1).f1) ((rd_T28 l0 x7_1).f2) ((rd_T28 l0 x7_1).f3) ((rd_T28 l0 x7_1).f4) false _ A7.out).mono ?_); rintro e w22 ⟨rfl, hb⟩; have n0_ := Aside0.mk (Kd.R_below (by (with_reducible repeat (first | apply Kd.R_alloc | apply Kd.R_drewN | apply Kd.R_drew)); exact HO137.out) hb); have n1_ := Aside0.mk (blk_below (g := gb134) (o := .cells #[.int .u64 ((rd_T28 l0 x7_1).f0), .int .u64 ((rd_T28 l0 x7_1).f1), .int .u64 ((rd_T28 l0 x7_1).f2), .string ((rd_T28 l0 x7_1).f3), .string ((rd_T28 l0 x7_1).f4)] 28 (0, 0)) (by (with_reducible repeat (first | refine blk_drewN ?_ _ | refine blk_drew ?_ | refine blk_alloc ?_ _)); exact BK134.out) hb); have n2_ := Aside0.mk (below_step (by repeat (first | (with_reducible first | exact HB.out | apply below_alloc | apply pw_below_drewN | apply below_drew1 | refine below_set ?_ GE134.out) | exact HB.out)) hb); clear HO137; clear BK134; clear HB; have HO137 := n0_; have BK134 := n1_; have HB := n2_; clear n0_ n1_ n2_; (try clear hb); (try clear hb2); (try clear hk); (try clear hi)))
                go_ret
                exact ⟨by first | rfl | (simp [errW_none, errW_some] <;> rfl) | (simp [*, errW_none, errW_some] <;> rfl) | (simp [bneNil]; done), by repeat (first | (with_reducible first | exact HB.out | apply below_alloc | apply pw_below_drewN | apply below_drew1 | refine below_set ?_ GE134.out) | exact HB.out)⟩
            · replace c6 := Bool.eq_false_iff.mpr c6
              subst c6
              have H1 : (some false) = some r := by rw [if_neg (show ¬ (false = true) by decide)] at H; exact H
              clear H
              have H := H1
              clear H1
              obtain rfl := Option.some.inj H
              have p133 : 0 ≤ (x7_1 : Int) := of_decide_eq_true (by first | (with_reducible assumption) | assumption)
              have q133 : x7_1 < (l0.length : Int) := of_decide_eq_true (by first | (with_reducible assumption) | assumption)
              obtain ⟨ad133, e133, hx133_0, hx133_1, hx133_2, hx133_3, hx133_4⟩ := at_T28 HR0.out x7_1 p133 q133
              cases e133
              replace hx133_0 := (HB.out.cell (World.block_lt_of_cell? w _ hx133_0)).trans hx133_0
              replace hx133_1 := (HB.out.cell (World.block_lt_of_cell? w _ hx133_1)).trans hx133_1
              replace hx133_2 := (HB.out.cell (World.block_lt_of_cell? w _ hx133_2)).trans hx133_2
              replace hx133_3 := (HB.out.cell (World.block_lt_of_cell? w _ hx133_3)).trans hx133_3
              replace hx133_4 := (HB.out.cell (World.block_lt_of_cell? w _ hx133_4)).trans hx133_4
              replace p133 := eq_true p133
              replace q133 := eq_true q133
              go_wp2_with (first | ((with_reducible refine gate_dst (N := 4) rfl ?_); refine box_event ?hg (N := 4) ?hd (cs := #[.int .u64 0, .int .u64 0, .int .u64 0, .string (⟨#[]⟩ : ByteArray), .string (⟨#[]⟩ : ByteArray)]) (t := 28) ?hr ?_; (case hd => rfl); (case hg => rfl); (case hr => first | (go_simp; done) | (go_simp; rfl) | (go_simp; simp [u8w]; done)); intro gb134 hg w23 hbox hb; have n0_ := Aside0.mk (below_step (by repeat (first | (with_reducible first | exact HB.out | apply below_alloc | apply pw_below_drewN | apply below_drew1) | exact HB.out)) hb); have n1_ := Aside0.mk (hbox); have n2_ := Aside0.mk ((by rw [hg]; exact (below_size (by repeat (first | (with_reducible first | exact HB.out | apply below_alloc | apply pw_below_drewN | apply below_drew1) | exact HB.out))) : w.heap.size ≤ gb134)); have n3_ := Aside0.mk ((by rw [hg]; exact (below_size (by repeat (first | (with_reducible first | exact HB.out | apply below_alloc | apply pw_below_drewN | apply below_drew1) | exact HB.out))) : w.heap.size ≤ gb134)); clear HB; have HB := n0_; have BK134 := n1_; have GW134 := n2_; have GE134 := n3_; clear n0_ n1_ n2_ n3_; clear hb hbox hg; have hcz24_0 : w23.cell? ⟨gb134, 0, none⟩ = some (.int .u64 0) := (blk_cell BK134.out 0).trans rfl; have hcz24_1 : w23.cell? ⟨gb134, 1, none⟩ = some (.int .u64 0) := (blk_cell BK134.out 1).trans rfl; have hcz24_2 : w23.cell? ⟨gb134, 2, none⟩ = some (.int .u64 0) := (blk_cell BK134.out 2).trans rfl; have hcz24_3 : w23.cell? ⟨gb134, 3, none⟩ = some (.string (⟨#[]⟩ : ByteArray)) := (blk_cell BK134.out 3).trans rfl; have hcz24_4 : w23.cell? ⟨gb134, 4, none⟩ = some (.string (⟨#[]⟩ : ByteArray)) := (blk_cell BK134.out 4).trans rfl; have hfz24_0 := blk_frozen BK134.out 0; have hfz24_1 := blk_frozen BK134.out 1; have hfz24_2 := blk_frozen BK134.out 2; have hfz24_3 := blk_frozen BK134.out 3; have hfz24_4 := blk_frozen BK134.out 4) | ((with_reducible refine gate_dst (N := 15) rfl ?_); refine Kd.R_lit Kd.string _ 9 ?hg (N := 15) ?hd (xs := ([(rd_T28 l0 x7_1).f3, (rd_T28 l0 x7_1).f4] : List ByteArray)) (inner := [.string ((rd_T28 l0 x7_1).f3), .string ((rd_T28 l0 x7_1).f4)]) (ok := fun _ => True) (okp := fun _ => True) ?hr ?hp (fun _ hk => hk) trivial (Below.refl _ _) (Nat.le_refl _) (by simp) ?_; (case hd => rfl); (case hg => rfl); (case hr => first | (go_simp; done) | (go_simp; rfl) | (go_simp; simp [u8w]; done)); (case hp => exact (Reps.one (show Kd.M Kd.string _ _ _ ((rd_T28 l0 x7_1).f3) [.string ((rd_T28 l0 x7_1).f3)] from rfl) (Reps.one (show Kd.M Kd.string _ _ _ ((rd_T28 l0 x7_1).f4) [.string ((rd_T28 l0 x7_1).f4)] from rfl) (Reps.none _ _)))); intro v136 w25 ho26 hb hg_ hnew_; clear hg_ hnew_; (first | rw [← Ny135.out] at ho26 | (simp only [Int.reduceToNat] at ho26; rw [← Ny135.out] at ho26)); have n0_ := Aside0.mk (Kd.R_lower ho26 (below_size (by repeat (first | (with_reducible first | exact HB.out | apply below_alloc | apply pw_below_drewN | apply below_drew1 | refine below_set ?_ GE134.out) | exact HB.out)))); have n1_ := Aside0.mk (blk_below (g := gb134) (o := .cells #[.int .u64 ((rd_T28 l0 x7_1).f0), .int .u64 ((rd_T28 l0 x7_1).f1), .int .u64 ((rd_T28 l0 x7_1).f2), .string ((rd_T28 l0 x7_1).f3), .string ((rd_T28 l0 x7_1).f4)] 28 (0, 0)) (by (with_reducible repeat (first | refine blk_drewN ?_ _ | refine blk_drew ?_ | refine blk_alloc ?_ _)); refine blk_put (cs := #[.int .u64 ((rd_T28 l0 x7_1).f0), .int .u64 ((rd_T28 l0 x7_1).f1), .int .u64 ((rd_T28 l0 x7_1).f2), .string ((rd_T28 l0 x7_1).f3), .string (⟨#[]⟩ : ByteArray)]) ?_ 4 _ rfl; (with_reducible repeat (first | refine blk_drewN ?_ _ | refine blk_drew ?_ | refine blk_alloc ?_ _)); refine blk_put (cs := #[.int .u64 ((rd_T28 l0 x7_1).f0), .int .u64 ((rd_T28 l0 x7_1).f1), .int .u64 ((rd_T28 l0 x7_1).f2), .string (⟨#[]⟩ : ByteArray), .string (⟨#[]⟩ : ByteArray)]) ?_ 3 _ rfl; (with_reducible repeat (first | refine blk_drewN ?_ _ | refine blk_drew ?_ | refine blk_alloc ?_ _)); refine blk_put (cs := #[.int .u64 ((rd_T28 l0 x7_1).f0), .int .u64 ((rd_T28 l0 x7_1).f1), .int .u64 0, .string (⟨#[]⟩ : ByteArray), .string (⟨#[]⟩ : ByteArray)]) ?_ 2 _ rfl; (with_reducible repeat (first | refine blk_drewN ?_ _ | refine blk_drew ?_ | refine blk_alloc ?_ _)); refine blk_put (cs := #[.int .u64 ((rd_T28 l0 x7_1).f0), .int .u64 0, .int .u64 0, .string (⟨#[]⟩ : ByteArray), .string (⟨#[]⟩ : ByteArray)]) ?_ 1 _ rfl; (with_reducible repeat (first | refine blk_drewN ?_ _ | refine blk_drew ?_ | refine blk_alloc ?_ _)); refine blk_put (cs := #[.int .u64 0, .int .u64 0, .int .u64 0, .string (⟨#[]⟩ : ByteArray), .string (⟨#[]⟩ : ByteArray)]) ?_ 0 _ rfl; (with_reducible repeat (first | refine blk_drewN ?_ _ | refine blk_drew ?_ | refine blk_alloc ?_ _)); exact BK134.out) hb); have n2_ := Aside0.mk (below_step (by repeat (first | (with_reducible first | exact HB.out | apply below_alloc | apply pw_below_drewN | apply below_drew1 | refine below_set ?_ GE134.out) | exact HB.out)) hb); clear BK134; clear HB; have HO137 := n0_; have BK134 := n1_; have HB := n2_; clear n0_ n1_ n2_; clear hb ho26; obtain ⟨Ao27, co27, eo27⟩ := Kd.R_slice HO137.out; subst eo27) | ((with_reducible refine gate_callee (f := 10) rfl ?_); refine goesL_ (some 16) rfl rfl Tryd.func10 (by kernel_rfl) rfl #[.slice Ao27 y135.length co27] rfl (by (try simp only [List.map_toArray, List.map_cons, List.map_nil]); first | done | rfl | (simp only [List.length_drop, List.length_take]; rfl)) ?_; (with_reducible refine (laws_svShort.calls k1 _ _ y135 false _ ?side1 ?side2 A5.out).mono ?_); (case side1 => repeat (first | exact (Kd.R_reads' HO137.out).2.2 | (with_reducible refine Kd.C_alloc ?_ _) | (with_reducible refine Kd.C_drewN ?_ _) | (with_reducible refine Kd.C_drew ?_))); (case side2 => exact (Kd.R_reads' HO137.out).2.1); rintro e w' ⟨rfl, ⟨nd, rfl⟩⟩; refine ⟨_, rfl, ?_⟩))
              go_ret
              exact ⟨by first | rfl | (simp [errW_none, errW_some] <;> rfl) | (simp [*, errW_none, errW_some] <;> rfl) | (simp [bneNil]; done), by repeat (first | (with_reducible first | exact HB.out | apply below_alloc | apply pw_below_drewN | apply below_drew1 | refine below_set ?_ GE134.out) | exact HB.out)⟩
          · rw [if_neg c4] at H
            exact absurd H (by simp)
        · rw [if_neg c3] at H
          exact absurd H (by simp)
      · rw [if_neg c2] at H
        have c2b0 : decide (x7_1 < (l0.length : Int)) = false := decide_eq_false c2
        clear c2
        obtain rfl := Option.some.inj H
        go_wp2
        go_ret
        exact ⟨by first | rfl | (simp [errW_none, errW_some] <;> rfl) | (simp [*, errW_none, errW_some] <;> rfl) | (simp [bneNil]; done), by repeat (first | (with_reducible first | exact HB.out | apply below_alloc | apply pw_below_drewN | apply below_drew1) | exact HB.out)⟩

def spec_Bare.f (a0_0 : Int) (a0_1 : Int) (a0_2 : Int) (a0_3 : ByteArray) (a0_4 : ByteArray) : Option (Int × Int × Int × ByteArray × ByteArray) := some (a0_0, a0_1, a0_2, (⟨#[]⟩ : ByteArray), (⟨#[]⟩ : ByteArray))

set_option maxHeartbeats 80000000 in
set_option maxRecDepth 100000 in
theorem spec_Bare.calls (a0_0 : Int) (a0_1 : Int) (a0_2 : Int) (a0_3 : ByteArray) (a0_4 : ByteArray) (r1 : Int) (r2 : Int) (r3 : Int) (r4 : ByteArray) (r5 : ByteArray) (w : World) (h : spec_Bare.f a0_0 a0_1 a0_2 a0_3 a0_4 = some (r1, r2, r3, r4, r5)) :
    Calls Tryd.prog 22 #[.agg #[.int .u64 a0_0, .int .u64 a0_1, .int .u64 a0_2, .string a0_3, .string a0_4]] w fun e w' => e = .returned (.agg #[.int .u64 r1, .int .u64 r2, .int .u64 r3, .string r4, .string r5]) ∧ Below w.heap.size w w' := by
  have hu28 := Tryd.underlying28
  have HB := Aside0.mk (Below.refl w.heap.size w)
  have H : (some (a0_0, a0_1, a0_2, (⟨#[]⟩ : ByteArray), (⟨#[]⟩ : ByteArray))) = some (r1, r2, r3, r4, r5) := h
  clear h
  simp only [Option.some.injEq, Prod.mk.injEq] at H
  obtain ⟨rfl, rfl, rfl, rfl, rfl⟩ := H
  go_enter Tryd.func22, Tryd.ntmps22
  go_wp2_with (first | ((with_reducible refine gate_dst (N := 1) rfl ?_); refine box_event ?hg (N := 1) ?hd (cs := #[.int .u64 a0_0, .int .u64 a0_1, .int .u64 a0_2, .string a0_3, .string a0_4]) (t := 28) ?hr ?_; (case hd => rfl); (case hg => rfl); (case hr => first | (go_simp; done) | (go_simp; rfl) | (go_simp; simp [u8w]; done)); intro gb140 hg w2 hbox hb; have n0_ := Aside0.mk (below_step (by repeat (first | (with_reducible first | exact HB.out | apply below_alloc | apply pw_below_drewN | apply below_drew1) | exact HB.out)) hb); have n1_ := Aside0.mk (hbox); have n2_ := Aside0.mk ((by rw [hg]; exact (below_size (by repeat (first | (with_reducible first | exact HB.out | apply below_alloc | apply pw_below_drewN | apply below_drew1) | exact HB.out))) : w.heap.size ≤ gb140)); have n3_ := Aside0.mk ((by rw [hg]; exact (below_size (by repeat (first | (with_reducible first | exact HB.out | apply below_alloc | apply pw_below_drewN | apply below_drew1) | exact HB.out))) : w.heap.size ≤ gb140)); clear HB; have HB := n0_; have BK140 := n1_; have GW140 := n2_; have GE140 := n3_; clear n0_ n1_ n2_ n3_; clear hb hbox hg) | ((with_reducible refine gate_dst (N := 2) rfl ?_); refine box_event ?hg (N := 2) ?hd (cs := #[.int .u64 0, .int .u64 0, .int .u64 0, .string (⟨#[]⟩ : ByteArray), .string (⟨#[]⟩ : ByteArray)]) (t := 28) ?hr ?_; (case hd => rfl); (case hg => rfl); (case hr => first | (go_simp; done) | (go_simp; rfl) | (go_simp; simp [u8w]; done)); intro gb141 hg w3 hbox hb; have n0_ := Aside0.mk (blk_below (g := gb140) (o := .cells #[.int .u64 a0_0, .int .u64 a0_1, .int .u64 a0_2, .string a0_3, .string a0_4] 28 (0, 0)) (by (with_reducible repeat (first | refine blk_drewN ?_ _ | refine blk_drew ?_ | refine blk_alloc ?_ _)); exact BK140.out) hb); have n1_ := Aside0.mk (below_step (by repeat (first | (with_reducible first | exact HB.out | apply below_alloc | apply pw_below_drewN | apply below_drew1 | refine below_set ?_ GE140.out) | exact HB.out)) hb); have n2_ := Aside0.mk (hbox); have n3_ := Aside0.mk ((by rw [hg]; exact (below_size (by repeat (first | (with_reducible first | exact HB.out | apply below_alloc | apply pw_below_drewN | apply below_drew1 | refine below_set ?_ GE140.out) | exact HB.out))) : w.heap.size ≤ gb141)); have n4_ := Aside0.mk ((by rw [hg]; exact (below_size (by repeat (first | (with_reducible first | exact HB.out | apply below_alloc | apply pw_below_drewN | apply below_drew1 | refine below_set ?_ GE140.out) | exact HB.out))) : w.heap.size ≤ gb141)); have n5_ := Aside0.mk ((by rw [hg]; exact Nat.ne_of_lt (blk_lt (g := gb140) (o := .cells #[.int .u64 a0_0, .int .u64 a0_1, .int .u64 a0_2, .string a0_3, .string a0_4] 28 (0, 0)) (by (with_reducible repeat (first | refine blk_drewN ?_ _ | refine blk_drew ?_ | refine blk_alloc ?_ _)); exact BK140.out)) : gb140 ≠ gb141)); have n6_ := Aside0.mk ((by rw [hg]; exact Nat.ne_of_gt (blk_lt (g := gb140) (o := .cells #[.int .u64 a0_0, .int .u64 a0_1, .int .u64 a0_2, .string a0_3, .string a0_4] 28 (0, 0)) (by (with_reducible repeat (first | refine blk_drewN ?_ _ | refine blk_drew ?_ | refine blk_alloc ?_ _)); exact BK140.out)) : gb141 ≠ gb140)); clear BK140; clear HB; have BK140 := n0_; have HB := n1_; have BK141 := n2_; have GW141 := n3_; have GE141 := n4_; have NB140_141 := n5_; have NB141_140 := n6_; clear n0_ n1_ n2_ n3_ n4_ n5_ n6_; clear hb hbox hg; have hnb4 := NB140_141.out; have hnc4 := NB141_140.out; have hcz5_0 : w3.cell? ⟨gb140, 0, none⟩ = some (.int .u64 a0_0) := (blk_cell BK140.out 0).trans rfl; have hcz5_1 : w3.cell? ⟨gb140, 1, none⟩ = some (.int .u64 a0_1) := (blk_cell BK140.out 1).trans rfl; have hcz5_2 : w3.cell? ⟨gb140, 2, none⟩ = some (.int .u64 a0_2) := (blk_cell BK140.out 2).trans rfl; have hcz5_3 : w3.cell? ⟨gb140, 3, none⟩ = some (.string a0_3) := (blk_cell BK140.out 3).trans rfl; have hcz5_4 : w3.cell? ⟨gb140, 4, none⟩ = some (.string a0_4) := (blk_cell BK140.out 4).trans rfl; have hfz5_0 := blk_frozen BK140.out 0; have hfz5_1 := blk_frozen BK140.out 1; have hfz5_2 := blk_frozen BK140.out 2; have hfz5_3 := blk_frozen BK140.out 3; have hfz5_4 := blk_frozen BK140.out 4; have hcz6_0 : w3.cell? ⟨gb141, 0, none⟩ = some (.int .u64 0) := (blk_cell BK141.out 0).trans rfl; have hcz6_1 : w3.cell? ⟨gb141, 1, none⟩ = some (.int .u64 0) := (blk_cell BK141.out 1).trans rfl; have hcz6_2 : w3.cell? ⟨gb141, 2, none⟩ = some (.int .u64 0) := (blk_cell BK141.out 2).trans rfl; have hcz6_3 : w3.cell? ⟨gb141, 3, none⟩ = some (.string (⟨#[]⟩ : ByteArray)) := (blk_cell BK141.out 3).trans rfl; have hcz6_4 : w3.cell? ⟨gb141, 4, none⟩ = some (.string (⟨#[]⟩ : ByteArray)) := (blk_cell BK141.out 4).trans rfl; have hfz6_0 := blk_frozen BK141.out 0; have hfz6_1 := blk_frozen BK141.out 1; have hfz6_2 := blk_frozen BK141.out 2; have hfz6_3 := blk_frozen BK141.out 3; have hfz6_4 := blk_frozen BK141.out 4))
  refine bodyPost_ret (results_cell_row rfl _ _ gb141 28 #[.int .u64 a0_0, .int .u64 a0_1, .int .u64 a0_2, .string (⟨#[]⟩ : ByteArray), .string (⟨#[]⟩ : ByteArray)] (0, 0) _ rfl (by (with_reducible repeat (first | refine blk_drewN ?_ _ | refine blk_drew ?_ | refine blk_alloc ?_ _)); refine blk_put (cs := #[.int .u64 a0_0, .int .u64 a0_1, .int .u64 a0_2, .string (⟨#[]⟩ : ByteArray), .string (⟨#[]⟩ : ByteArray)]) ?_ 4 _ rfl; (with_reducible repeat (first | refine blk_drewN ?_ _ | refine blk_drew ?_ | refine blk_alloc ?_ _)); refine blk_put (cs := #[.int .u64 a0_0, .int .u64 a0_1, .int .u64 a0_2, .string (⟨#[]⟩ : ByteArray), .string (⟨#[]⟩ : ByteArray)]) ?_ 3 _ rfl; (with_reducible repeat (first | refine blk_drewN ?_ _ | refine blk_drew ?_ | refine blk_alloc ?_ _)); refine blk_put (cs := #[.int .u64 a0_0, .int .u64 a0_1, .int .u64 0, .string (⟨#[]⟩ : ByteArray), .string (⟨#[]⟩ : ByteArray)]) ?_ 2 _ rfl; (with_reducible repeat (first | refine blk_drewN ?_ _ | refine blk_drew ?_ | refine blk_alloc ?_ _)); refine blk_put (cs := #[.int .u64 a0_0, .int .u64 0, .int .u64 0, .string (⟨#[]⟩ : ByteArray), .string (⟨#[]⟩ : ByteArray)]) ?_ 1 _ rfl; (with_reducible repeat (first | refine blk_drewN ?_ _ | refine blk_drew ?_ | refine blk_alloc ?_ _)); refine blk_put (cs := #[.int .u64 0, .int .u64 0, .int .u64 0, .string (⟨#[]⟩ : ByteArray), .string (⟨#[]⟩ : ByteArray)]) ?_ 0 _ rfl; (with_reducible repeat (first | refine blk_drewN ?_ _ | refine blk_drew ?_ | refine blk_alloc ?_ _)); exact BK141.out) Tryd.underlying28 rfl (by kernel_rfl)) rfl ?_
  exact ⟨by first | rfl | (simp [errW_none, errW_some] <;> rfl) | (simp [*, errW_none, errW_some] <;> rfl) | (simp [bneNil]; done), by repeat (first | (with_reducible first | exact HB.out | apply below_alloc | apply pw_below_drewN | apply below_drew1 | refine below_set ?_ GE140.out | refine below_set ?_ GE141.out) | exact HB.out)⟩

def laws_svPre.f (a0_0 : Int) (a0_1 : Int) (a0_2 : Int) (a0_3 : ByteArray) (a0_4 : ByteArray) (a1 : ByteArray) : Option (Int × Int × Int × ByteArray × ByteArray) := some (a0_0, a0_1, a0_2, a1, a0_4)

set_option maxHeartbeats 80000000 in
set_option maxRecDepth 100000 in
theorem laws_svPre.calls (a0_0 : Int) (a0_1 : Int) (a0_2 : Int) (a0_3 : ByteArray) (a0_4 : ByteArray) (a1 : ByteArray) (r1 : Int) (r2 : Int) (r3 : Int) (r4 : ByteArray) (r5 : ByteArray) (w : World) (h : laws_svPre.f a0_0 a0_1 a0_2 a0_3 a0_4 a1 = some (r1, r2, r3, r4, r5)) :
    Calls Tryd.prog 23 #[.agg #[.int .u64 a0_0, .int .u64 a0_1, .int .u64 a0_2, .string a0_3, .string a0_4], .string a1] w fun e w' => e = .returned (.agg #[.int .u64 r1, .int .u64 r2, .int .u64 r3, .string r4, .string r5]) ∧ Below w.heap.size w w' := by
  have hu28 := Tryd.underlying28
  have HB := Aside0.mk (Below.refl w.heap.size w)
  have H : (some (a0_0, a0_1, a0_2, a1, a0_4)) = some (r1, r2, r3, r4, r5) := h
  clear h
  simp only [Option.some.injEq, Prod.mk.injEq] at H
  obtain ⟨rfl, rfl, rfl, rfl, rfl⟩ := H
  go_enter Tryd.func23, Tryd.ntmps23
  go_wp2_with (first | ((with_reducible refine gate_dst (N := 2) rfl ?_); refine box_event ?hg (N := 2) ?hd (cs := #[.int .u64 a0_0, .int .u64 a0_1, .int .u64 a0_2, .string a0_3, .string a0_4]) (t := 28) ?hr ?_; (case hd => rfl); (case hg => rfl); (case hr => first | (go_simp; done) | (go_simp; rfl) | (go_simp; simp [u8w]; done)); intro gb142 hg w3 hbox hb; have n0_ := Aside0.mk (below_step (by repeat (first | (with_reducible first | exact HB.out | apply below_alloc | apply pw_below_drewN | apply below_drew1) | exact HB.out)) hb); have n1_ := Aside0.mk (hbox); have n2_ := Aside0.mk ((by rw [hg]; exact (below_size (by repeat (first | (with_reducible first | exact HB.out | apply below_alloc | apply pw_below_drewN | apply below_drew1) | exact HB.out))) : w.heap.size ≤ gb142)); have n3_ := Aside0.mk ((by rw [hg]; exact (below_size (by repeat (first | (with_reducible first | exact HB.out | apply below_alloc | apply pw_below_drewN | apply below_drew1) | exact HB.out))) : w.heap.size ≤ gb142)); clear HB; have HB := n0_; have BK142 := n1_; have GW142 := n2_; have GE142 := n3_; clear n0_ n1_ n2_ n3_; clear hb hbox hg) | ((with_reducible refine gate_dst (N := 4) rfl ?_); refine box_event ?hg (N := 4) ?hd (cs := #[.int .u64 0, .int .u64 0, .int .u64 0, .string (⟨#[]⟩ : ByteArray), .string (⟨#[]⟩ : ByteArray)]) (t := 28) ?hr ?_; (case hd => rfl); (case hg => rfl); (case hr => first | (go_simp; done) | (go_simp; rfl) | (go_simp; simp [u8w]; done)); intro gb143 hg w4 hbox hb; have n0_ := Aside0.mk (blk_below (g := gb142) (o := .cells #[.int .u64 a0_0, .int .u64 a0_1, .int .u64 a0_2, .string a0_3, .string a0_4] 28 (0, 0)) (by (with_reducible repeat (first | refine blk_drewN ?_ _ | refine blk_drew ?_ | refine blk_alloc ?_ _)); exact BK142.out) hb); have n1_ := Aside0.mk (below_step (by repeat (first | (with_reducible first | exact HB.out | apply below_alloc | apply pw_below_drewN | apply below_drew1 | refine below_set ?_ GE142.out) | exact HB.out)) hb); have n2_ := Aside0.mk (hbox); have n3_ := Aside0.mk ((by rw [hg]; exact (below_size (by repeat (first | (with_reducible first | exact HB.out | apply below_alloc | apply pw_below_drewN | apply below_drew1 | refine below_set ?_ GE142.out) | exact HB.out))) : w.heap.size ≤ gb143)); have n4_ := Aside0.mk ((by rw [hg]; exact (below_size (by repeat (first | (with_reducible first | exact HB.out | apply below_alloc | apply pw_below_drewN | apply below_drew1 | refine below_set ?_ GE142.out) | exact HB.out))) : w.heap.size ≤ gb143)); have n5_ := Aside0.mk ((by rw [hg]; exact Nat.ne_of_lt (blk_lt (g := gb142) (o := .cells #[.int .u64 a0_0, .int .u64 a0_1, .int .u64 a0_2, .string a0_3, .string a0_4] 28 (0, 0)) (by (with_reducible repeat (first | refine blk_drewN ?_ _ | refine blk_drew ?_ | refine blk_alloc ?_ _)); exact BK142.out)) : gb142 ≠ gb143)); have n6_ := Aside0.mk ((by rw [hg]; exact Nat.ne_of_gt (blk_lt (g := gb142) (o := .cells #[.int .u64 a0_0, .int .u64 a0_1, .int .u64 a0_2, .string a0_3, .string a0_4] 28 (0, 0)) (by (with_reducible repeat (first | refine blk_drewN ?_ _ | refine blk_drew ?_ | refine blk_alloc ?_ _)); exact BK142.out)) : gb143 ≠ gb142)); clear BK142; clear HB; have BK142 := n0_; have HB := n1_; have BK143 := n2_; have GW143 := n3_; have GE143 := n4_; have NB142_143 := n5_; have NB143_142 := n6_; clear n0_ n1_ n2_ n3_ n4_ n5_ n6_; clear hb hbox hg; have hnb5 := NB142_143.out; have hnc5 := NB143_142.out; have hcz6_0 : w4.cell? ⟨gb142, 0, none⟩ = some (.int .u64 a0_0) := (blk_cell BK142.out 0).trans rfl; have hcz6_1 : w4.cell? ⟨gb142, 1, none⟩ = some (.int .u64 a0_1) := (blk_cell BK142.out 1).trans rfl; have hcz6_2 : w4.cell? ⟨gb142, 2, none⟩ = some (.int .u64 a0_2) := (blk_cell BK142.out 2).trans rfl; have hcz6_3 : w4.cell? ⟨gb142, 3, none⟩ = some (.string a0_3) := (blk_cell BK142.out 3).trans rfl; have hcz6_4 : w4.cell? ⟨gb142, 4, none⟩ = some (.string a0_4) := (blk_cell BK142.out 4).trans rfl; have hfz6_0 := blk_frozen BK142.out 0; have hfz6_1 := blk_frozen BK142.out 1; have hfz6_2 := blk_frozen BK142.out 2; have hfz6_3 := blk_frozen BK142.out 3; have hfz6_4 := blk_frozen BK142.out 4; have hcz7_0 : w4.cell? ⟨gb143, 0, none⟩ = some (.int .u64 0) := (blk_cell BK143.out 0).trans rfl; have hcz7_1 : w4.cell? ⟨gb143, 1, none⟩ = some (.int .u64 0) := (blk_cell BK143.out 1).trans rfl; have hcz7_2 : w4.cell? ⟨gb143, 2, none⟩ = some (.int .u64 0) := (blk_cell BK143.out 2).trans rfl; have hcz7_3 : w4.cell? ⟨gb143, 3, none⟩ = some (.string (⟨#[]⟩ : ByteArray)) := (blk_cell BK143.out 3).trans rfl; have hcz7_4 : w4.cell? ⟨gb143, 4, none⟩ = some (.string (⟨#[]⟩ : ByteArray)) := (blk_cell BK143.out 4).trans rfl; have hfz7_0 := blk_frozen BK143.out 0; have hfz7_1 := blk_frozen BK143.out 1; have hfz7_2 := blk_frozen BK143.out 2; have hfz7_3 := blk_frozen BK143.out 3; have hfz7_4 := blk_frozen BK143.out 4))
  refine bodyPost_ret (results_cell_row rfl _ _ gb143 28 #[.int .u64 a0_0, .int .u64 a0_1, .int .u64 a0_2, .string a1, .string a0_4] (0, 0) _ rfl (by (with_reducible repeat (first | refine blk_drewN ?_ _ | refine blk_drew ?_ | refine blk_alloc ?_ _)); refine blk_put (cs := #[.int .u64 a0_0, .int .u64 a0_1, .int .u64 a0_2, .string a1, .string (⟨#[]⟩ : ByteArray)]) ?_ 4 _ rfl; (with_reducible repeat (first | refine blk_drewN ?_ _ | refine blk_drew ?_ | refine blk_alloc ?_ _)); refine blk_put (cs := #[.int .u64 a0_0, .int .u64 a0_1, .int .u64 a0_2, .string (⟨#[]⟩ : ByteArray), .string (⟨#[]⟩ : ByteArray)]) ?_ 3 _ rfl; (with_reducible repeat (first | refine blk_drewN ?_ _ | refine blk_drew ?_ | refine blk_alloc ?_ _)); refine blk_put (cs := #[.int .u64 a0_0, .int .u64 a0_1, .int .u64 0, .string (⟨#[]⟩ : ByteArray), .string (⟨#[]⟩ : ByteArray)]) ?_ 2 _ rfl; (with_reducible repeat (first | refine blk_drewN ?_ _ | refine blk_drew ?_ | refine blk_alloc ?_ _)); refine blk_put (cs := #[.int .u64 a0_0, .int .u64 0, .int .u64 0, .string (⟨#[]⟩ : ByteArray), .string (⟨#[]⟩ : ByteArray)]) ?_ 1 _ rfl; (with_reducible repeat (first | refine blk_drewN ?_ _ | refine blk_drew ?_ | refine blk_alloc ?_ _)); refine blk_put (cs := #[.int .u64 0, .int .u64 0, .int .u64 0, .string (⟨#[]⟩ : ByteArray), .string (⟨#[]⟩ : ByteArray)]) ?_ 0 _ rfl; (with_reducible repeat (first | refine blk_drewN ?_ _ | refine blk_drew ?_ | refine blk_alloc ?_ _)); refine blk_far ?_ NB143_142.out _; (with_reducible repeat (first | refine blk_drewN ?_ _ | refine blk_drew ?_ | refine blk_alloc ?_ _)); exact BK143.out) Tryd.underlying28 rfl (by kernel_rfl)) rfl ?_
  exact ⟨by first | rfl | (simp [errW_none, errW_some] <;> rfl) | (simp [*, errW_none, errW_some] <;> rfl) | (simp [bneNil]; done), by repeat (first | (with_reducible first | exact HB.out | apply below_alloc | apply pw_below_drewN | apply below_drew1 | refine below_set ?_ GE142.out | refine below_set ?_ GE143.out) | exact HB.out)⟩

def spec_Plain.f (k : Nat) (a0_0 : Int) (a0_1 : Int) (a0_2 : Int) (a0_3 : ByteArray) (a0_4 : ByteArray) : Option (Bool) := (spec_Good.f k a0_0 a0_1 a0_2 a0_3 a0_4).bind fun t169 => (if t169 = true then (if a0_0 < 18446744073709551615 then (if a0_1 < 18446744073709551615 then (if a0_2 < 18446744073709551615 then (if a0_4.toList = ([] : List UInt8) then (some true) else (some (a0_3.toList != ([] : List UInt8)))) else (some false)) else (some false)) else (some false)) else (some false))

theorem spec_Plain.mono : ∀ a0 a1 a2 a3 a4 k, LeO (spec_Plain.f k a0 a1 a2 a3 a4) (spec_Plain.f (k + 1) a0 a1 a2 a3 a4) := by
  intro a0 a1 a2 a3 a4 k
  unfold spec_Plain.f
  repeat' first
      | (with_reducible exact spec_Good.mono _ _ _ _ _ _)
      | (with_reducible exact LeO.refl _)
      | (with_reducible exact LeO.none _)
      | (with_reducible refine LeO.ite ?_ ?_)
      | (with_reducible refine LeO.bind ?_ (fun _ => ?_))
      | exact spec_Good.mono _ _ _ _ _ _
      | exact LeO.none _
      | refine LeO.ite ?_ ?_
      | refine LeO.bind ?_ (fun _ => ?_)

set_option maxHeartbeats 80000000 in
set_option maxRecDepth 100000 in
theorem spec_Plain.calls (k : Nat) (a0_0 : Int) (a0_1 : Int) (a0_2 : Int) (a0_3 : ByteArray) (a0_4 : ByteArray) (r : Bool) (w : World) (h : spec_Plain.f k a0_0 a0_1 a0_2 a0_3 a0_4 = some r) :
    Calls Tryd.prog 26 #[.agg #[.int .u64 a0_0, .int .u64 a0_1, .int .u64 a0_2, .string a0_3, .string a0_4]] w fun e w' => e = .returned (.bool r) ∧ Below w.heap.size w w' := by
  have hu28 := Tryd.underlying28
  have HB := Aside0.mk (Below.refl w.heap.size w)
  have H : ((spec_Good.f k a0_0 a0_1 a0_2 a0_3 a0_4).bind fun t169 => (if t169 = true then (if a0_0 < 18446744073709551615 then (if a0_1 < 18446744073709551615 then (if a0_2 < 18446744073709551615 then (if a0_4.toList = ([] : List UInt8) then (some true) else (some (a0_3.toList != ([] : List UInt8)))) else (some false)) else (some false)) else (some false)) else (some false))) = some r := h
  clear h
  replace H := Option.bind_eq_some_iff.mp H
  obtain ⟨t169, A20, H⟩ := H
  replace H : (if t169 = true then (if a0_0 < 18446744073709551615 then (if a0_1 < 18446744073709551615 then (if a0_2 < 18446744073709551615 then (if a0_4.toList = ([] : List UInt8) then (some true) else (some (a0_3.toList != ([] : List UInt8)))) else (some false)) else (some false)) else (some false)) else (some false)) = some r := H
  have A2 := Aside0.mk A20
  clear A20
  by_cases c3 : t169 = true
  · subst c3
    have H1 : (if a0_0 < 18446744073709551615 then (if a0_1 < 18446744073709551615 then (if a0_2 < 18446744073709551615 then (if a0_4.toList = ([] : List UInt8) then (some true) else (some (a0_3.toList != ([] : List UInt8)))) else (some false)) else (some false)) else (some false)) = some r := by rw [if_pos rfl] at H; exact H
    clear H
    have H := H1
    clear H1
    by_cases c4 : a0_0 < 18446744073709551615
    · rw [if_pos c4] at H
      have c4b0 : decide (a0_0 < 18446744073709551615) = true := decide_eq_true c4
      clear c4
      by_cases c5 : a0_1 < 18446744073709551615
      · rw [if_pos c5] at H
        have c5b0 : decide (a0_1 < 18446744073709551615) = true := decide_eq_true c5
        clear c5
        by_cases c6 : a0_2 < 18446744073709551615
        · rw [if_pos c6] at H
          have c6b0 : decide (a0_2 < 18446744073709551615) = true := decide_eq_true c6
          clear c6
          by_cases c7 : a0_4.toList = ([] : List UInt8)
          · rw [if_pos c7] at H
            have c7b0 : (a0_4.toList == ([] : List UInt8)) = true := beq_iff_eq.mpr c7
            have c7b1 : (a0_4.toList != ([] : List UInt8)) = false := bne_eq_false_iff_eq.mpr c7
            clear c7
            obtain rfl := Option.some.inj H
            go_enter Tryd.func26, Tryd.ntmps26
            go_wp2_with (first | ((with_reducible refine gate_dst (N := 1) rfl ?_); refine box_event ?hg (N := 1) ?hd (cs := #[.int .u64 a0_0, .int .u64 a0_1, .int .u64 a0_2, .string a0_3, .string a0_4]) (t := 28) ?hr ?_; (case hd => rfl); (case hg => rfl); (case hr => first | (go_simp; done) | (go_simp; rfl) | (go_simp; simp [u8w]; done)); intro gb168 hg w8 hbox hb; have n0_ := Aside0.mk (below_step (by repeat (first | (with_reducible first | exact HB.out | apply below_alloc | apply pw_below_drewN | apply below_drew1) | exact HB.out)) hb); have n1_ := Aside0.mk (hbox); have n2_ := Aside0.mk ((by rw [hg]; exact (below_size (by repeat (first | (with_reducible first | exact HB.out | apply below_alloc | apply pw_below_drewN | apply below_drew1) | exact HB.out))) : w.heap.size ≤ gb168)); have n3_ := Aside0.mk ((by rw [hg]; exact (below_size (by repeat (first | (with_reducible first | exact HB.out | apply below_alloc | apply pw_below_drewN | apply below_drew1) | exact HB.out))) : w.heap.size ≤ gb168)); clear HB; have HB := n0_; have BK168 := n1_; have GW168 := n2_; have GE168 := n3_; clear n0_ n1_ n2_ n3_; clear hb hbox hg; have hcz9_0 : w8.cell? ⟨gb168, 0, none⟩ = some (.int .u64 a0_0) := (blk_cell BK168.out 0).trans rfl; have hcz9_1 : w8.cell? ⟨gb168, 1, none⟩ = some (.int .u64 a0_1) := (blk_cell BK168.out 1).trans rfl; have hcz9_2 : w8.cell? ⟨gb168, 2, none⟩ = some (.int .u64 a0_2) := (blk_cell BK168.out 2).trans rfl; have hcz9_3 : w8.cell? ⟨gb168, 3, none⟩ = some (.string a0_3) := (blk_cell BK168.out 3).trans rfl; have hcz9_4 : w8.cell? ⟨gb168, 4, none⟩ = some (.string a0_4) := (blk_cell BK168.out 4).trans rfl; have hfz9_0 := blk_frozen BK168.out 0; have hfz9_1 := blk_frozen BK168.out 1; have hfz9_2 := blk_frozen BK168.out 2; have hfz9_3 := blk_frozen BK168.out 3; have hfz9_4 := blk_frozen BK168.out 4) | ((with_reducible refine gate_callee (f := 35) rfl ?_); refine goesL_ (some 4) rfl rfl Tryd.func35 (by kernel_rfl) rfl #[.agg #[.int .u64 a0_0, .int .u64 a0_1, .int .u64 a0_2, .string a0_3, .string a0_4]] rfl (by (try simp only [List.map_toArray, List.map_cons, List.map_nil]); first | done | rfl | (simp only [List.length_drop, List.length_take]; rfl)) ?_; (with_reducible refine (spec_Good.calls k a0_0 a0_1 a0_2 a0_3 a0_4 true _ A2.out).mono ?_); rintro e w10 ⟨rfl, hb⟩; refine ⟨_, rfl, ?_⟩; have n0_ := Aside0.mk (blk_below (g := gb168) (o := .cells #[.int .u64 a0_0, .int .u64 a0_1, .int .u64 a0_2, .string a0_3, .string a0_4] 28 (0, 0)) (by (with_reducible repeat (first | refine blk_drewN ?_ _ | refine blk_drew ?_ | refine blk_alloc ?_ _)); exact BK168.out) hb); have n1_ := Aside0.mk (below_step (by repeat (first | (with_reducible first | exact HB.out | apply below_alloc | apply pw_below_drewN | apply below_drew1 | refine below_set ?_ GE168.out) | exact HB.out)) hb); clear BK168; clear HB; have BK168 := n0_; have HB := n1_; clear n0_ n1_; (try clear hb); (try clear hb2); (try clear hk); (try clear hi); have hcz11_0 : w10.cell? ⟨gb168, 0, none⟩ = some (.int .u64 a0_0) := (blk_cell BK168.out 0).trans rfl; have hcz11_1 : w10.cell? ⟨gb168, 1, none⟩ = some (.int .u64 a0_1) := (blk_cell BK168.out 1).trans rfl; have hcz11_2 : w10.cell? ⟨gb168, 2, none⟩ = some (.int .u64 a0_2) := (blk_cell BK168.out 2).trans rfl; have hcz11_3 : w10.cell? ⟨gb168, 3, none⟩ = some (.string a0_3) := (blk_cell BK168.out 3).trans rfl; have hcz11_4 : w10.cell? ⟨gb168, 4, none⟩ = some (.string a0_4) := (blk_cell BK168.out 4).trans rfl; have hfz11_0 := blk_frozen BK168.out 0; have hfz11_1 := blk_frozen BK168.out 1; have hfz11_2 := blk_frozen BK168.out 2; have hfz11_3 := blk_frozen BK168.out 3; have hfz11_4 := blk_frozen BK168.out 4))
            go_ret
            exact ⟨by first | rfl | (simp [errW_none, errW_some] <;> rfl) | (simp [*, errW_none, errW_some] <;> rfl) | (simp [bneNil]; done), by repeat (first | (with_reducible first | exact HB.out | apply below_alloc | apply pw_below_drewN | apply below_drew1 | refine below_set ?_ GE168.out) | exact HB.out)⟩
          · rw [if_neg c7] at H
            have c7b0 : (a0_4.toList == ([] : List UInt8)) = false := beq_eq_false_iff_ne.mpr c7
            have c7b1 : (a0_4.toList != ([] : List UInt8)) = true := bne_iff_ne.mpr c7
            obtain rfl := Option.some.inj H
            go_enter Tryd.func26, Tryd.ntmps26
            go_wp2_with (first | ((with_reducible refine gate_dst (N := 1) rfl ?_); refine box_event ?hg (N := 1) ?hd (cs := #[.int .u64 a0_0, .int .u64 a0_1, .int .u64 a0_2, .string a0_3, .string a0_4]) (t := 28) ?hr ?_; (case hd => rfl); (case hg => rfl); (case hr => first | (go_simp; done) | (go_simp; rfl) | (go_simp; simp [u8w]; done)); intro gb168 hg w12 hbox hb; have n0_ := Aside0.mk (below_step (by repeat (first | (with_reducible first | exact HB.out | apply below_alloc | apply pw_below_drewN | apply below_drew1) | exact HB.out)) hb); have n1_ := Aside0.mk (hbox); have n2_ := Aside0.mk ((by rw [hg]; exact (below_size (by repeat (first | (with_reducible first | exact HB.out | apply below_alloc | apply pw_below_drewN | apply below_drew1) | exact HB.out))) : w.heap.size ≤ gb168)); have n3_ := Aside0.mk ((by rw [hg]; exact (below_size (by repeat (first | (with_reducible first | exact HB.out | apply below_alloc | apply pw_below_drewN | apply below_drew1) | exact HB.out))) : w.heap.size ≤ gb168)); clear HB; have HB := n0_; have BK168 := n1_; have GW168 := n2_; have GE168 := n3_; clear n0_ n1_ n2_ n3_; clear hb hbox hg; have hcz13_0 : w12.cell? ⟨gb168, 0, none⟩ = some (.int .u64 a0_0) := (blk_cell BK168.out 0).trans rfl; have hcz13_1 : w12.cell? ⟨gb168, 1, none⟩ = some (.int .u64 a0_1) := (blk_cell BK168.out 1).trans rfl; have hcz13_2 : w12.cell? ⟨gb168, 2, none⟩ = some (.int .u64 a0_2) := (blk_cell BK168.out 2).trans rfl; have hcz13_3 : w12.cell? ⟨gb168, 3, none⟩ = some (.string a0_3) := (blk_cell BK168.out 3).trans rfl; have hcz13_4 : w12.cell? ⟨gb168, 4, none⟩ = some (.string a0_4) := (blk_cell BK168.out 4).trans rfl; have hfz13_0 := blk_frozen BK168.out 0; have hfz13_1 := blk_frozen BK168.out 1; have hfz13_2 := blk_frozen BK168.out 2; have hfz13_3 := blk_frozen BK168.out 3; have hfz13_4 := blk_frozen BK168.out 4) | ((with_reducible refine gate_callee (f := 35) rfl ?_); refine goesL_ (some 4) rfl rfl Tryd.func35 (by kernel_rfl) rfl #[.agg #[.int .u64 a0_0, .int .u64 a0_1, .int .u64 a0_2, .string a0_3, .string a0_4]] rfl (by (try simp only [List.map_toArray, List.map_cons, List.map_nil]); first | done | rfl | (simp only [List.length_drop, List.length_take]; rfl)) ?_; (with_reducible refine (spec_Good.calls k a0_0 a0_1 a0_2 a0_3 a0_4 true _ A2.out).mono ?_); rintro e w14 ⟨rfl, hb⟩; refine ⟨_, rfl, ?_⟩; have n0_ := Aside0.mk (blk_below (g := gb168) (o := .cells #[.int .u64 a0_0, .int .u64 a0_1, .int .u64 a0_2, .string a0_3, .string a0_4] 28 (0, 0)) (by (with_reducible repeat (first | refine blk_drewN ?_ _ | refine blk_drew ?_ | refine blk_alloc ?_ _)); exact BK168.out) hb); have n1_ := Aside0.mk (below_step (by repeat (first | (with_reducible first | exact HB.out | apply below_alloc | apply pw_below_drewN | apply below_drew1 | refine below_set ?_ GE168.out) | exact HB.out)) hb); clear BK168; clear HB; have BK168 := n0_; have HB := n1_; clear n0_ n1_; (try clear hb); (try clear hb2); (try clear hk); (try clear hi); have hcz15_0 : w14.cell? ⟨gb168, 0, none⟩ = some (.int .u64 a0_0) := (blk_cell BK168.out 0).trans rfl; have hcz15_1 : w14.cell? ⟨gb168, 1, none⟩ = some (.int .u64 a0_1) := (blk_cell BK168.out 1).trans rfl; have hcz15_2 : w14.cell? ⟨gb168, 2, none⟩ = some (.int .u64 a0_2) := (blk_cell BK168.out 2).trans rfl; have hcz15_3 : w14.cell? ⟨gb168, 3, none⟩ = some (.string a0_3) := (blk_cell BK168.out 3).trans rfl; have hcz15_4 : w14.cell? ⟨gb168, 4, none⟩ = some (.string a0_4) := (blk_cell BK168.out 4).trans rfl; have hfz15_0 := blk_frozen BK168.out 0; have hfz15_1 := blk_frozen BK168.out 1; have hfz15_2 := blk_frozen BK168.out 2; have hfz15_3 := blk_frozen BK168.out 3; have hfz15_4 := blk_frozen BK168.out 4))
            go_ret
            exact ⟨by first | rfl | (simp [errW_none, errW_some] <;> rfl) | (simp [*, errW_none, errW_some] <;> rfl) | (simp [bneNil]; done), by repeat (first | (with_reducible first | exact HB.out | apply below_alloc | apply pw_below_drewN | apply below_drew1 | refine below_set ?_ GE168.out) | exact HB.out)⟩
        · rw [if_neg c6] at H
          have c6b0 : decide (a0_2 < 18446744073709551615) = false := decide_eq_false c6
          clear c6
          obtain rfl := Option.some.inj H
          go_enter Tryd.func26, Tryd.ntmps26
          go_wp2_with (first | ((with_reducible refine gate_dst (N := 1) rfl ?_); refine box_event ?hg (N := 1) ?hd (cs := #[.int .u64 a0_0, .int .u64 a0_1, .int .u64 a0_2, .string a0_3, .string a0_4]) (t := 28) ?hr ?_; (case hd => rfl); (case hg => rfl); (case hr => first | (go_simp; done) | (go_simp; rfl) | (go_simp; simp [u8w]; done)); intro gb168 hg w16 hbox hb; have n0_ := Aside0.mk (below_step (by repeat (first | (with_reducible first | exact HB.out | apply below_alloc | apply pw_below_drewN | apply below_drew1) | exact HB.out)) hb); have n1_ := Aside0.mk (hbox); have n2_ := Aside0.mk ((by rw [hg]; exact (below_size (by repeat (first | (with_reducible first | exact HB.out | apply below_alloc | apply pw_below_drewN | apply below_drew1) | exact HB.out))) : w.heap.size ≤ gb168)); have n3_ := Aside0.mk ((by rw [hg]; exact (below_size (by repeat (first | (with_reducible first | exact HB.out | apply below_alloc | apply pw_below_drewN | apply below_drew1) | exact HB.out))) : w.heap.size ≤ gb168)); clear HB; have HB := n0_; have BK168 := n1_; have GW168 := n2_; have GE168 := n3_; clear n0_ n1_ n2_ n3_; clear hb hbox hg; have hcz17_0 : w16.cell? ⟨gb168, 0, none⟩ = some (.int .u64 a0_0) := (blk_cell BK168.out 0).trans rfl; have hcz17_1 : w16.cell? ⟨gb168, 1, none⟩ = some (.int .u64 a0_1) := (blk_cell BK168.out 1).trans rfl; have hcz17_2 : w16.cell? ⟨gb168, 2, none⟩ = some (.int .u64 a0_2) := (blk_cell BK168.out 2).trans rfl; have hcz17_3 : w16.cell? ⟨gb168, 3, none⟩ = some (.string a0_3) := (blk_cell BK168.out 3).trans rfl; have hcz17_4 : w16.cell? ⟨gb168, 4, none⟩ = some (.string a0_4) := (blk_cell BK168.out 4).trans rfl; have hfz17_0 := blk_frozen BK168.out 0; have hfz17_1 := blk_frozen BK168.out 1; have hfz17_2 := blk_frozen BK168.out 2; have hfz17_3 := blk_frozen BK168.out 3; have hfz17_4 := blk_frozen BK168.out 4) | ((with_reducible refine gate_callee (f := 35) rfl ?_); refine goesL_ (some 4) rfl rfl Tryd.func35 (by kernel_rfl) rfl #[.agg #[.int .u64 a0_0, .int .u64 a0_1, .int .u64 a0_2, .string a0_3, .string a0_4]] rfl (by (try simp only [List.map_toArray, List.map_cons, List.map_nil]); first | done | rfl | (simp only [List.length_drop, List.length_take]; rfl)) ?_; (with_reducible refine (spec_Good.calls k a0_0 a0_1 a0_2 a0_3 a0_4 true _ A2.out).mono ?_); rintro e w18 ⟨rfl, hb⟩; refine ⟨_, rfl, ?_⟩; have n0_ := Aside0.mk (blk_below (g := gb168) (o := .cells #[.int .u64 a0_0, .int .u64 a0_1, .int .u64 a0_2, .string a0_3, .string a0_4] 28 (0, 0)) (by (with_reducible repeat (first | refine blk_drewN ?_ _ | refine blk_drew ?_ | refine blk_alloc ?_ _)); exact BK168.out) hb); have n1_ := Aside0.mk (below_step (by repeat (first | (with_reducible first | exact HB.out | apply below_alloc | apply pw_below_drewN | apply below_drew1 | refine below_set ?_ GE168.out) | exact HB.out)) hb); clear BK168; clear HB; have BK168 := n0_; have HB := n1_; clear n0_ n1_; (try clear hb); (try clear hb2); (try clear hk); (try clear hi); have hcz19_0 : w18.cell? ⟨gb168, 0, none⟩ = some (.int .u64 a0_0) := (blk_cell BK168.out 0).trans rfl; have hcz19_1 : w18.cell? ⟨gb168, 1, none⟩ = some (.int .u64 a0_1) := (blk_cell BK168.out 1).trans rfl; have hcz19_2 : w18.cell? ⟨gb168, 2, none⟩ = some (.int .u64 a0_2) := (blk_cell BK168.out 2).trans rfl; have hcz19_3 : w18.cell? ⟨gb168, 3, none⟩ = some (.string a0_3) := (blk_cell BK168.out 3).trans rfl; have hcz19_4 : w18.cell? ⟨gb168, 4, none⟩ = some (.string a0_4) := (blk_cell BK168.out 4).trans rfl; have hfz19_0 := blk_frozen BK168.out 0; have hfz19_1 := blk_frozen BK168.out 1; have hfz19_2 := blk_frozen BK168.out 2; have hfz19_3 := blk_frozen BK168.out 3; have hfz19_4 := blk_frozen BK168.out 4))
          go_ret
          exact ⟨by first | rfl | (simp [errW_none, errW_some] <;> rfl) | (simp [*, errW_none, errW_some] <;> rfl) | (simp [bneNil]; done), by repeat (first | (with_reducible first | exact HB.out | apply below_alloc | apply pw_below_drewN | apply below_drew1 | refine below_set ?_ GE168.out) | exact HB.out)⟩
      · rw [if_neg c5] at H
        have c5b0 : decide (a0_1 < 18446744073709551615) = false := decide_eq_false c5
        clear c5
        obtain rfl := Option.some.inj H
        go_enter Tryd.func26, Tryd.ntmps26
        go_wp2_with (first | ((with_reducible refine gate_dst (N := 1) rfl ?_); refine box_event ?hg (N := 1) ?hd (cs := #[.int .u64 a0_0, .int .u64 a0_1, .int .u64 a0_2, .string a0_3, .string a0_4]) (t := 28) ?hr ?_; (case hd => rfl); (case hg => rfl); (case hr => first | (go_simp; done) | (go_simp; rfl) | (go_simp; simp [u8w]; done)); intro gb168 hg w20 hbox hb; have n0_ := Aside0.mk (below_step (by repeat (first | (with_reducible first | exact HB.out | apply below_alloc | apply pw_below_drewN | apply below_drew1) | exact HB.out)) hb); have n1_ := Aside0.mk (hbox); have n2_ := Aside0.mk ((by rw [hg]; exact (below_size (by repeat (first | (with_reducible first | exact HB.out | apply below_alloc | apply pw_below_drewN | apply below_drew1) | exact HB.out))) : w.heap.size ≤ gb168)); have n3_ := Aside0.mk ((by rw [hg]; exact (below_size (by repeat (first | (with_reducible first | exact HB.out | apply below_alloc | apply pw_below_drewN | apply below_drew1) | exact HB.out))) : w.heap.size ≤ gb168)); clear HB; have HB := n0_; have BK168 := n1_; have GW168 := n2_; have GE168 := n3_; clear n0_ n1_ n2_ n3_; clear hb hbox hg; have hcz21_0 : w20.cell? ⟨gb168, 0, none⟩ = some (.int .u64 a0_0) := (blk_cell BK168.out 0).trans rfl; have hcz21_1 : w20.cell? ⟨gb168, 1, none⟩ = some (.int .u64 a0_1) := (blk_cell BK168.out 1).trans rfl; have hcz21_2 : w20.cell? ⟨gb168, 2, none⟩ = some (.int .u64 a0_2) := (blk_cell BK168.out 2).trans rfl; have hcz21_3 : w20.cell? ⟨gb168, 3, none⟩ = some (.string a0_3) := (blk_cell BK168.out 3).trans rfl; have hcz21_4 : w20.cell? ⟨gb168, 4, none⟩ = some (.string a0_4) := (blk_cell BK168.out 4).trans rfl; have hfz21_0 := blk_frozen BK168.out 0; have hfz21_1 := blk_frozen BK168.out 1; have hfz21_2 := blk_frozen BK168.out 2; have hfz21_3 := blk_frozen BK168.out 3; have hfz21_4 := blk_frozen BK168.out 4) | ((with_reducible refine gate_callee (f := 35) rfl ?_); refine goesL_ (some 4) rfl rfl Tryd.func35 (by kernel_rfl) rfl #[.agg #[.int .u64 a0_0, .int .u64 a0_1, .int .u64 a0_2, .string a0_3, .string a0_4]] rfl (by (try simp only [List.map_toArray, List.map_cons, List.map_nil]); first | done | rfl | (simp only [List.length_drop, List.length_take]; rfl)) ?_; (with_reducible refine (spec_Good.calls k a0_0 a0_1 a0_2 a0_3 a0_4 true _ A2.out).mono ?_); rintro e w22 ⟨rfl, hb⟩; refine ⟨_, rfl, ?_⟩; have n0_ := Aside0.mk (blk_below (g := gb168) (o := .cells #[.int .u64 a0_0, .int .u64 a0_1, .int .u64 a0_2, .string a0_3, .string a0_4] 28 (0, 0)) (by (with_reducible repeat (first | refine blk_drewN ?_ _ | refine blk_drew ?_ | refine blk_alloc ?_ _)); exact BK168.out) hb); have n1_ := Aside0.mk (below_step (by repeat (first | (with_reducible first | exact HB.out | apply below_alloc | apply pw_below_drewN | apply below_drew1 | refine below_set ?_ GE168.out) | exact HB.out)) hb); clear BK168; clear HB; have BK168 := n0_; have HB := n1_; clear n0_ n1_; (try clear hb); (try clear hb2); (try clear hk); (try clear hi); have hcz23_0 : w22.cell? ⟨gb168, 0, none⟩ = some (.int .u64 a0_0) := (blk_cell BK168.out 0).trans rfl; have hcz23_1 : w22.cell? ⟨gb168, 1, none⟩ = some (.int .u64 a0_1) := (blk_cell BK168.out 1).trans rfl; have hcz23_2 : w22.cell? ⟨gb168, 2, none⟩ = some (.int .u64 a0_2) := (blk_cell BK168.out 2).trans rfl; have hcz23_3 : w22.cell? ⟨gb168, 3, none⟩ = some (.string a0_3) := (blk_cell BK168.out 3).trans rfl; have hcz23_4 : w22.cell? ⟨gb168, 4, none⟩ = some (.string a0_4) := (blk_cell BK168.out 4).trans rfl; have hfz23_0 := blk_frozen BK168.out 0; have hfz23_1 := blk_frozen BK168.out 1; have hfz23_2 := blk_frozen BK168.out 2; have hfz23_3 := blk_frozen BK168.out 3; have hfz23_4 := blk_frozen BK168.out 4))
        go_ret
        exact ⟨by first | rfl | (simp [errW_none, errW_some] <;> rfl) | (simp [*, errW_none, errW_some] <;> rfl) | (simp [bneNil]; done), by repeat (first | (with_reducible first | exact HB.out | apply below_alloc | apply pw_below_drewN | apply below_drew1 | refine below_set ?_ GE168.out) | exact HB.out)⟩
    · rw [if_neg c4] at H
      have c4b0 : decide (a0_0 < 18446744073709551615) = false := decide_eq_false c4
      clear c4
      obtain rfl := Option.some.inj H
      go_enter Tryd.func26, Tryd.ntmps26
      go_wp2_with (first | ((with_reducible refine gate_dst (N := 1) rfl ?_); refine box_event ?hg (N := 1) ?hd (cs := #[.int .u64 a0_0, .int .u64 a0_1, .int .u64 a0_2, .string a0_3, .string a0_4]) (t := 28) ?hr ?_; (case hd => rfl); (case hg => rfl); (case hr => first | (go_simp; done) | (go_simp; rfl) | (go_simp; simp [u8w]; done)); intro gb168 hg w24 hbox hb; have n0_ := Aside0.mk (below_step (by repeat (first | (with_reducible first | exact HB.out | apply below_alloc | apply pw_below_drewN | apply below_drew1) | exact HB.out)) hb); have n1_ := Aside0.mk (hbox); have n2_ := Aside0.mk ((by rw [hg]; exact (below_size (by repeat (first | (with_reducible first | exact HB.out | apply below_alloc | apply pw_below_drewN | apply below_drew1) | exact HB.out))) : w.heap.size ≤ gb168)); have n3_ := Aside0.mk ((by rw [hg]; exact (below_size (by repeat (first | (with_reducible first | exact HB.out | apply below_alloc | apply pw_below_drewN | apply below_drew1) | exact HB.out))) : w.heap.size ≤ gb168)); clear HB; have HB := n0_; have BK168 := n1_; have GW168 := n2_; have GE168 := n3_; clear n0_ n1_ n2_ n3_; clear hb hbox hg; have hcz25_0 : w24.cell? ⟨gb168, 0, none⟩ = some (.int .u64 a0_0) := (blk_cell BK168.out 0).trans rfl; have hcz25_1 : w24.cell? ⟨gb168, 1, none⟩ = some (.int .u64 a0_1) := (blk_cell BK168.out 1).trans rfl; have hcz25_2 : w24.cell? ⟨gb168, 2, none⟩ = some (.int .u64 a0_2) := (blk_cell BK168.out 2).trans rfl; have hcz25_3 : w24.cell? ⟨gb168, 3, none⟩ = some (.string a0_3) := (blk_cell BK168.out 3).trans rfl; have hcz25_4 : w24.cell? ⟨gb168, 4, none⟩ = some (.string a0_4) := (blk_cell BK168.out 4).trans rfl; have hfz25_0 := blk_frozen BK168.out 0; have hfz25_1 := blk_frozen BK168.out 1; have hfz25_2 := blk_frozen BK168.out 2; have hfz25_3 := blk_frozen BK168.out 3; have hfz25_4 := blk_frozen BK168.out 4) | ((with_reducible refine gate_callee (f := 35) rfl ?_); refine goesL_ (some 4) rfl rfl Tryd.func35 (by kernel_rfl) rfl #[.agg #[.int .u64 a0_0, .int .u64 a0_1, .int .u64 a0_2, .string a0_3, .string a0_4]] rfl (by (try simp only [List.map_toArray, List.map_cons, List.map_nil]); first | done | rfl | (simp only [List.length_drop, List.length_take]; rfl)) ?_; (with_reducible refine (spec_Good.calls k a0_0 a0_1 a0_2 a0_3 a0_4 true _ A2.out).mono ?_); rintro e w26 ⟨rfl, hb⟩; refine ⟨_, rfl, ?_⟩; have n0_ := Aside0.mk (blk_below (g := gb168) (o := .cells #[.int .u64 a0_0, .int .u64 a0_1, .int .u64 a0_2, .string a0_3, .string a0_4] 28 (0, 0)) (by (with_reducible repeat (first | refine blk_drewN ?_ _ | refine blk_drew ?_ | refine blk_alloc ?_ _)); exact BK168.out) hb); have n1_ := Aside0.mk (below_step (by repeat (first | (with_reducible first | exact HB.out | apply below_alloc | apply pw_below_drewN | apply below_drew1 | refine below_set ?_ GE168.out) | exact HB.out)) hb); clear BK168; clear HB; have BK168 := n0_; have HB := n1_; clear n0_ n1_; (try clear hb); (try clear hb2); (try clear hk); (try clear hi); have hcz27_0 : w26.cell? ⟨gb168, 0, none⟩ = some (.int .u64 a0_0) := (blk_cell BK168.out 0).trans rfl; have hcz27_1 : w26.cell? ⟨gb168, 1, none⟩ = some (.int .u64 a0_1) := (blk_cell BK168.out 1).trans rfl; have hcz27_2 : w26.cell? ⟨gb168, 2, none⟩ = some (.int .u64 a0_2) := (blk_cell BK168.out 2).trans rfl; have hcz27_3 : w26.cell? ⟨gb168, 3, none⟩ = some (.string a0_3) := (blk_cell BK168.out 3).trans rfl; have hcz27_4 : w26.cell? ⟨gb168, 4, none⟩ = some (.string a0_4) := (blk_cell BK168.out 4).trans rfl; have hfz27_0 := blk_frozen BK168.out 0; have hfz27_1 := blk_frozen BK168.out 1; have hfz27_2 := blk_frozen BK168.out 2; have hfz27_3 := blk_frozen BK168.out 3; have hfz27_4 := blk_frozen BK168.out 4))
      go_ret
      exact ⟨by first | rfl | (simp [errW_none, errW_some] <;> rfl) | (simp [*, errW_none, errW_some] <;> rfl) | (simp [bneNil]; done), by repeat (first | (with_reducible first | exact HB.out | apply below_alloc | apply pw_below_drewN | apply below_drew1 | refine below_set ?_ GE168.out) | exact HB.out)⟩
  · replace c3 := Bool.eq_false_iff.mpr c3
    subst c3
    have H1 : (some false) = some r := by rw [if_neg (show ¬ (false = true) by decide)] at H; exact H
    clear H
    have H := H1
    clear H1
    obtain rfl := Option.some.inj H
    go_enter Tryd.func26, Tryd.ntmps26
    go_wp2_with (first | ((with_reducible refine gate_dst (N := 1) rfl ?_); refine box_event ?hg (N := 1) ?hd (cs := #[.int .u64 a0_0, .int .u64 a0_1, .int .u64 a0_2, .string a0_3, .string a0_4]) (t := 28) ?hr ?_; (case hd => rfl); (case hg => rfl); (case hr => first | (go_simp; done) | (go_simp; rfl) | (go_simp; simp [u8w]; done)); intro gb168 hg w28 hbox hb; have n0_ := Aside0.mk (below_step (by repeat (first | (with_reducible first | exact HB.out | apply below_alloc | apply pw_below_drewN | apply below_drew1) | exact HB.out)) hb); have n1_ := Aside0.mk (hbox); have n2_ := Aside0.mk ((by rw [hg]; exact (below_size (by repeat (first | (with_reducible first | exact HB.out | apply below_alloc | apply pw_below_drewN | apply below_drew1) | exact HB.out))) : w.heap.size ≤ gb168)); have n3_ := Aside0.mk ((by rw [hg]; exact (below_size (by repeat (first | (with_reducible first | exact HB.out | apply below_alloc | apply pw_below_drewN | apply below_drew1) | exact HB.out))) : w.heap.size ≤ gb168)); clear HB; have HB := n0_; have BK168 := n1_; have GW168 := n2_; have GE168 := n3_; clear n0_ n1_ n2_ n3_; clear hb hbox hg; have hcz29_0 : w28.cell? ⟨gb168, 0, none⟩ = some (.int .u64 a0_0) := (blk_cell BK168.out 0).trans rfl; have hcz29_1 : w28.cell? ⟨gb168, 1, none⟩ = some (.int .u64 a0_1) := (blk_cell BK168.out 1).trans rfl; have hcz29_2 : w28.cell? ⟨gb168, 2, none⟩ = some (.int .u64 a0_2) := (blk_cell BK168.out 2).trans rfl; have hcz29_3 : w28.cell? ⟨gb168, 3, none⟩ = some (.string a0_3) := (blk_cell BK168.out 3).trans rfl; have hcz29_4 : w28.cell? ⟨gb168, 4, none⟩ = some (.string a0_4) := (blk_cell BK168.out 4).trans rfl; have hfz29_0 := blk_frozen BK168.out 0; have hfz29_1 := blk_frozen BK168.out 1; have hfz29_2 := blk_frozen BK168.out 2; have hfz29_3 := blk_frozen BK168.out 3; have hfz29_4 := blk_frozen BK168.out 4) | ((with_reducible refine gate_callee (f := 35) rfl ?_); refine goesL_ (some 4) rfl rfl Tryd.func35 (by kernel_rfl) rfl #[.agg #[.int .u64 a0_0, .int .u64 a0_1, .int .u64 a0_2, .string a0_3, .string a0_4]] rfl (by (try simp only [List.map_toArray, List.map_cons, List.map_nil]); first | done | rfl | (simp only [List.length_drop, List.length_take]; rfl)) ?_; (with_reducible refine (spec_Good.calls k a0_0 a0_1 a0_2 a0_3 a0_4 false _ A2.out).mono ?_); rintro e w30 ⟨rfl, hb⟩; refine ⟨_, rfl, ?_⟩; have n0_ := Aside0.mk (blk_below (g := gb168) (o := .cells #[.int .u64 a0_0, .int .u64 a0_1, .int .u64 a0_2, .string a0_3, .string a0_4] 28 (0, 0)) (by (with_reducible repeat (first | refine blk_drewN ?_ _ | refine blk_drew ?_ | refine blk_alloc ?_ _)); exact BK168.out) hb); have n1_ := Aside0.mk (below_step (by repeat (first | (with_reducible first | exact HB.out | apply below_alloc | apply pw_below_drewN | apply below_drew1 | refine below_set ?_ GE168.out) | exact HB.out)) hb); clear BK168; clear HB; have BK168 := n0_; have HB := n1_; clear n0_ n1_; (try clear hb); (try clear hb2); (try clear hk); (try clear hi)))
    go_ret
    exact ⟨by first | rfl | (simp [errW_none, errW_some] <;> rfl) | (simp [*, errW_none, errW_some] <;> rfl) | (simp [bneNil]; done), by repeat (first | (with_reducible first | exact HB.out | apply below_alloc | apply pw_below_drewN | apply below_drew1 | refine below_set ?_ GE168.out) | exact HB.out)⟩

def semver_zzIndex.l0 : Nat → ByteArray → ByteArray → Int → Option (Int)
  | 0, _, _, _ => none
  | k + 1, x0, x1, x5 => if (wrap64 (x5 + (x1.size : Int))) ≤ (x0.size : Int) then (if 0 ≤ x5 then (if x5 ≤ (wrap64 (x5 + (x1.size : Int))) then (if (x0.extract (x5 : Int).toNat ((wrap64 (x5 + (x1.size : Int))) : Int).toNat).toList = x1.toList then (some x5) else (semver_zzIndex.l0 k x0 x1 (wrap64 (x5 + 1)))) else (none)) else (none)) else (some (-1))

def semver_zzIndex.f (k : Nat) (a0 : ByteArray) (a1 : ByteArray) : Option (Int) := semver_zzIndex.l0 k a0 a1 0

theorem semver_zzIndex.mono_l : ∀ k, (∀ y0 y1 y2, LeO (semver_zzIndex.l0 k y0 y1 y2) (semver_zzIndex.l0 (k + 1) y0 y1 y2))
  | 0 => fun _ _ _ r h => by simp [semver_zzIndex.l0] at h
  | k + 1 => by
    have ih0 := semver_zzIndex.mono_l k
    · intro y0 y1 y2
      unfold semver_zzIndex.l0
      repeat' first
      | (with_reducible exact ih0 _ _ _)
      | (with_reducible exact LeO.refl _)
      | (with_reducible exact LeO.none _)
      | (with_reducible refine LeO.ite ?_ ?_)
      | (with_reducible refine LeO.bind ?_ (fun _ => ?_))
      | exact ih0 _ _ _
      | exact LeO.none _
      | refine LeO.ite ?_ ?_
      | refine LeO.bind ?_ (fun _ => ?_)

theorem semver_zzIndex.mono : ∀ a0 a1 k, LeO (semver_zzIndex.f k a0 a1) (semver_zzIndex.f (k + 1) a0 a1) := by
  intro a0 a1 k
  have ih0 := semver_zzIndex.mono_l k
  unfold semver_zzIndex.f
  repeat' first
      | (with_reducible exact ih0 _ _ _)
      | (with_reducible exact LeO.refl _)
      | (with_reducible exact LeO.none _)
      | (with_reducible refine LeO.ite ?_ ?_)
      | (with_reducible refine LeO.bind ?_ (fun _ => ?_))
      | exact ih0 _ _ _
      | exact LeO.none _
      | refine LeO.ite ?_ ?_
      | refine LeO.bind ?_ (fun _ => ?_)

set_option maxHeartbeats 80000000 in
set_option maxRecDepth 100000 in
theorem semver_zzIndex.calls (k : Nat) (a0 : ByteArray) (a1 : ByteArray) (r : Int) (w : World) (h : semver_zzIndex.f k a0 a1 = some r) :
    Calls Tryd.prog 75 #[.string a0, .string a1] w fun e w' => e = .returned (.int .i64 r) ∧ Drawn0 w w' := by
  have H : (semver_zzIndex.l0 k a0 a1 0) = some r := h
  clear h
  have H' := Aside0.mk H
  clear H
  go_enter Tryd.func75, Tryd.ntmps75
  go_wp2
  go_loopg [5] k (fun kq v5 w' => ∃ (x5_1 : Int), v5 = .int .i64 x5_1 ∧ Aside0 (semver_zzIndex.l0 kq a0 a1 x5_1 = some r) ∧ Aside0 (kq ≤ k) ∧ Drawn0 w w')
  case atStart => exact ⟨(0), (by first | rfl | (simp; done) | (simp [*]; done)), H', ⟨Nat.le_refl _⟩, by repeat (first | exact Drawn0.refl _ | apply Drawn0.step)⟩
  case round =>
    clear H'
    try clear p2
    obtain ⟨x5_1, rfl, HA, HK1, ⟨m1, rfl⟩⟩ := hrel
    cases gk with
    | zero => exact absurd HA.out (by simp [semver_zzIndex.l0])
    | succ k1 =>
      have H := HA.out
      clear HA
      simp only [semver_zzIndex.l0] at H
      by_cases c3 : (wrap64 (x5_1 + (a1.size : Int))) ≤ (a0.size : Int)
      · rw [if_pos c3] at H
        have c3b0 : decide ((wrap64 (x5_1 + (a1.size : Int))) ≤ (a0.size : Int)) = true := decide_eq_true c3
        clear c3
        by_cases c4 : 0 ≤ x5_1
        · rw [if_pos c4] at H
          have c4b0 := eq_true c4
          have c4b1 : decide (0 ≤ x5_1) = true := decide_eq_true c4
          clear c4
          by_cases c5 : x5_1 ≤ (wrap64 (x5_1 + (a1.size : Int)))
          · rw [if_pos c5] at H
            have c5b0 := eq_true c5
            have c5b1 : decide (x5_1 ≤ (wrap64 (x5_1 + (a1.size : Int)))) = true := decide_eq_true c5
            have c6b0 := eq_true (of_decide_eq_true (by first | (with_reducible assumption) | assumption) : (wrap64 (x5_1 + (a1.size : Int))) ≤ (a0.size : Int))
            by_cases c7 : (a0.extract (x5_1 : Int).toNat ((wrap64 (x5_1 + (a1.size : Int))) : Int).toNat).toList = a1.toList
            · rw [if_pos c7] at H
              have c7b0 : ((a0.extract (x5_1 : Int).toNat ((wrap64 (x5_1 + (a1.size : Int))) : Int).toNat).toList == a1.toList) = true := beq_iff_eq.mpr c7
              have c7b1 : ((a0.extract (x5_1 : Int).toNat ((wrap64 (x5_1 + (a1.size : Int))) : Int).toNat).toList != a1.toList) = false := bne_eq_false_iff_eq.mpr c7
              clear c7
              obtain rfl := Option.some.inj H
              go_wp2
              go_ret
              exact ⟨by first | rfl | (simp; done) | (simp [*]; done) | (simp [bneNil]; done), by repeat (first | exact Drawn0.refl _ | apply Drawn0.step)⟩
            · rw [if_neg c7] at H
              have c7b0 : ((a0.extract (x5_1 : Int).toNat ((wrap64 (x5_1 + (a1.size : Int))) : Int).toNat).toList == a1.toList) = false := beq_eq_false_iff_ne.mpr c7
              have c7b1 : ((a0.extract (x5_1 : Int).toNat ((wrap64 (x5_1 + (a1.size : Int))) : Int).toNat).toList != a1.toList) = true := bne_iff_ne.mpr c7
              have H' := Aside0.mk H
              clear H
              go_wp2
              go_roundg k1
              case measure => have := HK1.out; omega
              case rel => exact ⟨(wrap64 (x5_1 + 1)), (by first | rfl | (simp; done) | (simp [*]; done)), H', ⟨by have := HK1.out; omega⟩, by repeat (first | exact Drawn0.refl _ | apply Drawn0.step)⟩
          · rw [if_neg c5] at H
            exact absurd H (by simp)
        · rw [if_neg c4] at H
          exact absurd H (by simp)
      · rw [if_neg c3] at H
        have c3b0 : decide ((wrap64 (x5_1 + (a1.size : Int))) ≤ (a0.size : Int)) = false := decide_eq_false c3
        clear c3
        obtain rfl := Option.some.inj H
        go_wp2
        go_ret
        exact ⟨by first | rfl | (simp; done) | (simp [*]; done) | (simp [bneNil]; done), by repeat (first | exact Drawn0.refl _ | apply Drawn0.step)⟩

def semver_zzSplit.l0 : Nat → ByteArray → ByteArray → List ByteArray → Option (List ByteArray)
  | 0, _, _, _ => none
  | k + 1, x0, x1, x5 => (semver_zzIndex.f k x0 x1).bind fun t203 => (if t203 < 0 then (if x5.length < 8796093022208 then (some (x5 ++ [x0])) else (none)) else (if 0 ≤ t203 then (if t203 ≤ (x0.size : Int) then (if x5.length < 8796093022208 then (if 0 ≤ (wrap64 (t203 + (x1.size : Int))) then (if (wrap64 (t203 + (x1.size : Int))) ≤ (x0.size : Int) then (semver_zzSplit.l0 k (x0.extract ((wrap64 (t203 + (x1.size : Int))) : Int).toNat x0.size) x1 (x5 ++ [x0.extract 0 (t203 : Int).toNat])) else (none)) else (none)) else (none)) else (none)) else (none)))

def semver_zzSplit.f (k : Nat) (a0 : ByteArray) (a1 : ByteArray) : Option (List ByteArray) := semver_zzSplit.l0 k a0 a1 ([] : List ByteArray)

theorem semver_zzSplit.mono_l : ∀ k, (∀ y0 y1 y2, LeO (semver_zzSplit.l0 k y0 y1 y2) (semver_zzSplit.l0 (k + 1) y0 y1 y2))
  | 0 => fun _ _ _ r h => by simp [semver_zzSplit.l0] at h
  | k + 1 => by
    have ih0 := semver_zzSplit.mono_l k
    · intro y0 y1 y2
      unfold semver_zzSplit.l0
      repeat' first
      | (with_reducible exact ih0 _ _ _)
      | (with_reducible exact semver_zzIndex.mono _ _ _)
      | (with_reducible exact LeO.refl _)
      | (with_reducible exact LeO.none _)
      | (with_reducible refine LeO.ite ?_ ?_)
      | (with_reducible refine LeO.bind ?_ (fun _ => ?_))
      | exact ih0 _ _ _
      | exact semver_zzIndex.mono _ _ _
      | exact LeO.none _
      | refine LeO.ite ?_ ?_
      | refine LeO.bind ?_ (fun _ => ?_)

theorem semver_zzSplit.mono : ∀ a0 a1 k, LeO (semver_zzSplit.f k a0 a1) (semver_zzSplit.f (k + 1) a0 a1) := by
  intro a0 a1 k
  have ih0 := semver_zzSplit.mono_l k
  unfold semver_zzSplit.f
  repeat' first
      | (with_reducible exact ih0 _ _ _)
      | (with_reducible exact semver_zzIndex.mono _ _ _)
      | (with_reducible exact LeO.refl _)
      | (with_reducible exact LeO.none _)
      | (with_reducible refine LeO.ite ?_ ?_)
      | (with_reducible refine LeO.bind ?_ (fun _ => ?_))
      | exact ih0 _ _ _
      | exact semver_zzIndex.mono _ _ _
      | exact LeO.none _
      | refine LeO.ite ?_ ?_
      | refine LeO.bind ?_ (fun _ => ?_)

set_option maxHeartbeats 80000000 in
set_option maxRecDepth 100000 in
theorem semver_zzSplit.calls (k : Nat) (a0 : ByteArray) (a1 : ByteArray) (r : List ByteArray) (w : World) (h : semver_zzSplit.f k a0 a1 = some r) :
    Calls Tryd.prog 71 #[.string a0, .string a1] w fun e w' => ∃ v0_ : Value, e = .returned (v0_) ∧ Kd.R Kd.string 9 w' w.heap.size (fun _ => True) v0_ r ∧ Below w.heap.size w w' := by
  have HB := Aside0.mk (Below.refl w.heap.size w)
  have H : (semver_zzSplit.l0 k a0 a1 ([] : List ByteArray)) = some r := h
  clear h
  have H' := Aside0.mk H
  clear H
  go_enter Tryd.func71, Tryd.ntmps71
  go_wp2
  go_loopg [0, 5] k (fun kq v0 v5 w' => ∃ (x0_1 : ByteArray) (x5_1 : List ByteArray), v0 = .string x0_1 ∧ Aside0 (semver_zzSplit.l0 kq x0_1 a1 x5_1 = some r) ∧ Aside0 (kq ≤ k) ∧ Aside0 (Kd.R Kd.string 9 w' w.heap.size (fun _ => True) v5 x5_1) ∧ Aside0 (Below w.heap.size w w'))
  case atStart => exact ⟨(a0), (([] : List ByteArray)), (by first | rfl | (simp; done) | (simp [*]; done)), H', ⟨Nat.le_refl _⟩, ⟨by first | exact Kd.R_nil _ _ _ _ _ | exact Kd.N_nil _ _ _ _ _ | exact Kd.V_nil _ _ _ _ _ | exact Kd.Q_nil _ _ _ _ _ | exact Kd.S_nil _ _ _ _ _⟩, ⟨by repeat (first | (with_reducible first | exact HB.out | apply below_alloc | apply pw_below_drewN | apply below_drew1) | exact HB.out)⟩⟩
  case round =>
    clear H'
    try clear p2
    obtain ⟨x0_1, x5_1, rfl, HA, HK1, HO_5, HB⟩ := hrel
    cases gk with
    | zero => exact absurd HA.out (by simp [semver_zzSplit.l0])
    | succ k1 =>
      have H := HA.out
      clear HA
      simp only [semver_zzSplit.l0] at H
      replace H := Option.bind_eq_some_iff.mp H
      obtain ⟨t203, A30, H⟩ := H
      replace H : (if t203 < 0 then (if x5_1.length < 8796093022208 then (some (x5_1 ++ [x0_1])) else (none)) else (if 0 ≤ t203 then (if t203 ≤ (x0_1.size : Int) then (if x5_1.length < 8796093022208 then (if 0 ≤ (wrap64 (t203 + (a1.size : Int))) then (if (wrap64 (t203 + (a1.size : Int))) ≤ (x0_1.size : Int) then (semver_zzSplit.l0 k1 (x0_1.extract ((wrap64 (t203 + (a1.size : Int))) : Int).toNat x0_1.size) a1 (x5_1 ++ [x0_1.extract 0 (t203 : Int).toNat])) else (none)) else (none)) else (none)) else (none)) else (none))) = some r := H
      have A3 := Aside0.mk A30
      clear A30
      by_cases c4 : t203 < 0
      · rw [if_pos c4] at H
        have c4b0 : decide (t203 < 0) = true := decide_eq_true c4
        clear c4
        by_cases c5 : x5_1.length < 8796093022208
        · rw [if_pos c5] at H
          have LMc5 := Aside0.mk c5
          clear c5
          obtain ⟨y204, hy204⟩ : ∃ y_ : List ByteArray, y_ = (x5_1 ++ [x0_1]) := ⟨_, rfl⟩
          replace H : (some y204) = some r := by first | (rw [hy204]; with_reducible exact H) | (have H2_ := (Option.bind_some _ _).symm.trans H; rw [hy204]; with_reducible exact H2_) | (have H2_ := (Option.bind_some _ _).symm.trans H; with_reducible exact H2_) | with_reducible exact H | (rw [hy204]; exact H) | exact H
          have Ny204 := Aside0.mk hy204
          clear hy204
          obtain rfl := Option.some.inj H
          go_wp2_with (first | ((with_reducible refine gate_callee (f := 75) rfl ?_); refine goesL_ (some 9) rfl rfl Tryd.func75 (by kernel_rfl) rfl #[.string x0_1, .string a1] rfl (by (try simp only [List.map_toArray, List.map_cons, List.map_nil]); first | done | rfl | (simp only [List.length_drop, List.length_take]; rfl)) ?_; (with_reducible refine (semver_zzIndex.calls k1 x0_1 a1 t203 _ A3.out).mono ?_); rintro e w' ⟨rfl, ⟨nd, rfl⟩⟩; refine ⟨_, rfl, ?_⟩) | ((with_reducible refine gate_builtin (b := .append) (xs := #[.tmp 12, .tmp 14]) rfl ?_); at_builtin; refine Kd.R_append Kd.string (w0 := w) w.heap.size rfl (.tmp 12) (.tmp 14) 24 9 (.string ⟨#[]⟩) 16 rfl Tryd.underlying24 info9 rfl (by decide) (by omega) u5 x5_1 x0_1 [.string x0_1] (fun _ => True) (fun _ => False) rfl rfl ?aP (fun _ hk => hk.elim) ?aF ?aO ?aB ?aS ?aL ?_; (case aP => exact rfl); (case aB => exact (by repeat (first | (with_reducible first | exact HB.out | apply below_alloc | apply pw_below_drewN | apply below_drew1) | exact HB.out))); (case aF => exact (fun _ _ => trivial)); (case aO => exact (by (with_reducible repeat (first | apply Kd.R_alloc | apply Kd.R_drewN | apply Kd.R_drew)); exact HO_5.out)); (case aS => exact (below_size (by repeat (first | (with_reducible first | exact HB.out | apply below_alloc | apply pw_below_drewN | apply below_drew1) | exact HB.out)))); (case aL => have := LMc5.out; omega); intro v205 w6 ho hb hg hat; rw [← Ny204.out] at ho; have n0_ := Aside0.mk (hb); have n1_ := Aside0.mk (ho); clear HB; clear HO_5; have HB := n0_; have HO206 := n1_; clear n0_ n1_; clear ho hb hg hat))
          go_ret
          exact ⟨_, by first | rfl | (simp [errW_none, errW_some] <;> rfl) | (simp [*, errW_none, errW_some] <;> rfl), by (with_reducible repeat (first | apply Kd.R_alloc | apply Kd.R_drewN | apply Kd.R_drew)); exact HO206.out, by repeat (first | (with_reducible first | exact HB.out | apply below_alloc | apply pw_below_drewN | apply below_drew1) | exact HB.out)⟩
        · rw [if_neg c5] at H
          exact absurd H (by simp)
      · rw [if_neg c4] at H
        have c4b0 : decide (t203 < 0) = false := decide_eq_false c4
        clear c4
        by_cases c7 : 0 ≤ t203
        · rw [if_pos c7] at H
          have c7b0 := eq_true c7
          have c7b1 : decide (0 ≤ t203) = true := decide_eq_true c7
          clear c7
          by_cases c8 : t203 ≤ (x0_1.size : Int)
          · rw [if_pos c8] at H
            have c8b0 := eq_true c8
            have c8b1 : decide (t203 ≤ (x0_1.size : Int)) = true := decide_eq_true c8
            clear c8
            by_cases c9 : x5_1.length < 8796093022208
            · rw [if_pos c9] at H
              have LMc9 := Aside0.mk c9
              clear c9
              obtain ⟨y207, hy207⟩ : ∃ y_ : List ByteArray, y_ = (x5_1 ++ [x0_1.extract 0 (t203 : Int).toNat]) := ⟨_, rfl⟩
              replace H : (if 0 ≤ (wrap64 (t203 + (a1.size : Int))) then (if (wrap64 (t203 + (a1.size : Int))) ≤ (x0_1.size : Int) then (semver_zzSplit.l0 k1 (x0_1.extract ((wrap64 (t203 + (a1.size : Int))) : Int).toNat x0_1.size) a1 y207) else (none)) else (none)) = some r := by first | (rw [hy207]; with_reducible exact H) | (have H2_ := (Option.bind_some _ _).symm.trans H; rw [hy207]; with_reducible exact H2_) | (have H2_ := (Option.bind_some _ _).symm.trans H; with_reducible exact H2_) | with_reducible exact H | (rw [hy207]; exact H) | exact H
              have Ny207 := Aside0.mk hy207
              clear hy207
              obtain ⟨ji10, hji10⟩ : ∃ j_ : Int, (wrap64 (t203 + (a1.size : Int))) = j_ := ⟨_, rfl⟩
              replace H : (if 0 ≤ (ji10) then (if (ji10) ≤ (x0_1.size : Int) then (semver_zzSplit.l0 k1 (x0_1.extract ((ji10) : Int).toNat x0_1.size) a1 y207) else (none)) else (none)) = some r := by first | (rw [hji10] at H; exact H) | (simp only [hji10] at H ⊢; exact H)
              (try rw [hji10] at A3)
              have hji10w : (IntKind.i64.wrap (t203 + (a1.size : Int))) = ji10 := (i64_w _).trans hji10
              by_cases c11 : 0 ≤ (ji10)
              · rw [if_pos c11] at H
                have c11b0 := eq_true c11
                have c11b1 : decide (0 ≤ (ji10)) = true := decide_eq_true c11
                clear c11
                by_cases c12 : (ji10) ≤ (x0_1.size : Int)
                · rw [if_pos c12] at H
                  have c12b0 := eq_true c12
                  have c12b1 : decide ((ji10) ≤ (x0_1.size : Int)) = true := decide_eq_true c12
                  clear c12
                  have H' := Aside0.mk H
                  clear H
                  go_wp2_with (first | ((with_reducible refine gate_callee (f := 75) rfl ?_); refine goesL_ (some 9) rfl rfl Tryd.func75 (by kernel_rfl) rfl #[.string x0_1, .string a1] rfl (by (try simp only [List.map_toArray, List.map_cons, List.map_nil]); first | done | rfl | (simp only [List.length_drop, List.length_take]; rfl)) ?_; (with_reducible refine (semver_zzIndex.calls k1 x0_1 a1 t203 _ A3.out).mono ?_); rintro e w' ⟨rfl, ⟨nd, rfl⟩⟩; refine ⟨_, rfl, ?_⟩) | ((with_reducible refine gate_builtin (b := .append) (xs := #[.tmp 16, .tmp 20]) rfl ?_); at_builtin; refine Kd.R_append Kd.string (w0 := w) w.heap.size rfl (.tmp 16) (.tmp 20) 24 9 (.string ⟨#[]⟩) 16 rfl Tryd.underlying24 info9 rfl (by decide) (by omega) u5 x5_1 (x0_1.extract 0 (t203 : Int).toNat) [.string (x0_1.extract 0 (t203 : Int).toNat)] (fun _ => True) (fun _ => False) rfl rfl ?aP (fun _ hk => hk.elim) ?aF ?aO ?aB ?aS ?aL ?_; (case aP => exact rfl); (case aB => exact (by repeat (first | (with_reducible first | exact HB.out | apply below_alloc | apply pw_below_drewN | apply below_drew1) | exact HB.out))); (case aF => exact (fun _ _ => trivial)); (case aO => exact (by (with_reducible repeat (first | apply Kd.R_alloc | apply Kd.R_drewN | apply Kd.R_drew)); exact HO_5.out)); (case aS => exact (below_size (by repeat (first | (with_reducible first | exact HB.out | apply below_alloc | apply pw_below_drewN | apply below_drew1) | exact HB.out)))); (case aL => have := LMc9.out; omega); intro v208 w13 ho hb hg hat; rw [← Ny207.out] at ho; have n0_ := Aside0.mk (hb); have n1_ := Aside0.mk (ho); clear HB; clear HO_5; have HB := n0_; have HO209 := n1_; clear n0_ n1_; clear ho hb hg hat))
                  go_roundg k1
                  case measure => have := HK1.out; omega
                  case rel => exact ⟨(x0_1.extract ((ji10) : Int).toNat x0_1.size), (y207), (by first | rfl | (simp; done) | (simp only [← hji10] <;> (first | rfl | simp)) | (simp [*]; done)), H', ⟨by have := HK1.out; omega⟩, ⟨by (with_reducible repeat (first | apply Kd.R_alloc | apply Kd.R_drewN | apply Kd.R_drew)); exact HO209.out⟩, ⟨by repeat (first | (with_reducible first | exact HB.out | apply below_alloc | apply pw_below_drewN | apply below_drew1) | exact HB.out)⟩⟩
                · rw [if_neg c12] at H
                  exact absurd H (by simp)
              · rw [if_neg c11] at H
                exact absurd H (by simp)
            · rw [if_neg c9] at H
              exact absurd H (by simp)
          · rw [if_neg c8] at H
            exact absurd H (by simp)
        · rw [if_neg c7] at H
          exact absurd H (by simp)

def semver_compareSegment.f (a0 : Int) (a1 : Int) : Option (Int) := if a0 < a1 then (some (-1)) else (if a0 > a1 then (some 1) else (some 0))

set_option maxHeartbeats 80000000 in
set_option maxRecDepth 100000 in
theorem semver_compareSegment.calls (a0 : Int) (a1 : Int) (r : Int) (w : World) (h : semver_compareSegment.f a0 a1 = some r) :
    Calls Tryd.prog 73 #[.int .u64 a0, .int .u64 a1] w fun e w' => e = .returned (.int .i64 r) ∧ Drawn0 w w' := by
  have H : (if a0 < a1 then (some (-1)) else (if a0 > a1 then (some 1) else (some 0))) = some r := h
  clear h
  by_cases c3 : a0 < a1
  · rw [if_pos c3] at H
    have c3b0 : decide (a0 < a1) = true := decide_eq_true c3
    clear c3
    obtain rfl := Option.some.inj H
    go_enter Tryd.func73, Tryd.ntmps73
    go_wp2
    go_ret
    exact ⟨by first | rfl | (simp; done) | (simp [*]; done) | (simp [bneNil]; done), by repeat (first | exact Drawn0.refl _ | apply Drawn0.step)⟩
  · rw [if_neg c3] at H
    have c3b0 : decide (a0 < a1) = false := decide_eq_false c3
    clear c3
    by_cases c4 : a0 > a1
    · rw [if_pos c4] at H
      have c4b0 : decide (a1 < a0) = true := decide_eq_true c4
      clear c4
      obtain rfl := Option.some.inj H
      go_enter Tryd.func73, Tryd.ntmps73
      go_wp2
      go_ret
      exact ⟨by first | rfl | (simp; done) | (simp [*]; done) | (simp [bneNil]; done), by repeat (first | exact Drawn0.refl _ | apply Drawn0.step)⟩
    · rw [if_neg c4] at H
      have c4b0 : decide (a1 < a0) = false := decide_eq_false c4
      clear c4
      obtain rfl := Option.some.inj H
      go_enter Tryd.func73, Tryd.ntmps73
      go_wp2
      go_ret
      exact ⟨by first | rfl | (simp; done) | (simp [*]; done) | (simp [bneNil]; done), by repeat (first | exact Drawn0.refl _ | apply Drawn0.step)⟩

def semver_Version_Major.f (a0_0 : Int) (a0_1 : Int) (a0_2 : Int) (a0_3 : ByteArray) (a0_4 : ByteArray) (a0_5 : ByteArray) : Option (Int) := some a0_0

set_option maxHeartbeats 80000000 in
set_option maxRecDepth 100000 in
theorem semver_Version_Major.calls (a0_0 : Int) (a0_1 : Int) (a0_2 : Int) (a0_3 : ByteArray) (a0_4 : ByteArray) (a0_5 : ByteArray) (r : Int) (w : World) (h : semver_Version_Major.f a0_0 a0_1 a0_2 a0_3 a0_4 a0_5 = some r) :
    Calls Tryd.prog 61 #[.agg #[.int .u64 a0_0, .int .u64 a0_1, .int .u64 a0_2, .string a0_3, .string a0_4, .string a0_5]] w fun e w' => e = .returned (.int .u64 r) ∧ Below w.heap.size w w' := by
  have hu52 := Tryd.underlying52
  have HB := Aside0.mk (Below.refl w.heap.size w)
  have H : (some a0_0) = some r := h
  clear h
  obtain rfl := Option.some.inj H
  go_enter Tryd.func61, Tryd.ntmps61
  go_wp2_with (first | ((with_reducible refine gate_dst (N := 1) rfl ?_); refine box_event ?hg (N := 1) ?hd (cs := #[.int .u64 a0_0, .int .u64 a0_1, .int .u64 a0_2, .string a0_3, .string a0_4, .string a0_5]) (t := 52) ?hr ?_; (case hd => rfl); (case hg => rfl); (case hr => first | (go_simp; done) | (go_simp; rfl) | (go_simp; simp [u8w]; done)); intro gb210 hg w2 hbox hb; have n0_ := Aside0.mk (below_step (by repeat (first | (with_reducible first | exact HB.out | apply below_alloc | apply pw_below_drewN | apply below_drew1) | exact HB.out)) hb); have n1_ := Aside0.mk (hbox); have n2_ := Aside0.mk ((by rw [hg]; exact (below_size (by repeat (first | (with_reducible first | exact HB.out | apply below_alloc | apply pw_below_drewN | apply below_drew1) | exact HB.out))) : w.heap.size ≤ gb210)); have n3_ := Aside0.mk ((by rw [hg]; exact (below_size (by repeat (first | (with_reducible first | exact HB.out | apply below_alloc | apply pw_below_drewN | apply below_drew1) | exact HB.out))) : w.heap.size ≤ gb210)); clear HB; have HB := n0_; have BK210 := n1_; have GW210 := n2_; have GE210 := n3_; clear n0_ n1_ n2_ n3_; clear hb hbox hg; have hcz3_0 : w2.cell? ⟨gb210, 0, none⟩ = some (.int .u64 a0_0) := (blk_cell BK210.out 0).trans rfl; have hcz3_1 : w2.cell? ⟨gb210, 1, none⟩ = some (.int .u64 a0_1) := (blk_cell BK210.out 1).trans rfl; have hcz3_2 : w2.cell? ⟨gb210, 2, none⟩ = some (.int .u64 a0_2) := (blk_cell BK210.out 2).trans rfl; have hcz3_3 : w2.cell? ⟨gb210, 3, none⟩ = some (.string a0_3) := (blk_cell BK210.out 3).trans rfl; have hcz3_4 : w2.cell? ⟨gb210, 4, none⟩ = some (.string a0_4) := (blk_cell BK210.out 4).trans rfl; have hcz3_5 : w2.cell? ⟨gb210, 5, none⟩ = some (.string a0_5) := (blk_cell BK210.out 5).trans rfl; have hfz3_0 := blk_frozen BK210.out 0; have hfz3_1 := blk_frozen BK210.out 1; have hfz3_2 := blk_frozen BK210.out 2; have hfz3_3 := blk_frozen BK210.out 3; have hfz3_4 := blk_frozen BK210.out 4; have hfz3_5 := blk_frozen BK210.out 5))
  go_ret
  exact ⟨by first | rfl | (simp [errW_none, errW_some] <;> rfl) | (simp [*, errW_none, errW_some] <;> rfl) | (simp [bneNil]; done), by repeat (first | (with_reducible first | exact HB.out | apply below_alloc | apply pw_below_drewN | apply below_drew1 | refine below_set ?_ GE210.out) | exact HB.out)⟩

def semver_Version_Minor.f (a0_0 : Int) (a0_1 : Int) (a0_2 : Int) (a0_3 : ByteArray) (a0_4 : ByteArray) (a0_5 : ByteArray) : Option (Int) := some a0_1

set_option maxHeartbeats 80000000 in
set_option maxRecDepth 100000 in
theorem semver_Version_Minor.calls (a0_0 : Int) (a0_1 : Int) (a0_2 : Int) (a0_3 : ByteArray) (a0_4 : ByteArray) (a0_5 : ByteArray) (r : Int) (w : World) (h : semver_Version_Minor.f a0_0 a0_1 a0_2 a0_3 a0_4 a0_5 = some r) :
    Calls Tryd.prog 62 #[.agg #[.int .u64 a0_0, .int .u64 a0_1, .int .u64 a0_2, .string a0_3, .string a0_4, .string a0_5]] w fun e w' => e = .returned (.int .u64 r) ∧ Below w.heap.size w w' := by
  have hu52 := Tryd.underlying52
  have HB := Aside0.mk (Below.refl w.heap.size w)
  have H : (some a0_1) = some r := h
  clear h
  obtain rfl := Option.some.inj H
  go_enter Tryd.func62, Tryd.ntmps62
  go_wp2_with (first | ((with_reducible refine gate_dst (N := 1) rfl ?_); refine box_event ?hg (N := 1) ?hd (cs := #[.int .u64 a0_0, .int .u64 a0_1, .int .u64 a0_2, .string a0_3, .string a0_4, .string a0_5]) (t := 52) ?hr ?_; (case hd => rfl); (case hg => rfl); (case hr => first | (go_simp; done) | (go_simp; rfl) | (go_simp; simp [u8w]; done)); intro gb211 hg w2 hbox hb; have n0_ := Aside0.mk (below_step (by repeat (first | (with_reducible first | exact HB.out | apply below_alloc | apply pw_below_drewN | apply below_drew1) | exact HB.out)) hb); have n1_ := Aside0.mk (hbox); have n2_ := Aside0.mk ((by rw [hg]; exact (below_size (by repeat (first | (with_reducible first | exact HB.out | apply below_alloc | apply pw_below_drewN | apply below_drew1) | exact HB.out))) : w.heap.size ≤ gb211)); have n3_ := Aside0.mk ((by rw [hg]; exact (below_size (by repeat (first | (with_reducible first | exact HB.out | apply below_alloc | apply pw_below_drewN | apply below_drew1) | exact HB.out))) : w.heap.size ≤ gb211)); clear HB; have HB := n0_; have BK211 := n1_; have GW211 := n2_; have GE211 := n3_; clear n0_ n1_ n2_ n3_; clear hb hbox hg; have hcz3_0 : w2.cell? ⟨gb211, 0, none⟩ = some (.int .u64 a0_0) := (blk_cell BK211.out 0).trans rfl; have hcz3_1 : w2.cell? ⟨gb211, 1, none⟩ = some (.int .u64 a0_1) := (blk_cell BK211.out 1).trans rfl; have hcz3_2 : w2.cell? ⟨gb211, 2, none⟩ = some (.int .u64 a0_2) := (blk_cell BK211.out 2).trans rfl; have hcz3_3 : w2.cell? ⟨gb211, 3, none⟩ = some (.string a0_3) := (blk_cell BK211.out 3).trans rfl; have hcz3_4 : w2.cell? ⟨gb211, 4, none⟩ = some (.string a0_4) := (blk_cell BK211.out 4).trans rfl; have hcz3_5 : w2.cell? ⟨gb211, 5, none⟩ = some (.string a0_5) := (blk_cell BK211.out 5).trans rfl; have hfz3_0 := blk_frozen BK211.out 0; have hfz3_1 := blk_frozen BK211.out 1; have hfz3_2 := blk_frozen BK211.out 2; have hfz3_3 := blk_frozen BK211.out 3; have hfz3_4 := blk_frozen BK211.out 4; have hfz3_5 := blk_frozen BK211.out 5))
  go_ret
  exact ⟨by first | rfl | (simp [errW_none, errW_some] <;> rfl) | (simp [*, errW_none, errW_some] <;> rfl) | (simp [bneNil]; done), by repeat (first | (with_reducible first | exact HB.out | apply below_alloc | apply pw_below_drewN | apply below_drew1 | refine below_set ?_ GE211.out) | exact HB.out)⟩

def semver_Version_Patch.f (a0_0 : Int) (a0_1 : Int) (a0_2 : Int) (a0_3 : ByteArray) (a0_4 : ByteArray) (a0_5 : ByteArray) : Option (Int) := some a0_2

set_option maxHeartbeats 80000000 in
set_option maxRecDepth 100000 in
theorem semver_Version_Patch.calls (a0_0 : Int) (a0_1 : Int) (a0_2 : Int) (a0_3 : ByteArray) (a0_4 : ByteArray) (a0_5 : ByteArray) (r : Int) (w : World) (h : semver_Version_Patch.f a0_0 a0_1 a0_2 a0_3 a0_4 a0_5 = some r) :
    Calls Tryd.prog 63 #[.agg #[.int .u64 a0_0, .int .u64 a0_1, .int .u64 a0_2, .string a0_3, .string a0_4, .string a0_5]] w fun e w' => e = .returned (.int .u64 r) ∧ Below w.heap.size w w' := by
  have hu52 := Tryd.underlying52
  have HB := Aside0.mk (Below.refl w.heap.size w)
  have H : (some a0_2) = some r := h
  clear h
  obtain rfl := Option.some.inj H
  go_enter Tryd.func63, Tryd.ntmps63
  go_wp2_with (first | ((with_reducible refine gate_dst (N := 1) rfl ?_); refine box_event ?hg (N := 1) ?hd (cs := #[.int .u64 a0_0, .int .u64 a0_1, .int .u64 a0_2, .string a0_3, .string a0_4, .string a0_5]) (t := 52) ?hr ?_; (case hd => rfl); (case hg => rfl); (case hr => first | (go_simp; done) | (go_simp; rfl) | (go_simp; simp [u8w]; done)); intro gb212 hg w2 hbox hb; have n0_ := Aside0.mk (below_step (by repeat (first | (with_reducible first | exact HB.out | apply below_alloc | apply pw_below_drewN | apply below_drew1) | exact HB.out)) hb); have n1_ := Aside0.mk (hbox); have n2_ := Aside0.mk ((by rw [hg]; exact (below_size (by repeat (first | (with_reducible first | exact HB.out | apply below_alloc | apply pw_below_drewN | apply below_drew1) | exact HB.out))) : w.heap.size ≤ gb212)); have n3_ := Aside0.mk ((by rw [hg]; exact (below_size (by repeat (first | (with_reducible first | exact HB.out | apply below_alloc | apply pw_below_drewN | apply below_drew1) | exact HB.out))) : w.heap.size ≤ gb212)); clear HB; have HB := n0_; have BK212 := n1_; have GW212 := n2_; have GE212 := n3_; clear n0_ n1_ n2_ n3_; clear hb hbox hg; have hcz3_0 : w2.cell? ⟨gb212, 0, none⟩ = some (.int .u64 a0_0) := (blk_cell BK212.out 0).trans rfl; have hcz3_1 : w2.cell? ⟨gb212, 1, none⟩ = some (.int .u64 a0_1) := (blk_cell BK212.out 1).trans rfl; have hcz3_2 : w2.cell? ⟨gb212, 2, none⟩ = some (.int .u64 a0_2) := (blk_cell BK212.out 2).trans rfl; have hcz3_3 : w2.cell? ⟨gb212, 3, none⟩ = some (.string a0_3) := (blk_cell BK212.out 3).trans rfl; have hcz3_4 : w2.cell? ⟨gb212, 4, none⟩ = some (.string a0_4) := (blk_cell BK212.out 4).trans rfl; have hcz3_5 : w2.cell? ⟨gb212, 5, none⟩ = some (.string a0_5) := (blk_cell BK212.out 5).trans rfl; have hfz3_0 := blk_frozen BK212.out 0; have hfz3_1 := blk_frozen BK212.out 1; have hfz3_2 := blk_frozen BK212.out 2; have hfz3_3 := blk_frozen BK212.out 3; have hfz3_4 := blk_frozen BK212.out 4; have hfz3_5 := blk_frozen BK212.out 5))
  go_ret
  exact ⟨by first | rfl | (simp [errW_none, errW_some] <;> rfl) | (simp [*, errW_none, errW_some] <;> rfl) | (simp [bneNil]; done), by repeat (first | (with_reducible first | exact HB.out | apply below_alloc | apply pw_below_drewN | apply below_drew1 | refine below_set ?_ GE212.out) | exact HB.out)⟩

def semver_Version_Prerelease.f (a0_0 : Int) (a0_1 : Int) (a0_2 : Int) (a0_3 : ByteArray) (a0_4 : ByteArray) (a0_5 : ByteArray) : Option (ByteArray) := some a0_3

set_option maxHeartbeats 80000000 in
set_option maxRecDepth 100000 in
theorem semver_Version_Prerelease.calls (a0_0 : Int) (a0_1 : Int) (a0_2 : Int) (a0_3 : ByteArray) (a0_4 : ByteArray) (a0_5 : ByteArray) (r : ByteArray) (w : World) (h : semver_Version_Prerelease.f a0_0 a0_1 a0_2 a0_3 a0_4 a0_5 = some r) :
    Calls Tryd.prog 64 #[.agg #[.int .u64 a0_0, .int .u64 a0_1, .int .u64 a0_2, .string a0_3, .string a0_4, .string a0_5]] w fun e w' => e = .returned (.string r) ∧ Below w.heap.size w w' := by
  have hu52 := Tryd.underlying52
  have HB := Aside0.mk (Below.refl w.heap.size w)
  have H : (some a0_3) = some r := h
  clear h
  obtain rfl := Option.some.inj H
  go_enter Tryd.func64, Tryd.ntmps64
  go_wp2_with (first | ((with_reducible refine gate_dst (N := 1) rfl ?_); refine box_event ?hg (N := 1) ?hd (cs := #[.int .u64 a0_0, .int .u64 a0_1, .int .u64 a0_2, .string a0_3, .string a0_4, .string a0_5]) (t := 52) ?hr ?_; (case hd => rfl); (case hg => rfl); (case hr => first | (go_simp; done) | (go_simp; rfl) | (go_simp; simp [u8w]; done)); intro gb213 hg w2 hbox hb; have n0_ := Aside0.mk (below_step (by repeat (first | (with_reducible first | exact HB.out | apply below_alloc | apply pw_below_drewN | apply below_drew1) | exact HB.out)) hb); have n1_ := Aside0.mk (hbox); have n2_ := Aside0.mk ((by rw [hg]; exact (below_size (by repeat (first | (with_reducible first | exact HB.out | apply below_alloc | apply pw_below_drewN | apply below_drew1) | exact HB.out))) : w.heap.size ≤ gb213)); have n3_ := Aside0.mk ((by rw [hg]; exact (below_size (by repeat (first | (with_reducible first | exact HB.out | apply below_alloc | apply pw_below_drewN | apply below_drew1) | exact HB.out))) : w.heap.size ≤ gb213)); clear HB; have HB := n0_; have BK213 := n1_; have GW213 := n2_; have GE213 := n3_; clear n0_ n1_ n2_ n3_; clear hb hbox hg; have hcz3_0 : w2.cell? ⟨gb213, 0, none⟩ = some (.int .u64 a0_0) := (blk_cell BK213.out 0).trans rfl; have hcz3_1 : w2.cell? ⟨gb213, 1, none⟩ = some (.int .u64 a0_1) := (blk_cell BK213.out 1).trans rfl; have hcz3_2 : w2.cell? ⟨gb213, 2, none⟩ = some (.int .u64 a0_2) := (blk_cell BK213.out 2).trans rfl; have hcz3_3 : w2.cell? ⟨gb213, 3, none⟩ = some (.string a0_3) := (blk_cell BK213.out 3).trans rfl; have hcz3_4 : w2.cell? ⟨gb213, 4, none⟩ = some (.string a0_4) := (blk_cell BK213.out 4).trans rfl; have hcz3_5 : w2.cell? ⟨gb213, 5, none⟩ = some (.string a0_5) := (blk_cell BK213.out 5).trans rfl; have hfz3_0 := blk_frozen BK213.out 0; have hfz3_1 := blk_frozen BK213.out 1; have hfz3_2 := blk_frozen BK213.out 2; have hfz3_3 := blk_frozen BK213.out 3; have hfz3_4 := blk_frozen BK213.out 4; have hfz3_5 := blk_frozen BK213.out 5))
  go_ret
  exact ⟨by first | rfl | (simp [errW_none, errW_some] <;> rfl) | (simp [*, errW_none, errW_some] <;> rfl) | (simp [bneNil]; done), by repeat (first | (with_reducible first | exact HB.out | apply below_alloc | apply pw_below_drewN | apply below_drew1 | refine below_set ?_ GE213.out) | exact HB.out)⟩

def semver_Version_originalVPrefix.f (a0_0 : Int) (a0_1 : Int) (a0_2 : Int) (a0_3 : ByteArray) (a0_4 : ByteArray) (a0_5 : ByteArray) : Option (ByteArray) := if a0_5.toList = ([] : List UInt8) then (some (⟨#[]⟩ : ByteArray)) else (if 0 ≤ 1 then (if 1 ≤ (a0_5.size : Int) then (if (a0_5.extract 0 1).toList = ([118] : List UInt8) then (some (a0_5.extract 0 1)) else (some (⟨#[]⟩ : ByteArray))) else (none)) else (none))

set_option maxHeartbeats 80000000 in
set_option maxRecDepth 100000 in
theorem semver_Version_originalVPrefix.calls (a0_0 : Int) (a0_1 : Int) (a0_2 : Int) (a0_3 : ByteArray) (a0_4 : ByteArray) (a0_5 : ByteArray) (r : ByteArray) (w : World) (h : semver_Version_originalVPrefix.f a0_0 a0_1 a0_2 a0_3 a0_4 a0_5 = some r) :
    Calls Tryd.prog 60 #[.agg #[.int .u64 a0_0, .int .u64 a0_1, .int .u64 a0_2, .string a0_3, .string a0_4, .string a0_5]] w fun e w' => e = .returned (.string r) ∧ Below w.heap.size w w' := by
  have hu52 := Tryd.underlying52
  have HB := Aside0.mk (Below.refl w.heap.size w)
  have H : (if a0_5.toList = ([] : List UInt8) then (some (⟨#[]⟩ : ByteArray)) else (if 0 ≤ 1 then (if 1 ≤ (a0_5.size : Int) then (if (a0_5.extract 0 1).toList = ([118] : List UInt8) then (some (a0_5.extract 0 1)) else (some (⟨#[]⟩ : ByteArray))) else (none)) else (none))) = some r := h
  clear h
  by_cases c2 : a0_5.toList = ([] : List UInt8)
  · rw [if_pos c2] at H
    have c2b0 : (a0_5.toList == ([] : List UInt8)) = true := beq_iff_eq.mpr c2
    have c2b1 : (a0_5.toList != ([] : List UInt8)) = false := bne_eq_false_iff_eq.mpr c2
    clear c2
    obtain rfl := Option.some.inj H
    go_enter Tryd.func60, Tryd.ntmps60
    go_wp2_with (first | ((with_reducible refine gate_dst (N := 1) rfl ?_); refine box_event ?hg (N := 1) ?hd (cs := #[.int .u64 a0_0, .int .u64 a0_1, .int .u64 a0_2, .string a0_3, .string a0_4, .string a0_5]) (t := 52) ?hr ?_; (case hd => rfl); (case hg => rfl); (case hr => first | (go_simp; done) | (go_simp; rfl) | (go_simp; simp [u8w]; done)); intro gb218 hg w3 hbox hb; have n0_ := Aside0.mk (below_step (by repeat (first | (with_reducible first | exact HB.out | apply below_alloc | apply pw_below_drewN | apply below_drew1) | exact HB.out)) hb); have n1_ := Aside0.mk (hbox); have n2_ := Aside0.mk ((by rw [hg]; exact (below_size (by repeat (first | (with_reducible first | exact HB.out | apply below_alloc | apply pw_below_drewN | apply below_drew1) | exact HB.out))) : w.heap.size ≤ gb218)); have n3_ := Aside0.mk ((by rw [hg]; exact (below_size (by repeat (first | (with_reducible first | exact HB.out | apply below_alloc | apply pw_below_drewN | apply below_drew1) | exact HB.out))) : w.heap.size ≤ gb218)); clear HB; have HB := n0_; have BK218 := n1_; have GW218 := n2_; have GE218 := n3_; clear n0_ n1_ n2_ n3_; clear hb hbox hg; have hcz4_0 : w3.cell? ⟨gb218, 0, none⟩ = some (.int .u64 a0_0) := (blk_cell BK218.out 0).trans rfl; have hcz4_1 : w3.cell? ⟨gb218, 1, none⟩ = some (.int .u64 a0_1) := (blk_cell BK218.out 1).trans rfl; have hcz4_2 : w3.cell? ⟨gb218, 2, none⟩ = some (.int .u64 a0_2) := (blk_cell BK218.out 2).trans rfl; have hcz4_3 : w3.cell? ⟨gb218, 3, none⟩ = some (.string a0_3) := (blk_cell BK218.out 3).trans rfl; have hcz4_4 : w3.cell? ⟨gb218, 4, none⟩ = some (.string a0_4) := (blk_cell BK218.out 4).trans rfl; have hcz4_5 : w3.cell? ⟨gb218, 5, none⟩ = some (.string a0_5) := (blk_cell BK218.out 5).trans rfl; have hfz4_0 := blk_frozen BK218.out 0; have hfz4_1 := blk_frozen BK218.out 1; have hfz4_2 := blk_frozen BK218.out 2; have hfz4_3 := blk_frozen BK218.out 3; have hfz4_4 := blk_frozen BK218.out 4; have hfz4_5 := blk_frozen BK218.out 5))
    go_ret
    exact ⟨by first | rfl | (simp [errW_none, errW_some] <;> rfl) | (simp [*, errW_none, errW_some] <;> rfl) | (simp [bneNil]; done), by repeat (first | (with_reducible first | exact HB.out | apply below_alloc | apply pw_below_drewN | apply below_drew1 | refine below_set ?_ GE218.out) | exact HB.out)⟩
  · rw [if_neg c2] at H
    have c2b0 : (a0_5.toList == ([] : List UInt8)) = false := beq_eq_false_iff_ne.mpr c2
    have c2b1 : (a0_5.toList != ([] : List UInt8)) = true := bne_iff_ne.mpr c2
    by_cases c5 : 0 ≤ 1
    · rw [if_pos c5] at H
      have c5b0 := eq_true c5
      have c5b1 : decide (0 ≤ 1) = true := decide_eq_true c5
      clear c5
      by_cases c6 : 1 ≤ (a0_5.size : Int)
      · rw [if_pos c6] at H
        have c6b0 := eq_true c6
        have c6b1 : decide (1 ≤ (a0_5.size : Int)) = true := decide_eq_true c6
        clear c6
        by_cases c7 : (a0_5.extract 0 1).toList = ([118] : List UInt8)
        · rw [if_pos c7] at H
          have c7b0 : ((a0_5.extract 0 1).toList == ([118] : List UInt8)) = true := beq_iff_eq.mpr c7
          have c7b1 : ((a0_5.extract 0 1).toList != ([118] : List UInt8)) = false := bne_eq_false_iff_eq.mpr c7
          clear c7
          have c8b0 := eq_true (of_decide_eq_true (by first | (with_reducible assumption) | assumption) : 0 ≤ 1)
          have c9b0 := eq_true (of_decide_eq_true (by first | (with_reducible assumption) | assumption) : 1 ≤ (a0_5.size : Int))
          obtain rfl := Option.some.inj H
          go_enter Tryd.func60, Tryd.ntmps60
          go_wp2_with (first | ((with_reducible refine gate_dst (N := 1) rfl ?_); refine box_event ?hg (N := 1) ?hd (cs := #[.int .u64 a0_0, .int .u64 a0_1, .int .u64 a0_2, .string a0_3, .string a0_4, .string a0_5]) (t := 52) ?hr ?_; (case hd => rfl); (case hg => rfl); (case hr => first | (go_simp; done) | (go_simp; rfl) | (go_simp; simp [u8w]; done)); intro gb218 hg w10 hbox hb; have n0_ := Aside0.mk (below_step (by repeat (first | (with_reducible first | exact HB.out | apply below_alloc | apply pw_below_drewN | apply below_drew1) | exact HB.out)) hb); have n1_ := Aside0.mk (hbox); have n2_ := Aside0.mk ((by rw [hg]; exact (below_size (by repeat (first | (with_reducible first | exact HB.out | apply below_alloc | apply pw_below_drewN | apply below_drew1) | exact HB.out))) : w.heap.size ≤ gb218)); have n3_ := Aside0.mk ((by rw [hg]; exact (below_size (by repeat (first | (with_reducible first | exact HB.out | apply below_alloc | apply pw_below_drewN | apply below_drew1) | exact HB.out))) : w.heap.size ≤ gb218)); clear HB; have HB := n0_; have BK218 := n1_; have GW218 := n2_; have GE218 := n3_; clear n0_ n1_ n2_ n3_; clear hb hbox hg; have hcz11_0 : w10.cell? ⟨gb218, 0, none⟩ = some (.int .u64 a0_0) := (blk_cell BK218.out 0).trans rfl; have hcz11_1 : w10.cell? ⟨gb218, 1, none⟩ = some (.int .u64 a0_1) := (blk_cell BK218.out 1).trans rfl; have hcz11_2 : w10.cell? ⟨gb218, 2, none⟩ = some (.int .u64 a0_2) := (blk_cell BK218.out 2).trans rfl; have hcz11_3 : w10.cell? ⟨gb218, 3, none⟩ = some (.string a0_3) := (blk_cell BK218.out 3).trans rfl; have hcz11_4 : w10.cell? ⟨gb218, 4, none⟩ = some (.string a0_4) := (blk_cell BK218.out 4).trans rfl; have hcz11_5 : w10.cell? ⟨gb218, 5, none⟩ = some (.string a0_5) := (blk_cell BK218.out 5).trans rfl; have hfz11_0 := blk_frozen BK218.out 0; have hfz11_1 := blk_frozen BK218.out 1; have hfz11_2 := blk_frozen BK218.out 2; have hfz11_3 := blk_frozen BK218.out 3; have hfz11_4 := blk_frozen BK218.out 4; have hfz11_5 := blk_frozen BK218.out 5))
          go_ret
          exact ⟨by first | rfl | (simp [errW_none, errW_some] <;> rfl) | (simp [*, errW_none, errW_some] <;> rfl) | (simp [bneNil]; done), by repeat (first | (with_reducible first | exact HB.out | apply below_alloc | apply pw_below_drewN | apply below_drew1 | refine below_set ?_ GE218.out) | exact HB.out)⟩
        · rw [if_neg c7] at H
          have c7b0 : ((a0_5.extract 0 1).toList == ([118] : List UInt8)) = false := beq_eq_false_iff_ne.mpr c7
          have c7b1 : ((a0_5.extract 0 1).toList != ([118] : List UInt8)) = true := bne_iff_ne.mpr c7
          obtain rfl := Option.some.inj H
          go_enter Tryd.func60, Tryd.ntmps60
          go_wp2_with (first | ((with_reducible refine gate_dst (N := 1) rfl ?_); refine box_event ?hg (N := 1) ?hd (cs := #[.int .u64 a0_0, .int .u64 a0_1, .int .u64 a0_2, .string a0_3, .string a0_4, .string a0_5]) (t := 52) ?hr ?_; (case hd => rfl); (case hg => rfl); (case hr => first | (go_simp; done) | (go_simp; rfl) | (go_simp; simp [u8w]; done)); intro gb218 hg w12 hbox hb; have n0_ := Aside0.mk (below_step (by repeat (first | (with_reducible first | exact HB.out | apply below_alloc | apply pw_below_drewN | apply below_drew1) | exact HB.out)) hb); have n1_ := Aside0.mk (hbox); have n2_ := Aside0.mk ((by rw [hg]; exact (below_size (by repeat (first | (with_reducible first | exact HB.out | apply below_alloc | apply pw_below_drewN | apply below_drew1) | exact HB.out))) : w.heap.size ≤ gb218)); have n3_ := Aside0.mk ((by rw [hg]; exact (below_size (by repeat (first | (with_reducible first | exact HB.out | apply below_alloc | apply pw_below_drewN | apply below_drew1) | exact HB.out))) : w.heap.size ≤ gb218)); clear HB; have HB := n0_; have BK218 := n1_; have GW218 := n2_; have GE218 := n3_; clear n0_ n1_ n2_ n3_; clear hb hbox hg; have hcz13_0 : w12.cell? ⟨gb218, 0, none⟩ = some (.int .u64 a0_0) := (blk_cell BK218.out 0).trans rfl; have hcz13_1 : w12.cell? ⟨gb218, 1, none⟩ = some (.int .u64 a0_1) := (blk_cell BK218.out 1).trans rfl; have hcz13_2 : w12.cell? ⟨gb218, 2, none⟩ = some (.int .u64 a0_2) := (blk_cell BK218.out 2).trans rfl; have hcz13_3 : w12.cell? ⟨gb218, 3, none⟩ = some (.string a0_3) := (blk_cell BK218.out 3).trans rfl; have hcz13_4 : w12.cell? ⟨gb218, 4, none⟩ = some (.string a0_4) := (blk_cell BK218.out 4).trans rfl; have hcz13_5 : w12.cell? ⟨gb218, 5, none⟩ = some (.string a0_5) := (blk_cell BK218.out 5).trans rfl; have hfz13_0 := blk_frozen BK218.out 0; have hfz13_1 := blk_frozen BK218.out 1; have hfz13_2 := blk_frozen BK218.out 2; have hfz13_3 := blk_frozen BK218.out 3; have hfz13_4 := blk_frozen BK218.out 4; have hfz13_5 := blk_frozen BK218.out 5))
          go_ret
          exact ⟨by first | rfl | (simp [errW_none, errW_some] <;> rfl) | (simp [*, errW_none, errW_some] <;> rfl) | (simp [bneNil]; done), by repeat (first | (with_reducible first | exact HB.out | apply below_alloc | apply pw_below_drewN | apply below_drew1 | refine below_set ?_ GE218.out) | exact HB.out)⟩
      · rw [if_neg c6] at H
        exact absurd H (by simp)
    · rw [if_neg c5] at H
      exact absurd H (by simp)

def semver_Version_Metadata.f (a0_0 : Int) (a0_1 : Int) (a0_2 : Int) (a0_3 : ByteArray) (a0_4 : ByteArray) (a0_5 : ByteArray) : Option (ByteArray) := some a0_4

set_option maxHeartbeats 80000000 in
set_option maxRecDepth 100000 in
theorem semver_Version_Metadata.calls (a0_0 : Int) (a0_1 : Int) (a0_2 : Int) (a0_3 : ByteArray) (a0_4 : ByteArray) (a0_5 : ByteArray) (r : ByteArray) (w : World) (h : semver_Version_Metadata.f a0_0 a0_1 a0_2 a0_3 a0_4 a0_5 = some r) :
    Calls Tryd.prog 65 #[.agg #[.int .u64 a0_0, .int .u64 a0_1, .int .u64 a0_2, .string a0_3, .string a0_4, .string a0_5]] w fun e w' => e = .returned (.string r) ∧ Below w.heap.size w w' := by
  have hu52 := Tryd.underlying52
  have HB := Aside0.mk (Below.refl w.heap.size w)
  have H : (some a0_4) = some r := h
  clear h
  obtain rfl := Option.some.inj H
  go_enter Tryd.func65, Tryd.ntmps65
  go_wp2_with (first | ((with_reducible refine gate_dst (N := 1) rfl ?_); refine box_event ?hg (N := 1) ?hd (cs := #[.int .u64 a0_0, .int .u64 a0_1, .int .u64 a0_2, .string a0_3, .string a0_4, .string a0_5]) (t := 52) ?hr ?_; (case hd => rfl); (case hg => rfl); (case hr => first | (go_simp; done) | (go_simp; rfl) | (go_simp; simp [u8w]; done)); intro gb219 hg w2 hbox hb; have n0_ := Aside0.mk (below_step (by repeat (first | (with_reducible first | exact HB.out | apply below_alloc | apply pw_below_drewN | apply below_drew1) | exact HB.out)) hb); have n1_ := Aside0.mk (hbox); have n2_ := Aside0.mk ((by rw [hg]; exact (below_size (by repeat (first | (with_reducible first | exact HB.out | apply below_alloc | apply pw_below_drewN | apply below_drew1) | exact HB.out))) : w.heap.size ≤ gb219)); have n3_ := Aside0.mk ((by rw [hg]; exact (below_size (by repeat (first | (with_reducible first | exact HB.out | apply below_alloc | apply pw_below_drewN | apply below_drew1) | exact HB.out))) : w.heap.size ≤ gb219)); clear HB; have HB := n0_; have BK219 := n1_; have GW219 := n2_; have GE219 := n3_; clear n0_ n1_ n2_ n3_; clear hb hbox hg; have hcz3_0 : w2.cell? ⟨gb219, 0, none⟩ = some (.int .u64 a0_0) := (blk_cell BK219.out 0).trans rfl; have hcz3_1 : w2.cell? ⟨gb219, 1, none⟩ = some (.int .u64 a0_1) := (blk_cell BK219.out 1).trans rfl; have hcz3_2 : w2.cell? ⟨gb219, 2, none⟩ = some (.int .u64 a0_2) := (blk_cell BK219.out 2).trans rfl; have hcz3_3 : w2.cell? ⟨gb219, 3, none⟩ = some (.string a0_3) := (blk_cell BK219.out 3).trans rfl; have hcz3_4 : w2.cell? ⟨gb219, 4, none⟩ = some (.string a0_4) := (blk_cell BK219.out 4).trans rfl; have hcz3_5 : w2.cell? ⟨gb219, 5, none⟩ = some (.string a0_5) := (blk_cell BK219.out 5).trans rfl; have hfz3_0 := blk_frozen BK219.out 0; have hfz3_1 := blk_frozen BK219.out 1; have hfz3_2 := blk_frozen BK219.out 2; have hfz3_3 := blk_frozen BK219.out 3; have hfz3_4 := blk_frozen BK219.out 4; have hfz3_5 := blk_frozen BK219.out 5))
  go_ret
  exact ⟨by first | rfl | (simp [errW_none, errW_some] <;> rfl) | (simp [*, errW_none, errW_some] <;> rfl) | (simp [bneNil]; done), by repeat (first | (with_reducible first | exact HB.out | apply below_alloc | apply pw_below_drewN | apply below_drew1 | refine below_set ?_ GE219.out) | exact HB.out)⟩

end Go.Proofs.YtekmeoemnekmcaaDoor.PX
