/- The row and the tied card of FnSemverSetOriginal, out of its printed walk and its plain law. For every input that the statement lets in. -/
import Derived.Test.YtjgedenoaocfjaaGreatDoorZCardSemverSetOriginal0
import Derived.Test.YtjgedenoaocfjaaGreatDoorZCardSemverSetOriginal31
import Derived.Test.YtjgedenoaocfjaaGreatDoorZCardSemverSetOriginal33
import Derived.LoopTactic
import Derived.OwnWalk
import Derived.Deep.Cut
namespace Go.Proofs.YtjgedenoaocfjaaGreatDoor.Base
end Go.Proofs.YtjgedenoaocfjaaGreatDoor.Base
namespace Go.Proofs.YtjgedenoaocfjaaGreatDoor.Rx
end Go.Proofs.YtjgedenoaocfjaaGreatDoor.Rx
namespace Go.Proofs.YtjgedenoaocfjaaGreatDoor.Rxw

open Go Go.RowKit Go.Lib Go.Proofs Go.Proofs.YtjgedenoaocfjaaGreatDoor.Base Go.Proofs.YtjgedenoaocfjaaGreatDoor.Rx

theorem intInfo : (Tryz.prog.info? 3).map (fun i => (i.zero, i.size, i.bytes)) = some (some (.int .i64 0), 1, 8) := by kernel_rfl

theorem u32Info : (Tryz.prog.info? 118).map (fun i => (i.zero, i.size, i.bytes)) = some (some (.int .u32 0), 1, 4) := by kernel_rfl

theorem mkJobs : ∃ A : Array Value, A.size = 768 ∧ ∀ W : World, (Instr.makeSlice 162 (.int .i64 0) (.int .i64 256)).run Tryz.prog W = .ok (.slice (some ⟨W.heap.size, 0, none⟩) 0 256) (W.alloc (.cells A 182)) := by
  obtain ⟨i, hi, hz, hs, hb⟩ := jobInfo'
  refine ⟨madeCells #[.int .u32 0, .bool false, .int .i64 0] 768, size_madeCells _ _, fun W => ?_⟩
  have := run_make (P := Tryz.prog) W 162 182 i _ Tryz.underlying162 hi hz .i64 .i64 0 256 (by omega) (by omega) (by rw [hb]; omega) (by omega)
  rw [hs] at this
  exact this

theorem mkVis (vs : Nat) (h : vs ≤ 8192) : ∃ A : Array Value, A.toList = List.replicate 8192 (Value.int .u32 0) ∧ ∀ W : World, (Instr.makeSlice 112 (.int .i64 vs) (.int .i64 8192)).run Tryz.prog W = .ok (.slice (some ⟨W.heap.size, 0, none⟩) vs 8192) (W.alloc (.cells A 118)) := by
  obtain ⟨i, hi, hz, hs, hb⟩ := info_parts u32Info
  refine ⟨madeCells #[.int .u32 0] 8192, toList_madeCells_one _ _, fun W => ?_⟩
  have := run_make (P := Tryz.prog) W 112 118 i _ Tryz.underlying112 hi hz .i64 .i64 vs 8192 (by omega) (by omega) (by rw [hb]; omega) (by omega)
  rw [hs, Nat.mul_one] at this
  exact this

theorem mkInts (L : Nat) (h : L ≤ 1000) : ∃ A : Array Value, A.toList = List.replicate L (Value.int .i64 0) ∧ ∀ W : World, (Instr.makeSlice 124 (.int .i64 L) (.int .i64 L)).run Tryz.prog W = .ok (.slice (some ⟨W.heap.size, 0, none⟩) L L) (W.alloc (.cells A 3)) := by
  obtain ⟨i, hi, hz, hs, hb⟩ := info_parts intInfo
  refine ⟨madeCells #[.int .i64 0] L, toList_madeCells_one _ _, fun W => ?_⟩
  have := run_make (P := Tryz.prog) W 124 3 i _ Tryz.underlying124 hi hz .i64 .i64 L L (by omega) (by omega) (by rw [hb]; omega) (by omega)
  rw [hs, Nat.mul_one, Int.toNat_natCast] at this
  exact this

theorem fill_set (L k : Nat) (h : k < L) : (List.replicate k (Value.int .i64 (-1)) ++ List.replicate (L - k) (Value.int .i64 0)).set k (.int .i64 (-1)) = List.replicate (k + 1) (Value.int .i64 (-1)) ++ List.replicate (L - (k + 1)) (Value.int .i64 0) := by
  rw [List.set_append_right _ _ (by simp), List.length_replicate, Nat.sub_self, show L - k = (L - (k + 1)) + 1 by omega, List.replicate_succ, List.set_cons_zero, List.replicate_succ', List.append_assoc]
  rfl

theorem vf_nil (n : Nat) : Vf (List.replicate 8192 0) n = false := by
  unfold Vf
  rw [List.getD_eq_getElem?_getD, List.getElem?_replicate]
  split <;> simp

theorem row_cellA {w : World} {g : Nat} {e : TypeId} {xs : List Value} (h : Row w g e xs) (i : Nat) (x : Value) (hx : xs[i]? = some x) : ∀ o : Obj, (w.alloc o).cell? ⟨g, i, none⟩ = some x := fun o =>
  (h.below ((Below.refl _ w).alloc (Nat.le_refl _) o)).cell i x hx

theorem row_freeA {w : World} {g : Nat} {e : TypeId} {xs : List Value} (h : Row w g e xs) (i : Nat) : ∀ o : Obj, (w.alloc o).frozen? ⟨g, i, none⟩ = false := fun o =>
  (h.below ((Below.refl _ w).alloc (Nat.le_refl _) o)).free i

theorem row_alloc {w : World} {g : Nat} {e : TypeId} {xs : List Value} (h : Row w g e xs) (o : Obj) : Row (w.alloc o) g e xs := h.below ((Below.refl _ w).alloc (Nat.le_refl _) o)

set_option maxHeartbeats 4000000 in
set_option maxRecDepth 100000 in
theorem reset (w : World) (B b pr ib N cN fin L vs : Nat) (s : ByteArray) (hb : Row w b 168 [.int .i64 0, nilS, nilS, nilS, nilS, .string s]) (hp : w.cell? ⟨pr, 0, none⟩ = some (.slice (some ⟨ib, 0, none⟩) N cN)) (hpb : pr < B) (hB : B ≤ b)
  (hN0 : 0 < N) (hN : N ≤ 1000) (hfin : fin ≤ 1000) (hL : 2 ≤ L) (hL2 : L ≤ 1000) (hvs : (N * (fin + 1) + 31) / 32 = vs) (hv8 : vs ≤ 8192) :
  Calls Tryz.prog 111 #[.pointer (some ⟨b, 0, none⟩), .pointer (some ⟨pr, 0, none⟩), .int .i64 fin, .int .i64 L] w fun e w' => e = .returned (.tuple #[]) ∧
   ∃ (h : Sh) (jv : Value) (ws : List Nat), (h.b = b ∧ h.fin = fin ∧ h.nv = vs ∧ h.cv = 8192 ∧ h.L = L ∧ h.s = s) ∧ (∀ n, Vf ws n = false) ∧ BS w' B h jv [] ws (List.replicate L (-1)) (List.replicate L (-1)) ∧ Below B w w' := by
 obtain ⟨A1, hA1, hmk1⟩ := mkJobs
 obtain ⟨A2, hA2, hmk2⟩ := mkVis vs hv8
 obtain ⟨A3, hA3, hmk3⟩ := mkInts L hL2
 have hM : N * (fin + 1) ≤ 262144 := by omega
 have hv0 : 0 < vs := by
  have : 1 * 1 ≤ N * (fin + 1) := Nat.mul_le_mul (by omega) (by omega)
  omega
 have HV0 := Lib.hid hv0; have HHM := Lib.hid hM; have HVS := Lib.hid hvs; have HV8 := Lib.hid hv8; have HBb := Lib.hid hB; have HPB := Lib.hid hpb; have HL2 := Lib.hid hL; have HLL := Lib.hid hL2
 clear hv0 hM hvs hv8 hB hpb
 have hb1 := hb.set 0 (by simp) (.int .i64 fin)
 have b0 := hb.cell 0 _ rfl; have f0 := hb.free 0; have b3 := hb.cell 3 _ rfl
 have c3 := row_cellA hb1 3 _ rfl; have g3 := row_freeA hb1 3
 have HB := Lib.hid hb; have HB1 := Lib.hid hb1; have HA1 := Lib.hid hA1; have HA2 := Lib.hid hA2; have HA3 := Lib.hid hA3
 have hlt := hb.lt
 have HLt := Lib.hid hlt
 clear hb hb1 hA1 hA2 hA3 hlt
 go_enter Tryz.func111, Tryz.ntmps111
 go_upto_region 4 with fail
 have hb2 := (row_alloc HB1.out (.cells A1 182)).set 3 (by simp) (.slice (some ⟨w.heap.size, 0, none⟩) 0 256)
 have hj2 : Row _ w.heap.size 182 A1.toList := (show Row ((w.setCell ⟨b, 0, none⟩ (.int .i64 fin)).alloc (.cells A1 182)) w.heap.size _ _ from by
  have := Row.new (w.setCell ⟨b, 0, none⟩ (.int .i64 fin)) A1 182
  rw [hsz] at this
  exact this).far ⟨b, 3, none⟩ (by have := HLt.out; dsimp only; omega) (.slice (some ⟨w.heap.size, 0, none⟩) 0 256)
 have hbel2 : Below B w (((w.setCell ⟨b, 0, none⟩ (.int .i64 fin)).alloc (.cells A1 182)).setCell ⟨b, 3, none⟩ (.slice (some ⟨w.heap.size, 0, none⟩) 0 256)) :=
  (((Below.refl B w).setCell HBb.out _).alloc (by rw [hsz]; have := HLt.out; have := HBb.out; omega) _).setCell HBb.out _
 have hp2 := (hbel2.cell (p := ⟨pr, 0, none⟩) HPB.out).trans hp
 generalize World.setCell (World.alloc (World.setCell w _ _) _) _ _ = w2 at *
 clear hp
 have c4 := hb2.cell 4 _ rfl
 have c4' := row_cellA hb2 4 _ rfl; have g4 := row_freeA hb2 4
 have HB2 := Lib.hid hb2; have HJ2 := Lib.hid hj2; have HE2 := Lib.hid hbel2
 clear b0 f0 b3 c3 g3 hb2 hj2 hbel2 hmk1
 obtain ⟨m, hm⟩ : ∃ m, N * (fin + 1) = m := ⟨_, rfl⟩
 have e1 : (N : Int) * ((fin : Int) + 1) = (m : Int) := by rw [← hm]; push_cast; rfl
 have hm0 : (0 : Int) ≤ (m : Int) := Int.natCast_nonneg m
 have hm1 : (m : Int) ≤ 262144 := by have := HHM.out; omega
 have e2 : ((m : Int) + 31) / 32 = (vs : Int) := by have := HVS.out; omega
 have e3 : ((m : Int) + 32 - 1) / 32 = (vs : Int) := by have := HVS.out; omega
 have hvN : 0 < vs := HV0.out
 have hvI : (0 : Int) < (vs : Int) := by have := HV0.out; omega
 have HM := Lib.hid hm
 clear hm
 go_upto_region 9 with fail
 have hb3 := (row_alloc HB2.out (.cells A2 118)).set 4 (by simp) (.slice (some ⟨w2.heap.size, 0, none⟩) vs 8192)
 have hv3 := (Row.new w2 A2 118).far ⟨b, 4, none⟩ (by have := HB2.out.lt; dsimp only; omega) (.slice (some ⟨w2.heap.size, 0, none⟩) vs 8192)
 have hj3 := (row_alloc HJ2.out (.cells A2 118)).far ⟨b, 4, none⟩ (by have := HLt.out; dsimp only; omega) (.slice (some ⟨w2.heap.size, 0, none⟩) vs 8192)
 have hbel3 : Below B w ((w2.alloc (.cells A2 118)).setCell ⟨b, 4, none⟩ (.slice (some ⟨w2.heap.size, 0, none⟩) vs 8192)) :=
  (HE2.out.alloc (by have := HB2.out.lt; have := HBb.out; omega) _).setCell HBb.out _
 have HV2l := Lib.hid (show b < w2.heap.size ∧ w.heap.size < w2.heap.size from ⟨HB2.out.lt, HJ2.out.lt⟩)
 generalize hV : w2.heap.size = V at *
 generalize World.setCell (World.alloc w2 _) _ _ = w3 at *
 have c1 := hb3.cell 1 _ rfl
 have c1' := row_cellA hb3 1 _ rfl; have g1 := row_freeA hb3 1
 have HB3 := Lib.hid hb3; have HJ3 := Lib.hid hj3; have HV3 := Lib.hid hv3; have HE3 := Lib.hid hbel3
 have hLN : 0 < L := by have := HL2.out; omega
 have hLI : (0 : Int) < (L : Int) := by omega
 have HVV := Lib.hid hV
 clear c4 c4' g4 hb3 hj3 hv3 hbel3 hmk2 e1 e2 e3 hm0 hm1 hp2 hV HB2 HJ2 HE2
 go_upto_region 12 with fail
 have hb4 := (row_alloc HB3.out (.cells A3 3)).set 1 (by simp) (.slice (some ⟨w3.heap.size, 0, none⟩) L L)
 have hc4 := (Row.new w3 A3 3).far ⟨b, 1, none⟩ (by have := HB3.out.lt; dsimp only; omega) (.slice (some ⟨w3.heap.size, 0, none⟩) L L)
 have hv4 := (row_alloc HV3.out (.cells A3 3)).far ⟨b, 1, none⟩ (by have := HV2l.out; dsimp only; omega) (.slice (some ⟨w3.heap.size, 0, none⟩) L L)
 have hj4 := (row_alloc HJ3.out (.cells A3 3)).far ⟨b, 1, none⟩ (by have := HLt.out; dsimp only; omega) (.slice (some ⟨w3.heap.size, 0, none⟩) L L)
 have hbel4 : Below B w ((w3.alloc (.cells A3 3)).setCell ⟨b, 1, none⟩ (.slice (some ⟨w3.heap.size, 0, none⟩) L L)) :=
  (HE3.out.alloc (by have := HB3.out.lt; have := HBb.out; omega) _).setCell HBb.out _
 have HC4l := Lib.hid (show V < w3.heap.size from HV3.out.lt)
 generalize hC : w3.heap.size = C at *
 generalize World.setCell (World.alloc w3 _) _ _ = w4 at *
 have d1 := hb4.cell 1 _ rfl
 have HB4 := Lib.hid hb4; have HJ4 := Lib.hid hj4; have HV4 := Lib.hid hv4; have HE4 := Lib.hid hbel4
 have HC4 := Lib.hid (show Row w4 C 3 (List.replicate 0 (Value.int .i64 (-1)) ++ List.replicate L (Value.int .i64 0)) from by have := hc4; rw [HA3.out] at this; exact this)
 clear c1 c1' g1 hb4 hj4 hv4 hc4 hbel4 hC HB3 HJ3 HV3 HE3
 go_wp2_with fail
 go_loopw [95] (fun i w' => ∃ k : Nat, i = .int .i64 k ∧ k ≤ L ∧ Hid (Row w' b 168 [.int .i64 fin, .slice (some ⟨C, 0, none⟩) L L, nilS, .slice (some ⟨w.heap.size, 0, none⟩) 0 256, .slice (some ⟨V, 0, none⟩) vs 8192, .string s]) ∧ Hid (Row w' w.heap.size 182 A1.toList) ∧ Hid (Row w' V 118 A2.toList) ∧ Hid (Row w' C 3 (List.replicate k (Value.int .i64 (-1)) ++ List.replicate (L - k) (Value.int .i64 0))) ∧ Hid (Below B w w')) (fun i _ => L - (Go.RowKit.intOf i).toNat)
 case atStart => exact ⟨0, rfl, Nat.zero_le _, HB4, HJ4, HV4, HC4, HE4⟩
 case round =>
  obtain ⟨k, rfl, hk, RB, RJ, RV, RC, RE⟩ := hrel
  clear HB4 HJ4 HV4 HC4 HE4 d1
  by_cases hlt : k < L
  ·
   have d1 := RB.out.cell 1 _ rfl
   have hx : (List.replicate k (Value.int .i64 (-1)) ++ List.replicate (L - k) (Value.int .i64 0))[k]? = some (.int .i64 0) := by
    rw [List.getElem?_append_right (by simp), List.length_replicate, List.getElem?_replicate, if_pos (by omega)]
   have x1 := RC.out.cell k _ hx
   have y1 := RC.out.free k
   have e0 : (0 : Int) ≤ (k : Int) := Int.natCast_nonneg k
   have hkI : (k : Int) < (L : Int) := by omega
   clear hx
   go_wp2_with fail
   go_roundw
   case rel =>
    refine ⟨k + 1, rfl, hlt, ?_, ?_, ?_, ?_, ?_⟩
    ·
     exact Lib.hid (RB.out.far ⟨C, k, none⟩ (by have := HLt.out; have := HV2l.out; have := HC4l.out; dsimp only; omega) _)
    ·
     exact Lib.hid (RJ.out.far ⟨C, k, none⟩ (by have := HLt.out; have := HV2l.out; have := HC4l.out; dsimp only; omega) _)
    ·
     exact Lib.hid (RV.out.far ⟨C, k, none⟩ (by have := HLt.out; have := HV2l.out; have := HC4l.out; dsimp only; omega) _)
    ·
     have := RC.out.set k (by simp; omega) (.int .i64 (-1))
     rw [fill_set L k hlt] at this
     exact Lib.hid this
    ·
     exact Lib.hid (RE.out.setCell (by have := HBb.out; have := HLt.out; have := HV2l.out; have := HC4l.out; dsimp only; omega) _)
   case measure => simp [Go.RowKit.intOf]; omega
  ·
   obtain rfl : k = L := by omega
   have HC5 : Hid (Row wr C 3 (List.replicate k (Value.int .i64 (-1)))) := Lib.hid (by have := RC.out; rw [Nat.sub_self, List.replicate_zero, List.append_nil] at this; exact this)
   have d2 := RB.out.cell 2 _ rfl
   have d2' := row_cellA RB.out 2 _ rfl
   have g2 := row_freeA RB.out 2
   have e0 : decide ((k : Int) < (k : Int)) = false := decide_eq_false (by omega)
   clear RC hlt
   go_upto_region 20 with fail
   have hb6 := (row_alloc RB.out (.cells A3 3)).set 2 (by simp) (.slice (some ⟨wr.heap.size, 0, none⟩) k k)
   have hd6 := (Row.new wr A3 3).far ⟨b, 2, none⟩ (by have := RB.out.lt; dsimp only; omega) (.slice (some ⟨wr.heap.size, 0, none⟩) k k)
   have hc6 := (row_alloc HC5.out (.cells A3 3)).far ⟨b, 2, none⟩ (by have := HLt.out; have := HV2l.out; have := HC4l.out; dsimp only; omega) (.slice (some ⟨wr.heap.size, 0, none⟩) k k)
   have hv6 := (row_alloc RV.out (.cells A3 3)).far ⟨b, 2, none⟩ (by have := HV2l.out; dsimp only; omega) (.slice (some ⟨wr.heap.size, 0, none⟩) k k)
   have hj6 := (row_alloc RJ.out (.cells A3 3)).far ⟨b, 2, none⟩ (by have := HLt.out; dsimp only; omega) (.slice (some ⟨wr.heap.size, 0, none⟩) k k)
   have hbel6 : Below B w ((wr.alloc (.cells A3 3)).setCell ⟨b, 2, none⟩ (.slice (some ⟨wr.heap.size, 0, none⟩) k k)) :=
    (RE.out.alloc (by have := RB.out.lt; have := HBb.out; omega) _).setCell HBb.out _
   have HD6l := Lib.hid (show C < wr.heap.size from HC5.out.lt)
   generalize hD : wr.heap.size = D at *
   generalize World.setCell (World.alloc wr _) _ _ = w6 at *
   have HB6 := Lib.hid hb6; have HJ6 := Lib.hid hj6; have HV6 := Lib.hid hv6; have HE6 := Lib.hid hbel6; have HC6 := Lib.hid hc6
   have HD6 := Lib.hid (show Row w6 D 3 (List.replicate 0 (Value.int .i64 (-1)) ++ List.replicate k (Value.int .i64 0)) from by have := hd6; rw [HA3.out] at this; exact this)
   clear d2 d2' g2 hb6 hv6 hj6 hc6 hd6 hbel6 hD RB RJ RV RE HC5
   have d1 := HB6.out.cell 2 _ rfl
   go_wp2_with fail
   clear d1
   go_loopw [131] (fun i w' => ∃ j : Nat, i = .int .i64 j ∧ j ≤ k ∧ Hid (Row w' b 168 [.int .i64 fin, .slice (some ⟨C, 0, none⟩) k k, .slice (some ⟨D, 0, none⟩) k k, .slice (some ⟨w.heap.size, 0, none⟩) 0 256, .slice (some ⟨V, 0, none⟩) vs 8192, .string s]) ∧ Hid (Row w' w.heap.size 182 A1.toList) ∧ Hid (Row w' V 118 A2.toList) ∧ Hid (Row w' C 3 (List.replicate k (Value.int .i64 (-1)))) ∧ Hid (Row w' D 3 (List.replicate j (Value.int .i64 (-1)) ++ List.replicate (k - j) (Value.int .i64 0))) ∧ Hid (Below B w w')) (fun i _ => k - (Go.RowKit.intOf i).toNat)
   case atStart => exact ⟨0, rfl, Nat.zero_le _, HB6, HJ6, HV6, HC6, HD6, HE6⟩
   case round =>
    obtain ⟨j, rfl, hk, RB, RJ, RV, RC, RD, RE⟩ := hrel
    clear HB6 HJ6 HV6 HC6 HD6 HE6
    by_cases hlt : j < k
    ·
     have d1 := RB.out.cell 2 _ rfl
     have hx : (List.replicate j (Value.int .i64 (-1)) ++ List.replicate (k - j) (Value.int .i64 0))[j]? = some (.int .i64 0) := by
      rw [List.getElem?_append_right (by simp), List.length_replicate, List.getElem?_replicate, if_pos (by omega)]
     have x1 := RD.out.cell j _ hx
     have y1 := RD.out.free j
     have e0 : (0 : Int) ≤ (j : Int) := Int.natCast_nonneg j
     have hkI : (j : Int) < (k : Int) := by omega
     clear hx
     go_wp2_with fail
     go_roundw
     case rel =>
      refine ⟨j + 1, rfl, hlt, ?_, ?_, ?_, ?_, ?_, ?_⟩
      ·
       exact Lib.hid (RB.out.far ⟨D, j, none⟩ (by have := HLt.out; have := HV2l.out; have := HC4l.out; have := HD6l.out; dsimp only; omega) _)
      ·
       exact Lib.hid (RJ.out.far ⟨D, j, none⟩ (by have := HLt.out; have := HV2l.out; have := HC4l.out; have := HD6l.out; dsimp only; omega) _)
      ·
       exact Lib.hid (RV.out.far ⟨D, j, none⟩ (by have := HLt.out; have := HV2l.out; have := HC4l.out; have := HD6l.out; dsimp only; omega) _)
      ·
       exact Lib.hid (RC.out.far ⟨D, j, none⟩ (by have := HLt.out; have := HV2l.out; have := HC4l.out; have := HD6l.out; dsimp only; omega) _)
      ·
       have := RD.out.set j (by simp; omega) (.int .i64 (-1))
       rw [fill_set k j hlt] at this
       exact Lib.hid this
      ·
       exact Lib.hid (RE.out.setCell (by have := HBb.out; have := HLt.out; have := HV2l.out; have := HC4l.out; have := HD6l.out; dsimp only; omega) _)
     case measure => simp [Go.RowKit.intOf]; omega
    ·
     obtain rfl : j = k := by omega
     have HD7 : Hid (Row wr D 3 (List.replicate j (Value.int .i64 (-1)))) := Lib.hid (by have := RD.out; rw [Nat.sub_self, List.replicate_zero, List.append_nil] at this; exact this)
     have e1 : decide ((j : Int) < (j : Int)) = false := decide_eq_false (by omega)
     clear RD hlt
     go_wp2_with fail
     go_end0
     refine ⟨rfl, ⟨b, C, D, V, vs, 8192, j, fin, s⟩, .slice (some ⟨w.heap.size, 0, none⟩) 0 256, List.replicate 8192 0, ⟨rfl, rfl, rfl, rfl, rfl, rfl⟩, vf_nil, ?_, RE.out⟩
     refine ⟨RB.out, ?_, ?_, ?_, ?_, by simp, by simp, ?_, ?_, ?_, ?_, ?_, ?_, ?_⟩
     ·
      rw [List.map_replicate]; exact RC.out
     ·
      rw [List.map_replicate]; exact HD7.out
     ·
      rw [List.map_replicate]; have := RV.out; rw [HA2.out] at this; exact this
     ·
      exact ⟨rfl, .inr ⟨w.heap.size, 256, A1, rfl, by have := HBb.out; have := HLt.out; omega, RJ.out, Nat.zero_le _, by decide, HA1.out, by simp [jcells]⟩⟩
     ·
      have := HD6l.out; dsimp only; omega
     ·
      have := HV8.out; simp; omega
     ·
      intro x hx; rw [(List.mem_replicate.1 hx).2]; decide
     all_goals (have := HBb.out; have := HLt.out; have := HV2l.out; have := HC4l.out; have := HD6l.out; dsimp only; omega)

end Go.Proofs.YtjgedenoaocfjaaGreatDoor.Rxw
