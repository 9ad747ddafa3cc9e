/- The row and the tied card of FnSemverSetOriginal, out of its printed walk and its plain law. For every input that the statement lets in. -/
import Derived.Test.YtjgedenoaocfjaaGreatDoorZCardSemverSetOriginal0
import Derived.Test.YtjgedenoaocfjaaGreatDoorZCardSemverSetOriginal37
import Derived.Lib.LazyBuf
import Derived.LoopTactic
import Derived.RegionTactic
namespace Go.Proofs.YtjgedenoaocfjaaGreatDoor.Base
end Go.Proofs.YtjgedenoaocfjaaGreatDoor.Base
namespace Go.Proofs.YtjgedenoaocfjaaGreatDoor.Rx
end Go.Proofs.YtjgedenoaocfjaaGreatDoor.Rx
namespace Go.Proofs.YtjgedenoaocfjaaGreatDoor.Rxw

open Go Go.RowKit Go.Lib Go.Proofs Go.Proofs.YtjgedenoaocfjaaGreatDoor.Base Go.Proofs.YtjgedenoaocfjaaGreatDoor.Rx

theorem BackR.ret {B0 L : Nat} {w w' : World} {r : Option (List Int)} {e : Ending} (h : BackR B0 L w r e w') : ∃ v', e = .returned v' := by
  cases r with
  | none => exact ⟨_, h.1⟩
  | some d => obtain ⟨v', h, _⟩ := h; exact ⟨v', h⟩

set_option maxHeartbeats 4000000 in
set_option maxRecDepth 100000 in
theorem findA {re B0 L mi g c : Nat} {s : ByteArray} {r : Option (List Int)} (w : World)
    (hmi : w.cell? ⟨re, 14, none⟩ = some (.int .i64 mi)) (hsmall : s.size < mi → r = none) (hs : s.size ≤ 1000)
    (hback : Calls Tryz.prog 100 #[ptr re, nilS, .string s, .int .i64 0, .int .i64 L, .slice (some ⟨g, 0, none⟩) 0 c] w (BackR B0 L w r)) :
    Calls Tryz.prog 85 #[ptr re, .nilIface, nilS, .string s, .int .i64 0, .int .i64 L, .slice (some ⟨g, 0, none⟩) 0 c] w (BackR B0 L w r) := by
  have C1 := Lib.hid hback
  have hnil : ∀ w : World, (binOp .eql 124 (.slice (some ⟨g, 0, none⟩) 0 c) (.slice none 0 0)).run Tryz.prog w = .ok (.bool false) w := fun w => run_eql_slice_nil w _ _ _ _ _ Tryz.underlying124
  clear hback
  by_cases hlt : s.size < mi
  · have hr := hsmall hlt
    subst hr
    have hwr : wrap64 (s.size : Int) = (s.size : Int) := by unfold wrap64; omega
    have e2 : decide (s.size < mi) = true := decide_eq_true (by omega)
    clear C1 hsmall hlt hs
    go_enter Tryz.func85, Tryz.ntmps85
    go_wp2_with fail
    go_ret
    exact ⟨rfl, Below.refl _ _⟩
  · have hwr : wrap64 (s.size : Int) = (s.size : Int) := by unfold wrap64; omega
    have e2 : decide (s.size < mi) = false := decide_eq_false (by omega)
    clear hsmall hlt hs
    go_enter Tryz.func85, Tryz.ntmps85
    go_wp2_with (go_at_call 100; (with_reducible refine C1.out.mono ?_); intro e w1 hR; obtain ⟨v', rfl⟩ := BackR.ret hR)
    go_ret
    exact hR

end Go.Proofs.YtjgedenoaocfjaaGreatDoor.Rxw
namespace Go.Proofs.YtjgedenoaocfjaaGreatDoor.Rxw

open Go Go.RowKit Go.Lib Go.Proofs Go.Proofs.YtjgedenoaocfjaaGreatDoor.Base Go.Proofs.YtjgedenoaocfjaaGreatDoor.Rx

theorem strInfo : (Tryz.prog.info? 9).map (fun i => (i.zero, i.size, i.bytes)) = some (some (.string ⟨#[]⟩), 1, 16) := by kernel_rfl

theorem mkStrs (n : Nat) (h : n ≤ 1000) : ∃ A : Array Value, A.toList = List.replicate n (Value.string ⟨#[]⟩) ∧ ∀ W : World, (Instr.makeSlice 46 (.int .i64 n) (.int .i64 n)).run Tryz.prog W = .ok (.slice (some ⟨W.heap.size, 0, none⟩) n n) (W.alloc (.cells A 9)) := by
  obtain ⟨i, hi, hz, hs, hb⟩ := info_parts strInfo
  refine ⟨madeCells #[.string ⟨#[]⟩] n, toList_madeCells_one _ _, fun W => ?_⟩
  have := run_make (P := Tryz.prog) W 46 9 i _ Tryz.underlying46 hi hz .i64 .i64 n n (by omega) (by omega) (by rw [hb]; omega) (by omega)
  rw [hs, Nat.mul_one, Int.toNat_natCast] at this
  exact this

theorem row_cellB {w : World} {p : Addr} {v : Value} (h : w.cell? p = some v) (o : Obj) (hl : p.block < w.heap.size) : (w.alloc o).cell? p = some v := (((Below.refl _ w).alloc (Nat.le_refl _) o).cell hl).trans h

theorem fill_none (f : Nat → Value) {n k : Nat} {e : Value} (h : k < n) (he : f k = e) : ((List.range k).map f ++ List.replicate (n - k) e) = (List.range (k + 1)).map f ++ List.replicate (n - (k + 1)) e := by
  rw [show n - k = (n - (k + 1)) + 1 by omega, List.replicate_succ, List.range_succ, List.map_append, List.append_assoc, ← he]
  rfl

theorem fill_str (f : Nat → Value) {n k : Nat} {e : Value} (h : k < n) : ((List.range k).map f ++ List.replicate (n - k) e).set k (f k) = (List.range (k + 1)).map f ++ List.replicate (n - (k + 1)) e := by
  rw [List.set_append_right _ _ (by simp), List.length_map, List.length_range, Nat.sub_self, show n - k = (n - (k + 1)) + 1 by omega, List.replicate_succ, List.set_cons_zero, List.range_succ, List.map_append, List.append_assoc]
  rfl

theorem wrap64_step (k : Nat) (h : k < 1000000) : wrap64 ((k : Int) + 1) = (k : Int) + 1 := by unfold wrap64; omega

theorem wrap64_two (k m : Nat) (h : k < 1000000) (hm : m = 2 * k) : wrap64 (2 * (k : Int)) = (m : Int) := by unfold wrap64; omega

theorem wrap64_one (m m1 : Nat) (h : m < 1000000) (hm : m1 = m + 1) : wrap64 ((m : Int) + 1) = (m1 : Int) := by unfold wrap64; omega

theorem own_some {w : World} {B n : Nat} {e : TypeId} {v : Value} {xs : List Value} (h : w.ownsRow B e 1 v n xs) (hn : 0 < n) : ∃ g c, v = .slice (some ⟨g, 0, none⟩) n c ∧ B ≤ g ∧ g < w.heap.size ∧ ∀ j u, xs[j]? = some u → w.cell? ⟨g, j, none⟩ = some u := by
  have hc := fun g (hg : v.ownBlock = some g) => h.cells hg
  rcases h.2 with ⟨rfl, h0⟩ | ⟨g, cap, cur, rfl, h1, h2, h3⟩
  · omega
  · refine ⟨g, cap, rfl, h1, (Array.getElem?_eq_some_iff.1 h2).1, fun j u hu => ?_⟩
    have := hc g rfl j u hu
    have e : (⟨g, 0, none⟩ : Addr).add j = ⟨g, j, none⟩ := by
      unfold Addr.add
      split
      · rename_i h0; subst h0; rfl
      · simp
    rwa [e] at this

/-- A group's text. -/
def gtx (s : ByteArray) (d : List Int) (k : Nat) : ByteArray := if 0 ≤ d.getD (2 * k) 0 then s.extract (d.getD (2 * k) 0).toNat (d.getD (2 * k + 1) 0).toNat else ⟨#[]⟩

def FssR (n : Nat) (s : ByteArray) (w : World) (r : Option (List Int)) (e : Ending) (w' : World) : Prop := match r with
  | none => e = .returned nilS ∧ Below w.heap.size w w'
  | some d => ∃ g, e = .returned (.slice (some ⟨g, 0, none⟩) n n) ∧ w.heap.size ≤ g ∧ Row w' g 9 ((List.range n).map fun k => .string (gtx s d k)) ∧ Below w.heap.size w w'

set_option maxHeartbeats 4000000 in
set_option maxRecDepth 100000 in
theorem fssA {re pr L n : Nat} {s : ByteArray} {r : Option (List Int)} (w : World)
  (hprog : w.cell? ⟨re, 1, none⟩ = some (.pointer (some ⟨pr, 0, none⟩))) (hcap : w.cell? ⟨pr, 2, none⟩ = some (.int .i64 L)) (hsub : w.cell? ⟨re, 3, none⟩ = some (.int .i64 ((n : Int) - 1))) (hre : re < w.heap.size) (hpr : pr < w.heap.size) (hn0 : 0 < n) (hnL : L = 2 * n) (hn : n ≤ 400) (hsz : s.size ≤ 1000)
  (hd : ∀ d, r = some d → ∀ k, k < n → 0 ≤ d.getD (2 * k) 0 → d.getD (2 * k) 0 ≤ d.getD (2 * k + 1) 0 ∧ d.getD (2 * k + 1) 0 ≤ s.size) (hlen : ∀ d, r = some d → d.length = L)
  (hfind : ∀ w1 : World, w1.heap = (w.alloc (.cells #[.int .i64 0, .int .i64 0, .int .i64 0, .int .i64 0] 123)).heap → Calls Tryz.prog 85 #[ptr re, .nilIface, nilS, .string s, .int .i64 0, .int .i64 L, .slice (some ⟨w.heap.size, 0, none⟩) 0 4] w1 (BackR w.heap.size L w1 r)) :
  Calls Tryz.prog 70 #[ptr re, .string s] w (FssR n s w r) := by
 have CF := Lib.hid hfind
 obtain ⟨A1, hA1, hmk⟩ := mkStrs n (by omega)
 have HN0 := Lib.hid hn0; have HNL := Lib.hid hnL; have HN := Lib.hid hn; have HSZ := Lib.hid hsz; have HD := Lib.hid hd; have HLN := Lib.hid hlen; have HA1 := Lib.hid hA1
 have HRE := Lib.hid hre; have HPR := Lib.hid hpr
 clear hfind hn0 hnL hn hsz hd hlen hA1
 go_enter Tryz.func70, Tryz.ntmps70
 go_upto_region 2 with fail
 have e1 := row_cellB hprog (.cells #[.int .i64 0, .int .i64 0, .int .i64 0, .int .i64 0] 123) HRE.out
 have e2 := row_cellB hcap (.cells #[.int .i64 0, .int .i64 0, .int .i64 0, .int .i64 0] 123) HPR.out
 go_region_with (go_at_call 85; (with_reducible refine (CF.out _ ?ch).mono ?_); (case ch => rfl); intro e w2 hR; obtain ⟨v', rfl⟩ := BackR.ret hR; have HR := Lib.hid hR; clear hR)
 have hb2 : Below w.heap.size w w2 := by
  cases r with
  | none => exact Below.trans (by repeat (first | exact (Below.refl _ w).alloc (Nat.le_refl _) _ | apply Below.drew)) HR.out.2
  | some d => obtain ⟨_, _, h, _⟩ := HR.out; exact Below.trans (by repeat (first | exact (Below.refl _ w).alloc (Nat.le_refl _) _ | apply Below.drew)) h
 cases r with
 | none =>
  have hv : v' = nilS := by have := HR.out.1; cases this; rfl
  subst hv
  have HB2 := Lib.hid hb2
  have hnil : ∀ w : World, (binOp .eql 124 (.slice none 0 0) (.slice none 0 0)).run Tryz.prog w = .ok (.bool true) w := fun w => run_eql_slice_nil w _ _ _ _ _ Tryz.underlying124
  clear HR e1 e2 hmk hb2
  go_wp2_with fail
  go_ret
  exact ⟨rfl, HB2.out⟩
 | some d =>
  obtain ⟨v2, h1, _, ho⟩ := HR.out
  cases h1
  obtain ⟨ga, ca, rfl, hga, hgl, hcell⟩ := own_some ho (by have := HN0.out; have := HNL.out; omega)
  have hnil : ∀ w : World, (binOp .eql 124 (.slice (some ⟨ga, 0, none⟩) L ca) (.slice none 0 0)).run Tryz.prog w = .ok (.bool false) w := fun w => run_eql_slice_nil w _ _ _ _ _ Tryz.underlying124
  have q3 : w2.cell? ⟨re, 3, none⟩ = _ := (hb2.cell (p := ⟨re, 3, none⟩) HRE.out).trans hsub
  have hw1 : wrap64 (1 + ((n : Int) - 1)) = (n : Int) := by have := HN.out; unfold wrap64; omega
  have hnp : (0 : Int) < (n : Int) := by have := HN0.out; omega
  have HB2 := Lib.hid hb2; have HG := Lib.hid (And.intro hga hgl); have HC := Lib.hid hcell
  clear HR e1 e2 hb2 ho hga hgl hcell
  go_upto_region 6 with fail
  have hb3 := (Below.refl w2.heap.size w2).alloc (Nat.le_refl _) (.cells A1 9)
  have hr3 : Row (w2.alloc (.cells A1 9)) w2.heap.size 9 ((List.range 0).map (fun k => .string (gtx s d k)) ++ List.replicate (n - 0) (.string ⟨#[]⟩)) := by
   have := Row.new w2 A1 9
   rw [HA1.out] at this
   exact this
  have HB3 := Lib.hid hb3; have HR3 := Lib.hid hr3
  generalize World.alloc w2 _ = w3 at *
  generalize hG : w2.heap.size = G at *
  have HGG := Lib.hid hG
  clear hb3 hr3 hG hw1 hnil q3 hsub hmk
  go_wp2_with fail
  go_loopw [30] (fun i w' => ∃ k : Nat, i = .int .i64 k ∧ k ≤ n ∧ Hid (Row w' G 9 ((List.range k).map (fun k => .string (gtx s d k)) ++ List.replicate (n - k) (.string ⟨#[]⟩))) ∧ Hid (Below G w2 w')) (fun i _ => n - (Go.RowKit.intOf i).toNat)
  case atStart => exact ⟨0, rfl, Nat.zero_le _, HR3, HB3⟩
  case round =>
   obtain ⟨k, rfl, hk, RG, RE⟩ := hrel
   clear HR3 HB3
   by_cases hlt : k < n
   ·
    obtain ⟨m, hm⟩ : ∃ m, m = 2 * k := ⟨_, rfl⟩
    obtain ⟨m1, hm1⟩ : ∃ m1, m1 = m + 1 := ⟨_, rfl⟩
    have hL := HNL.out; have hnn := HN.out
    have HKB : Hid (k < 1000000) := Lib.hid (by omega)
    have HMB : Hid (m < 1000000) := Lib.hid (by omega)
    have hmL : (m : Int) < (L : Int) := by omega
    have hmN : m < L := by omega
    have hm1L : (m1 : Int) < (L : Int) := by omega
    have hm0 : (0 : Int) ≤ (m : Int) := Int.natCast_nonneg m
    have hm10 : (0 : Int) ≤ (m1 : Int) := Int.natCast_nonneg m1
    have hk0 : (0 : Int) ≤ (k : Int) := Int.natCast_nonneg k
    have hkI : (k : Int) < (n : Int) := by omega
    have hlen := HLN.out d rfl
    have x1 : wr.cell? ⟨ga, m, none⟩ = some (.int .i64 (d.getD m 0)) := (RE.out.cell (p := ⟨ga, m, none⟩) (by have := HG.out.2; have := HGG.out; dsimp only; omega)).trans (HC.out m _ (by rw [List.getElem?_map, List.getD_eq_getElem?_getD, List.getElem?_eq_getElem (by omega)]; rfl))
    have x2 : wr.cell? ⟨ga, m1, none⟩ = some (.int .i64 (d.getD m1 0)) := (RE.out.cell (p := ⟨ga, m1, none⟩) (by have := HG.out.2; have := HGG.out; dsimp only; omega)).trans (HC.out m1 _ (by rw [List.getElem?_map, List.getD_eq_getElem?_getD, List.getElem?_eq_getElem (by omega)]; rfl))
    have hg := HD.out d rfl k hlt
    rw [← hm, ← hm1] at hg
    have hgt : gtx s d k = if 0 ≤ d.getD m 0 then s.extract (d.getD m 0).toNat (d.getD m1 0).toNat else ⟨#[]⟩ := by unfold gtx; rw [← hm, ← hm1]
    generalize d.getD m 0 = x at *
    generalize d.getD m1 0 = y at *
    have z1 := RG.out.cell k (.string ⟨#[]⟩) (by rw [List.getElem?_append_right (by simp), List.length_map, List.length_range, Nat.sub_self, List.getElem?_replicate, if_pos (by omega)])
    have z2 := RG.out.free k
    have HX : Hid (gtx s d k = if 0 ≤ x then s.extract x.toNat y.toNat else ⟨#[]⟩) := Lib.hid hgt
    have HK := Lib.hid hlt
    have hwk : wrap64 ((k : Int) + 1) = (k : Int) + 1 := wrap64_step k HKB.out
    have w0 : wrap64 (2 * (k : Int)) = (m : Int) := wrap64_two k m HKB.out hm
    have w1 : wrap64 ((m : Int) + 1) = (m1 : Int) := wrap64_one m m1 HMB.out hm1
    clear hgt hlen hL hnn hlt hm hm1
    by_cases hx : 0 ≤ x
    ·
     obtain ⟨hxy, hys⟩ := hg hx
     obtain ⟨a, rfl⟩ : ∃ a : Nat, x = a := Int.eq_ofNat_of_zero_le hx
     obtain ⟨b, rfl⟩ : ∃ b : Nat, y = b := Int.eq_ofNat_of_zero_le (Int.le_trans hx hxy)
     have hb0 : (0 : Int) ≤ (b : Int) := Int.natCast_nonneg b
     have hd1 : decide ((0 : Int) ≤ (a : Int)) = true := decide_eq_true hx
     clear hg
     go_wp2_with fail
     go_region
     go_wp2_with fail
     go_roundw
     case rel =>
      refine ⟨k + 1, by rw [hwk]; rfl, HK.out, ?_, Lib.hid (by repeat (first | exact RE.out.setCell (p := ⟨G, k, none⟩) (Nat.le_refl _) _ | apply Below.drew))⟩
      have := RG.out.set k (by have := HK.out; simp; omega) (.string (gtx s d k))
      rw [fill_str (fun k => .string (gtx s d k)) HK.out, HX.out, if_pos hx] at this
      exact Lib.hid this
     case measure => rw [hwk]; clear w0 w1 hwk; have := HK.out; simp [Go.RowKit.intOf]; omega
    ·
     have hd1 : decide ((0 : Int) ≤ x) = false := decide_eq_false hx
     clear hg
     go_wp2_with fail
     go_roundw
     case rel =>
      refine ⟨k + 1, by rw [hwk]; rfl, HK.out, ?_, RE⟩
      have := RG.out
      rw [fill_none (fun k => .string (gtx s d k)) HK.out (by rw [HX.out, if_neg hx])] at this
      exact Lib.hid this
     case measure => rw [hwk]; clear w0 w1 hwk; have := HK.out; simp [Go.RowKit.intOf]; omega
   ·
    obtain rfl : k = n := by omega
    have hd1 : decide ((k : Int) < (k : Int)) = false := decide_eq_false (by omega)
    have HF : Hid (Row wr G 9 ((List.range k).map (fun k => .string (gtx s d k)))) := Lib.hid (by have := RG.out; rw [Nat.sub_self, List.replicate_zero, List.append_nil] at this; exact this)
    clear RG hlt
    go_wp2_with fail
    go_ret
    exact ⟨G, rfl, by have := HGG.out; have := HB2.out.size; omega, HF.out, HB2.out.trans (RE.out.mono (by have := HGG.out; have := HB2.out.size; omega))⟩

end Go.Proofs.YtjgedenoaocfjaaGreatDoor.Rxw
namespace Go.Proofs.YtjgedenoaocfjaaGreatDoor.Rxw

open Go Go.RowKit Go.Lib Go.Proofs Go.Proofs.YtjgedenoaocfjaaGreatDoor.Base Go.Proofs.YtjgedenoaocfjaaGreatDoor.Rx

theorem gtx_grp (s : ByteArray) (d : List Int) (k : Nat) (h : 2 * k + 1 < d.length) : (gtx s d k).data.toList = grp s.data.toList d k := by
  unfold gtx grp
  have h0 : d[2 * k]? = some (d.getD (2 * k) 0) := by rw [List.getD_eq_getElem?_getD, List.getElem?_eq_getElem (by omega)]; rfl
  have h1 : d[2 * k + 1]? = some (d.getD (2 * k + 1) 0) := by rw [List.getD_eq_getElem?_getD, List.getElem?_eq_getElem h]; rfl
  rw [h0, h1]
  dsimp only
  split
  · simp [ByteArray.extract, ByteArray.copySlice, List.take_drop]
  · rfl

end Go.Proofs.YtjgedenoaocfjaaGreatDoor.Rxw
