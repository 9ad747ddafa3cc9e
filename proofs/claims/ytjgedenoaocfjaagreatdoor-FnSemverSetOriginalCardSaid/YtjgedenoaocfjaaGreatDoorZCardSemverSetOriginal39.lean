/- The row and the tied card of FnSemverSetOriginal, out of its printed walk and its plain law. For every input that the statement lets in. -/
import Derived.Test.YtjgedenoaocfjaaGreatDoorZCardSemverSetOriginal31
import Derived.Test.YtjgedenoaocfjaaGreatDoorZCardSemverSetOriginal37
import Derived.LoopTactic
import Derived.Outline
namespace Go.Proofs.YtjgedenoaocfjaaGreatDoor.Base
end Go.Proofs.YtjgedenoaocfjaaGreatDoor.Base
namespace Go.Proofs.YtjgedenoaocfjaaGreatDoor.Rx
end Go.Proofs.YtjgedenoaocfjaaGreatDoor.Rx
namespace Go.Proofs.YtjgedenoaocfjaaGreatDoor.Rxw

open Go Go.RowKit Go.Lib Go.Proofs Go.Proofs.YtjgedenoaocfjaaGreatDoor.Base Go.Proofs.YtjgedenoaocfjaaGreatDoor.Rx

/-- A run of one instruction: its kind, where it goes, its argument, the slice of its letters. -/
structure RI where
  op : Nat
  out : Nat
  arg : Nat
  ra : Option Addr
  rn : Nat
  rc : Nat

abbrev RI.rune (r : RI) : Value := .slice r.ra r.rn r.rc

def RI.cells (r : RI) : List Value := [.int .i64 1, .int .u8 r.op, .int .i64 r.out, .int .i64 0, .int .i64 r.arg, .int .i64 0, r.rune, nilS, .int .i64 0]

def RI.inst (r : RI) : List Value := [.int .u8 r.op, .int .u32 r.out, .int .u32 r.arg, r.rune]

set_option maxHeartbeats 1000000 in
theorem runInst (o u a : Nat) (ra : Option Addr) (rn rc : Nat) (h1 : u < 4294967296) (h2 : a < 4294967296) (w : World) :
    Calls Tryz.prog 99 #[.agg #[.int .i64 1, .int .u8 o, .int .i64 u, .int .i64 0, .int .i64 a,   .int .i64 0, .slice ra rn rc, nilS, .int .i64 0], .int .i64 0] w fun e w' =>
      e = .returned (.agg #[.int .u8 o, .int .u32 u, .int .u32 a, .slice ra rn rc]) ∧ Below w.heap.size w w' := by
  have k1 : IntKind.u32.wrap (u : Int) = u := by simp [IntKind.wrap, IntKind.bits, IntKind.signed]; omega
  have k2 : IntKind.u32.wrap (a : Int) = a := by simp [IntKind.wrap, IntKind.bits, IntKind.signed]; omega
  have k3 : wrap64 (u : Int) = u := by unfold wrap64; omega
  have k4 : wrap64 (a : Int) = a := by unfold wrap64; omega
  clear h1 h2
  go_enter Tryz.func99, Tryz.ntmps99
  go_wp2_with fail
  exact bodyPost_ret (v := .agg #[.int .u8 o, .int .u32 u, .int .u32 a, .slice ra rn rc]) (by simp [results, Tryz.results99, go_sem]) rfl ⟨rfl, by repeat (first | exact Below.refl _ _ | exact (Below.refl _ w).alloc (Nat.le_refl _) _ | (refine Below.alloc ?_ (by simp) _) | (refine Below.setCell ?_ (by simp) _))⟩

theorem wrap64_stepI (k : Nat) (h : k < 1000000) : wrap64 ((k : Int) + 1) = (k : Int) + 1 := by unfold wrap64; omega

theorem instInfo : (Tryz.prog.info? 144).map (fun i => (i.zero, i.size, i.bytes)) = some (some (.agg #[.int .u8 0, .int .u32 0, .int .u32 0, nilS]), 4, 40) := by kernel_rfl

theorem instInfo' : ∃ i, Tryz.prog.info? 144 = some i ∧ i.zero = some (.agg #[.int .u8 0, .int .u32 0, .int .u32 0, nilS]) ∧ i.size = 4 ∧ i.bytes = 40 := by
  have h := instInfo
  cases e : Tryz.prog.info? 144 with
  | none => rw [e] at h; simp at h
  | some i =>
    rw [e] at h
    simp at h
    exact ⟨i, rfl, h.1, h.2.1, h.2.2⟩

theorem flat_snoc (rs : List RI) (k : Nat) (r : RI) (h : rs[k]? = some r) : (rs.take (k + 1)).flatMap RI.inst = (rs.take k).flatMap RI.inst ++ r.inst := by
  obtain ⟨hlt, he⟩ := List.getElem?_eq_some_iff.1 h
  rw [List.take_succ_eq_append_getElem hlt, List.flatMap_append, he]
  simp

set_option maxHeartbeats 4000000 in
set_option maxRecDepth 100000 in
theorem insts (rs : List RI) (R : Nat) (w : World) (hR : R < w.heap.size) (hc : ∀ j r, rs[j]? = some r → ∀ i v, r.cells[i]? = some v → w.cell? ⟨R, j * 9 + i, none⟩ = some v)
  (hb : ∀ r ∈ rs, r.out < 4294967296 ∧ r.arg < 4294967296) (hl : rs.length ≤ 1000) :
  Calls Tryz.prog 84 #[.slice (some ⟨R, 0, none⟩) rs.length rs.length] w fun e w' => ∃ v, e = .returned v ∧ w'.ownsRow w.heap.size 144 4 v rs.length (rs.flatMap RI.inst) ∧ Below w.heap.size w w' := by
 obtain ⟨ji, j1, j2, j3, j4⟩ := instInfo'
 have K1 := Lib.hid j1; have K2 := Lib.hid j2; have K3 := Lib.hid j3; have K4 := Lib.hid j4
 have HR := Lib.hid hR; have HC := Lib.hid hc; have HB := Lib.hid hb; have HL := Lib.hid hl
 clear hR hc hb hl j1 j2 j3 j4
 go_enter Tryz.func84, Tryz.ntmps84
 go_wp2_with fail
 go_loopw [3, 9] (fun v i w' => ∃ k : Nat, i = .int .i64 k ∧ k ≤ rs.length ∧ Hid (w'.ownsRow w.heap.size 144 4 v k ((rs.take k).flatMap RI.inst)) ∧ Hid (Below w.heap.size w w')) (fun _ i _ => rs.length - (Go.RowKit.intOf i).toNat)
 case atStart => exact ⟨0, rfl, Nat.zero_le _, Lib.hid ⟨by simp, .inl ⟨rfl, rfl⟩⟩, Lib.hid (Below.refl _ _)⟩
 case round =>
  obtain ⟨k, rfl, hk, HO, HE⟩ := hrel
  by_cases hlt : k < rs.length
  ·
   obtain ⟨r, hr⟩ : ∃ r, rs[k]? = some r := ⟨_, List.getElem?_eq_getElem hlt⟩
   have hcell : ∀ i v, r.cells[i]? = some v → wr.cell? ⟨R, k * 9 + i, none⟩ = some v := fun i v hv => (HE.out.cell (p := ⟨R, k * 9 + i, none⟩) HR.out).trans (HC.out k r hr i v hv)
   have x0 : wr.cell? ⟨R, k * 9, none⟩ = some (.int .i64 1) := hcell 0 _ rfl; have x1 := hcell 1 _ rfl; have x2 := hcell 2 _ rfl; have x3 := hcell 3 _ rfl; have x4 := hcell 4 _ rfl
   have x5 := hcell 5 _ rfl; have x6 := hcell 6 _ rfl; have x7 := hcell 7 _ rfl; have x8 := hcell 8 _ rfl
   have hq := HB.out r (List.mem_of_getElem? hr)
   have hk0 : (0 : Int) ≤ (k : Int) := Int.natCast_nonneg k
   have hkI : (k : Int) < (rs.length : Int) := by omega
   have C := Lib.hid (fun W => runInst r.op r.out r.arg r.ra r.rn r.rc hq.1 hq.2 W)
   have hkb : k ≤ 1000 := by have := HL.out; omega
   have hwk : wrap64 ((k : Int) + 1) = (k : Int) + 1 := wrap64_stepI k (by omega)
   clear hcell hq hkb
   go_wp2_with fail
   have hbox := Row.new wr #[.int .i64 1, .int .u8 r.op, .int .i64 r.out, .int .i64 0, .int .i64 r.arg, .int .i64 0, .slice r.ra r.rn r.rc, nilS, .int .i64 0] 114
   have hown := HO.out.alloc (.cells #[.int .i64 1, .int .u8 r.op, .int .i64 r.out, .int .i64 0, .int .i64 r.arg, .int .i64 0, .slice r.ra r.rn r.rc, nilS, .int .i64 0] 114)
   have hbel := HE.out.alloc HE.out.size (.cells #[.int .i64 1, .int .u8 r.op, .int .i64 r.out, .int .i64 0, .int .i64 r.arg, .int .i64 0, .slice r.ra r.rn r.rc, nilS, .int .i64 0] 114)
   have hG : w.heap.size ≤ wr.heap.size := HE.out.size
   have HBX := Lib.hid hbox; have HOW := Lib.hid hown; have HBE := Lib.hid hbel; have HGG := Lib.hid hG
   clear hbox hown hbel hG x0 x1 x2 x3 x4 x5 x6 x7 x8 HO HE
   generalize wr.alloc _ = wo at *
   generalize wr.heap.size = G at *
   go_loopw [3, 6] (fun v j w' => ∃ m : Nat, j = .int .i64 m ∧ m ≤ 1 ∧ Hid (Row w' G 114 [.int .i64 1, .int .u8 r.op, .int .i64 r.out, .int .i64 0, .int .i64 r.arg, .int .i64 0, .slice r.ra r.rn r.rc, nilS, .int .i64 0]) ∧ Hid (w'.ownsRow w.heap.size 144 4 v (k + m) ((rs.take (k + m)).flatMap RI.inst)) ∧ Hid (Below w.heap.size w w')) (fun _ j _ => 1 - (Go.RowKit.intOf j).toNat)
   case atStart => exact ⟨0, rfl, by omega, HBX, HOW, HBE⟩
   case round =>
    obtain ⟨m, rfl, hm, HBX2, HOW2, HBE2⟩ := hrel
    clear HBX HOW HBE
    have z := HBX2.out
    have z0 := z.cell 0 _ rfl; have z1 := z.cell 1 _ rfl; have z2 := z.cell 2 _ rfl; have z3 := z.cell 3 _ rfl; have z4 := z.cell 4 _ rfl
    have z5 := z.cell 5 _ rfl; have z6 := z.cell 6 _ rfl; have z7 := z.cell 7 _ rfl; have z8 := z.cell 8 _ rfl
    clear z
    rcases Nat.lt_or_ge m 1 with h1 | h1
    ·
     obtain rfl : m = 0 := by omega
     clear hm h1
     go_wp2_with (first
      | (go_at_call 99; (with_reducible refine (C.out _).mono ?_); rintro e w1 ⟨rfl, hb1⟩; have hbx1 := HBX2.out.below hb1; have hbo1 := (own_below HOW2.out hb1).alloc (.cells #[.int .u8 r.op, .int .u32 r.out, .int .u32 r.arg, .slice r.ra r.rn r.rc] 144); have hbe1 := HBE2.out.trans (hb1.mono HBE2.out.size); have hsz := hbe1.size; have HBX1 := Lib.hid hbx1; have HOW1 := Lib.hid hbo1; have HBE1 := Lib.hid hbe1; have HSZ := Lib.hid hsz; clear hb1 hbx1 hbo1 hbe1 hsz)
      | (at_builtin; refine wpList_append_own _ rfl (.tmp 19) (.tmp 23) 109 rfl w.heap.size 144 ji _ 4 40 Tryz.underlying109 K1.out K2.out K3.out K4.out rfl (by decide) _ (k + 0) ((rs.take (k + 0)).flatMap RI.inst) rfl HOW1.out ⟨w1.heap.size, 0, none⟩ 1 1 [.int .u8 r.op, .int .u32 r.out, .int .u32 r.arg, .slice r.ra r.rn r.rc] rfl rfl (fun j u hu => news_at w1 _ _ j u hu) ?c2 ?c3 ?c4 ?c5 ?_; (case c2 => intro u hu; simp at hu; rcases hu with rfl | rfl | rfl | rfl <;> rfl); (case c3 => have := HL.out; simp only [maxLen]; omega); (case c4 => have := HL.out; omega); (case c5 => have := HSZ.out; simp; omega); intro v' w2 ho hg _))
     have hal := (Below.refl w1.heap.size w1).alloc (Nat.le_refl _) (.cells #[.int .u8 r.op, .int .u32 r.out, .int .u32 r.arg, .slice r.ra r.rn r.rc] 144)
     have hbx2 := (HBX1.out.below hal).grown hg (Ne.symm (own_ne (HBX1.out.below hal) HOW1.out (by decide)))
     have hbe2 := (HBE1.out.alloc HSZ.out (.cells #[.int .u8 r.op, .int .u32 r.out, .int .u32 r.arg, .slice r.ra r.rn r.rc] 144)).grown hg (by have := HSZ.out; simp; omega) (fun q hq => (HOW1.out.lt q hq).1)
     rw [show (rs.take (k + 0)).flatMap RI.inst ++ [.int .u8 r.op, .int .u32 r.out, .int .u32 r.arg, .slice r.ra r.rn r.rc] = (rs.take (k + 1)).flatMap RI.inst from (flat_snoc rs k r hr).symm] at ho
     have HBX2' := Lib.hid hbx2; have HBE2' := Lib.hid hbe2; have HO2' := Lib.hid ho
     clear hbx2 hbe2 ho hal
     go_roundw
     case rel => exact ⟨1, rfl, by omega, HBX2', HO2', HBE2'⟩
     case measure => simp [Go.RowKit.intOf]
    ·
     obtain rfl : m = 1 := by omega
     clear hm h1
     go_wp2_with fail
     go_roundw
     case rel => exact ⟨k + 1, by rw [hwk]; rfl, by omega, HOW2, HBE2⟩
     case measure => rw [hwk]; clear hwk; simp [Go.RowKit.intOf]; omega
  ·
   obtain rfl : k = rs.length := by omega
   have hd1 : decide ((rs.length : Int) < (rs.length : Int)) = false := decide_eq_false (by omega)
   rw [List.take_length] at HO
   go_wp2_with fail
   go_ret
   exact ⟨_, rfl, HO.out, HE.out⟩

end Go.Proofs.YtjgedenoaocfjaaGreatDoor.Rxw
