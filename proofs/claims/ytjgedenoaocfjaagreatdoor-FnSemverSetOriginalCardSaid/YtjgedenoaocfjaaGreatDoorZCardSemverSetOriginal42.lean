/- The row and the tied card of FnSemverSetOriginal, out of its printed walk and its plain law. For every input that the statement lets in. -/
import Derived.Test.YtjgedenoaocfjaaGreatDoorZCardSemverSetOriginal0
import Derived.Test.YtjgedenoaocfjaaGreatDoorZCardSemverSetOriginal8
import Derived.Test.YtjgedenoaocfjaaGreatDoorZCardSemverSetOriginal9
import Derived.Test.YtjgedenoaocfjaaGreatDoorZCardSemverSetOriginal13
import Derived.Test.YtjgedenoaocfjaaGreatDoorZCardSemverSetOriginal15
import Derived.Test.YtjgedenoaocfjaaGreatDoorZCardSemverSetOriginal16
import Derived.Test.YtjgedenoaocfjaaGreatDoorZCardSemverSetOriginal20
import Derived.Test.YtjgedenoaocfjaaGreatDoorZCardSemverSetOriginal22
import Derived.Test.YtjgedenoaocfjaaGreatDoorZCardSemverSetOriginal23
import Derived.Test.YtjgedenoaocfjaaGreatDoorZCardSemverSetOriginal24
import Derived.Test.YtjgedenoaocfjaaGreatDoorZCardSemverSetOriginal27
import Derived.Test.YtjgedenoaocfjaaGreatDoorZCardSemverSetOriginal29
import Derived.Test.YtjgedenoaocfjaaGreatDoorZCardSemverSetOriginal41
import Derived.Deep.RegionHeld3
import Derived.RegionTactic
namespace Go.Proofs.YtjgedenoaocfjaaGreatDoor.Base
end Go.Proofs.YtjgedenoaocfjaaGreatDoor.Base
namespace Go.Proofs.YtjgedenoaocfjaaGreatDoor.Bt
end Go.Proofs.YtjgedenoaocfjaaGreatDoor.Bt
namespace Go.Proofs.YtjgedenoaocfjaaGreatDoor.KX
end Go.Proofs.YtjgedenoaocfjaaGreatDoor.KX
namespace Go.Proofs.YtjgedenoaocfjaaGreatDoor.L
end Go.Proofs.YtjgedenoaocfjaaGreatDoor.L
namespace Go.Proofs.YtjgedenoaocfjaaGreatDoor.MetaX
end Go.Proofs.YtjgedenoaocfjaaGreatDoor.MetaX
namespace Go.Proofs.YtjgedenoaocfjaaGreatDoor.Num
end Go.Proofs.YtjgedenoaocfjaaGreatDoor.Num
namespace Go.Proofs.YtjgedenoaocfjaaGreatDoor.PX
end Go.Proofs.YtjgedenoaocfjaaGreatDoor.PX
namespace Go.Proofs.YtjgedenoaocfjaaGreatDoor.Parse
end Go.Proofs.YtjgedenoaocfjaaGreatDoor.Parse
namespace Go.Proofs.YtjgedenoaocfjaaGreatDoor.Rx
end Go.Proofs.YtjgedenoaocfjaaGreatDoor.Rx
namespace Go.Proofs.YtjgedenoaocfjaaGreatDoor.Rxw
end Go.Proofs.YtjgedenoaocfjaaGreatDoor.Rxw
namespace Go.Proofs.YtjgedenoaocfjaaGreatDoor.Rxw

open Go Go.RowKit Go.Lib Go.Sort Go.Proofs Go.Proofs.YtjgedenoaocfjaaGreatDoor Go.Proofs.YtjgedenoaocfjaaGreatDoor.Base Go.Proofs.YtjgedenoaocfjaaGreatDoor.Rx Go.Proofs.YtjgedenoaocfjaaGreatDoor.L Go.Proofs.YtjgedenoaocfjaaGreatDoor.Parse Go.Proofs.YtjgedenoaocfjaaGreatDoor.Bt Go.Proofs.YtjgedenoaocfjaaGreatDoor.PX Go.Proofs.YtjgedenoaocfjaaGreatDoor.KX

open Go.Proofs.YtjgedenoaocfjaaGreatDoorW.PrintWords Go.Proofs.YtjgedenoaocfjaaGreatDoorW.PrintLast Go.Proofs.YtjgedenoaocfjaaGreatDoorW.PrintMore

attribute [local go_sem] setCell_drewN alloc_drewN

def ReadRet (w : World) (a b c : Int) (p m : ByteArray) (ok : Bool) (e : Ending) (w' : World) : Prop := e = .returned (.tuple #[.agg #[.int .u64 a, .int .u64 b, .int .u64 c, .string p, .string m], .bool ok]) ∧ Below w.heap.size w w'

def TextRet (w : World) (st : ByteArray) (ok : Bool) (e : Ending) (w' : World) : Prop := e = .returned (.tuple #[.string st, .bool ok]) ∧ Below w.heap.size w w'

end Go.Proofs.YtjgedenoaocfjaaGreatDoor.Rxw
namespace Go.Proofs.YtjgedenoaocfjaaGreatDoor.Rxw

open Go Go.RowKit Go.Lib Go.Sort Go.Proofs Go.Proofs.YtjgedenoaocfjaaGreatDoor Go.Proofs.YtjgedenoaocfjaaGreatDoor.Base Go.Proofs.YtjgedenoaocfjaaGreatDoor.L Go.Proofs.YtjgedenoaocfjaaGreatDoor.PX Go.Proofs.YtjgedenoaocfjaaGreatDoor.MetaX

open Go.Proofs.YtjgedenoaocfjaaGreatDoorW.PrintWords Go.Proofs.YtjgedenoaocfjaaGreatDoorW.PrintLast Go.Proofs.YtjgedenoaocfjaaGreatDoorW.PrintMore

open Go.Proofs.YtjgedenoaocfjaaGreatDoor.Bt (toList_bl)

def goodI (X : ByteArray → Int × Bool) (p : ByteArray) : Bool := (X p).2 && !lead p

/-- What the function gives, out of its parts. -/
def gramV (X : ByteArray → Int × Bool) (pre mt : ByteArray) (ok : Bool) (l : List ByteArray) : Int × Int × Int × ByteArray × ByteArray × Bool :=
  match l with
  | [a, b, c] => if ok = true ∧ goodI X a = true ∧ goodI X b = true ∧ goodI X c = true then ((X a).1, (X b).1, (X c).1, pre, mt, true) else (0, 0, 0, ⟨#[]⟩, ⟨#[]⟩, false)
  | _ => (0, 0, 0, ⟨#[]⟩, ⟨#[]⟩, false)

def GramRet (w : World) (r : Int × Int × Int × ByteArray × ByteArray × Bool) (e : Ending) (w' : World) : Prop := ReadRet w r.1 r.2.1 r.2.2.1 r.2.2.2.1 r.2.2.2.2.1 r.2.2.2.2.2 e w'

theorem gramV_no {X pre mt ok} {l : List ByteArray} (h : ok = false ∨ l.length ≠ 3) : gramV X pre mt ok l = (0, 0, 0, ⟨#[]⟩, ⟨#[]⟩, false) := by
  unfold gramV
  split
  · rcases h with h | h
    · rw [if_neg (by simp [h])]
    · simp at h
  · rfl

theorem gramV_bad {X pre mt ok} {l : List ByteArray} {i : Nat} (hi : i < l.length) (h : goodI X l[i] = false) : gramV X pre mt ok l = (0, 0, 0, ⟨#[]⟩, ⟨#[]⟩, false) := by
  unfold gramV
  split
  · rename_i a b c
    refine if_neg ?_
    rintro ⟨_, h1, h2, h3⟩
    have : i = 0 ∨ i = 1 ∨ i = 2 := by simp at hi; omega
    rcases this with rfl | rfl | rfl <;> simp_all
  · rfl

def zs : List Value := [.int .u64 0, .int .u64 0, .int .u64 0, .string ⟨#[]⟩, .string ⟨#[]⟩]

def arrOf (X : ByteArray → Int × Bool) (l : List ByteArray) (k : Nat) : List Value := (List.range 3).map fun j => if j < k then .int .u64 (X (l.getD j ⟨#[]⟩)).1 else .int .u64 0

theorem arrOf_set (X : ByteArray → Int × Bool) (l : List ByteArray) (k : Nat) (h : k < 3) : (arrOf X l k).set k (.int .u64 (X (l.getD k ⟨#[]⟩)).1) = arrOf X l (k + 1) := by
  have : k = 0 ∨ k = 1 ∨ k = 2 := by omega
  rcases this with rfl | rfl | rfl <;> rfl

theorem arrOf_at (X : ByteArray → Int × Bool) (l : List ByteArray) (k : Nat) (h : k < 3) : (arrOf X l k)[k]? = some (.int .u64 0) := by
  have : k = 0 ∨ k = 1 ∨ k = 2 := by omega
  rcases this with rfl | rfl | rfl <;> rfl

theorem rset {W : World} {G base : Nat} {cs : List Value} {ok : Nat → Prop} {v : Value} {xs : List ByteArray} (h : Kd.R Kd.string 9 W base ok v xs) (hr : Row W G 78 cs) (k : Nat) (y : Value) :
    Kd.R Kd.string 9 (W.setCell ⟨G, k, none⟩ y) base ok v xs := Kd.R_set h hr (by decide) k y

theorem five {w W : World} {b : Nat} {vs : List Value} (x0 x1 x2 x3 x4 : Value) (Z : Box W b vs) (hv : vs.length = 5) (B : Below w.heap.size w W) (hb : w.heap.size ≤ b) :
    Box (((((W.setCell ⟨b, 0, none⟩ x0).setCell ⟨b, 1, none⟩ x1).setCell ⟨b, 2, none⟩ x2).setCell ⟨b, 3, none⟩ x3).setCell ⟨b, 4, none⟩ x4) b [x0, x1, x2, x3, x4] ∧
      Below w.heap.size w (((((W.setCell ⟨b, 0, none⟩ x0).setCell ⟨b, 1, none⟩ x1).setCell ⟨b, 2, none⟩ x2).setCell ⟨b, 3, none⟩ x3).setCell ⟨b, 4, none⟩ x4) := by
  obtain ⟨a0, a1, a2, a3, a4, rfl⟩ : ∃ a0 a1 a2 a3 a4, vs = [a0, a1, a2, a3, a4] := by
    match vs, hv with
    | [a0, a1, a2, a3, a4], _ => exact ⟨_, _, _, _, _, rfl⟩
  exact ⟨((((Z.set 0 (by simp) _).set 1 (by simp) _).set 2 (by simp) _).set 3 (by simp) _).set 4 (by simp) _, ((((B.setCell hb _).setCell hb _).setCell hb _).setCell hb _).setCell hb _⟩

set_option maxHeartbeats 8000000 in
set_option maxRecDepth 100000 in
theorem gramW (k : Nat) (s core pre mt : ByteArray) (ok : Bool) (l : List ByteArray) (X : ByteArray → Int × Bool) (ht : spec_tails.f k s = some (core, pre, mt, ok)) (hi : spec_Identifiers.f k core = some l) (hl : l.length ≤ 2147483648)
  (hX : ∀ p ∈ l, spec_Number.f k p = some (X p)) (w : World) :
  Calls Tryz.prog 30 #[.string s] w (GramRet w (gramV X pre mt ok l)) := by
 have CT := Lib.hid fun W => spec_tails.calls k s core pre mt ok W ht
 have CI := Lib.hid fun W => spec_Identifiers.calls k core l W hi
 have CN : Hid (∀ p ∈ l, ∀ W, Calls Tryz.prog 48 #[.string p] W fun e w' => e = .returned (.tuple #[.int .u64 (X p).1, .bool (X p).2]) ∧ Drawn0 W w') := Lib.hid fun p hp W => spec_Number.calls k p (X p).1 (X p).2 W (hX p hp)
 have HL := Lib.hid hl
 clear ht hi hX hl
 obtain ⟨R, hR⟩ : ∃ R, R = gramV X pre mt ok l := ⟨_, rfl⟩
 rw [← hR]
 have HR := Lib.hid hR
 clear hR
 go_enter Tryz.func30, Tryz.ntmps30
 go_upto_region 1 with fail
 have hz := Box.new' w #[.int .u64 0, .int .u64 0, .int .u64 0, .string ⟨#[]⟩, .string ⟨#[]⟩] 32 _ rfl
 have hb := (Below.refl w.heap.size w).alloc (Nat.le_refl _) (.cells #[.int .u64 0, .int .u64 0, .int .u64 0, .string ⟨#[]⟩, .string ⟨#[]⟩] 32)
 generalize World.alloc w _ = w0 at *
 have HZ : Hid (Box w0 w.heap.size zs) := Lib.hid hz
 have HB := Lib.hid hb
 clear hz hb
 go_upto_region 3 with (first
  | (go_at_call 33; (with_reducible refine (CT.out _).mono ?_); rintro e w1 ⟨rfl, hb1⟩; have HZ1 := Lib.hid (HZ.out.below hb1); have HB1 := Lib.hid (HB.out.trans (hb1.mono HB.out.size)); clear hb1)
  | (go_at_call 34; (with_reducible refine (CI.out _).mono ?_); rintro e w2 ⟨v2, rfl, ho2, hb2⟩; obtain ⟨A2, c2, e2⟩ := Kd.R_slice ho2; subst e2; have HO2 := Lib.hid ho2; have HZ2 := Lib.hid (HZ1.out.below hb2); have HB2 := Lib.hid (HB1.out.trans (hb2.mono HB1.out.size)); clear hb2 ho2))
 by_cases hc : ok = false ∨ l.length ≠ 3
 ·
  have HV : Hid (R = (0, 0, 0, ⟨#[]⟩, ⟨#[]⟩, false)) := Lib.hid (by rw [HR.out, gramV_no hc])
  have e0 := HZ2.out.cell 0 _ rfl; have e1 := HZ2.out.cell 1 _ rfl; have e2 := HZ2.out.cell 2 _ rfl; have e3 := HZ2.out.cell 3 _ rfl; have e4 := HZ2.out.cell 4 _ rfl
  have fz := HZ2.out.free; have hzl := HZ2.out.lt
  cases ok with
  | false =>
   clear hc
   go_wp2_with fail
   clear e0 e1 e2 e3 e4
   obtain ⟨Z4, b4⟩ := five (.int .u64 0) (.int .u64 0) (.int .u64 0) (.string ⟨#[]⟩) (.string ⟨#[]⟩) HZ2.out rfl HB2.out (Nat.le_refl _)
   generalize World.setCell _ _ _ = w4 at *
   have r0 := Z4.cell 0 _ rfl; have r1 := Z4.cell 1 _ rfl; have r2 := Z4.cell 2 _ rfl; have r3 := Z4.cell 3 _ rfl; have r4 := Z4.cell 4 _ rfl
   exact bodyPost_ret (v := .tuple #[.agg #[.int .u64 0, .int .u64 0, .int .u64 0, .string ⟨#[]⟩, .string ⟨#[]⟩], .bool false]) (by simp [results, Tryz.results30, go_sem, r0, r1, r2, r3, r4]) rfl ⟨by rw [HV.out], b4⟩
  | true =>
   have hc3 : l.length ≠ 3 := hc.resolve_left (by decide)
   have t3 : ((l.length : Int) != 3) = true := by rw [bne_iff_ne]; omega
   clear hc hc3
   go_wp2_with fail
   clear e0 e1 e2 e3 e4
   obtain ⟨Z4, b4⟩ := five (.int .u64 0) (.int .u64 0) (.int .u64 0) (.string ⟨#[]⟩) (.string ⟨#[]⟩) HZ2.out rfl HB2.out (Nat.le_refl _)
   generalize World.setCell _ _ _ = w4 at *
   have r0 := Z4.cell 0 _ rfl; have r1 := Z4.cell 1 _ rfl; have r2 := Z4.cell 2 _ rfl; have r3 := Z4.cell 3 _ rfl; have r4 := Z4.cell 4 _ rfl
   exact bodyPost_ret (v := .tuple #[.agg #[.int .u64 0, .int .u64 0, .int .u64 0, .string ⟨#[]⟩, .string ⟨#[]⟩], .bool false]) (by simp [results, Tryz.results30, go_sem, r0, r1, r2, r3, r4]) rfl ⟨by rw [HV.out], b4⟩
 ·
  obtain rfl : ok = true := by
   cases ok with
   | false => exact absurd (Or.inl rfl) hc
   | true => rfl
  have hl3 : l.length = 3 := by
   rcases Nat.decEq l.length 3 with h | h
   ·
    exact absurd (Or.inr h) hc
   ·
    exact h
  clear hc
  have t3 : ((l.length : Int) != 3) = false := by rw [hl3]; rfl
  have HL3 := Lib.hid hl3
  clear hl3
  go_upto_region 6 with fail
  have HA3 : Hid (Row (w2.alloc (.cells #[.int .u64 0, .int .u64 0, .int .u64 0] 78)) w2.heap.size 78 (arrOf X l 0)) := Lib.hid (Row.new w2 _ _)
  have hal := (Below.refl w2.heap.size w2).alloc (Nat.le_refl _) (.cells #[.int .u64 0, .int .u64 0, .int .u64 0] 78)
  have HZ3 := Lib.hid (HZ2.out.below hal)
  have HB3 := Lib.hid (HB2.out.trans (hal.mono HB2.out.size))
  have HO3 := Lib.hid (Kd.R_below HO2.out hal)
  have HG := Lib.hid HZ2.out.lt
  clear hal t3
  generalize World.alloc w2 _ = w3 at *
  generalize w2.heap.size = G at *
  go_wp2_with fail
  go_loopw [33] (fun i w' => ∃ kk : Nat, i = .int .i64 kk ∧ kk ≤ 3 ∧ Hid (∀ j (h : j < l.length), j < kk → goodI X l[j] = true) ∧ Hid (Row w' G 78 (arrOf X l kk)) ∧ Hid (Kd.R Kd.string 9 w' w1.heap.size (fun _ => True) (.slice A2 l.length c2) l) ∧ Hid (Box w' w.heap.size zs) ∧ Hid (Below w.heap.size w w')) (fun i _ => 3 - (Go.RowKit.intOf i).toNat)
  case atStart => exact ⟨0, rfl, by omega, Lib.hid (fun j _ h => by omega), HA3, HO3, HZ3, HB3⟩
  case round =>
   obtain ⟨kk, rfl, hk, HGD, HA2, HO4, HZ4, HB4⟩ := hrel
   clear HA3 HO3 HZ3 HB3
   by_cases hlt : kk < 3
   ·
    have hkl : kk < l.length := by have := HL3.out; omega
    have b0 : decide ((kk : Int) < (l.length : Int)) = true := decide_eq_true (by omega)
    have b0' : decide (kk < l.length) = true := decide_eq_true hkl
    have p1 : 0 ≤ (kk : Int) := by omega
    have q1 : (kk : Int) < (l.length : Int) := by omega
    have hkI : (kk : Int) < 3 := by omega
    obtain ⟨ad, e1, hx⟩ := Kd.at_string (Kd.R_reads' HO4.out).2.2 (kk : Int) p1 q1
    cases e1
    rw [rd_get l kk hkl, Int.toNat_natCast] at hx
    have hmem : l[kk] ∈ l := List.getElem_mem hkl
    have hgd : l.getD kk ⟨#[]⟩ = l[kk] := by rw [List.getD_eq_getElem?_getD, List.getElem?_eq_getElem hkl]; rfl
    have hset := arrOf_set X l kk hlt
    rw [hgd] at hset
    have hbad : goodI X l[kk] = false → R = (0, 0, 0, ⟨#[]⟩, ⟨#[]⟩, false) := fun h => by rw [HR.out]; exact gramV_bad hkl h
    have hnext : goodI X l[kk] = true → ∀ j (h : j < l.length), j < kk + 1 → goodI X l[j] = true := fun h j hj hjk => by
     rcases Nat.lt_or_ge j kk with h1 | h1
     ·
      exact HGD.out j hj h1
     ·
      have : j = kk := by omega
      subst this; exact h
    have hcall := CN.out l[kk] hmem
    generalize l[kk] = p at *
    obtain ⟨x, b, hxb⟩ : ∃ x b, X p = (x, b) := ⟨_, _, rfl⟩
    rw [hxb] at hcall hset
    have CP := Lib.hid hcall
    have HSET := Lib.hid hset
    have HK3 := Lib.hid hlt
    have hgx : goodI X p = (b && !lead p) := by unfold goodI; rw [hxb]
    rw [hgx] at hbad hnext
    clear hcall hset hmem hgd hgx hkl hlt
    cases b with
    | false =>
     have HV : Hid (R = (0, 0, 0, ⟨#[]⟩, ⟨#[]⟩, false)) := Lib.hid (hbad rfl)
     clear hbad hnext
     go_wp2_with ((go_at_call 48; (with_reducible refine (CP.out _).mono ?_); rintro e wn ⟨rfl, hbn⟩; have HMn := Lib.hid (drawn_below hbn); have HAn := Lib.hid (HA2.out.below HMn.out); have HOn := Lib.hid (Kd.R_below HO4.out HMn.out); have HZn := Lib.hid (HZ4.out.below HMn.out); have HBn := Lib.hid (HB4.out.trans (HMn.out.mono HB4.out.size)); have e0 := HZn.out.cell 0 _ rfl; have e1 := HZn.out.cell 1 _ rfl; have e2 := HZn.out.cell 2 _ rfl; have e3 := HZn.out.cell 3 _ rfl; have e4 := HZn.out.cell 4 _ rfl; have fz := HZn.out.free; have hzl := HZn.out.lt; have y1 := HAn.out.cell kk (.int .u64 0) (arrOf_at X l kk HK3.out); have y2 := HAn.out.free kk; clear hbn))
     clear e0 e1 e2 e3 e4
     obtain ⟨Z4, b4⟩ := five (.int .u64 0) (.int .u64 0) (.int .u64 0) (.string ⟨#[]⟩) (.string ⟨#[]⟩) HZn.out rfl HBn.out (Nat.le_refl _)
     generalize World.setCell _ _ _ = w4 at *
     have r0 := Z4.cell 0 _ rfl; have r1 := Z4.cell 1 _ rfl; have r2 := Z4.cell 2 _ rfl; have r3 := Z4.cell 3 _ rfl; have r4 := Z4.cell 4 _ rfl
     exact bodyPost_ret (v := .tuple #[.agg #[.int .u64 0, .int .u64 0, .int .u64 0, .string ⟨#[]⟩, .string ⟨#[]⟩], .bool false]) (by simp [results, Tryz.results30, go_sem, r0, r1, r2, r3, r4]) rfl ⟨by rw [HV.out], b4⟩
    | true =>
     rw [Bool.true_and] at hbad hnext
     cases hl : lead p
     ·
      have HGD2 := Lib.hid (hnext (by rw [hl]; rfl))
      clear hbad hnext
      by_cases h1 : 1 < p.size
      ·
       have d1 : decide (1 < (p.size : Int)) = true := decide_eq_true (by omega)
       have d1' : decide (1 < p.size) = true := decide_eq_true h1
       have d2 : (((p.data.toList.headD 0).toNat : Int) == 48) = false := by
        have hx0 : (p.data.toList.headD 0 == 48) = false := by unfold lead at hl; rw [d1', Bool.true_and] at hl; exact hl
        rw [beq_eq_false_iff_ne] at hx0 ⊢
        intro e; apply hx0; apply UInt8.toNat_inj.1
        show _ = 48; omega
       have hh : p.data.toList.headD 0 = p[0] := by
        have : p.data.toList = p[0] :: p.data.toList.drop 1 := by
         have h2 : 0 < p.data.toList.length := by simpa using (by omega : 0 < p.size)
         have := List.drop_eq_getElem_cons h2
         rw [List.drop_zero] at this
         exact this
        rw [this]; rfl
       rw [hh] at d2
       clear hl hh
       go_wp2_with ((go_at_call 48; (with_reducible refine (CP.out _).mono ?_); rintro e wn ⟨rfl, hbn⟩; have HMn := Lib.hid (drawn_below hbn); have HAn := Lib.hid (HA2.out.below HMn.out); have HOn := Lib.hid (Kd.R_below HO4.out HMn.out); have HZn := Lib.hid (HZ4.out.below HMn.out); have HBn := Lib.hid (HB4.out.trans (HMn.out.mono HB4.out.size)); have e0 := HZn.out.cell 0 _ rfl; have e1 := HZn.out.cell 1 _ rfl; have e2 := HZn.out.cell 2 _ rfl; have e3 := HZn.out.cell 3 _ rfl; have e4 := HZn.out.cell 4 _ rfl; have fz := HZn.out.free; have hzl := HZn.out.lt; have y1 := HAn.out.cell kk (.int .u64 0) (arrOf_at X l kk HK3.out); have y2 := HAn.out.free kk; clear hbn))
       clear e0 e1 e2 e3 e4 y1 y2
       have hAk := HAn.out.set kk (by have := HK3.out; simp [arrOf]; omega) (.int .u64 x)
       have hkeep := rset HOn.out HAn.out kk (.int .u64 x)
       have hzk := HZn.out.far ⟨G, kk, none⟩ (by have := HG.out; simp; omega) (.int .u64 x)
       have hbk := HBn.out.setCell (p := ⟨G, kk, none⟩) (Nat.le_of_lt HG.out) (.int .u64 x)
       rw [HSET.out] at hAk
       have HA5 := Lib.hid hAk; have HO5 := Lib.hid hkeep; have HZ5 := Lib.hid hzk; have HB5 := Lib.hid hbk
       clear hAk hkeep hzk hbk
       go_roundw
       case rel => exact ⟨kk + 1, by go_num, HK3.out, HGD2, HA5, HO5, HZ5, HB5⟩
       case measure => have := HK3.out; simp [Go.RowKit.intOf]; omega
      ·
       have d1 : decide (1 < (p.size : Int)) = false := decide_eq_false (by omega)
       have d1' : decide (1 < p.size) = false := decide_eq_false h1
       clear hl h1
       go_wp2_with ((go_at_call 48; (with_reducible refine (CP.out _).mono ?_); rintro e wn ⟨rfl, hbn⟩; have HMn := Lib.hid (drawn_below hbn); have HAn := Lib.hid (HA2.out.below HMn.out); have HOn := Lib.hid (Kd.R_below HO4.out HMn.out); have HZn := Lib.hid (HZ4.out.below HMn.out); have HBn := Lib.hid (HB4.out.trans (HMn.out.mono HB4.out.size)); have e0 := HZn.out.cell 0 _ rfl; have e1 := HZn.out.cell 1 _ rfl; have e2 := HZn.out.cell 2 _ rfl; have e3 := HZn.out.cell 3 _ rfl; have e4 := HZn.out.cell 4 _ rfl; have fz := HZn.out.free; have hzl := HZn.out.lt; have y1 := HAn.out.cell kk (.int .u64 0) (arrOf_at X l kk HK3.out); have y2 := HAn.out.free kk; clear hbn))
       clear e0 e1 e2 e3 e4 y1 y2
       have hAk := HAn.out.set kk (by have := HK3.out; simp [arrOf]; omega) (.int .u64 x)
       have hkeep := rset HOn.out HAn.out kk (.int .u64 x)
       have hzk := HZn.out.far ⟨G, kk, none⟩ (by have := HG.out; simp; omega) (.int .u64 x)
       have hbk := HBn.out.setCell (p := ⟨G, kk, none⟩) (Nat.le_of_lt HG.out) (.int .u64 x)
       rw [HSET.out] at hAk
       have HA5 := Lib.hid hAk; have HO5 := Lib.hid hkeep; have HZ5 := Lib.hid hzk; have HB5 := Lib.hid hbk
       clear hAk hkeep hzk hbk
       go_roundw
       case rel => exact ⟨kk + 1, by go_num, HK3.out, HGD2, HA5, HO5, HZ5, HB5⟩
       case measure => have := HK3.out; simp [Go.RowKit.intOf]; omega
     ·
      have HV : Hid (R = (0, 0, 0, ⟨#[]⟩, ⟨#[]⟩, false)) := Lib.hid (hbad (by rw [hl]; rfl))
      clear hbad hnext
      have h1 : 1 < p.size := by unfold lead at hl; rw [Bool.and_eq_true, decide_eq_true_eq] at hl; exact hl.1
      have d1 : decide (1 < (p.size : Int)) = true := decide_eq_true (by omega)
      have d1' : decide (1 < p.size) = true := decide_eq_true h1
      have d2 : (((p.data.toList.headD 0).toNat : Int) == 48) = true := by
       have hx0 : (p.data.toList.headD 0 == 48) = true := by unfold lead at hl; rw [d1', Bool.true_and] at hl; exact hl
       rw [beq_iff_eq] at hx0 ⊢
       rw [hx0]; rfl
      have hh : p.data.toList.headD 0 = p[0] := by
       have : p.data.toList = p[0] :: p.data.toList.drop 1 := by
        have h2 : 0 < p.data.toList.length := by simpa using (by omega : 0 < p.size)
        have := List.drop_eq_getElem_cons h2
        rw [List.drop_zero] at this
        exact this
       rw [this]; rfl
      rw [hh] at d2
      clear hl hh
      go_wp2_with ((go_at_call 48; (with_reducible refine (CP.out _).mono ?_); rintro e wn ⟨rfl, hbn⟩; have HMn := Lib.hid (drawn_below hbn); have HAn := Lib.hid (HA2.out.below HMn.out); have HOn := Lib.hid (Kd.R_below HO4.out HMn.out); have HZn := Lib.hid (HZ4.out.below HMn.out); have HBn := Lib.hid (HB4.out.trans (HMn.out.mono HB4.out.size)); have e0 := HZn.out.cell 0 _ rfl; have e1 := HZn.out.cell 1 _ rfl; have e2 := HZn.out.cell 2 _ rfl; have e3 := HZn.out.cell 3 _ rfl; have e4 := HZn.out.cell 4 _ rfl; have fz := HZn.out.free; have hzl := HZn.out.lt; have y1 := HAn.out.cell kk (.int .u64 0) (arrOf_at X l kk HK3.out); have y2 := HAn.out.free kk; clear hbn))
      clear e0 e1 e2 e3 e4
      obtain ⟨Z4, b4⟩ := five (.int .u64 0) (.int .u64 0) (.int .u64 0) (.string ⟨#[]⟩) (.string ⟨#[]⟩) HZn.out rfl HBn.out (Nat.le_refl _)
      generalize World.setCell _ _ _ = w4 at *
      have r0 := Z4.cell 0 _ rfl; have r1 := Z4.cell 1 _ rfl; have r2 := Z4.cell 2 _ rfl; have r3 := Z4.cell 3 _ rfl; have r4 := Z4.cell 4 _ rfl
      exact bodyPost_ret (v := .tuple #[.agg #[.int .u64 0, .int .u64 0, .int .u64 0, .string ⟨#[]⟩, .string ⟨#[]⟩], .bool false]) (by simp [results, Tryz.results30, go_sem, r0, r1, r2, r3, r4]) rfl ⟨by rw [HV.out], b4⟩
   ·
    obtain rfl : kk = 3 := by omega
    obtain ⟨a, b, c, rfl⟩ : ∃ a b c, l = [a, b, c] := by
     have := HL3.out
     match l, this with
     | [a, b, c], _ => exact ⟨a, b, c, rfl⟩
    have HV : Hid (R = ((X a).1, (X b).1, (X c).1, pre, mt, true)) := Lib.hid (by
     rw [HR.out]
     exact if_pos ⟨rfl, HGD.out 0 (by simp) (by decide), HGD.out 1 (by simp) (by decide), HGD.out 2 (by simp) (by decide)⟩)
    have n0 := HA2.out.cell 0 (.int .u64 (X a).1) rfl; have n1 := HA2.out.cell 1 (.int .u64 (X b).1) rfl; have n2 := HA2.out.cell 2 (.int .u64 (X c).1) rfl
    have e0 := HZ4.out.cell 0 _ rfl; have e1 := HZ4.out.cell 1 _ rfl; have e2 := HZ4.out.cell 2 _ rfl; have e3 := HZ4.out.cell 3 _ rfl; have e4 := HZ4.out.cell 4 _ rfl
    have fz := HZ4.out.free; have hzl := HZ4.out.lt
    generalize (X a).1 = xa at *
    generalize (X b).1 = xb at *
    generalize (X c).1 = xc at *
    clear hk hlt
    go_wp2_with fail
    clear e0 e1 e2 e3 e4
    obtain ⟨Z4, b4⟩ := five (.int .u64 xa) (.int .u64 xb) (.int .u64 xc) (.string pre) (.string mt) HZ4.out rfl HB4.out (Nat.le_refl _)
    generalize World.setCell _ _ _ = w4 at *
    have r0 := Z4.cell 0 _ rfl; have r1 := Z4.cell 1 _ rfl; have r2 := Z4.cell 2 _ rfl; have r3 := Z4.cell 3 _ rfl; have r4 := Z4.cell 4 _ rfl
    exact bodyPost_ret (v := .tuple #[.agg #[.int .u64 xa, .int .u64 xb, .int .u64 xc, .string pre, .string mt], .bool true]) (by simp [results, Tryz.results30, go_sem, r0, r1, r2, r3, r4]) rfl ⟨by rw [HV.out], b4⟩

end Go.Proofs.YtjgedenoaocfjaaGreatDoor.Rxw
namespace Go.Proofs.YtjgedenoaocfjaaGreatDoor.Rxw

open Go Go.RowKit Go.Proofs.YtjgedenoaocfjaaGreatDoor Go.Proofs.YtjgedenoaocfjaaGreatDoor.Rx Go.Proofs.YtjgedenoaocfjaaGreatDoor.L Go.Proofs.YtjgedenoaocfjaaGreatDoor.Parse Go.Proofs.YtjgedenoaocfjaaGreatDoor.KX Go.Proofs.YtjgedenoaocfjaaGreatDoor.Num Go.Proofs.YtjgedenoaocfjaaGreatDoor.MetaX

theorem fst_no {c : UInt8} : ∀ {l : List UInt8}, (∀ x ∈ l, x ≠ c) → fst c l = none := by
  intro l h
  cases e : fst c l with
  | none => rfl
  | some j =>
    obtain ⟨h1, h2, h3⟩ := fst_some c l j e
    exact absurd rfl (h c (by rw [h2]; simp))

theorem fst_at {c : UInt8} {u v : List UInt8} (h : ∀ x ∈ u, x ≠ c) : fst c (u ++ c :: v) = some u.length := by
  cases e : fst c (u ++ c :: v) with
  | none => exact absurd rfl (fst_none c _ e c (by simp))
  | some j =>
    obtain ⟨h1, h2, h3⟩ := fst_some c _ j e
    rcases Nat.lt_trichotomy j u.length with hj | hj | hj
    · have h4 : (u ++ c :: v)[j]? = some c := by
        rw [h2, List.getElem?_append_right (by rw [List.length_take]; omega), List.length_take, Nat.min_eq_left (by omega), Nat.sub_self]; rfl
      rw [List.getElem?_append_left hj, List.getElem?_eq_getElem hj] at h4
      exact absurd (Option.some.inj h4) (h _ (List.getElem_mem hj))
    · rw [hj]
    · exact absurd rfl (h3 c (by
        rw [List.take_append, List.mem_append]
        right
        obtain ⟨q, hq⟩ : ∃ q, j - u.length = q + 1 := ⟨j - u.length - 1, by omega⟩
        rw [hq, List.take_succ_cons]
        exact List.mem_cons_self ..))

theorem cutL_no {c : UInt8} {l : List UInt8} (h : ∀ x ∈ l, x ≠ c) : cutL c l = (l, [], false) := by unfold cutL; rw [fst_no h]

theorem cutL_at {c : UInt8} {u v : List UInt8} (h : ∀ x ∈ u, x ≠ c) : cutL c (u ++ c :: v) = (u, v, true) := by
  unfold cutL
  rw [fst_at h]
  simp

theorem cutL_inv {c : UInt8} {l u v : List UInt8} {f : Bool} (h : cutL c l = (u, v, f)) : (f = false ∧ u = l ∧ v = [] ∧ ∀ x ∈ l, x ≠ c) ∨ (f = true ∧ l = u ++ c :: v ∧ ∀ x ∈ u, x ≠ c) := by
  unfold cutL at h
  cases e : fst c l with
  | none => rw [e] at h; cases h; exact .inl ⟨rfl, rfl, rfl, fst_none c l e⟩
  | some j =>
    rw [e] at h
    cases h
    obtain ⟨h1, h2, h3⟩ := fst_some c l j e
    exact .inr ⟨rfl, h2, h3⟩

/-- A number of a version. -/
def NumOf (a : List UInt8) (x : Nat) : Prop := num a = some x ∧ leadL a = false

theorem num_all {a : List UInt8} {x : Nat} (h : num a = some x) : a ≠ [] ∧ a.all isDig = true ∧ valF 0 a = x ∧ x ≤ top := by
  rw [num_eq] at h
  split at h
  · rename_i q
    cases h
    exact ⟨q.1.1, q.1.2, rfl, q.2⟩
  · cases h

theorem NumOf.no {a : List UInt8} {x : Nat} (h : NumOf a x) (c : UInt8) (hc : isDig c = false) : ∀ y ∈ a, y ≠ c := by
  intro y hy e
  have := List.all_eq_true.1 (num_all h.1).2.1 y hy
  rw [e, hc] at this
  cases this

def TailP (w p : List UInt8) : Prop := (w = [] ∧ p = []) ∨ (w = 45 :: p ∧ preOk p = true)

theorem TailP.tail {w p} (h : TailP w p) : Tail 45 w p := h.imp id fun h => ⟨h.1, pre_meta p h.2⟩

theorem tails_inv {l u p m : List UInt8} (h : tailsL l = (u, p, m, true)) : ∃ pw gw, l = u ++ (pw ++ gw) ∧ TailP pw p ∧ Tail 43 gw m ∧ ∀ x ∈ u, x ≠ 43 ∧ x ≠ 45 := by
  unfold tailsL at h
  obtain ⟨u1, m1, f1, h1⟩ : ∃ u1 m1 f1, cutL 43 l = (u1, m1, f1) := ⟨_, _, _, rfl⟩
  obtain ⟨u2, p2, f2, h2⟩ : ∃ u2 p2 f2, cutL 45 u1 = (u2, p2, f2) := ⟨_, _, _, rfl⟩
  rw [h1] at h
  dsimp only at h
  rw [h2] at h
  simp only [Prod.mk.injEq, Bool.and_eq_true, Bool.or_eq_true] at h
  obtain ⟨rfl, rfl, rfl, hm, hp⟩ := h
  rcases cutL_inv h1 with ⟨rfl, rfl, rfl, n1⟩ | ⟨rfl, rfl, n1⟩
  · rcases cutL_inv h2 with ⟨rfl, rfl, rfl, n2⟩ | ⟨rfl, rfl, n2⟩
    · exact ⟨[], [], by simp, .inl ⟨rfl, rfl⟩, .inl ⟨rfl, rfl⟩, fun x hx => ⟨n1 x hx, n2 x hx⟩⟩
    · exact ⟨45 :: p2, [], by simp, .inr ⟨rfl, by simpa using hp⟩, .inl ⟨rfl, rfl⟩, fun x hx => ⟨n1 x (List.mem_append_left _ hx), n2 x hx⟩⟩
  · rcases cutL_inv h2 with ⟨rfl, rfl, rfl, n2⟩ | ⟨rfl, rfl, n2⟩
    · exact ⟨[], 43 :: m1, by simp, .inl ⟨rfl, rfl⟩, .inr ⟨rfl, by simpa using hm⟩, fun x hx => ⟨n1 x hx, n2 x hx⟩⟩
    · exact ⟨45 :: p2, 43 :: m1, by simp, .inr ⟨rfl, by simpa using hp⟩, .inr ⟨rfl, by simpa using hm⟩, fun x hx => ⟨n1 x (List.mem_append_left _ hx), n2 x hx⟩⟩

theorem goodX (a : List UInt8) : goodI numX (ofL a) = true ↔ ∃ x, NumOf a x := by
  unfold goodI numX NumOf
  rw [bl_ofL]
  have e : lead (ofL a) = leadL a := rfl
  rw [e]
  cases num a with
  | none => simp
  | some n => simp

theorem NumOf.valX {a : List UInt8} {x : Nat} (h : NumOf a x) : (numX (ofL a)).1 = (x : Int) := by
  unfold numX
  rw [bl_ofL, h.1]

/-- What the grammar gives. -/
def gramF (l : List UInt8) : Int × Int × Int × ByteArray × ByteArray × Bool := let t := tailsL l; gramV numX (ofL t.2.1) (ofL t.2.2.1) t.2.2.2 ((splitL 46 t.1).map ofL)

end Go.Proofs.YtjgedenoaocfjaaGreatDoor.Rxw
namespace Go.Proofs.YtjgedenoaocfjaaGreatDoor.Rxw

open Go Go.RowKit Go.Lib Go.Sort Go.Proofs Go.Proofs.YtjgedenoaocfjaaGreatDoor Go.Proofs.YtjgedenoaocfjaaGreatDoor.Base Go.Proofs.YtjgedenoaocfjaaGreatDoor.Rx Go.Proofs.YtjgedenoaocfjaaGreatDoor.L Go.Proofs.YtjgedenoaocfjaaGreatDoor.Parse Go.Proofs.YtjgedenoaocfjaaGreatDoor.KX Go.Proofs.YtjgedenoaocfjaaGreatDoor.Num

def numD (w : List UInt8) : Option Nat := match w with
  | [] => some 0
  | b :: r => if b = 46 then num r else none

/-- What a text is, read loosely. -/
def looseL (l : List UInt8) : Option (Nat × Nat × Nat × List UInt8 × List UInt8) := match verG digB l.length l with
  | some (x, []) => match num x.a, numD x.b, numD x.c with
    | some a, some b, some c => if (x.p = [] ∨ preOk x.p = true) ∧ (x.g = [] ∨ metaOk x.g = true) then some (a, b, c, x.p, x.g) else none
    | _, _, _ => none
  | _ => none

theorem numD_of {w : List UInt8} {n : Nat} (h : numD w = some n) : (w = [] ∧ n = 0) ∨ ∃ r, w = 46 :: r ∧ num r = some n := by
  unfold numD at h
  split at h
  · cases h; exact .inl ⟨rfl, rfl⟩
  · split at h
    · rename_i e; subst e; exact .inr ⟨_, rfl, h⟩
    · cases h

theorem newL (s : ByteArray) (ha : Ascii s) (hs : s.size ≤ 256) {a b c : Nat} {p m : List UInt8} (h : looseL (bl s) = some (a, b, c, p, m)) (w : World) (hStd : Std w) (hSem : Sem w) :
    Calls Tryz.prog 31 #[.string s] w (NewVer a b c (ofL p) (ofL m) s w) := by
  unfold looseL at h
  split at h
  · rename_i x hv
    split at h
    · rename_i na nb nc h1 h2 h3
      split at h
      · rename_i hg
        cases h
        exact newOf s ha hs x hv a b c h1 (numD_of h2) (numD_of h3) hg.1 hg.2 w hStd hSem
      · cases h
    · cases h
  · cases h

theorem num_top {l : List UInt8} {n : Nat} (h : num l = some n) : n ≤ 18446744073709551615 := (num_all h).2.2.2

theorem loose_top {l : List UInt8} {a b c : Nat} {p m : List UInt8} (h : looseL l = some (a, b, c, p, m)) : a ≤ 18446744073709551615 ∧ b ≤ 18446744073709551615 ∧ c ≤ 18446744073709551615 := by
  have nd : ∀ {w : List UInt8} {n : Nat}, numD w = some n → n ≤ 18446744073709551615 := fun h => by
    rcases numD_of h with ⟨_, rfl⟩ | ⟨r, _, h⟩
    · omega
    · exact num_top h
  unfold looseL at h
  split at h
  · split at h
    · rename_i h1 h2 h3
      split at h
      · cases h; exact ⟨num_top h1, nd h2, nd h3⟩
      · cases h
    · cases h
  · cases h

def asciiB (l : List UInt8) : Bool := l.all fun x => decide (x.toNat < 128)

theorem ascii_of {s : ByteArray} (h : asciiB (bl s) = true) : Ascii s := fun x hx => of_decide_eq_true (List.all_eq_true.1 h x hx)

end Go.Proofs.YtjgedenoaocfjaaGreatDoor.Rxw

namespace Go.Proofs.YtjgedenoaocfjaaGreatDoor.PX

open Go Go.RowKit Go.Lib Go.Sort Go.Proofs Go.Proofs.YtjgedenoaocfjaaGreatDoor Go.Proofs.YtjgedenoaocfjaaGreatDoor.Base Go.Proofs.YtjgedenoaocfjaaGreatDoor.Rx Go.Proofs.YtjgedenoaocfjaaGreatDoor.L Go.Proofs.YtjgedenoaocfjaaGreatDoor.Parse Go.Proofs.YtjgedenoaocfjaaGreatDoor.KX Go.Proofs.YtjgedenoaocfjaaGreatDoor.Rxw

def spec_grammar.f (a0 : ByteArray) : Option (Int × Int × Int × ByteArray × ByteArray × Bool) := if a0.size ≤ 1000000000 then some (gramF (bl a0)) else none

theorem spec_grammar.calls (a0 : ByteArray) (r1 r2 r3 : Int) (r4 r5 : ByteArray) (r6 : Bool) (w : World) (h : spec_grammar.f a0 = some (r1, r2, r3, r4, r5, r6)) :
    Calls Tryz.prog 30 #[.string a0] w fun e w' => e = .returned (.tuple #[.agg #[.int .u64 r1, .int .u64 r2, .int .u64 r3, .string r4, .string r5], .bool r6]) ∧ Below w.heap.size w w' := by
  unfold spec_grammar.f at h
  split at h
  · rename_i hs
    have hg : gramF (bl a0) = (r1, r2, r3, r4, r5, r6) := Option.some.inj h
    have hc := cutL_len 43 (bl a0)
    have hc2 := cutL_len 45 (cutL 43 (bl a0)).1
    rw [bl_len] at hc
    have hu : (tailsL (bl a0)).1.length ≤ a0.size := by show (cutL 45 (cutL 43 (bl a0)).1).1.length ≤ _; omega
    have hsp := splitL_len 46 (tailsL (bl a0)).1
    have := gramW (2 * a0.size + 4) a0 _ _ _ _ _ numX (tails_f a0 (by omega) _ (by omega)) (identifiers_f (ofL (tailsL (bl a0)).1) (by rw [size_ofL]; omega) _ (by rw [size_ofL]; omega)) (by rw [List.length_map, bl_ofL]; omega)
      (fun p hp => by
        rw [bl_ofL] at hp
        obtain ⟨q, hq, rfl⟩ := List.mem_map.1 hp
        have hle := Bt.parts_le 46 _ q hq
        exact number_f (ofL q) (by rw [size_ofL]; omega) _ (by rw [size_ofL]; omega)) w
    rw [bl_ofL] at this
    refine this.mono fun e w' hR => ?_
    have e2 : gramV numX (ofL (tailsL (bl a0)).2.1) (ofL (tailsL (bl a0)).2.2.1) (tailsL (bl a0)).2.2.2 ((splitL 46 (tailsL (bl a0)).1).map ofL) = (r1, r2, r3, r4, r5, r6) := hg
    rw [e2] at hR
    exact hR
  · cases h

end Go.Proofs.YtjgedenoaocfjaaGreatDoor.PX
namespace Go.Proofs.YtjgedenoaocfjaaGreatDoor.Rxw

open Go Go.RowKit Go.Proofs.YtjgedenoaocfjaaGreatDoor Go.Proofs.YtjgedenoaocfjaaGreatDoor.Rx Go.Proofs.YtjgedenoaocfjaaGreatDoor.L Go.Proofs.YtjgedenoaocfjaaGreatDoor.Parse Go.Proofs.YtjgedenoaocfjaaGreatDoor.KX Go.Proofs.YtjgedenoaocfjaaGreatDoor.Num

theorem all_dig {a : List UInt8} {x : Nat} (h : num a = some x) : a ≠ [] ∧ ∀ q ∈ a, digB q = true := ⟨(num_all h).1, fun q hq => by rw [← isDig_digB]; exact List.all_eq_true.1 (num_all h).2.1 q hq⟩

theorem id_low (b : UInt8) (h : isId b = true) : b.toNat < 128 := by
  unfold isId isDig at h
  simp at h
  rcases h with ((h | h) | h) | h
  · omega
  · omega
  · omega
  · rw [h]; decide

theorem meta_low {p : List UInt8} (h : metaOk p = true) : ∀ x ∈ p, x.toNat < 128 := fun x hx => by
  rcases meta_bytes p h x hx with h1 | h1
  · exact id_low x h1
  · rw [h1]; decide

theorem tail_low {c : UInt8} {w p : List UInt8} (hc : c.toNat < 128) (h : Tail c w p) : ∀ x ∈ w, x.toNat < 128 := by
  rcases h with ⟨rfl, _⟩ | ⟨rfl, h⟩
  · intro x hx; simp at hx
  · intro x hx
    rcases List.mem_cons.1 hx with h1 | h1
    · rw [h1]; exact hc
    · exact meta_low h x h1

theorem num_low {a : List UInt8} {x : Nat} (h : num a = some x) : ∀ y ∈ a, y.toNat < 128 := fun y hy => by
  have := (dig_iff y).1 (List.all_eq_true.1 (num_all h).2.1 y hy)
  omega

end Go.Proofs.YtjgedenoaocfjaaGreatDoor.Rxw
namespace Go.Proofs.YtjgedenoaocfjaaGreatDoor.PX

open Go.RowKit Go.Proofs.YtjgedenoaocfjaaGreatDoorW.PrintWords Go.Proofs.YtjgedenoaocfjaaGreatDoorW.PrintLast Go.Proofs.YtjgedenoaocfjaaGreatDoorW.PrintMore

attribute [local go_sem] max2_int min2_int max_two min_two max_three min_three max_four min_four   -- for this text's walks alone

set_option linter.unusedVariables false

set_option linter.unusedSimpArgs false

mutual
def spec_LooseVersion.j0 : Nat → ByteArray → Bool → Option (Int × Int × Int × ByteArray × ByteArray × Bool)
  | 0, _, _ => none
  | k + 1, x0, x22 => if x22 = true then (if 1 ≤ (x0.size : Int) then (spec_LooseVersion.j1 k (x0.extract 1 x0.size)) else (none)) else (spec_LooseVersion.j1 k x0)
def spec_LooseVersion.j1 : Nat → ByteArray → Option (Int × Int × Int × ByteArray × ByteArray × Bool)
  | 0, _ => none
  | k + 1, x0 => (spec_tails.f k x0).bind fun bt167 => ((spec_Identifiers.f k bt167.1).bind fun t171 => (spec_LooseVersion.l0 k x0 bt167.1 t171 (⟨#[]⟩ : ByteArray) 0))
def spec_LooseVersion.l0 : Nat → ByteArray → ByteArray → List ByteArray → ByteArray → Int → Option (Int × Int × Int × ByteArray × ByteArray × Bool)
  | 0, _, _, _, _, _ => none
  | k + 1, x0, x4, x8, x9, x10 => if x10 < (x8.length : Int) then (spec_LooseVersion.j3 k x0 x4 x8 x9 x10 true) else (spec_LooseVersion.j3 k x0 x4 x8 x9 x10 (decide (x10 < 3)))
def spec_LooseVersion.j3 : Nat → ByteArray → ByteArray → List ByteArray → ByteArray → Int → Bool → Option (Int × Int × Int × ByteArray × ByteArray × Bool)
  | 0, _, _, _, _, _, _ => none
  | k + 1, x0, x4, x8, x9, x10, x41 => if x41 = true then (if x10 < (x8.length : Int) then (if 0 ≤ x10 then ((spec_withoutZeros.f k (rdOf ByteArray.empty x8 x10)).bind fun t181 => (if x10 > 0 then (if x9.size + 1 ≤ 9223372036854775807 then (if (x9 ++ (⟨#[46]⟩ : ByteArray)).size + t181.size ≤ 9223372036854775807 then (spec_LooseVersion.l0 k x0 x4 x8 ((x9 ++ (⟨#[46]⟩ : ByteArray)) ++ t181) (wrap64 (x10 + 1))) else (none)) else (none)) else (if x9.size + t181.size ≤ 9223372036854775807 then (spec_LooseVersion.l0 k x0 x4 x8 (x9 ++ t181) (wrap64 (x10 + 1))) else (none)))) else (none)) else (if x10 > 0 then (if x9.size + 1 ≤ 9223372036854775807 then (if (x9 ++ (⟨#[46]⟩ : ByteArray)).size + 1 ≤ 9223372036854775807 then (spec_LooseVersion.l0 k x0 x4 x8 ((x9 ++ (⟨#[46]⟩ : ByteArray)) ++ (⟨#[48]⟩ : ByteArray)) (wrap64 (x10 + 1))) else (none)) else (none)) else (if x9.size + 1 ≤ 9223372036854775807 then (spec_LooseVersion.l0 k x0 x4 x8 (x9 ++ (⟨#[48]⟩ : ByteArray)) (wrap64 (x10 + 1))) else (none)))) else (if 0 ≤ (x4.size : Int) then (if (x4.size : Int) ≤ (x0.size : Int) then (if x9.size + (x0.extract ((x4.size : Int) : Int).toNat x0.size).size ≤ 9223372036854775807 then ((spec_grammar.f (x9 ++ (x0.extract ((x4.size : Int) : Int).toNat x0.size))).bind fun bt174 => (some (bt174.1, bt174.2.1, bt174.2.2.1, bt174.2.2.2.1, bt174.2.2.2.2.1, bt174.2.2.2.2.2))) else (none)) else (none)) else (none))
end

def spec_LooseVersion.f (k : Nat) (a0 : ByteArray) : Option (Int × Int × Int × ByteArray × ByteArray × Bool) := if (a0.size : Int) > 256 then (some (0, 0, 0, (⟨#[]⟩ : ByteArray), (⟨#[]⟩ : ByteArray), false)) else (if a0.toList = ([] : List UInt8) then (spec_LooseVersion.j0 k a0 false) else (if 0 < (a0.size : Int) then (spec_LooseVersion.j0 k a0 ((bt a0 0) == 118)) else (none)))

set_option maxHeartbeats 80000000 in
set_option maxRecDepth 100000 in
theorem spec_LooseVersion.calls (k : Nat) (a0 : ByteArray) (r1 : Int) (r2 : Int) (r3 : Int) (r4 : ByteArray) (r5 : ByteArray) (r6 : Bool) (w : World) (h : spec_LooseVersion.f k a0 = some (r1, r2, r3, r4, r5, r6)) :
  Calls Tryz.prog 13 #[.string a0] w fun e w' => e = .returned (.tuple #[.agg #[.int .u64 r1, .int .u64 r2, .int .u64 r3, .string r4, .string r5], .bool r6]) ∧ Below w.heap.size w w' := by
 have hu32 := Tryz.underlying32
 have HB := Aside0.mk (Below.refl w.heap.size w)
 have H : (if (a0.size : Int) > 256 then (some (0, 0, 0, (⟨#[]⟩ : ByteArray), (⟨#[]⟩ : ByteArray), false)) else (if a0.toList = ([] : List UInt8) then (spec_LooseVersion.j0 k a0 false) else (if 0 < (a0.size : Int) then (spec_LooseVersion.j0 k a0 ((bt a0 0) == 118)) else (none)))) = some (r1, r2, r3, r4, r5, r6) := h
 clear h
 by_cases c2 : (a0.size : Int) > 256
 ·
  rw [if_pos c2] at H
  have c2b0 : decide (256 < (a0.size : Int)) = true := decide_eq_true c2
  have c2b1 : decide (256 < a0.size) = true := decide_eq_true (by omega)
  clear c2
  simp only [Option.some.injEq, Prod.mk.injEq] at H
  obtain ⟨rfl, rfl, rfl, rfl, rfl, rfl⟩ := H
  go_enter Tryz.func13, Tryz.ntmps13
  go_wp2_with (first | ((with_reducible refine gate_dst (N := 2) rfl ?_); refine box_event ?hg (N := 2) ?hd (cs := #[.int .u64 0, .int .u64 0, .int .u64 0, .string (⟨#[]⟩ : ByteArray), .string (⟨#[]⟩ : ByteArray)]) (t := 32) ?hr ?_; (case hd => rfl); (case hg => rfl); (case hr => first | (go_simp; done) | (go_simp; rfl) | (go_simp; simp [u8w]; done)); intro gb166 hg w3 hbox hb; have n0_ := Aside0.mk (below_step (by repeat (first | (with_reducible first | exact HB.out | apply below_alloc | apply pw_below_drewN | apply below_drew1) | exact HB.out)) hb); have n1_ := Aside0.mk (hbox); have n2_ := Aside0.mk ((by rw [hg]; exact (below_size (by repeat (first | (with_reducible first | exact HB.out | apply below_alloc | apply pw_below_drewN | apply below_drew1) | exact HB.out))) : w.heap.size ≤ gb166)); have n3_ := Aside0.mk ((by rw [hg]; exact (below_size (by repeat (first | (with_reducible first | exact HB.out | apply below_alloc | apply pw_below_drewN | apply below_drew1) | exact HB.out))) : w.heap.size ≤ gb166)); clear HB; have HB := n0_; have BK166 := n1_; have GW166 := n2_; have GE166 := n3_; clear n0_ n1_ n2_ n3_; clear hb hbox hg; have hcz4_0 : w3.cell? ⟨gb166, 0, none⟩ = some (.int .u64 0) := (blk_cell BK166.out 0).trans rfl; have hcz4_1 : w3.cell? ⟨gb166, 1, none⟩ = some (.int .u64 0) := (blk_cell BK166.out 1).trans rfl; have hcz4_2 : w3.cell? ⟨gb166, 2, none⟩ = some (.int .u64 0) := (blk_cell BK166.out 2).trans rfl; have hcz4_3 : w3.cell? ⟨gb166, 3, none⟩ = some (.string (⟨#[]⟩ : ByteArray)) := (blk_cell BK166.out 3).trans rfl; have hcz4_4 : w3.cell? ⟨gb166, 4, none⟩ = some (.string (⟨#[]⟩ : ByteArray)) := (blk_cell BK166.out 4).trans rfl; have hfz4_0 := blk_frozen BK166.out 0; have hfz4_1 := blk_frozen BK166.out 1; have hfz4_2 := blk_frozen BK166.out 2; have hfz4_3 := blk_frozen BK166.out 3; have hfz4_4 := blk_frozen BK166.out 4))
  refine bodyPost_ret (results_ct rfl _ _ gb166 32 #[.int .u64 0, .int .u64 0, .int .u64 0, .string (⟨#[]⟩ : ByteArray), .string (⟨#[]⟩ : ByteArray)] (0, 0) _ rfl (by (with_reducible repeat (first | refine blk_drewN ?_ _ | refine blk_drew ?_ | refine blk_alloc ?_ _)); refine blk_put (cs := #[.int .u64 0, .int .u64 0, .int .u64 0, .string (⟨#[]⟩ : ByteArray), .string (⟨#[]⟩ : ByteArray)]) ?_ 4 _ rfl; (with_reducible repeat (first | refine blk_drewN ?_ _ | refine blk_drew ?_ | refine blk_alloc ?_ _)); refine blk_put (cs := #[.int .u64 0, .int .u64 0, .int .u64 0, .string (⟨#[]⟩ : ByteArray), .string (⟨#[]⟩ : ByteArray)]) ?_ 3 _ rfl; (with_reducible repeat (first | refine blk_drewN ?_ _ | refine blk_drew ?_ | refine blk_alloc ?_ _)); refine blk_put (cs := #[.int .u64 0, .int .u64 0, .int .u64 0, .string (⟨#[]⟩ : ByteArray), .string (⟨#[]⟩ : ByteArray)]) ?_ 2 _ rfl; (with_reducible repeat (first | refine blk_drewN ?_ _ | refine blk_drew ?_ | refine blk_alloc ?_ _)); refine blk_put (cs := #[.int .u64 0, .int .u64 0, .int .u64 0, .string (⟨#[]⟩ : ByteArray), .string (⟨#[]⟩ : ByteArray)]) ?_ 1 _ rfl; (with_reducible repeat (first | refine blk_drewN ?_ _ | refine blk_drew ?_ | refine blk_alloc ?_ _)); refine blk_put (cs := #[.int .u64 0, .int .u64 0, .int .u64 0, .string (⟨#[]⟩ : ByteArray), .string (⟨#[]⟩ : ByteArray)]) ?_ 0 _ rfl; (with_reducible repeat (first | refine blk_drewN ?_ _ | refine blk_drew ?_ | refine blk_alloc ?_ _)); exact BK166.out) Tryz.underlying32 rfl (by kernel_rfl)) rfl ?_
  exact ⟨by first | rfl | (simp [errW_none, errW_some] <;> rfl) | (simp [*, errW_none, errW_some] <;> rfl) | (simp [bneNil]; done), by repeat (first | (with_reducible first | exact HB.out | apply below_alloc | apply pw_below_drewN | apply below_drew1 | refine below_set ?_ GE166.out) | exact HB.out)⟩
 ·
  rw [if_neg c2] at H
  have c2b0 : decide (256 < (a0.size : Int)) = false := decide_eq_false c2
  have c2b1 : decide (256 < a0.size) = false := decide_eq_false (by omega)
  clear c2
  have HC5 := Aside0.mk H
  clear H
  go_enter Tryz.func13, Tryz.ntmps13
  go_upto_region 3 with (first | ((with_reducible refine gate_dst (N := 2) rfl ?_); refine box_event ?hg (N := 2) ?hd (cs := #[.int .u64 0, .int .u64 0, .int .u64 0, .string (⟨#[]⟩ : ByteArray), .string (⟨#[]⟩ : ByteArray)]) (t := 32) ?hr ?_; (case hd => rfl); (case hg => rfl); (case hr => first | (go_simp; done) | (go_simp; rfl) | (go_simp; simp [u8w]; done)); intro gb166 hg w6 hbox hb; have n0_ := Aside0.mk (below_step (by repeat (first | (with_reducible first | exact HB.out | apply below_alloc | apply pw_below_drewN | apply below_drew1) | exact HB.out)) hb); have n1_ := Aside0.mk (hbox); have n2_ := Aside0.mk ((by rw [hg]; exact (below_size (by repeat (first | (with_reducible first | exact HB.out | apply below_alloc | apply pw_below_drewN | apply below_drew1) | exact HB.out))) : w.heap.size ≤ gb166)); have n3_ := Aside0.mk ((by rw [hg]; exact (below_size (by repeat (first | (with_reducible first | exact HB.out | apply below_alloc | apply pw_below_drewN | apply below_drew1) | exact HB.out))) : w.heap.size ≤ gb166)); clear HB; have HB := n0_; have BK166 := n1_; have GW166 := n2_; have GE166 := n3_; clear n0_ n1_ n2_ n3_; clear hb hbox hg))
  (try simp only [Act.put, List.setIfInBounds_toArray, List.set_cons_zero, List.set_cons_succ])
  go_cut [22] (fun v22 wc => ∃ (kq : Nat) (x22_4 : Bool), v22 = .bool x22_4 ∧ Aside0 (spec_LooseVersion.j0 kq a0 x22_4 = some (r1, r2, r3, r4, r5, r6)) ∧ Aside0 (kq ≤ k) ∧ Aside0 (wc.heap[gb166]? = some (.cells #[.int .u64 0, .int .u64 0, .int .u64 0, .string (⟨#[]⟩ : ByteArray), .string (⟨#[]⟩ : ByteArray)] 32 (0, 0))) ∧ Aside0 (Below w.heap.size w wc))
  case first =>
   have H := HC5.out
   clear HC5
   by_cases c7 : a0.toList = ([] : List UInt8)
   ·
    rw [if_pos c7] at H
    have c7b0 : (a0.toList == ([] : List UInt8)) = true := beq_iff_eq.mpr c7
    have c7b1 : (a0.toList != ([] : List UInt8)) = false := bne_eq_false_iff_eq.mpr c7
    clear c7
    (first | rw [c7b0] | (simp only [i64_w, i32_w]; rw [c7b0]) | skip)
    have H' := Aside0.mk H
    clear H
    go_wp2
    go_meet
    case rel => exact ⟨_, (false), (by first | rfl | (simp; done) | (simp [*]; done)), H', ⟨by first | omega | exact Nat.le_refl _⟩, ⟨by (with_reducible repeat (first | refine blk_drewN ?_ _ | refine blk_drew ?_ | refine blk_alloc ?_ _)); exact BK166.out⟩, ⟨by repeat (first | (with_reducible first | exact HB.out | apply below_alloc | apply pw_below_drewN | apply below_drew1 | refine below_set ?_ GE166.out) | exact HB.out)⟩⟩
   ·
    rw [if_neg c7] at H
    have c7b0 : (a0.toList == ([] : List UInt8)) = false := beq_eq_false_iff_ne.mpr c7
    have c7b1 : (a0.toList != ([] : List UInt8)) = true := bne_iff_ne.mpr c7
    (first | rw [c7b0] | (simp only [i64_w, i32_w]; rw [c7b0]) | skip)
    by_cases c8 : 0 < (a0.size : Int)
    ·
     rw [if_pos c8] at H
     have c8b0 : decide (0 < (a0.size : Int)) = true := decide_eq_true c8
     have c8b1 : decide (0 < a0.size) = true := decide_eq_true (by omega)
     clear c8
     have H' := Aside0.mk H
     clear H
     have p9 : 0 ≤ (0 : Int) := (by omega)
     have q9 : 0 < a0.size := (by have : (0 : Int) < (a0.size : Int) := of_decide_eq_true (by first | (with_reducible assumption) | assumption); omega)
     have hx9 : ∀ h : 0 < a0.size, ((a0[0]'h).toNat : Int) = bt a0 0 := bt_at a0 0
     clear p9
     have qi9 : (0 < (a0.size : Int)) = True := eq_true (of_decide_eq_true (by first | (with_reducible assumption) | assumption))
     replace q9 := eq_true q9
     go_wp2
     go_meet
     case rel => exact ⟨_, (((bt a0 0) == 118)), (by first | rfl | (simp; done) | (simp [*]; done)), H', ⟨by first | omega | exact Nat.le_refl _⟩, ⟨by (with_reducible repeat (first | refine blk_drewN ?_ _ | refine blk_drew ?_ | refine blk_alloc ?_ _)); exact BK166.out⟩, ⟨by repeat (first | (with_reducible first | exact HB.out | apply below_alloc | apply pw_below_drewN | apply below_drew1 | refine below_set ?_ GE166.out) | exact HB.out)⟩⟩
    ·
     rw [if_neg c8] at H
     exact absurd H (by simp)
  case rest =>
   clear HC5
   try clear c1
   try clear c2
   try clear c2b0
   try clear c2b1
   try clear p2
   try clear c7
   try clear c7b0
   try clear c7b1
   try clear c8
   try clear c8b0
   try clear c8b1
   try clear p9
   try clear q9
   try clear hx9
   try clear qi9
   try clear hcz4_0
   try clear hcz4_1
   try clear hcz4_2
   try clear hcz4_3
   try clear hcz4_4
   try clear hfz4_0
   try clear hfz4_1
   try clear hfz4_2
   try clear hfz4_3
   try clear hfz4_4
   try clear p9
   try clear q9
   obtain ⟨kq, x22_4, rfl, HA, HJ4, BK166, HB⟩ := hcut
   cases kq with
   | zero => exact absurd HA.out (by simp [spec_LooseVersion.j0])
   | succ kj4 =>
    have H := HA.out
    clear HA
    simp only [spec_LooseVersion.j0] at H
    have HC10 := Aside0.mk H
    clear H
    go_upto_if 22 with (fail)
    go_cut [0] (fun v0 wc => ∃ (kq : Nat) (x0_9 : ByteArray), v0 = .string x0_9 ∧ Aside0 (spec_LooseVersion.j1 kq x0_9 = some (r1, r2, r3, r4, r5, r6)) ∧ Aside0 (kq ≤ kj4) ∧ Aside0 (wc.heap[gb166]? = some (.cells #[.int .u64 0, .int .u64 0, .int .u64 0, .string (⟨#[]⟩ : ByteArray), .string (⟨#[]⟩ : ByteArray)] 32 (0, 0))) ∧ Aside0 (Below w.heap.size w wc))
    case first =>
     have H := HC10.out
     clear HC10
     by_cases c11 : x22_4 = true
     ·
      subst c11
      have H1 : (if 1 ≤ (a0.size : Int) then (spec_LooseVersion.j1 kj4 (a0.extract 1 a0.size)) else (none)) = some (r1, r2, r3, r4, r5, r6) := by rw [if_pos rfl] at H; exact H
      clear H
      have H := H1
      clear H1
      by_cases c12 : 1 ≤ (a0.size : Int)
      ·
       rw [if_pos c12] at H
       have c12b0 := eq_true c12
       have c12b1 : decide (1 ≤ (a0.size : Int)) = true := decide_eq_true c12
       clear c12
       have H' := Aside0.mk H
       clear H
       go_wp2
       go_meet
       case rel => exact ⟨_, (a0.extract 1 a0.size), (by first | rfl | (simp; done) | (simp [*]; done)), H', ⟨by have := HJ4.out; first | omega | exact Nat.le_refl _⟩, ⟨by (with_reducible repeat (first | refine blk_drewN ?_ _ | refine blk_drew ?_ | refine blk_alloc ?_ _)); exact BK166.out⟩, ⟨by repeat (first | (with_reducible first | exact HB.out | apply below_alloc | apply pw_below_drewN | apply below_drew1 | refine below_set ?_ GE166.out) | exact HB.out)⟩⟩
      ·
       rw [if_neg c12] at H
       exact absurd H (by simp)
     ·
      replace c11 := Bool.eq_false_iff.mpr c11
      subst c11
      have H1 : (spec_LooseVersion.j1 kj4 a0) = some (r1, r2, r3, r4, r5, r6) := by rw [if_neg (show ¬ (false = true) by decide)] at H; exact H
      clear H
      have H := H1
      clear H1
      have H' := Aside0.mk H
      clear H
      go_wp2
      go_meet
      case rel => exact ⟨_, (a0), (by first | rfl | (simp; done) | (simp [*]; done)), H', ⟨by have := HJ4.out; first | omega | exact Nat.le_refl _⟩, ⟨by (with_reducible repeat (first | refine blk_drewN ?_ _ | refine blk_drew ?_ | refine blk_alloc ?_ _)); exact BK166.out⟩, ⟨by repeat (first | (with_reducible first | exact HB.out | apply below_alloc | apply pw_below_drewN | apply below_drew1 | refine below_set ?_ GE166.out) | exact HB.out)⟩⟩
    case rest =>
     clear HC10
     try clear c1
     try clear c2
     try clear c2b0
     try clear c2b1
     try clear p2
     try clear c7
     try clear c7b0
     try clear c7b1
     try clear c8
     try clear c8b0
     try clear c8b1
     try clear p9
     try clear q9
     try clear hx9
     try clear qi9
     try clear c11
     try clear c12
     try clear c12b0
     try clear c12b1
     try clear hcz4_0
     try clear hcz4_1
     try clear hcz4_2
     try clear hcz4_3
     try clear hcz4_4
     try clear hfz4_0
     try clear hfz4_1
     try clear hfz4_2
     try clear hfz4_3
     try clear hfz4_4
     try clear p2
     try clear p9
     try clear q9
     obtain ⟨kq, x0_9, rfl, HA, HJ9, BK166, HB⟩ := hcut
     cases kq with
     | zero => exact absurd HA.out (by simp [spec_LooseVersion.j1])
     | succ kj9 =>
      have H := HA.out
      clear HA
      simp only [spec_LooseVersion.j1] at H
      replace H := Option.bind_eq_some_iff.mp H
      obtain ⟨⟨t167, t168, t169, t170⟩, A130, H⟩ := H
      replace H : ((spec_Identifiers.f kj9 t167).bind fun t171 => (spec_LooseVersion.l0 kj9 x0_9 t167 t171 (⟨#[]⟩ : ByteArray) 0)) = some (r1, r2, r3, r4, r5, r6) := H
      have A13 := Aside0.mk A130
      clear A130
      replace H := Option.bind_eq_some_iff.mp H
      obtain ⟨t171, A140, H⟩ := H
      replace H : (spec_LooseVersion.l0 kj9 x0_9 t167 t171 (⟨#[]⟩ : ByteArray) 0) = some (r1, r2, r3, r4, r5, r6) := H
      have A14 := Aside0.mk A140
      clear A140
      have H' := Aside0.mk H
      clear H
      go_wp2_with (first | ((with_reducible refine gate_callee (f := 33) rfl ?_); refine goesL_ (some 27) rfl rfl Tryz.func33 (by kernel_rfl) rfl #[.string x0_9] rfl (by (try simp only [List.map_toArray, List.map_cons, List.map_nil]); first | done | rfl | (simp only [List.length_drop, List.length_take]; rfl)) ?_; (with_reducible refine (spec_tails.calls kj9 x0_9 t167 t168 t169 t170 _ A13.out).mono ?_); rintro e w15 ⟨rfl, hb⟩; refine ⟨_, rfl, ?_⟩; have n0_ := Aside0.mk (blk_below (g := gb166) (o := .cells #[.int .u64 0, .int .u64 0, .int .u64 0, .string (⟨#[]⟩ : ByteArray), .string (⟨#[]⟩ : ByteArray)] 32 (0, 0)) (by (with_reducible repeat (first | refine blk_drewN ?_ _ | refine blk_drew ?_ | refine blk_alloc ?_ _)); exact BK166.out) hb); have n1_ := Aside0.mk (below_step (by repeat (first | (with_reducible first | exact HB.out | apply below_alloc | apply pw_below_drewN | apply below_drew1 | refine below_set ?_ GE166.out) | exact HB.out)) hb); clear BK166; clear HB; have BK166 := n0_; have HB := n1_; clear n0_ n1_; (try clear hb); (try clear hb2); (try clear hk); (try clear hi)) | ((with_reducible refine gate_callee (f := 34) rfl ?_); refine goesL_ (some 33) rfl rfl Tryz.func34 (by kernel_rfl) rfl #[.string t167] rfl (by (try simp only [List.map_toArray, List.map_cons, List.map_nil]); first | done | rfl | (simp only [List.length_drop, List.length_take]; rfl)) ?_; (with_reducible refine (spec_Identifiers.calls kj9 t167 t171 _ A14.out).mono ?_); rintro e w16 ⟨v172, rfl, ho0, hb⟩; refine ⟨_, rfl, ?_⟩; have n0_ := Aside0.mk (Kd.R_lower ho0 (below_size (by repeat (first | (with_reducible first | exact HB.out | apply below_alloc | apply pw_below_drewN | apply below_drew1 | refine below_set ?_ GE166.out) | exact HB.out)))); have n1_ := Aside0.mk (blk_below (g := gb166) (o := .cells #[.int .u64 0, .int .u64 0, .int .u64 0, .string (⟨#[]⟩ : ByteArray), .string (⟨#[]⟩ : ByteArray)] 32 (0, 0)) (by (with_reducible repeat (first | refine blk_drewN ?_ _ | refine blk_drew ?_ | refine blk_alloc ?_ _)); exact BK166.out) hb); have n2_ := Aside0.mk (below_step (by repeat (first | (with_reducible first | exact HB.out | apply below_alloc | apply pw_below_drewN | apply below_drew1 | refine below_set ?_ GE166.out) | exact HB.out)) hb); clear BK166; clear HB; have HO173 := n0_; have BK166 := n1_; have HB := n2_; clear n0_ n1_ n2_; (try clear hb); (try clear hb2); (try clear hk); (try clear hi); (try clear ho0)))
      go_loopg [9, 10] kj9 (fun kq v9 v10 w' => ∃ (x9_3 : ByteArray) (x10_3 : Int), v9 = .string x9_3 ∧ v10 = .int .i64 x10_3 ∧ Aside0 (spec_LooseVersion.l0 kq x0_9 t167 t171 x9_3 x10_3 = some (r1, r2, r3, r4, r5, r6)) ∧ Aside0 (kq ≤ kj9) ∧ Aside0 (Kd.R Kd.string 9 w' w.heap.size (fun _ => True) v172 t171) ∧ Aside0 (w'.heap[gb166]? = some (.cells #[.int .u64 0, .int .u64 0, .int .u64 0, .string (⟨#[]⟩ : ByteArray), .string (⟨#[]⟩ : ByteArray)] 32 (0, 0))) ∧ Aside0 (Below w.heap.size w w'))
      case atStart => exact ⟨((⟨#[]⟩ : ByteArray)), (0), (by first | rfl | (simp; done) | (simp [*]; done)), (by first | rfl | (simp; done) | (simp [*]; done)), H', ⟨Nat.le_refl _⟩, ⟨by (with_reducible repeat (first | apply Kd.R_alloc | apply Kd.R_drewN | apply Kd.R_drew)); exact HO173.out⟩, ⟨by (with_reducible repeat (first | refine blk_drewN ?_ _ | refine blk_drew ?_ | refine blk_alloc ?_ _)); exact BK166.out⟩, ⟨by repeat (first | (with_reducible first | exact HB.out | apply below_alloc | apply pw_below_drewN | apply below_drew1 | refine below_set ?_ GE166.out) | exact HB.out)⟩⟩
      case round =>
       clear H'
       try clear c1
       try clear c2
       try clear c2b0
       try clear c2b1
       try clear p2
       try clear c3
       try clear c7
       try clear c7b0
       try clear c7b1
       try clear c8
       try clear c8b0
       try clear c8b1
       try clear p9
       try clear q9
       try clear hx9
       try clear qi9
       try clear c11
       try clear c12
       try clear c12b0
       try clear c12b1
       try clear c13
       try clear hcz4_0
       try clear hcz4_1
       try clear hcz4_2
       try clear hcz4_3
       try clear hcz4_4
       try clear hfz4_0
       try clear hfz4_1
       try clear hfz4_2
       try clear hfz4_3
       try clear hfz4_4
       try clear p2
       try clear p9
       try clear q9
       obtain ⟨x9_3, x10_3, rfl, rfl, HA, HK3, HO_8, BK166, HB⟩ := hrel
       cases gk with
       | zero => exact absurd HA.out (by simp [spec_LooseVersion.l0])
       | succ k3 =>
        have H := HA.out
        clear HA
        simp only [spec_LooseVersion.l0] at H
        have HC17 := Aside0.mk H
        clear H
        go_upto_region 8 with (fail)
        go_cut [41] (fun v41 wc => ∃ (kq : Nat) (x41_16 : Bool), v41 = .bool x41_16 ∧ Aside0 (spec_LooseVersion.j3 kq x0_9 t167 t171 x9_3 x10_3 x41_16 = some (r1, r2, r3, r4, r5, r6)) ∧ Aside0 (kq ≤ k3) ∧ Aside0 (Kd.R Kd.string 9 wc w.heap.size (fun _ => True) v172 t171) ∧ Aside0 (wc.heap[gb166]? = some (.cells #[.int .u64 0, .int .u64 0, .int .u64 0, .string (⟨#[]⟩ : ByteArray), .string (⟨#[]⟩ : ByteArray)] 32 (0, 0))) ∧ Aside0 (Below w.heap.size w wc))
        case first =>
         have H := HC17.out
         clear HC17
         by_cases c18 : x10_3 < (t171.length : Int)
         ·
          rw [if_pos c18] at H
          have c18b0 : decide (x10_3 < (t171.length : Int)) = true := decide_eq_true c18
          clear c18
          (first | rw [c18b0] | (simp only [i64_w, i32_w]; rw [c18b0]) | skip)
          have H' := Aside0.mk H
          clear H
          obtain ⟨Ao19, co19, eo19⟩ := Kd.R_slice HO_8.out
          subst eo19
          go_wp2
          go_meet
          case rel => exact ⟨_, (true), (by first | rfl | (simp; done) | (simp [*]; done)), H', ⟨by have := HJ4.out; have := HJ9.out; have := HK3.out; first | omega | exact Nat.le_refl _⟩, ⟨by (with_reducible repeat (first | apply Kd.R_alloc | apply Kd.R_drewN | apply Kd.R_drew)); exact HO_8.out⟩, ⟨by (with_reducible repeat (first | refine blk_drewN ?_ _ | refine blk_drew ?_ | refine blk_alloc ?_ _)); exact BK166.out⟩, ⟨by repeat (first | (with_reducible first | exact HB.out | apply below_alloc | apply pw_below_drewN | apply below_drew1 | refine below_set ?_ GE166.out) | exact HB.out)⟩⟩
         ·
          rw [if_neg c18] at H
          have c18b0 : decide (x10_3 < (t171.length : Int)) = false := decide_eq_false c18
          clear c18
          (first | rw [c18b0] | (simp only [i64_w, i32_w]; rw [c18b0]) | skip)
          have H' := Aside0.mk H
          clear H
          obtain ⟨Ao20, co20, eo20⟩ := Kd.R_slice HO_8.out
          subst eo20
          go_wp2
          go_meet
          case rel => exact ⟨_, (decide (x10_3 < 3)), (by first | rfl | (simp; done) | (simp [*]; done)), H', ⟨by have := HJ4.out; have := HJ9.out; have := HK3.out; first | omega | exact Nat.le_refl _⟩, ⟨by (with_reducible repeat (first | apply Kd.R_alloc | apply Kd.R_drewN | apply Kd.R_drew)); exact HO_8.out⟩, ⟨by (with_reducible repeat (first | refine blk_drewN ?_ _ | refine blk_drew ?_ | refine blk_alloc ?_ _)); exact BK166.out⟩, ⟨by repeat (first | (with_reducible first | exact HB.out | apply below_alloc | apply pw_below_drewN | apply below_drew1 | refine below_set ?_ GE166.out) | exact HB.out)⟩⟩
        case rest =>
         clear HC17
         try clear c1
         try clear c2
         try clear c2b0
         try clear c2b1
         try clear p2
         try clear c3
         try clear c7
         try clear c7b0
         try clear c7b1
         try clear c8
         try clear c8b0
         try clear c8b1
         try clear p9
         try clear q9
         try clear hx9
         try clear qi9
         try clear c11
         try clear c12
         try clear c12b0
         try clear c12b1
         try clear c13
         try clear c18
         try clear c18b0
         try clear hcz4_0
         try clear hcz4_1
         try clear hcz4_2
         try clear hcz4_3
         try clear hcz4_4
         try clear hfz4_0
         try clear hfz4_1
         try clear hfz4_2
         try clear hfz4_3
         try clear hfz4_4
         try clear p2
         try clear p9
         try clear q9
         obtain ⟨kq, x41_16, rfl, HA, HJ16, HO_8, BK166, HB⟩ := hcut
         cases kq with
         | zero => exact absurd HA.out (by simp [spec_LooseVersion.j3])
         | succ kj16 =>
          have H := HA.out
          clear HA
          simp only [spec_LooseVersion.j3] at H
          by_cases c21 : x41_16 = true
          ·
           subst c21
           have H1 : (if x10_3 < (t171.length : Int) then (if 0 ≤ x10_3 then ((spec_withoutZeros.f kj16 (rdOf ByteArray.empty t171 x10_3)).bind fun t181 => (if x10_3 > 0 then (if x9_3.size + 1 ≤ 9223372036854775807 then (if (x9_3 ++ (⟨#[46]⟩ : ByteArray)).size + t181.size ≤ 9223372036854775807 then (spec_LooseVersion.l0 kj16 x0_9 t167 t171 ((x9_3 ++ (⟨#[46]⟩ : ByteArray)) ++ t181) (wrap64 (x10_3 + 1))) else (none)) else (none)) else (if x9_3.size + t181.size ≤ 9223372036854775807 then (spec_LooseVersion.l0 kj16 x0_9 t167 t171 (x9_3 ++ t181) (wrap64 (x10_3 + 1))) else (none)))) else (none)) else (if x10_3 > 0 then (if x9_3.size + 1 ≤ 9223372036854775807 then (if (x9_3 ++ (⟨#[46]⟩ : ByteArray)).size + 1 ≤ 9223372036854775807 then (spec_LooseVersion.l0 kj16 x0_9 t167 t171 ((x9_3 ++ (⟨#[46]⟩ : ByteArray)) ++ (⟨#[48]⟩ : ByteArray)) (wrap64 (x10_3 + 1))) else (none)) else (none)) else (if x9_3.size + 1 ≤ 9223372036854775807 then (spec_LooseVersion.l0 kj16 x0_9 t167 t171 (x9_3 ++ (⟨#[48]⟩ : ByteArray)) (wrap64 (x10_3 + 1))) else (none)))) = some (r1, r2, r3, r4, r5, r6) := by rw [if_pos rfl] at H; exact H
           clear H
           have H := H1
           clear H1
           by_cases c22 : x10_3 < (t171.length : Int)
           ·
            rw [if_pos c22] at H
            have c22b0 : decide (x10_3 < (t171.length : Int)) = true := decide_eq_true c22
            clear c22
            by_cases c23 : 0 ≤ x10_3
            ·
             rw [if_pos c23] at H
             have c23b0 : decide (0 ≤ x10_3) = true := decide_eq_true c23
             clear c23
             replace H := Option.bind_eq_some_iff.mp H
             obtain ⟨t181, A240, H⟩ := H
             replace H : (if x10_3 > 0 then (if x9_3.size + 1 ≤ 9223372036854775807 then (if (x9_3 ++ (⟨#[46]⟩ : ByteArray)).size + t181.size ≤ 9223372036854775807 then (spec_LooseVersion.l0 kj16 x0_9 t167 t171 ((x9_3 ++ (⟨#[46]⟩ : ByteArray)) ++ t181) (wrap64 (x10_3 + 1))) else (none)) else (none)) else (if x9_3.size + t181.size ≤ 9223372036854775807 then (spec_LooseVersion.l0 kj16 x0_9 t167 t171 (x9_3 ++ t181) (wrap64 (x10_3 + 1))) else (none))) = some (r1, r2, r3, r4, r5, r6) := H
             have A24 := Aside0.mk A240
             clear A240
             by_cases c25 : x10_3 > 0
             ·
              rw [if_pos c25] at H
              have c25b0 : decide (0 < x10_3) = true := decide_eq_true c25
              clear c25
              by_cases c26 : x9_3.size + 1 ≤ 9223372036854775807
              ·
               rw [if_pos c26] at H
               have c26b0 := eq_true c26
               have c26b1 : decide (x9_3.size + 1 ≤ 9223372036854775807) = true := decide_eq_true c26
               try have c26b2 : (9223372036854775807 < x9_3.size + 1) = False := eq_false (Nat.not_lt.2 c26)
               by_cases c27 : (x9_3 ++ (⟨#[46]⟩ : ByteArray)).size + t181.size ≤ 9223372036854775807
               ·
                rw [if_pos c27] at H
                have c27b0 := eq_true c27
                have c27b1 : decide ((x9_3 ++ (⟨#[46]⟩ : ByteArray)).size + t181.size ≤ 9223372036854775807) = true := decide_eq_true c27
                try have c27b2 : (9223372036854775807 < (x9_3 ++ (⟨#[46]⟩ : ByteArray)).size + t181.size) = False := eq_false (Nat.not_lt.2 c27)
                try have c27b2n := c27b2
                try simp only [ByteArray.size_append, szL1, szL2, szL3] at c27b2n
                have H' := Aside0.mk H
                clear H
                obtain ⟨Ao28, co28, eo28⟩ := Kd.R_slice HO_8.out
                subst eo28
                have p180 : 0 ≤ (x10_3 : Int) := of_decide_eq_true (by first | (with_reducible assumption) | assumption)
                have q180 : x10_3 < (t171.length : Int) := of_decide_eq_true (by first | (with_reducible assumption) | assumption)
                obtain ⟨ad180, e180, hx180_0⟩ := Kd.at_string (Kd.R_reads' HO_8.out).2.2 x10_3 p180 q180
                cases e180
                replace p180 := eq_true p180
                replace q180 := eq_true q180
                go_wp2_with (first | ((with_reducible refine gate_callee (f := 35) rfl ?_); refine goesL_ (some 52) rfl rfl Tryz.func35 (by kernel_rfl) rfl #[.string (rdOf ByteArray.empty t171 x10_3)] rfl (by (try simp only [List.map_toArray, List.map_cons, List.map_nil]); first | done | rfl | (simp only [List.length_drop, List.length_take]; rfl)) ?_; (with_reducible refine (spec_withoutZeros.calls kj16 (rdOf ByteArray.empty t171 x10_3) t181 _ A24.out).mono ?_); rintro e w' ⟨rfl, ⟨nd, rfl⟩⟩; refine ⟨_, rfl, ?_⟩))
                go_roundg kj16
                case measure => have := HJ4.out; have := HJ9.out; have := HK3.out; have := HJ16.out; omega
                case rel => exact ⟨((x9_3 ++ (⟨#[46]⟩ : ByteArray)) ++ t181), (wrap64 (x10_3 + 1)), (by first | rfl | (simp; done) | (simp [*]; done)), (by first | rfl | (simp; done) | (simp [*]; done)), H', ⟨by have := HJ4.out; have := HJ9.out; have := HK3.out; have := HJ16.out; omega⟩, ⟨by (with_reducible repeat (first | apply Kd.R_alloc | apply Kd.R_drewN | apply Kd.R_drew)); exact HO_8.out⟩, ⟨by (with_reducible repeat (first | refine blk_drewN ?_ _ | refine blk_drew ?_ | refine blk_alloc ?_ _)); exact BK166.out⟩, ⟨by repeat (first | (with_reducible first | exact HB.out | apply below_alloc | apply pw_below_drewN | apply below_drew1 | refine below_set ?_ GE166.out) | exact HB.out)⟩⟩
               ·
                rw [if_neg c27] at H
                exact absurd H (by simp)
              ·
               rw [if_neg c26] at H
               exact absurd H (by simp)
             ·
              rw [if_neg c25] at H
              have c25b0 : decide (0 < x10_3) = false := decide_eq_false c25
              clear c25
              by_cases c29 : x9_3.size + t181.size ≤ 9223372036854775807
              ·
               rw [if_pos c29] at H
               have c29b0 := eq_true c29
               have c29b1 : decide (x9_3.size + t181.size ≤ 9223372036854775807) = true := decide_eq_true c29
               try have c29b2 : (9223372036854775807 < x9_3.size + t181.size) = False := eq_false (Nat.not_lt.2 c29)
               have H' := Aside0.mk H
               clear H
               obtain ⟨Ao30, co30, eo30⟩ := Kd.R_slice HO_8.out
               subst eo30
               have p180 : 0 ≤ (x10_3 : Int) := of_decide_eq_true (by first | (with_reducible assumption) | assumption)
               have q180 : x10_3 < (t171.length : Int) := of_decide_eq_true (by first | (with_reducible assumption) | assumption)
               obtain ⟨ad180, e180, hx180_0⟩ := Kd.at_string (Kd.R_reads' HO_8.out).2.2 x10_3 p180 q180
               cases e180
               replace p180 := eq_true p180
               replace q180 := eq_true q180
               go_wp2_with (first | ((with_reducible refine gate_callee (f := 35) rfl ?_); refine goesL_ (some 52) rfl rfl Tryz.func35 (by kernel_rfl) rfl #[.string (rdOf ByteArray.empty t171 x10_3)] rfl (by (try simp only [List.map_toArray, List.map_cons, List.map_nil]); first | done | rfl | (simp only [List.length_drop, List.length_take]; rfl)) ?_; (with_reducible refine (spec_withoutZeros.calls kj16 (rdOf ByteArray.empty t171 x10_3) t181 _ A24.out).mono ?_); rintro e w' ⟨rfl, ⟨nd, rfl⟩⟩; refine ⟨_, rfl, ?_⟩))
               go_roundg kj16
               case measure => have := HJ4.out; have := HJ9.out; have := HK3.out; have := HJ16.out; omega
               case rel => exact ⟨(x9_3 ++ t181), (wrap64 (x10_3 + 1)), (by first | rfl | (simp; done) | (simp [*]; done)), (by first | rfl | (simp; done) | (simp [*]; done)), H', ⟨by have := HJ4.out; have := HJ9.out; have := HK3.out; have := HJ16.out; omega⟩, ⟨by (with_reducible repeat (first | apply Kd.R_alloc | apply Kd.R_drewN | apply Kd.R_drew)); exact HO_8.out⟩, ⟨by (with_reducible repeat (first | refine blk_drewN ?_ _ | refine blk_drew ?_ | refine blk_alloc ?_ _)); exact BK166.out⟩, ⟨by repeat (first | (with_reducible first | exact HB.out | apply below_alloc | apply pw_below_drewN | apply below_drew1 | refine below_set ?_ GE166.out) | exact HB.out)⟩⟩
              ·
               rw [if_neg c29] at H
               exact absurd H (by simp)
            ·
             rw [if_neg c23] at H
             exact absurd H (by simp)
           ·
            rw [if_neg c22] at H
            have c22b0 : decide (x10_3 < (t171.length : Int)) = false := decide_eq_false c22
            clear c22
            by_cases c31 : x10_3 > 0
            ·
             rw [if_pos c31] at H
             have c31b0 : decide (0 < x10_3) = true := decide_eq_true c31
             clear c31
             by_cases c32 : x9_3.size + 1 ≤ 9223372036854775807
             ·
              rw [if_pos c32] at H
              have c32b0 := eq_true c32
              have c32b1 : decide (x9_3.size + 1 ≤ 9223372036854775807) = true := decide_eq_true c32
              try have c32b2 : (9223372036854775807 < x9_3.size + 1) = False := eq_false (Nat.not_lt.2 c32)
              by_cases c33 : (x9_3 ++ (⟨#[46]⟩ : ByteArray)).size + 1 ≤ 9223372036854775807
              ·
               rw [if_pos c33] at H
               have c33b0 := eq_true c33
               have c33b1 : decide ((x9_3 ++ (⟨#[46]⟩ : ByteArray)).size + 1 ≤ 9223372036854775807) = true := decide_eq_true c33
               try have c33b2 : (9223372036854775807 < (x9_3 ++ (⟨#[46]⟩ : ByteArray)).size + 1) = False := eq_false (Nat.not_lt.2 c33)
               try have c33b2n := c33b2
               try simp only [ByteArray.size_append, szL1, szL2, szL3] at c33b2n
               have H' := Aside0.mk H
               clear H
               obtain ⟨Ao34, co34, eo34⟩ := Kd.R_slice HO_8.out
               subst eo34
               go_wp2
               go_roundg kj16
               case measure => have := HJ4.out; have := HJ9.out; have := HK3.out; have := HJ16.out; omega
               case rel => exact ⟨((x9_3 ++ (⟨#[46]⟩ : ByteArray)) ++ (⟨#[48]⟩ : ByteArray)), (wrap64 (x10_3 + 1)), (by first | rfl | (simp; done) | (simp [*]; done)), (by first | rfl | (simp; done) | (simp [*]; done)), H', ⟨by have := HJ4.out; have := HJ9.out; have := HK3.out; have := HJ16.out; omega⟩, ⟨by (with_reducible repeat (first | apply Kd.R_alloc | apply Kd.R_drewN | apply Kd.R_drew)); exact HO_8.out⟩, ⟨by (with_reducible repeat (first | refine blk_drewN ?_ _ | refine blk_drew ?_ | refine blk_alloc ?_ _)); exact BK166.out⟩, ⟨by repeat (first | (with_reducible first | exact HB.out | apply below_alloc | apply pw_below_drewN | apply below_drew1 | refine below_set ?_ GE166.out) | exact HB.out)⟩⟩
              ·
               rw [if_neg c33] at H
               exact absurd H (by simp)
             ·
              rw [if_neg c32] at H
              exact absurd H (by simp)
            ·
             rw [if_neg c31] at H
             have c31b0 : decide (0 < x10_3) = false := decide_eq_false c31
             clear c31
             by_cases c35 : x9_3.size + 1 ≤ 9223372036854775807
             ·
              rw [if_pos c35] at H
              have c35b0 := eq_true c35
              have c35b1 : decide (x9_3.size + 1 ≤ 9223372036854775807) = true := decide_eq_true c35
              try have c35b2 : (9223372036854775807 < x9_3.size + 1) = False := eq_false (Nat.not_lt.2 c35)
              have H' := Aside0.mk H
              clear H
              obtain ⟨Ao36, co36, eo36⟩ := Kd.R_slice HO_8.out
              subst eo36
              go_wp2
              go_roundg kj16
              case measure => have := HJ4.out; have := HJ9.out; have := HK3.out; have := HJ16.out; omega
              case rel => exact ⟨(x9_3 ++ (⟨#[48]⟩ : ByteArray)), (wrap64 (x10_3 + 1)), (by first | rfl | (simp; done) | (simp [*]; done)), (by first | rfl | (simp; done) | (simp [*]; done)), H', ⟨by have := HJ4.out; have := HJ9.out; have := HK3.out; have := HJ16.out; omega⟩, ⟨by (with_reducible repeat (first | apply Kd.R_alloc | apply Kd.R_drewN | apply Kd.R_drew)); exact HO_8.out⟩, ⟨by (with_reducible repeat (first | refine blk_drewN ?_ _ | refine blk_drew ?_ | refine blk_alloc ?_ _)); exact BK166.out⟩, ⟨by repeat (first | (with_reducible first | exact HB.out | apply below_alloc | apply pw_below_drewN | apply below_drew1 | refine below_set ?_ GE166.out) | exact HB.out)⟩⟩
             ·
              rw [if_neg c35] at H
              exact absurd H (by simp)
          ·
           replace c21 := Bool.eq_false_iff.mpr c21
           subst c21
           have H1 : (if 0 ≤ (t167.size : Int) then (if (t167.size : Int) ≤ (x0_9.size : Int) then (if x9_3.size + (x0_9.extract ((t167.size : Int) : Int).toNat x0_9.size).size ≤ 9223372036854775807 then ((spec_grammar.f (x9_3 ++ (x0_9.extract ((t167.size : Int) : Int).toNat x0_9.size))).bind fun bt174 => (some (bt174.1, bt174.2.1, bt174.2.2.1, bt174.2.2.2.1, bt174.2.2.2.2.1, bt174.2.2.2.2.2))) else (none)) else (none)) else (none)) = some (r1, r2, r3, r4, r5, r6) := by rw [if_neg (show ¬ (false = true) by decide)] at H; exact H
           clear H
           have H := H1
           clear H1
           by_cases c37 : 0 ≤ (t167.size : Int)
           ·
            rw [if_pos c37] at H
            have c37b0 := eq_true c37
            have c37b1 : decide (0 ≤ (t167.size : Int)) = true := decide_eq_true c37
            clear c37
            by_cases c38 : (t167.size : Int) ≤ (x0_9.size : Int)
            ·
             rw [if_pos c38] at H
             have c38b0 := eq_true c38
             have c38b1 : decide ((t167.size : Int) ≤ (x0_9.size : Int)) = true := decide_eq_true c38
             clear c38
             by_cases c39 : x9_3.size + (x0_9.extract ((t167.size : Int) : Int).toNat x0_9.size).size ≤ 9223372036854775807
             ·
              rw [if_pos c39] at H
              have c39b0 := eq_true c39
              have c39b1 : decide (x9_3.size + (x0_9.extract ((t167.size : Int) : Int).toNat x0_9.size).size ≤ 9223372036854775807) = true := decide_eq_true c39
              try have c39b2 : (9223372036854775807 < x9_3.size + (x0_9.extract ((t167.size : Int) : Int).toNat x0_9.size).size) = False := eq_false (Nat.not_lt.2 c39)
              try have c39b2x := c39b2
              try simp only [ByteArray.size_extract, Int.toNat_natCast, Nat.min_self] at c39b2x
              replace H := Option.bind_eq_some_iff.mp H
              obtain ⟨⟨t174, t175, t176, t177, t178, t179⟩, A400, H⟩ := H
              replace H : (some (t174, t175, t176, t177, t178, t179)) = some (r1, r2, r3, r4, r5, r6) := H
              have A40 := Aside0.mk A400
              clear A400
              simp only [Option.some.injEq, Prod.mk.injEq] at H
              obtain ⟨rfl, rfl, rfl, rfl, rfl, rfl⟩ := H
              go_wp2_with (first | ((with_reducible refine gate_callee (f := 30) rfl ?_); refine goesL_ (some 66) rfl rfl Tryz.func30 (by kernel_rfl) rfl #[.string (x9_3 ++ (x0_9.extract ((t167.size : Int) : Int).toNat x0_9.size))] rfl (by (try simp only [List.map_toArray, List.map_cons, List.map_nil]); first | done | rfl | (simp only [List.length_drop, List.length_take]; rfl)) ?_; (with_reducible refine (spec_grammar.calls (x9_3 ++ (x0_9.extract ((t167.size : Int) : Int).toNat x0_9.size)) t174 t175 t176 t177 t178 t179 _ A40.out).mono ?_); rintro e w41 ⟨rfl, hb⟩; refine ⟨_, rfl, ?_⟩; have n0_ := Aside0.mk (Kd.R_below (by (with_reducible repeat (first | apply Kd.R_alloc | apply Kd.R_drewN | apply Kd.R_drew)); exact HO_8.out) hb); have n1_ := Aside0.mk (blk_below (g := gb166) (o := .cells #[.int .u64 0, .int .u64 0, .int .u64 0, .string (⟨#[]⟩ : ByteArray), .string (⟨#[]⟩ : ByteArray)] 32 (0, 0)) (by (with_reducible repeat (first | refine blk_drewN ?_ _ | refine blk_drew ?_ | refine blk_alloc ?_ _)); exact BK166.out) hb); have n2_ := Aside0.mk (below_step (by repeat (first | (with_reducible first | exact HB.out | apply below_alloc | apply pw_below_drewN | apply below_drew1 | refine below_set ?_ GE166.out) | exact HB.out)) hb); clear HO_8; clear BK166; clear HB; have HO_8 := n0_; have BK166 := n1_; have HB := n2_; clear n0_ n1_ n2_; (try clear hb); (try clear hb2); (try clear hk); (try clear hi); have hcz42_0 : w41.cell? ⟨gb166, 0, none⟩ = some (.int .u64 0) := (blk_cell BK166.out 0).trans rfl; have hcz42_1 : w41.cell? ⟨gb166, 1, none⟩ = some (.int .u64 0) := (blk_cell BK166.out 1).trans rfl; have hcz42_2 : w41.cell? ⟨gb166, 2, none⟩ = some (.int .u64 0) := (blk_cell BK166.out 2).trans rfl; have hcz42_3 : w41.cell? ⟨gb166, 3, none⟩ = some (.string (⟨#[]⟩ : ByteArray)) := (blk_cell BK166.out 3).trans rfl; have hcz42_4 : w41.cell? ⟨gb166, 4, none⟩ = some (.string (⟨#[]⟩ : ByteArray)) := (blk_cell BK166.out 4).trans rfl; have hfz42_0 := blk_frozen BK166.out 0; have hfz42_1 := blk_frozen BK166.out 1; have hfz42_2 := blk_frozen BK166.out 2; have hfz42_3 := blk_frozen BK166.out 3; have hfz42_4 := blk_frozen BK166.out 4))
              refine bodyPost_ret (results_ct rfl _ _ gb166 32 #[.int .u64 t174, .int .u64 t175, .int .u64 t176, .string t177, .string t178] (0, 0) _ rfl (by (with_reducible repeat (first | refine blk_drewN ?_ _ | refine blk_drew ?_ | refine blk_alloc ?_ _)); refine blk_put (cs := #[.int .u64 t174, .int .u64 t175, .int .u64 t176, .string t177, .string (⟨#[]⟩ : ByteArray)]) ?_ 4 _ rfl; (with_reducible repeat (first | refine blk_drewN ?_ _ | refine blk_drew ?_ | refine blk_alloc ?_ _)); refine blk_put (cs := #[.int .u64 t174, .int .u64 t175, .int .u64 t176, .string (⟨#[]⟩ : ByteArray), .string (⟨#[]⟩ : ByteArray)]) ?_ 3 _ rfl; (with_reducible repeat (first | refine blk_drewN ?_ _ | refine blk_drew ?_ | refine blk_alloc ?_ _)); refine blk_put (cs := #[.int .u64 t174, .int .u64 t175, .int .u64 0, .string (⟨#[]⟩ : ByteArray), .string (⟨#[]⟩ : ByteArray)]) ?_ 2 _ rfl; (with_reducible repeat (first | refine blk_drewN ?_ _ | refine blk_drew ?_ | refine blk_alloc ?_ _)); refine blk_put (cs := #[.int .u64 t174, .int .u64 0, .int .u64 0, .string (⟨#[]⟩ : ByteArray), .string (⟨#[]⟩ : ByteArray)]) ?_ 1 _ rfl; (with_reducible repeat (first | refine blk_drewN ?_ _ | refine blk_drew ?_ | refine blk_alloc ?_ _)); refine blk_put (cs := #[.int .u64 0, .int .u64 0, .int .u64 0, .string (⟨#[]⟩ : ByteArray), .string (⟨#[]⟩ : ByteArray)]) ?_ 0 _ rfl; (with_reducible repeat (first | refine blk_drewN ?_ _ | refine blk_drew ?_ | refine blk_alloc ?_ _)); exact BK166.out) Tryz.underlying32 rfl (by kernel_rfl)) rfl ?_
              exact ⟨by first | rfl | (simp [errW_none, errW_some] <;> rfl) | (simp [*, errW_none, errW_some] <;> rfl) | (simp [bneNil]; done), by repeat (first | (with_reducible first | exact HB.out | apply below_alloc | apply pw_below_drewN | apply below_drew1 | refine below_set ?_ GE166.out) | exact HB.out)⟩
             ·
              rw [if_neg c39] at H
              exact absurd H (by simp)
            ·
             rw [if_neg c38] at H
             exact absurd H (by simp)
           ·
            rw [if_neg c37] at H
            exact absurd H (by simp)

end Go.Proofs.YtjgedenoaocfjaaGreatDoor.PX
namespace Go.Proofs.YtjgedenoaocfjaaGreatDoor.KX

open Go Go.RowKit Go.Proofs.YtjgedenoaocfjaaGreatDoor Go.Proofs.YtjgedenoaocfjaaGreatDoor.Rx Go.Proofs.YtjgedenoaocfjaaGreatDoor.L Go.Proofs.YtjgedenoaocfjaaGreatDoor.Bt Go.Proofs.YtjgedenoaocfjaaGreatDoor.PX Go.Proofs.YtjgedenoaocfjaaGreatDoor.Parse Go.Proofs.YtjgedenoaocfjaaGreatDoor.Num Go.Proofs.YtjgedenoaocfjaaGreatDoor.Rxw

open Go.Proofs.YtjgedenoaocfjaaGreatDoorW.PrintWords Go.Proofs.YtjgedenoaocfjaaGreatDoorW.PrintLast Go.Proofs.YtjgedenoaocfjaaGreatDoorW.PrintMore

/-- A text without zeros ahead of a digit. -/
def w0 : List UInt8 → List UInt8
  | [] => []
  | [a] => [a]
  | a :: b :: t => if a = 48 ∧ isDig b = true then w0 (b :: t) else a :: b :: t

theorem w0_len : ∀ l, (w0 l).length ≤ l.length
  | [] => Nat.le_refl _
  | [_] => Nat.le_refl _
  | a :: b :: t => by
    unfold w0
    split
    · have := w0_len (b :: t); simp at this ⊢; omega
    · exact Nat.le_refl _

theorem w0_mem : ∀ l x, x ∈ w0 l → x ∈ l
  | [], x, h => h
  | [_], x, h => h
  | a :: b :: t, x, h => by
    unfold w0 at h
    split at h
    · exact List.mem_cons_of_mem _ (w0_mem (b :: t) x h)
    · exact h

theorem wz_l0 : ∀ (n k : Nat) (s : ByteArray), s.size = n → n ≤ 1000000 → n < k → spec_withoutZeros.l0 k s = some (ofL (w0 (bl s))) := by
  intro n
  induction n with
  | zero =>
    intro k s hs _ hk
    obtain ⟨k, rfl⟩ : ∃ m, k = m + 1 := ⟨k - 1, by omega⟩
    simp only [spec_withoutZeros.l0]
    rw [if_neg (by omega)]
    have e : bl s = [] := List.eq_nil_of_length_eq_zero (by rw [bl_len]; exact hs)
    rw [show w0 (bl s) = bl s by rw [e]; rfl, ofL_bl]
  | succ n ih =>
    intro k s hs hb hk
    obtain ⟨k, rfl⟩ : ∃ m, k = m + 1 := ⟨k - 1, by omega⟩
    simp only [spec_withoutZeros.l0]
    have hl := bl_len s
    match e : bl s, hl with
    | [], hl => simp at hl; omega
    | [a], hl =>
      simp at hl
      rw [if_neg (by omega)]
      show some s = some (ofL [a])
      rw [← e, ofL_bl]
    | a :: b :: t, hl =>
      simp at hl
      have h0 : bt s ((0 : Nat) : Int) = _ := bt_bl s 0 (by omega)
      have h1 : bt s ((1 : Nat) : Int) = _ := bt_bl s 1 (by omega)
      have e0 : (bl s)[0]'(by rw [bl_len]; omega) = a := by simp [e]
      have e1 : (bl s)[1]'(by rw [bl_len]; omega) = b := by simp [e]
      rw [e0] at h0
      rw [e1] at h1
      rw [if_pos (by omega), if_pos (by omega), show bt s 0 = (a.toNat : Int) from h0]
      unfold w0
      by_cases ha : a = 48
      · rw [if_pos (by rw [ha]; rfl), if_pos (by omega), show bt s 1 = (b.toNat : Int) from h1, isDigit_f b, Option.bind_some]
        cases hd : isDig b with
        | true =>
          rw [if_pos rfl, if_pos (by omega), if_pos ⟨ha, rfl⟩, extract_end, e]
          have := ih k (ofL (b :: t)) (by rw [size_ofL]; simp; omega) (by omega) (by omega)
          rw [bl_ofL] at this
          exact this
        | false =>
          rw [if_neg (by decide), if_neg (fun h => by cases h.2), ← e, ofL_bl]
      · rw [if_neg (fun h => ha (UInt8.toNat_inj.1 (by show a.toNat = 48; omega))), if_neg (fun h => ha h.1), ← e, ofL_bl]

theorem wz_f (s : ByteArray) (hs : s.size ≤ 1000000) (k : Nat) (hk : s.size < k) : spec_withoutZeros.f k s = some (ofL (w0 (bl s))) := wz_l0 s.size k s rfl hs hk

def itemAt (ids : List (List UInt8)) (i : Nat) : List UInt8 := if i < ids.length then w0 (ids.getD i []) else [48]

/-- What is written from the number i on. -/
def sfx (ids : List (List UInt8)) : Nat → Nat → List UInt8
  | 0, _ => []
  | d + 1, i => (if 0 < i then [46] else []) ++ itemAt ids i ++ sfx ids d (i + 1)

theorem item_len {ids : List (List UInt8)} {B : Nat} (h : ∀ p ∈ ids, p.length ≤ B) (hB : 1 ≤ B) (i : Nat) : (itemAt ids i).length ≤ B := by
  unfold itemAt
  split
  · rename_i hi
    rw [List.getD_eq_getElem?_getD, List.getElem?_eq_getElem hi]
    exact Nat.le_trans (w0_len _) (h _ (List.getElem_mem hi))
  · exact hB

theorem app_ofL (s : ByteArray) (l : List UInt8) : s ++ ofL l = ofL (bl s ++ l) := by
  apply bl_inj
  rw [bl_ofL]
  show (s ++ ofL l).data.toList = _
  simp [ofL]

theorem loop_l0 (t core : ByteArray) (ids : List (List UInt8)) (ht : t.size ≤ 256) (hc : core.size ≤ t.size) (hn : ids.length ≤ 300) (hp : ∀ p ∈ ids, p.length ≤ 256) : ∀ (d k i : Nat) (acc : ByteArray), max ids.length 3 - i = d → i ≤ max ids.length 3 → 1000 + 3 * d ≤ k → acc.size ≤ i * 300 →
    spec_LooseVersion.l0 k t core (ids.map ofL) acc (i : Int) = some (gramF (bl acc ++ sfx ids d i ++ (bl t).drop core.size)) := by
  intro d
  induction d with
  | zero =>
    intro k i acc hd hi hk ha
    obtain ⟨k, rfl⟩ : ∃ m, k = m + 2 := ⟨k - 2, by omega⟩
    simp only [spec_LooseVersion.l0, spec_LooseVersion.j3, List.length_map]
    rw [if_neg (by omega), decide_eq_false (by omega), if_neg (by decide), if_pos (by omega), if_pos (by omega), Int.toNat_natCast, extract_end]
    have hz : (ofL ((bl t).drop core.size)).size ≤ 256 := by rw [size_ofL, List.length_drop, bl_len]; omega
    rw [if_pos (by omega), app_ofL]
    unfold spec_grammar.f
    rw [if_pos (by rw [size_ofL, List.length_append, bl_len]; rw [size_ofL] at hz; omega), Option.bind_some, bl_ofL]
    simp [sfx]
  | succ d ih =>
    intro k i acc hd hi hk ha
    obtain ⟨k, rfl⟩ : ∃ m, k = m + 2 := ⟨k - 2, by omega⟩
    have hil := item_len hp (by decide) i
    have hN : max ids.length 3 ≤ 300 := by omega
    have key : ∀ acc' : ByteArray, bl acc' = bl acc ++ ((if 0 < i then [46] else []) ++ itemAt ids i) → spec_LooseVersion.l0 k t core (ids.map ofL) acc' (wrap64 ((i : Int) + 1)) = some (gramF (bl acc ++ sfx ids (d + 1) i ++ (bl t).drop core.size)) := by
      intro acc' he
      have hsz : acc'.size ≤ (i + 1) * 300 := by
        rw [← bl_len, he, List.length_append, List.length_append, bl_len]
        have : (if 0 < i then [46] else ([] : List UInt8)).length ≤ 1 := by split <;> simp
        omega
      rw [w64 (by omega) (by omega), show ((i : Int) + 1) = ((i + 1 : Nat) : Int) by omega, ih k (i + 1) acc' (by omega) (by omega) (by omega) hsz, he]
      congr 2
      simp [sfx]
    have e46 : (⟨#[46]⟩ : ByteArray) = ofL [46] := rfl
    have e48 : (⟨#[48]⟩ : ByteArray) = ofL [48] := rfl
    simp only [spec_LooseVersion.l0, spec_LooseVersion.j3, List.length_map]
    by_cases hlt : i < ids.length
    · have hit : itemAt ids i = w0 ids[i] := by unfold itemAt; rw [if_pos hlt, List.getD_eq_getElem?_getD, List.getElem?_eq_getElem hlt]; rfl
      have hpi := hp _ (List.getElem_mem hlt)
      rw [if_pos (by omega), if_pos trivial, if_pos (by omega), if_pos (by omega), rd_map ids i hlt, wz_f (ofL ids[i]) (by rw [size_ofL]; omega) k (by rw [size_ofL]; omega), Option.bind_some, bl_ofL, ← hit]
      by_cases h0 : 0 < i
      · rw [if_pos (by omega), e46, app_ofL, if_pos (by omega), if_pos (by rw [size_ofL, size_ofL, List.length_append, bl_len]; simp; omega), app_ofL]
        exact key _ (by rw [bl_ofL, bl_ofL, if_pos h0]; simp)
      · rw [if_neg (by omega), if_pos (by rw [size_ofL]; omega), app_ofL]
        exact key _ (by rw [bl_ofL, if_neg h0]; simp)
    · have hit : itemAt ids i = [48] := by unfold itemAt; rw [if_neg hlt]
      rw [if_neg (by omega), decide_eq_true (by omega), if_pos rfl, if_neg (by omega)]
      by_cases h0 : 0 < i
      · rw [if_pos (by omega), e46, e48, app_ofL, if_pos (by omega), if_pos (by rw [size_ofL, List.length_append, bl_len]; simp; omega), app_ofL]
        exact key _ (by rw [bl_ofL, bl_ofL, if_pos h0, hit]; simp)
      · rw [if_neg (by omega), if_pos (by omega), e48, app_ofL]
        exact key _ (by rw [bl_ofL, if_neg h0, hit]; simp)

/-- A text without a letter v ahead of it. -/
def tOf (l : List UInt8) : List UInt8 := match l with
  | [] => []
  | b :: u => if b = 118 then u else b :: u

def looseT (t : List UInt8) : Int × Int × Int × ByteArray × ByteArray × Bool := let core := (tailsL t).1; let ids := splitL 46 core; gramF (sfx ids (max ids.length 3) 0 ++ t.drop core.length)

theorem tails_len (l : List UInt8) : (tailsL l).1.length ≤ l.length := by
  have h1 := cutL_len 43 l
  have h2 := cutL_len 45 (cutL 43 l).1
  show (cutL 45 (cutL 43 l).1).1.length ≤ _
  omega

theorem loose_j1 (t : ByteArray) (ht : t.size ≤ 256) (k : Nat) (hk : 3000 ≤ k) : spec_LooseVersion.j1 (k + 1) t = some (looseT (bl t)) := by
  have hl := tails_len (bl t)
  rw [bl_len] at hl
  have hsp := splitL_len 46 (tailsL (bl t)).1
  simp only [spec_LooseVersion.j1]
  rw [tails_f t (by omega) k (by omega), Option.bind_some]
  dsimp only
  rw [identifiers_f (ofL (tailsL (bl t)).1) (by rw [size_ofL]; omega) k (by rw [size_ofL]; omega), Option.bind_some, bl_ofL]
  have := loop_l0 t (ofL (tailsL (bl t)).1) (splitL 46 (tailsL (bl t)).1) ht (by rw [size_ofL]; exact hl) (by omega) (fun p hp => by have := Bt.parts_le 46 _ p hp; omega) _ k 0 ⟨#[]⟩ rfl (Nat.zero_le _) (by omega) (Nat.zero_le _)
  rw [size_ofL] at this
  exact this

theorem loose_f (a0 : ByteArray) (hs : a0.size ≤ 256) (k : Nat) (hk : 4000 ≤ k) : spec_LooseVersion.f k a0 = some (looseT (tOf (bl a0))) := by
  obtain ⟨k, rfl⟩ : ∃ m, k = m + 2 := ⟨k - 2, by omega⟩
  unfold spec_LooseVersion.f
  rw [if_neg (by omega), toList_bl]
  cases e : bl a0 with
  | nil =>
    rw [if_pos rfl]
    simp only [spec_LooseVersion.j0]
    rw [if_neg (by decide), loose_j1 a0 hs k (by omega), e]
    rfl
  | cons b u =>
    have hsz : a0.size = u.length + 1 := by rw [← bl_len, e]; rfl
    have h0 : bt a0 ((0 : Nat) : Int) = _ := bt_bl a0 0 (by omega)
    have e0 : (bl a0)[0]'(by rw [bl_len]; omega) = b := by simp [e]
    rw [e0] at h0
    rw [if_neg (by simp), if_pos (by omega), show bt a0 0 = (b.toNat : Int) from h0]
    simp only [spec_LooseVersion.j0]
    have ht : tOf (b :: u) = if b = 118 then u else b :: u := rfl
    rw [ht]
    by_cases hb : b = 118
    · rw [if_pos (by rw [hb]; rfl), if_pos (by omega), if_pos hb, extract_end, e]
      have := loose_j1 (ofL u) (by rw [size_ofL]; omega) k (by omega)
      rw [bl_ofL] at this
      exact this
    · rw [if_neg (by rw [beq_iff_eq]; exact fun h => hb (UInt8.toNat_inj.1 (by show b.toNat = 118; omega))), if_neg hb, loose_j1 a0 hs k (by omega), e]

theorem tails_swap {t u p m : List UInt8} {f : Bool} (h : tailsL t = (u, p, m, f)) : ∃ rest, t = u ++ rest ∧ (∀ x ∈ u, x ≠ 43 ∧ x ≠ 45) ∧ ∀ v : List UInt8, (∀ x ∈ v, x ≠ 43 ∧ x ≠ 45) → tailsL (v ++ rest) = (v, p, m, f) := by
  unfold tailsL at h
  obtain ⟨u1, m1, f1, h1⟩ : ∃ u1 m1 f1, cutL 43 t = (u1, m1, f1) := ⟨_, _, _, rfl⟩
  obtain ⟨u2, p2, f2, h2⟩ : ∃ u2 p2 f2, cutL 45 u1 = (u2, p2, f2) := ⟨_, _, _, rfl⟩
  rw [h1] at h
  dsimp only at h
  rw [h2] at h
  simp only [Prod.mk.injEq] at h
  obtain ⟨rfl, rfl, rfl, rfl⟩ := h
  rcases cutL_inv h1 with ⟨rfl, rfl, rfl, n1⟩ | ⟨rfl, rfl, n1⟩
  · rcases cutL_inv h2 with ⟨rfl, rfl, rfl, n2⟩ | ⟨rfl, rfl, n2⟩
    · refine ⟨[], by simp, fun x hx => ⟨n1 x hx, n2 x hx⟩, fun v hv => ?_⟩
      unfold tailsL
      rw [List.append_nil, cutL_no (fun x hx => (hv x hx).1)]
      dsimp only
      rw [cutL_no (fun x hx => (hv x hx).2)]
    · refine ⟨45 :: p2, rfl, fun x hx => ⟨n1 x (List.mem_append_left _ hx), n2 x hx⟩, fun v hv => ?_⟩
      have h43 : ∀ x ∈ v ++ 45 :: p2, x ≠ 43 := fun x hx => (List.mem_append.1 hx).elim (fun h => (hv x h).1) (fun h => n1 x (List.mem_append_right _ h))
      unfold tailsL
      rw [cutL_no h43]
      dsimp only
      rw [cutL_at (fun x hx => (hv x hx).2)]
  · rcases cutL_inv h2 with ⟨rfl, rfl, rfl, n2⟩ | ⟨rfl, rfl, n2⟩
    · refine ⟨43 :: m1, rfl, fun x hx => ⟨n1 x hx, n2 x hx⟩, fun v hv => ?_⟩
      unfold tailsL
      rw [cutL_at (fun x hx => (hv x hx).1)]
      dsimp only
      rw [cutL_no (fun x hx => (hv x hx).2)]
    · refine ⟨45 :: p2 ++ 43 :: m1, by simp, fun x hx => ⟨n1 x (List.mem_append_left _ hx), n2 x hx⟩, fun v hv => ?_⟩
      have h43 : ∀ x ∈ v ++ 45 :: p2, x ≠ 43 := fun x hx => (List.mem_append.1 hx).elim (fun h => (hv x h).1) (fun h => n1 x (List.mem_append_right _ h))
      unfold tailsL
      rw [← List.append_assoc, cutL_at h43]
      dsimp only
      rw [cutL_at (fun x hx => (hv x hx).2)]

theorem split_no (c : UInt8) : ∀ (l p : List UInt8), p ∈ splitL c l → ∀ x ∈ p, x ≠ c
  | [], p, h => by simp [splitL] at h; subst h; intro x hx; simp at hx
  | y :: ys, p, h => by
    unfold splitL at h
    by_cases hy : y = c
    · rw [if_pos hy] at h
      rcases List.mem_cons.1 h with rfl | h
      · intro x hx; simp at hx
      · exact split_no c ys p h
    · rw [if_neg hy] at h
      have ih := split_no c ys
      cases e : splitL c ys with
      | nil => exact absurd e (splitL_ne c ys)
      | cons a t =>
        rw [e] at h ih
        simp only at h
        rcases List.mem_cons.1 h with rfl | h
        · intro x hx
          rcases List.mem_cons.1 hx with rfl | hx
          · exact hy
          · exact ih a (List.mem_cons_self ..) x hx
        · exact ih p (List.mem_cons_of_mem _ h)

theorem split_in (c : UInt8) : ∀ (l p : List UInt8), p ∈ splitL c l → ∀ x ∈ p, x ∈ l
  | [], p, h => by simp [splitL] at h; subst h; intro x hx; simp at hx
  | y :: ys, p, h => by
    unfold splitL at h
    by_cases hy : y = c
    · rw [if_pos hy] at h
      rcases List.mem_cons.1 h with rfl | h
      · intro x hx; simp at hx
      · exact fun x hx => List.mem_cons_of_mem _ (split_in c ys p h x hx)
    · rw [if_neg hy] at h
      have ih := split_in c ys
      cases e : splitL c ys with
      | nil => exact absurd e (splitL_ne c ys)
      | cons a t =>
        rw [e] at h ih
        simp only at h
        rcases List.mem_cons.1 h with rfl | h
        · intro x hx
          rcases List.mem_cons.1 hx with rfl | hx
          · exact List.mem_cons_self ..
          · exact List.mem_cons_of_mem _ (ih a (List.mem_cons_self ..) x hx)
        · exact fun x hx => List.mem_cons_of_mem _ (ih p (List.mem_cons_of_mem _ h) x hx)

theorem sfx_no (ids : List (List UInt8)) (h : ∀ i x, x ∈ itemAt ids i → x ≠ 46 ∧ x ≠ 43 ∧ x ≠ 45) : ∀ d i, ∀ x ∈ sfx ids d i, x ≠ 43 ∧ x ≠ 45
  | 0, _, x, hx => by simp [sfx] at hx
  | d + 1, i, x, hx => by
    unfold sfx at hx
    rcases List.mem_append.1 hx with h1 | h1
    · rcases List.mem_append.1 h1 with h2 | h2
      · split at h2
        · simp at h2; rw [h2]; decide
        · simp at h2
      · exact (h i x h2).2
    · exact sfx_no ids h d (i + 1) x h1

theorem split_dots : ∀ (ps : List (List UInt8)) (p : List UInt8), (∀ q ∈ p :: ps, ∀ x ∈ q, x ≠ 46) → splitL 46 (p ++ dots ps) = p :: ps
  | [], p, h => by
    show splitL 46 (p ++ []) = _
    rw [List.append_nil]
    exact splitL_none 46 p (h p (List.mem_cons_self ..))
  | q :: ps, p, h => by
    show splitL 46 (p ++ 46 :: (q ++ dots ps)) = _
    rw [splitL_at 46 p _ (h p (List.mem_cons_self ..)), split_dots ps q (fun r hr => h r (List.mem_cons_of_mem _ hr))]

theorem sfx_dots (ids : List (List UInt8)) : ∀ d i, 0 < i → sfx ids d i = dots ((List.range' i d).map (itemAt ids))
  | 0, _, _ => rfl
  | d + 1, i, h => by
    unfold sfx
    rw [if_pos h, sfx_dots ids d (i + 1) (by omega), List.range'_succ]
    simp [dots]

theorem split_sfx (ids : List (List UInt8)) (M : Nat) (h : ∀ i x, x ∈ itemAt ids i → x ≠ 46) : splitL 46 (sfx ids (M + 1) 0) = (List.range' 0 (M + 1)).map (itemAt ids) := by
  unfold sfx
  rw [if_neg (by omega), List.nil_append, sfx_dots ids M 1 (by omega), List.range'_succ, List.map_cons]
  exact split_dots _ _ (fun q hq => by
    rcases List.mem_cons.1 hq with h1 | h1
    · rw [h1]; exact h 0
    · obtain ⟨i, _, rfl⟩ := List.mem_map.1 h1; exact h i)

theorem w0_num : ∀ l x, num (w0 l) = some x → num l = some x
  | [], x, h => h
  | [_], x, h => h
  | a :: b :: t, x, h => by
    unfold w0 at h
    split at h
    · rename_i q
      have ih := w0_num (b :: t) x h
      obtain ⟨h1, h2, h3, h4⟩ := num_all ih
      rw [num_eq, if_pos]
      · congr 1
        rw [q.1]
        show valF (Num.step 0 48) (b :: t) = x
        exact h3
      · refine ⟨⟨by simp, ?_⟩, ?_⟩
        · rw [List.all_cons, h2, q.1]; rfl
        · rw [q.1]
          show valF (Num.step 0 48) (b :: t) ≤ top
          rw [show Num.step 0 48 = 0 from rfl, h3]
          exact h4
    · exact h

theorem num_item {ids : List (List UInt8)} {i x : Nat} (h : NumOf (itemAt ids i) x) : (i < ids.length ∧ num (ids.getD i []) = some x) ∨ (ids.length ≤ i ∧ x = 0) := by
  unfold itemAt at h
  split at h
  · rename_i hi; exact .inl ⟨hi, w0_num _ _ h.1⟩
  · refine .inr ⟨by omega, ?_⟩
    have := h.1
    rw [show num [48] = some 0 from by decide +kernel] at this
    exact (Option.some.inj this).symm

theorem loose_good {t : List UInt8} (h : (looseT t).2.2.2.2.2 = true) : ∃ (x y z : Nat) (a bw b cw c pw p gw m : List UInt8), looseT t = ((x : Int), (y : Int), (z : Int), ofL p, ofL m, true) ∧ t = a ++ (bw ++ (cw ++ (pw ++ gw))) ∧ num a = some x ∧
    ((bw = [] ∧ b = [] ∧ y = 0) ∨ (bw = 46 :: b ∧ num b = some y)) ∧ ((cw = [] ∧ c = [] ∧ z = 0) ∨ (cw = 46 :: c ∧ num c = some z)) ∧ (bw = [] → cw = []) ∧ TailP pw p ∧ Tail 43 gw m := by
  obtain ⟨u, p, m, f, ht⟩ : ∃ u p m f, tailsL t = (u, p, m, f) := ⟨_, _, _, _, rfl⟩
  obtain ⟨rest, hrest, hu, hsw⟩ := tails_swap ht
  have hids := join_split u
  obtain ⟨i0, is, hsp⟩ : ∃ i0 is, splitL 46 u = i0 :: is := by
    cases e : splitL 46 u with
    | nil => exact absurd e (splitL_ne 46 u)
    | cons i0 is => exact ⟨i0, is, rfl⟩
  have hj := hids i0 is hsp
  have hmem : ∀ i x, x ∈ itemAt (i0 :: is) i → x ≠ 46 ∧ x ≠ 43 ∧ x ≠ 45 := by
    intro i x hx
    unfold itemAt at hx
    split at hx
    · rename_i hi
      have hx' := w0_mem _ x hx
      rw [List.getD_eq_getElem?_getD, List.getElem?_eq_getElem hi] at hx'
      have hin : (i0 :: is)[i] ∈ splitL 46 u := by rw [hsp]; exact List.getElem_mem hi
      refine ⟨split_no 46 u _ hin x hx', ?_⟩
      have := hu x (split_in 46 u _ hin x hx')
      exact this
    · simp at hx; rw [hx]; decide
  have hdrop : t.drop u.length = rest := by rw [hrest, List.drop_left]
  obtain ⟨M, hM⟩ : ∃ M, max (i0 :: is).length 3 = M + 1 := ⟨max (i0 :: is).length 3 - 1, by omega⟩
  have hS : ∀ x ∈ sfx (i0 :: is) (M + 1) 0, x ≠ 43 ∧ x ≠ 45 := sfx_no _ hmem (M + 1) 0
  have hT : looseT t = gramV numX (ofL p) (ofL m) f (((List.range' 0 (M + 1)).map (itemAt (i0 :: is))).map ofL) := by
    unfold looseT
    rw [ht]
    dsimp only
    rw [hsp, hM, hdrop]
    unfold gramF
    rw [hsw _ hS]
    dsimp only
    rw [split_sfx _ M (fun i x hx => (hmem i x hx).1)]
  rw [hT] at h ⊢
  unfold gramV at h ⊢
  split at h
  · rename_i A B C hl
    split at h
    · rename_i hg
      obtain ⟨rfl, ga, gb, gc⟩ := hg
      have hM2 : M = 2 := by
        have := congrArg List.length hl
        simp at this
        exact this
      subst hM2
      have hl3 : ((List.range' 0 (2 + 1)).map (itemAt (i0 :: is))).map ofL = [ofL (itemAt (i0 :: is) 0), ofL (itemAt (i0 :: is) 1), ofL (itemAt (i0 :: is) 2)] := rfl
      rw [hl3] at hl
      simp only [List.cons.injEq, and_true] at hl
      obtain ⟨rfl, rfl, rfl⟩ := hl
      obtain ⟨x, hx⟩ := (goodX _).1 ga
      obtain ⟨y, hy⟩ := (goodX _).1 gb
      obtain ⟨z, hz⟩ := (goodX _).1 gc
      obtain ⟨pw, gw, hpg, hp, hgw, _⟩ := tails_inv ht
      have hlen : (i0 :: is).length ≤ 3 := by omega
      have hx0 : num i0 = some x := by
        rcases num_item hx with ⟨_, h⟩ | ⟨h, _⟩
        · exact h
        · simp at h
      rw [if_pos ⟨rfl, ga, gb, gc⟩, hx.valX, hy.valX, hz.valX]
      match is, hlen, hy, hz, hj with
      | [], _, hy, hz, hj =>
        have y0 : y = 0 := by
          rcases num_item hy with ⟨h, _⟩ | ⟨_, h⟩
          · simp at h
          · exact h
        have z0 : z = 0 := by
          rcases num_item hz with ⟨h, _⟩ | ⟨_, h⟩
          · simp at h
          · exact h
        exact ⟨x, y, z, i0, [], [], [], [], pw, p, gw, m, rfl, by rw [hpg, hj]; simp [dots], hx0, .inl ⟨rfl, rfl, y0⟩, .inl ⟨rfl, rfl, z0⟩, fun _ => rfl, hp, hgw⟩
      | [i1], _, hy, hz, hj =>
        have y1 : num i1 = some y := by
          rcases num_item hy with ⟨_, h⟩ | ⟨h, _⟩
          · exact h
          · simp at h
        have z0 : z = 0 := by
          rcases num_item hz with ⟨h, _⟩ | ⟨_, h⟩
          · simp at h
          · exact h
        exact ⟨x, y, z, i0, 46 :: i1, i1, [], [], pw, p, gw, m, rfl, by rw [hpg, hj]; simp [dots], hx0, .inr ⟨rfl, y1⟩, .inl ⟨rfl, rfl, z0⟩, fun h => (by cases h), hp, hgw⟩
      | [i1, i2], _, hy, hz, hj =>
        have y1 : num i1 = some y := by
          rcases num_item hy with ⟨_, h⟩ | ⟨h, _⟩
          · exact h
          · simp at h
        have z2 : num i2 = some z := by
          rcases num_item hz with ⟨_, h⟩ | ⟨h, _⟩
          · exact h
          · simp at h
        exact ⟨x, y, z, i0, 46 :: i1, i1, 46 :: i2, i2, pw, p, gw, m, rfl, by rw [hpg, hj]; simp [dots], hx0, .inr ⟨rfl, y1⟩, .inr ⟨rfl, z2⟩, fun h => (by cases h), hp, hgw⟩
      | _ :: _ :: _ :: _, hlen, _, _, _ => simp at hlen
    · cases h
  · cases h

end Go.Proofs.YtjgedenoaocfjaaGreatDoor.KX
namespace Go.Proofs.YtjgedenoaocfjaaGreatDoor.Rxw

open Go Go.RowKit Go.Lib Go.Sort Go.Proofs Go.Proofs.YtjgedenoaocfjaaGreatDoor Go.Proofs.YtjgedenoaocfjaaGreatDoor.Base Go.Proofs.YtjgedenoaocfjaaGreatDoor.Rx Go.Proofs.YtjgedenoaocfjaaGreatDoor.L Go.Proofs.YtjgedenoaocfjaaGreatDoor.Parse Go.Proofs.YtjgedenoaocfjaaGreatDoor.Bt Go.Proofs.YtjgedenoaocfjaaGreatDoor.PX Go.Proofs.YtjgedenoaocfjaaGreatDoor.KX

open Go.Proofs.YtjgedenoaocfjaaGreatDoorW.PrintWords Go.Proofs.YtjgedenoaocfjaaGreatDoorW.PrintLast Go.Proofs.YtjgedenoaocfjaaGreatDoorW.PrintMore

attribute [local go_sem] setCell_drewN alloc_drewN

theorem original (g : Nat) (o : ByteArray) (w : World) (hc : w.cell? ⟨g, 5, none⟩ = some (.string o)) :
    Calls Tryz.prog 39 #[.pointer (some ⟨g, 0, none⟩)] w fun e w' => e = .returned (.string o) ∧ w' = w := by
  go_enter Tryz.func39, Tryz.ntmps39
  go_wp2_with fail
  go_ret
  exact ⟨rfl, rfl⟩

set_option maxHeartbeats 4000000 in
set_option maxRecDepth 100000 in
theorem setOrigOk (s q1 q2 o1 o2 p m : ByteArray) (a b c : Nat) (w : World) (hn : Calls Tryz.prog 31 #[.string s] w (NewVer a b c p m s w))
    (h1 : ∀ W, Below w.heap.size w W → Calls Tryz.prog 37 #[.agg #[.int .u64 (a : Int), .int .u64 (b : Int), .int .u64 (c : Int), .string p, .string m, .string s], .string q1] W fun e w' => e = .returned (.tuple #[.agg #[.int .u64 (a : Int), .int .u64 (b : Int), .int .u64 (c : Int), .string q1, .string m, .string o1], .nilIface]) ∧ Below W.heap.size W w')
    (h2 : ∀ W, Below w.heap.size w W → Calls Tryz.prog 38 #[.agg #[.int .u64 (a : Int), .int .u64 (b : Int), .int .u64 (c : Int), .string q1, .string m, .string o1], .string q2] W fun e w' => e = .returned (.tuple #[.agg #[.int .u64 (a : Int), .int .u64 (b : Int), .int .u64 (c : Int), .string q1, .string q2, .string o2], .nilIface]) ∧ Below W.heap.size W w') :
    Calls Tryz.prog 15 #[.string s, .string q1, .string q2] w (TextRet w o2 true) := by
  have CN := Lib.hid hn; have C1 := Lib.hid h1; have C2 := Lib.hid h2; have C3 := Lib.hid original
  clear hn h1 h2
  go_enter Tryz.func15, Tryz.ntmps15
  go_wp2_with (first
    | (go_at_call 31; (with_reducible refine CN.out.mono ?_); rintro e w1 ⟨g, rfl, hv, hg, hb1⟩; have c0 := hv.cell 0 _ rfl; have c1 := hv.cell 1 _ rfl; have c2 := hv.cell 2 _ rfl; have c3 := hv.cell 3 _ rfl; have c4 := hv.cell 4 _ rfl; have c5 := hv.cell 5 _ rfl; have HB1 := Lib.hid hb1; clear hv hg hb1)
    | (go_at_call 37; (with_reducible refine (C1.out _ HB1.out).mono ?_); rintro e w2 ⟨rfl, hb2⟩; have HB2 := Lib.hid (HB1.out.trans (hb2.mono HB1.out.size)); clear hb2)
    | (go_at_call 38; (with_reducible refine (C2.out _ ?c9).mono ?_); (case c9 => exact HB2.out.alloc HB2.out.size _); rintro e w3 ⟨rfl, hb3⟩))
  with_reducible refine (C3.out _ o2 _ ((Row.new w3 _ _).cell 5 _ rfl)).mono ?_
  rintro e w4 ⟨rfl, rfl⟩
  go_wp2_with fail
  go_ret2
  exact ⟨rfl, (((HB2.out.alloc HB2.out.size _).trans (hb3.mono (HB2.out.alloc HB2.out.size _).size))).alloc ((HB2.out.alloc HB2.out.size _).trans (hb3.mono (HB2.out.alloc HB2.out.size _).size)).size _⟩

set_option maxHeartbeats 4000000 in
set_option maxRecDepth 100000 in
theorem setOrigNo1 (s q1 q2 p m : ByteArray) (a b c : Nat) (w : World) (hn : Calls Tryz.prog 31 #[.string s] w (NewVer a b c p m s w))
    (h1 : ∀ W, Below w.heap.size w W → Calls Tryz.prog 37 #[.agg #[.int .u64 (a : Int), .int .u64 (b : Int), .int .u64 (c : Int), .string p, .string m, .string s], .string q1] W fun e w' => ∃ t v, e = .returned (.tuple #[.agg #[.int .u64 (a : Int), .int .u64 (b : Int), .int .u64 (c : Int), .string p, .string m, .string s], .iface t v]) ∧ Below W.heap.size W w') :
    Calls Tryz.prog 15 #[.string s, .string q1, .string q2] w (TextRet w ⟨#[]⟩ false) := by
  have CN := Lib.hid hn; have C1 := Lib.hid h1
  clear hn h1
  go_enter Tryz.func15, Tryz.ntmps15
  go_wp2_with (first
    | (go_at_call 31; (with_reducible refine CN.out.mono ?_); rintro e w1 ⟨g, rfl, hv, hg, hb1⟩; have c0 := hv.cell 0 _ rfl; have c1 := hv.cell 1 _ rfl; have c2 := hv.cell 2 _ rfl; have c3 := hv.cell 3 _ rfl; have c4 := hv.cell 4 _ rfl; have c5 := hv.cell 5 _ rfl; have HB1 := Lib.hid hb1; clear hv hg hb1)
    | (go_at_call 37; (with_reducible refine (C1.out _ HB1.out).mono ?_); rintro e w2 ⟨t2, v2, rfl, hb2⟩; have HB2 := Lib.hid (HB1.out.trans (hb2.mono HB1.out.size)); clear hb2))
  go_ret2
  exact ⟨rfl, by first | exact HB2.out | exact HB2.out.alloc HB2.out.size _⟩

set_option maxHeartbeats 4000000 in
set_option maxRecDepth 100000 in
theorem setOrigNo2 (s q1 q2 o1 p m : ByteArray) (a b c : Nat) (w : World) (hn : Calls Tryz.prog 31 #[.string s] w (NewVer a b c p m s w))
    (h1 : ∀ W, Below w.heap.size w W → Calls Tryz.prog 37 #[.agg #[.int .u64 (a : Int), .int .u64 (b : Int), .int .u64 (c : Int), .string p, .string m, .string s], .string q1] W fun e w' => e = .returned (.tuple #[.agg #[.int .u64 (a : Int), .int .u64 (b : Int), .int .u64 (c : Int), .string q1, .string m, .string o1], .nilIface]) ∧ Below W.heap.size W w')
    (h2 : ∀ W, Below w.heap.size w W → Calls Tryz.prog 38 #[.agg #[.int .u64 (a : Int), .int .u64 (b : Int), .int .u64 (c : Int), .string q1, .string m, .string o1], .string q2] W fun e w' => ∃ t v, e = .returned (.tuple #[.agg #[.int .u64 (a : Int), .int .u64 (b : Int), .int .u64 (c : Int), .string q1, .string m, .string o1], .iface t v]) ∧ Below W.heap.size W w') :
    Calls Tryz.prog 15 #[.string s, .string q1, .string q2] w (TextRet w ⟨#[]⟩ false) := by
  have CN := Lib.hid hn; have C1 := Lib.hid h1; have C2 := Lib.hid h2
  clear hn h1 h2
  go_enter Tryz.func15, Tryz.ntmps15
  go_wp2_with (first
    | (go_at_call 31; (with_reducible refine CN.out.mono ?_); rintro e w1 ⟨g, rfl, hv, hg, hb1⟩; have c0 := hv.cell 0 _ rfl; have c1 := hv.cell 1 _ rfl; have c2 := hv.cell 2 _ rfl; have c3 := hv.cell 3 _ rfl; have c4 := hv.cell 4 _ rfl; have c5 := hv.cell 5 _ rfl; have HB1 := Lib.hid hb1; clear hv hg hb1)
    | (go_at_call 37; (with_reducible refine (C1.out _ HB1.out).mono ?_); rintro e w2 ⟨rfl, hb2⟩; have HB2 := Lib.hid (HB1.out.trans (hb2.mono HB1.out.size)); clear hb2)
    | (go_at_call 38; (with_reducible refine (C2.out _ ?c9).mono ?_); (case c9 => exact HB2.out.alloc HB2.out.size _); rintro e w3 ⟨t3, v3, rfl, hb3⟩))
  go_ret2
  have hx := (HB2.out.alloc HB2.out.size _).trans (hb3.mono (HB2.out.alloc HB2.out.size _).size)
  exact ⟨rfl, by first | exact hx | exact hx.alloc hx.size _⟩

end Go.Proofs.YtjgedenoaocfjaaGreatDoor.Rxw
namespace Go.Proofs.YtjgedenoaocfjaaGreatDoor.Rxw

open Go Go.RowKit Go.Lib Go.Sort Go.Proofs Go.Proofs.YtjgedenoaocfjaaGreatDoor Go.Proofs.YtjgedenoaocfjaaGreatDoor.Base Go.Proofs.YtjgedenoaocfjaaGreatDoor.Rx Go.Proofs.YtjgedenoaocfjaaGreatDoor.L Go.Proofs.YtjgedenoaocfjaaGreatDoor.Parse Go.Proofs.YtjgedenoaocfjaaGreatDoor.KX Go.Proofs.YtjgedenoaocfjaaGreatDoor.Num Go.Proofs.YtjgedenoaocfjaaGreatDoor.PX

open Go.Proofs.YtjgedenoaocfjaaGreatDoor.Bt (toList_bl)

/-- The letter v ahead of a text, if it begins with one. -/
def vPre (l : List UInt8) : List UInt8 := match l with
  | [] => []
  | b :: _ => if b = 118 then [118] else []

theorem vprefix_f (a b c : Int) (p m o : ByteArray) : semver_Version_originalVPrefix.f a b c p m o = some (ofL (vPre (bl o))) := by
  unfold semver_Version_originalVPrefix.f
  rw [toList_bl]
  cases e : bl o with
  | nil => rw [if_pos rfl]; rfl
  | cons x t =>
    have hs : o.size = t.length + 1 := by rw [← bl_len, e]; rfl
    rw [if_neg (by simp), if_pos (by decide), if_pos (by omega)]
    have ex : o.extract 0 1 = ofL [x] := by rw [extract_head, e]; rfl
    rw [ex, toList_bl, bl_ofL]
    unfold vPre
    by_cases h : x = 118
    · subst h; rw [if_pos rfl]; rfl
    · rw [if_neg (by simpa using h)]
      dsimp only
      rw [if_neg h]
      rfl

theorem vPre_len (l : List UInt8) : (vPre l).length ≤ 1 := by
  unfold vPre
  split
  · exact Nat.zero_le _
  · split
    · exact Nat.le_refl _
    · exact Nat.zero_le _

theorem vPre_self (l : List UInt8) (a b c : Nat) (p m : List UInt8) : vPre (vPre l ++ verText a b c p m) = vPre l := by
  have hd : vPre (verText a b c p m) = [] := by
    unfold verText
    obtain ⟨x, t, e⟩ : ∃ x t, Lib.decDigits a = x :: t := by
      cases e : Lib.decDigits a with
      | nil => have := decL_ne a; rw [decL_eq, e] at this; exact absurd rfl this
      | cons x t => exact ⟨x, t, rfl⟩
    have hx : isDig x = true := dec_dig a x (by rw [e]; exact List.mem_cons_self ..)
    rw [e]
    show (if x = 118 then _ else _) = _
    rw [if_neg]
    rintro rfl
    exact absurd hx (by decide)
  unfold vPre at hd ⊢
  cases l with
  | nil => exact hd
  | cons b t =>
    dsimp only
    by_cases h : b = 118
    · rw [if_pos h]; rfl
    · rw [if_neg h]; exact hd

theorem text_len (a b c : Nat) (p m : List UInt8) (ha : a ≤ 18446744073709551615) (hb : b ≤ 18446744073709551615) (hc : c ≤ 18446744073709551615) : (verText a b c p m).length ≤ 100 + p.length + m.length := by
  have na := digits20 a ha
  have nb := digits20 b hb
  have nc := digits20 c hc
  unfold verText
  simp only [List.length_append, List.length_cons, List.length_nil]
  split <;> split <;> simp <;> omega

theorem app_nil (s t : ByteArray) : s ++ (⟨#[]⟩ : ByteArray) ++ t = ofL (bl s ++ bl t) := by
  apply bl_inj
  rw [bl_ofL]
  show (s ++ (⟨#[]⟩ : ByteArray) ++ t).data.toList = _
  simp

end Go.Proofs.YtjgedenoaocfjaaGreatDoor.Rxw

namespace Go.Proofs.YtjgedenoaocfjaaGreatDoor.PX

open Go Go.RowKit Go.Lib Go.Sort Go.Proofs Go.Proofs.YtjgedenoaocfjaaGreatDoor Go.Proofs.YtjgedenoaocfjaaGreatDoor.Base Go.Proofs.YtjgedenoaocfjaaGreatDoor.Rx Go.Proofs.YtjgedenoaocfjaaGreatDoor.L Go.Proofs.YtjgedenoaocfjaaGreatDoor.Parse Go.Proofs.YtjgedenoaocfjaaGreatDoor.KX Go.Proofs.YtjgedenoaocfjaaGreatDoor.Rxw

def impl_SetOriginal.f (a0 a1 a2 : ByteArray) : Option (ByteArray × Bool) :=
  if (a0.size ≤ 256 ∧ asciiB (bl a0) = true) ∧ a1.size ≤ 65536 ∧ a2.size ≤ 65536 then (match looseL (bl a0) with
    | some (a, b, c, p, m) => if p.length ≤ 1000 ∧ m.length ≤ 1000 then (if bl a1 ≠ [] ∧ preOk (bl a1) = false then some (⟨#[]⟩, false) else if bl a2 ≠ [] ∧ metaOk (bl a2) = false then some (⟨#[]⟩, false)
        else some (ofL (vPre (bl a0) ++ verText a b c (bl a1) (bl a2)), true)) else none
    | none => none) else none

theorem impl_SetOriginal.calls (a0 a1 a2 : ByteArray) (r1 : ByteArray) (r2 : Bool) (w : World) (hPow : Pow w) (hSem : Sem w) (hStd : Std w) (h : impl_SetOriginal.f a0 a1 a2 = some (r1, r2)) :
    Calls Tryz.prog 15 #[.string a0, .string a1, .string a2] w fun e w' => e = .returned (.tuple #[.string r1, .bool r2]) ∧ Below w.heap.size w w' := by
  unfold impl_SetOriginal.f at h
  split at h
  · rename_i hs
    split at h
    · rename_i a b c p m hl
      split at h
      · rename_i hz
        have hn := newL a0 (ascii_of hs.1.2) hs.1.1 hl w hStd hSem
        have ht := loose_top hl
        have z1 : (bl a1).length ≤ 65536 := by rw [bl_len]; exact hs.2.1
        have z2 : (bl a2).length ≤ 65536 := by rw [bl_len]; exact hs.2.2
        split at h
        · rename_i hb
          cases h
          exact setOrigNo1 a0 a1 a2 (ofL p) (ofL m) a b c w hn (fun W hW => SetPrerelease.setNo a b c (ofL p) (ofL m) a0 a1 hb.1 hb.2 (by omega) W (hSem.below hW))
        · rename_i hb
          have hq1 : bl a1 = [] ∨ preOk (bl a1) = true := by
            by_cases e : bl a1 = []
            · exact .inl e
            · cases e2 : preOk (bl a1) with
              | true => exact .inr rfl
              | false => exact absurd ⟨e, e2⟩ hb
          have s1 := string_f a b c a1 (ofL m) a0 ht.1 ht.2.1 ht.2.2 (by omega) (by rw [size_ofL]; omega)
          rw [bl_ofL] at s1
          have l1 := text_len a b c (bl a1) m ht.1 ht.2.1 ht.2.2
          have v0 := vprefix_f (a : Int) b c (ofL p) (ofL m) a0
          have lv := vPre_len (bl a0)
          have c1 : ∀ W, Below w.heap.size w W → Calls Tryz.prog 37 #[.agg #[.int .u64 (a : Int), .int .u64 (b : Int), .int .u64 (c : Int), .string (ofL p), .string (ofL m), .string a0], .string a1] W fun e w' => e = .returned (.tuple #[.agg #[.int .u64 (a : Int), .int .u64 (b : Int), .int .u64 (c : Int), .string a1, .string (ofL m), .string (ofL (vPre (bl a0) ++ verText a b c (bl a1) m))], .nilIface]) ∧ Below W.heap.size W w' := fun W hW => by
            have := SetPrerelease.setOk a b c (ofL p) (ofL m) a0 a1 _ _ hq1 (by omega) v0 (by rw [size_ofL]; exact lv) s1 (by rw [size_ofL]; omega) W (hPow.below hW) (hSem.below hW)
            rw [app_nil, bl_ofL, bl_ofL] at this
            exact this
          have o1 : (verText a b c (bl a1) m).length ≤ 100000 := by omega
          split at h
          · rename_i hb2
            cases h
            exact setOrigNo2 a0 a1 a2 _ (ofL p) (ofL m) a b c w hn c1 (fun W hW => SetMetadata.setNo a b c a1 (ofL m) _ a2 hb2.1 hb2.2 (by omega) W (hSem.below hW))
          · rename_i hb2
            cases h
            have hq2 : bl a2 = [] ∨ metaOk (bl a2) = true := by
              by_cases e : bl a2 = []
              · exact .inl e
              · cases e2 : metaOk (bl a2) with
                | true => exact .inr rfl
                | false => exact absurd ⟨e, e2⟩ hb2
            have v1 := vprefix_f (a : Int) b c a1 (ofL m) (ofL (vPre (bl a0) ++ verText a b c (bl a1) m))
            rw [bl_ofL, vPre_self] at v1
            have s2 := string_f a b c a1 a2 (ofL (vPre (bl a0) ++ verText a b c (bl a1) m)) ht.1 ht.2.1 ht.2.2 (by omega) (by omega)
            have l2 := text_len a b c (bl a1) (bl a2) ht.1 ht.2.1 ht.2.2
            refine setOrigOk a0 a1 a2 _ _ (ofL p) (ofL m) a b c w hn c1 (fun W hW => ?_)
            have := SetMetadata.setOk a b c a1 (ofL m) _ a2 _ _ hq2 (by omega) v1 (by rw [size_ofL]; exact lv) s2 (by rw [size_ofL]; omega) W (hPow.below hW) (hSem.below hW)
            rw [app_nil, bl_ofL, bl_ofL] at this
            exact this
      · cases h
    · cases h
  · cases h

end Go.Proofs.YtjgedenoaocfjaaGreatDoor.PX
namespace Go.Proofs.YtjgedenoaocfjaaGreatDoor.PX

open Go.RowKit Go.Proofs.YtjgedenoaocfjaaGreatDoorW.PrintWords Go.Proofs.YtjgedenoaocfjaaGreatDoorW.PrintLast Go.Proofs.YtjgedenoaocfjaaGreatDoorW.PrintMore

attribute [local go_sem] max2_int min2_int max_two min_two max_three min_three max_four min_four   -- for this text's walks alone

set_option linter.unusedVariables false

set_option linter.unusedSimpArgs false

mutual
def laws_FnSemverSetOriginal.j0 : Nat → ByteArray → ByteArray → ByteArray → Bool → Option (Bool)
  | 0, _, _, _, _ => none
  | k + 1, x0, x1, x2, x23 => if x23 = true then (some true) else ((spec_LooseVersion.f k x0).bind fun bt214 => (if bt214.2.2.2.2.2 = true then ((laws_svGood.f k (([(⟨bt214.1, bt214.2.1, bt214.2.2.1, bt214.2.2.2.1, bt214.2.2.2.2.1⟩ : S32)] : List (S32)))).bind fun t224 => (if t224 = true then ((laws_svShort.f k (([x1, x2] : List ByteArray))).bind fun t228 => (laws_FnSemverSetOriginal.j1 k x0 x1 x2 (!t228) bt214.1 bt214.2.1 bt214.2.2.1 bt214.2.2.2.1 bt214.2.2.2.2.1)) else (laws_FnSemverSetOriginal.j1 k x0 x1 x2 true bt214.1 bt214.2.1 bt214.2.2.1 bt214.2.2.2.1 bt214.2.2.2.2.1))) else (laws_FnSemverSetOriginal.j1 k x0 x1 x2 true bt214.1 bt214.2.1 bt214.2.2.1 bt214.2.2.2.1 bt214.2.2.2.2.1)))
def laws_FnSemverSetOriginal.j1 : Nat → ByteArray → ByteArray → ByteArray → Bool → Int → Int → Int → ByteArray → ByteArray → Option (Bool)
  | 0, _, _, _, _, _, _, _, _, _ => none
  | k + 1, x0, x1, x2, x43, x221000, x221001, x221002, x221003, x221004 => if x43 = true then (some true) else ((impl_SetOriginal.f x0 x1 x2).bind fun bt229 => (if x1.toList = ([] : List UInt8) then (if x2.toList = ([] : List UInt8) then (laws_FnSemverSetOriginal.j2 k x0 x1 x2 bt229.1 bt229.2 false x221000 x221001 x221002 x221003 x221004) else ((spec_ValidMeta.f k x2).bind fun t231 => (laws_FnSemverSetOriginal.j2 k x0 x1 x2 bt229.1 bt229.2 (!t231) x221000 x221001 x221002 x221003 x221004))) else ((spec_ValidPre.f k x1).bind fun t232 => (if t232 = true then (if x2.toList = ([] : List UInt8) then (laws_FnSemverSetOriginal.j2 k x0 x1 x2 bt229.1 bt229.2 false x221000 x221001 x221002 x221003 x221004) else ((spec_ValidMeta.f k x2).bind fun t233 => (laws_FnSemverSetOriginal.j2 k x0 x1 x2 bt229.1 bt229.2 (!t233) x221000 x221001 x221002 x221003 x221004))) else (laws_FnSemverSetOriginal.j2 k x0 x1 x2 bt229.1 bt229.2 true x221000 x221001 x221002 x221003 x221004)))))
def laws_FnSemverSetOriginal.j2 : Nat → ByteArray → ByteArray → ByteArray → ByteArray → Bool → Bool → Int → Int → Int → ByteArray → ByteArray → Option (Bool)
  | 0, _, _, _, _, _, _, _, _, _, _, _ => none
  | k + 1, x0, x1, x2, x9, x10, x66, x221000, x221001, x221002, x221003, x221004 => if x66 = true then (some (!x10)) else (if x10 = true then ((laws_smPrefix.f x0).bind fun t234 => ((laws_svPre.f x221000 x221001 x221002 x221003 x221004 x1).bind fun bt235 => ((laws_svMeta.f bt235.1 bt235.2.1 bt235.2.2.1 bt235.2.2.2.1 bt235.2.2.2.2 x2).bind fun bt240 => ((spec_VersionText.f k bt240.1 bt240.2.1 bt240.2.2.1 bt240.2.2.2.1 bt240.2.2.2.2).bind fun t245 => (if t234.size + t245.size ≤ 9223372036854775807 then (some (x9.toList == (t234 ++ t245).toList)) else (none)))))) else (some false))
end

def laws_FnSemverSetOriginal.f (k : Nat) (a0 : ByteArray) (a1 : ByteArray) (a2 : ByteArray) : Option (Bool) := if (a0.size : Int) > 2147483647 then (laws_FnSemverSetOriginal.j0 k a0 a1 a2 true) else (if (a1.size : Int) > 2147483647 then (laws_FnSemverSetOriginal.j0 k a0 a1 a2 true) else (laws_FnSemverSetOriginal.j0 k a0 a1 a2 (decide ((a2.size : Int) > 2147483647))))

def laws_FnSemverSetOriginal.T9 : Bool × List (List Nat × List Nat) := (true, [([], []), ([0], [0]), ([1], [1]), ([1], [1]), ([3, 1, 1], [1, 3]), ([1], [1]), ([1], [1]), ([5, 6, 4, 1], [1, 5, 6]), ([1], [1]), ([7, 8, 7, 1], [1, 7, 8]), ([9, 9, 1], [1, 9]), ([4, 10, 1], [1, 4, 10]), ([2, 11, 1], [1, 2, 11]), ([1, 12], [1, 12]), ([13, 10, 0, 1, 2, 3, 4, 5, 6, 7, 8, 9, 10, 11, 12, 13], [13])])

def laws_FnSemverSetOriginal.B9 : List Nat := [0, 1, 3, 3, 11, 3, 3, 123, 3, 507, 1019, 2043, 4095, 8191, 16383]

theorem laws_FnSemverSetOriginal.tab9 : rtab .any (opsOf Tryz.f5 9) = laws_FnSemverSetOriginal.T9 := by kernel_rfl

theorem laws_FnSemverSetOriginal.bits9 : waitsOk laws_FnSemverSetOriginal.T9.2 laws_FnSemverSetOriginal.B9 = true := by kernel_rfl

set_option maxHeartbeats 80000000 in
set_option maxRecDepth 100000 in
theorem laws_FnSemverSetOriginal.calls (k : Nat) (a0 : ByteArray) (a1 : ByteArray) (a2 : ByteArray) (r : Bool) (w : World) (hPow : Pow w) (hSem : Sem w) (hStd : Std w) (h : laws_FnSemverSetOriginal.f k a0 a1 a2 = some r) :
  Calls Tryz.prog 5 #[.string a0, .string a1, .string a2] w fun e w' => e = .returned (.bool r) ∧ Below w.heap.size w w' := by
 have hu32 := Tryz.underlying32
 have HPow := Aside0.mk hPow
 clear hPow
 have HSem := Aside0.mk hSem
 clear hSem
 have HStd := Aside0.mk hStd
 clear hStd
 have HB := Aside0.mk (Below.refl w.heap.size w)
 have H : (if (a0.size : Int) > 2147483647 then (laws_FnSemverSetOriginal.j0 k a0 a1 a2 true) else (if (a1.size : Int) > 2147483647 then (laws_FnSemverSetOriginal.j0 k a0 a1 a2 true) else (laws_FnSemverSetOriginal.j0 k a0 a1 a2 (decide ((a2.size : Int) > 2147483647))))) = some r := h
 clear h
 have HC4 := Aside0.mk H
 clear H
 go_enter Tryz.func5, Tryz.ntmps5
 go_upto_region 1 with (fail)
 go_cut [23] (fun v23 wc => ∃ (kq : Nat) (x23_3 : Bool), v23 = .bool x23_3 ∧ Aside0 (laws_FnSemverSetOriginal.j0 kq a0 a1 a2 x23_3 = some r) ∧ Aside0 (kq ≤ k) ∧ Aside0 (Below w.heap.size w wc))
 case first =>
  have H := HC4.out
  clear HC4
  by_cases c5 : (a0.size : Int) > 2147483647
  ·
   rw [if_pos c5] at H
   have c5b0 : decide (2147483647 < (a0.size : Int)) = true := decide_eq_true c5
   have c5b1 : decide (2147483647 < a0.size) = true := decide_eq_true (by omega)
   clear c5
   (first | rw [c5b0] | (simp only [i64_w, i32_w]; rw [c5b0]) | skip)
   have H' := Aside0.mk H
   clear H
   go_wp2
   go_meet
   case rel => exact ⟨_, (true), (by first | rfl | (simp; done) | (simp [*]; done)), H', ⟨by first | omega | exact Nat.le_refl _⟩, ⟨by repeat (first | (with_reducible first | exact HB.out | apply below_alloc | apply pw_below_drewN | apply below_drew1) | exact HB.out)⟩⟩
  ·
   rw [if_neg c5] at H
   have c5b0 : decide (2147483647 < (a0.size : Int)) = false := decide_eq_false c5
   have c5b1 : decide (2147483647 < a0.size) = false := decide_eq_false (by omega)
   clear c5
   (first | rw [c5b0] | (simp only [i64_w, i32_w]; rw [c5b0]) | skip)
   by_cases c6 : (a1.size : Int) > 2147483647
   ·
    rw [if_pos c6] at H
    have c6b0 : decide (2147483647 < (a1.size : Int)) = true := decide_eq_true c6
    have c6b1 : decide (2147483647 < a1.size) = true := decide_eq_true (by omega)
    clear c6
    have H' := Aside0.mk H
    clear H
    go_wp2
    go_meet
    case rel => exact ⟨_, (true), (by first | rfl | (simp; done) | (simp [*]; done)), H', ⟨by first | omega | exact Nat.le_refl _⟩, ⟨by repeat (first | (with_reducible first | exact HB.out | apply below_alloc | apply pw_below_drewN | apply below_drew1) | exact HB.out)⟩⟩
   ·
    rw [if_neg c6] at H
    have c6b0 : decide (2147483647 < (a1.size : Int)) = false := decide_eq_false c6
    have c6b1 : decide (2147483647 < a1.size) = false := decide_eq_false (by omega)
    clear c6
    have H' := Aside0.mk H
    clear H
    go_wp2
    go_meet
    case rel => exact ⟨_, (decide ((a2.size : Int) > 2147483647)), (by first | rfl | (simp; done) | (simp [*]; done)), H', ⟨by first | omega | exact Nat.le_refl _⟩, ⟨by repeat (first | (with_reducible first | exact HB.out | apply below_alloc | apply pw_below_drewN | apply below_drew1) | exact HB.out)⟩⟩
 case rest =>
  clear HC4
  try clear p2
  try clear c5
  try clear c5b0
  try clear c5b1
  try clear c6
  try clear c6b0
  try clear c6b1
  obtain ⟨kq, x23_3, rfl, HA, HJ3, HB⟩ := hcut
  cases kq with
  | zero => exact absurd HA.out (by simp [laws_FnSemverSetOriginal.j0])
  | succ kj3 =>
   have H := HA.out
   clear HA
   simp only [laws_FnSemverSetOriginal.j0] at H
   by_cases c7 : x23_3 = true
   ·
    subst c7
    have H1 : (some true) = some r := by rw [if_pos rfl] at H; exact H
    clear H
    have H := H1
    clear H1
    obtain rfl := Option.some.inj H
    go_wp2
    go_ret
    exact ⟨by first | rfl | (simp [errW_none, errW_some] <;> rfl) | (simp [*, errW_none, errW_some] <;> rfl) | (simp [bneNil]; done), by repeat (first | (with_reducible first | exact HB.out | apply below_alloc | apply pw_below_drewN | apply below_drew1) | exact HB.out)⟩
   ·
    replace c7 := Bool.eq_false_iff.mpr c7
    subst c7
    have H1 : ((spec_LooseVersion.f kj3 a0).bind fun bt214 => (if bt214.2.2.2.2.2 = true then ((laws_svGood.f kj3 (([(⟨bt214.1, bt214.2.1, bt214.2.2.1, bt214.2.2.2.1, bt214.2.2.2.2.1⟩ : S32)] : List (S32)))).bind fun t224 => (if t224 = true then ((laws_svShort.f kj3 (([a1, a2] : List ByteArray))).bind fun t228 => (laws_FnSemverSetOriginal.j1 kj3 a0 a1 a2 (!t228) bt214.1 bt214.2.1 bt214.2.2.1 bt214.2.2.2.1 bt214.2.2.2.2.1)) else (laws_FnSemverSetOriginal.j1 kj3 a0 a1 a2 true bt214.1 bt214.2.1 bt214.2.2.1 bt214.2.2.2.1 bt214.2.2.2.2.1))) else (laws_FnSemverSetOriginal.j1 kj3 a0 a1 a2 true bt214.1 bt214.2.1 bt214.2.2.1 bt214.2.2.2.1 bt214.2.2.2.2.1))) = some r := by rw [if_neg (show ¬ (false = true) by decide)] at H; exact H
    clear H
    have H := H1
    clear H1
    replace H := Option.bind_eq_some_iff.mp H
    obtain ⟨⟨t214, t215, t216, t217, t218, t219⟩, A80, H⟩ := H
    replace H : (if t219 = true then ((laws_svGood.f kj3 (([(⟨t214, t215, t216, t217, t218⟩ : S32)] : List (S32)))).bind fun t224 => (if t224 = true then ((laws_svShort.f kj3 (([a1, a2] : List ByteArray))).bind fun t228 => (laws_FnSemverSetOriginal.j1 kj3 a0 a1 a2 (!t228) t214 t215 t216 t217 t218)) else (laws_FnSemverSetOriginal.j1 kj3 a0 a1 a2 true t214 t215 t216 t217 t218))) else (laws_FnSemverSetOriginal.j1 kj3 a0 a1 a2 true t214 t215 t216 t217 t218)) = some r := H
    have A8 := Aside0.mk A80
    clear A80
    have HC9 := Aside0.mk H
    clear H
    go_upto_region 4 with (first | ((with_reducible refine gate_callee (f := 13) rfl ?_); refine goesL_ (some 26) rfl rfl Tryz.func13 (by kernel_rfl) rfl #[.string a0] rfl (by (try simp only [List.map_toArray, List.map_cons, List.map_nil]); first | done | rfl | (simp only [List.length_drop, List.length_take]; rfl)) ?_; (with_reducible refine (spec_LooseVersion.calls kj3 a0 t214 t215 t216 t217 t218 t219 _ A8.out).mono ?_); rintro e w10 ⟨rfl, hb⟩; refine ⟨_, rfl, ?_⟩; have n0_ := Aside0.mk (below_step (by repeat (first | (with_reducible first | exact HB.out | apply below_alloc | apply pw_below_drewN | apply below_drew1) | exact HB.out)) hb); clear HB; have HB := n0_; clear n0_; (try clear hb); (try clear hb2); (try clear hk); (try clear hi)) | ((with_reducible refine gate_dst (N := 7) rfl ?_); (try (refine gate_guard (by rfl) ?_; dsimp only)); refine box_event ?hg (N := 7) ?hd (cs := #[.int .u64 0, .int .u64 0, .int .u64 0, .string (⟨#[]⟩ : ByteArray), .string (⟨#[]⟩ : ByteArray)]) (t := 32) ?hr ?_; (case hd => rfl); (case hg => rfl); (case hr => first | (go_simp; done) | (go_simp; rfl) | (go_simp; simp [u8w]; done)); intro gb220 hg w11 hbox hb; have n0_ := Aside0.mk (below_step (by repeat (first | (with_reducible first | exact HB.out | apply below_alloc | apply pw_below_drewN | apply below_drew1) | exact HB.out)) hb); have n1_ := Aside0.mk (hbox); have n2_ := Aside0.mk ((by rw [hg]; exact (below_size (by repeat (first | (with_reducible first | exact HB.out | apply below_alloc | apply pw_below_drewN | apply below_drew1) | exact HB.out))) : w.heap.size ≤ gb220)); have n3_ := Aside0.mk ((by rw [hg]; exact (below_size (by repeat (first | (with_reducible first | exact HB.out | apply below_alloc | apply pw_below_drewN | apply below_drew1) | exact HB.out))) : w.heap.size ≤ gb220)); clear HB; have HB := n0_; have BK220 := n1_; have GW220 := n2_; have GE220 := n3_; clear n0_ n1_ n2_ n3_; clear hb hbox hg; have hcz12_0 : w11.cell? ⟨gb220, 0, none⟩ = some (.int .u64 0) := (blk_cell BK220.out 0).trans rfl; have hcz12_1 : w11.cell? ⟨gb220, 1, none⟩ = some (.int .u64 0) := (blk_cell BK220.out 1).trans rfl; have hcz12_2 : w11.cell? ⟨gb220, 2, none⟩ = some (.int .u64 0) := (blk_cell BK220.out 2).trans rfl; have hcz12_3 : w11.cell? ⟨gb220, 3, none⟩ = some (.string (⟨#[]⟩ : ByteArray)) := (blk_cell BK220.out 3).trans rfl; have hcz12_4 : w11.cell? ⟨gb220, 4, none⟩ = some (.string (⟨#[]⟩ : ByteArray)) := (blk_cell BK220.out 4).trans rfl; have hfz12_0 := blk_frozen BK220.out 0; have hfz12_1 := blk_frozen BK220.out 1; have hfz12_2 := blk_frozen BK220.out 2; have hfz12_3 := blk_frozen BK220.out 3; have hfz12_4 := blk_frozen BK220.out 4))
    (try simp only [Act.put, List.setIfInBounds_toArray, List.set_cons_zero, List.set_cons_succ])
    go_cut [43] (fun v43 wc => ∃ (kq : Nat) (x43_8 : Bool), v43 = .bool x43_8 ∧ Aside0 (laws_FnSemverSetOriginal.j1 kq a0 a1 a2 x43_8 t214 t215 t216 t217 t218 = some r) ∧ Aside0 (kq ≤ kj3) ∧ Aside0 (wc.heap[gb220]? = some (.cells #[.int .u64 t214, .int .u64 t215, .int .u64 t216, .string t217, .string t218] 32 (0, 0))) ∧ Aside0 (Below w.heap.size w wc))
    case first =>
     have H := HC9.out
     clear HC9
     by_cases c13 : t219 = true
     ·
      subst c13
      have H1 : ((laws_svGood.f kj3 (([(⟨t214, t215, t216, t217, t218⟩ : S32)] : List (S32)))).bind fun t224 => (if t224 = true then ((laws_svShort.f kj3 (([a1, a2] : List ByteArray))).bind fun t228 => (laws_FnSemverSetOriginal.j1 kj3 a0 a1 a2 (!t228) t214 t215 t216 t217 t218)) else (laws_FnSemverSetOriginal.j1 kj3 a0 a1 a2 true t214 t215 t216 t217 t218))) = some r := by rw [if_pos rfl] at H; exact H
      clear H
      have H := H1
      clear H1
      obtain ⟨y221, hy221⟩ : ∃ y_ : List (S32), y_ = (([(⟨t214, t215, t216, t217, t218⟩ : S32)] : List (S32))) := ⟨_, rfl⟩
      replace H : ((laws_svGood.f kj3 y221).bind fun t224 => (if t224 = true then ((laws_svShort.f kj3 (([a1, a2] : List ByteArray))).bind fun t228 => (laws_FnSemverSetOriginal.j1 kj3 a0 a1 a2 (!t228) t214 t215 t216 t217 t218)) else (laws_FnSemverSetOriginal.j1 kj3 a0 a1 a2 true t214 t215 t216 t217 t218))) = some r := by first | (rw [hy221]; with_reducible exact H) | (have H2_ := (Option.bind_some _ _).symm.trans H; rw [hy221]; with_reducible exact H2_) | (have H2_ := (Option.bind_some _ _).symm.trans H; with_reducible exact H2_) | with_reducible exact H | (rw [hy221]; exact H) | exact H
      have Ny221 := Aside0.mk hy221
      clear hy221
      replace H := Option.bind_eq_some_iff.mp H
      obtain ⟨t224, A140, H⟩ := H
      replace H : (if t224 = true then ((laws_svShort.f kj3 (([a1, a2] : List ByteArray))).bind fun t228 => (laws_FnSemverSetOriginal.j1 kj3 a0 a1 a2 (!t228) t214 t215 t216 t217 t218)) else (laws_FnSemverSetOriginal.j1 kj3 a0 a1 a2 true t214 t215 t216 t217 t218)) = some r := H
      have A14 := Aside0.mk A140
      clear A140
      by_cases c15 : t224 = true
      ·
       subst c15
       have H1 : ((laws_svShort.f kj3 (([a1, a2] : List ByteArray))).bind fun t228 => (laws_FnSemverSetOriginal.j1 kj3 a0 a1 a2 (!t228) t214 t215 t216 t217 t218)) = some r := by rw [if_pos rfl] at H; exact H
       clear H
       have H := H1
       clear H1
       obtain ⟨y225, hy225⟩ : ∃ y_ : List ByteArray, y_ = (([a1, a2] : List ByteArray)) := ⟨_, rfl⟩
       replace H : ((laws_svShort.f kj3 y225).bind fun t228 => (laws_FnSemverSetOriginal.j1 kj3 a0 a1 a2 (!t228) t214 t215 t216 t217 t218)) = some r := by first | (rw [hy225]; with_reducible exact H) | (have H2_ := (Option.bind_some _ _).symm.trans H; rw [hy225]; with_reducible exact H2_) | (have H2_ := (Option.bind_some _ _).symm.trans H; with_reducible exact H2_) | with_reducible exact H | (rw [hy225]; exact H) | exact H
       have Ny225 := Aside0.mk hy225
       clear hy225
       replace H := Option.bind_eq_some_iff.mp H
       obtain ⟨t228, A160, H⟩ := H
       replace H : (laws_FnSemverSetOriginal.j1 kj3 a0 a1 a2 (!t228) t214 t215 t216 t217 t218) = some r := H
       have A16 := Aside0.mk A160
       clear A160
       have H' := Aside0.mk H
       clear H
       have hcz17_0 : w11.cell? ⟨gb220, 0, none⟩ = some (.int .u64 0) := (blk_cell BK220.out 0).trans rfl
       have hcz17_1 : w11.cell? ⟨gb220, 1, none⟩ = some (.int .u64 0) := (blk_cell BK220.out 1).trans rfl
       have hcz17_2 : w11.cell? ⟨gb220, 2, none⟩ = some (.int .u64 0) := (blk_cell BK220.out 2).trans rfl
       have hcz17_3 : w11.cell? ⟨gb220, 3, none⟩ = some (.string (⟨#[]⟩ : ByteArray)) := (blk_cell BK220.out 3).trans rfl
       have hcz17_4 : w11.cell? ⟨gb220, 4, none⟩ = some (.string (⟨#[]⟩ : ByteArray)) := (blk_cell BK220.out 4).trans rfl
       have hfz17_0 := blk_frozen BK220.out 0
       have hfz17_1 := blk_frozen BK220.out 1
       have hfz17_2 := blk_frozen BK220.out 2
       have hfz17_3 := blk_frozen BK220.out 3
       have hfz17_4 := blk_frozen BK220.out 4
       go_wp2_with (first | ((with_reducible refine gate_dst (N := 33) rfl ?_); (try (refine gate_guard (by rfl) ?_; dsimp only)); refine Kd.R_lit k32 _ 32 ?hg (N := 33) ?hd (xs := ([(⟨t214, t215, t216, t217, t218⟩ : S32)] : List (S32))) (inner := [.int .u64 t214, .int .u64 t215, .int .u64 t216, .string t217, .string t218]) (ok := fun _ => True) (okp := fun _ => True) ?hr ?hp (fun _ hk => hk) trivial (Below.refl _ _) (Nat.le_refl _) (by simp) ?_; (case hd => rfl); (case hg => rfl); (case hr => first | (go_simp; done) | (go_simp; rfl) | (go_simp; simp [u8w]; done)); (case hp => exact (Reps.c5 (show Kd.M k32 _ _ _ (⟨t214, t215, t216, t217, t218⟩ : S32) [.int .u64 t214, .int .u64 t215, .int .u64 t216, .string t217, .string t218] from (k32_mkM _ _ _ (⟨t214, t215, t216, t217, t218⟩ : S32) )) (Reps.none _ _))); intro v222 w18 ho19 hb hg_ hnew_; clear hg_ hnew_; (first | rw [← Ny221.out] at ho19 | (simp only [Int.reduceToNat] at ho19; rw [← Ny221.out] at ho19)); have n0_ := Aside0.mk (Kd.R_lower (Kd.R_newB ho19 (g := gb220) (o := .cells #[.int .u64 t214, .int .u64 t215, .int .u64 t216, .string t217, .string t218] 32 (0, 0)) (by (with_reducible repeat (first | refine blk_drewN ?_ _ | refine blk_drew ?_ | refine blk_alloc ?_ _)); refine blk_put (cs := #[.int .u64 t214, .int .u64 t215, .int .u64 t216, .string t217, .string (⟨#[]⟩ : ByteArray)]) ?_ 4 _ rfl; (with_reducible repeat (first | refine blk_drewN ?_ _ | refine blk_drew ?_ | refine blk_alloc ?_ _)); refine blk_put (cs := #[.int .u64 t214, .int .u64 t215, .int .u64 t216, .string (⟨#[]⟩ : ByteArray), .string (⟨#[]⟩ : ByteArray)]) ?_ 3 _ rfl; (with_reducible repeat (first | refine blk_drewN ?_ _ | refine blk_drew ?_ | refine blk_alloc ?_ _)); refine blk_put (cs := #[.int .u64 t214, .int .u64 t215, .int .u64 0, .string (⟨#[]⟩ : ByteArray), .string (⟨#[]⟩ : ByteArray)]) ?_ 2 _ rfl; (with_reducible repeat (first | refine blk_drewN ?_ _ | refine blk_drew ?_ | refine blk_alloc ?_ _)); refine blk_put (cs := #[.int .u64 t214, .int .u64 0, .int .u64 0, .string (⟨#[]⟩ : ByteArray), .string (⟨#[]⟩ : ByteArray)]) ?_ 1 _ rfl; (with_reducible repeat (first | refine blk_drewN ?_ _ | refine blk_drew ?_ | refine blk_alloc ?_ _)); refine blk_put (cs := #[.int .u64 0, .int .u64 0, .int .u64 0, .string (⟨#[]⟩ : ByteArray), .string (⟨#[]⟩ : ByteArray)]) ?_ 0 _ rfl; (with_reducible repeat (first | refine blk_drewN ?_ _ | refine blk_drew ?_ | refine blk_alloc ?_ _)); exact BK220.out)) (below_size (by repeat (first | (with_reducible first | exact HB.out | apply below_alloc | apply pw_below_drewN | apply below_drew1 | refine below_set ?_ GE220.out) | exact HB.out)))); have n1_ := Aside0.mk (blk_below (g := gb220) (o := .cells #[.int .u64 t214, .int .u64 t215, .int .u64 t216, .string t217, .string t218] 32 (0, 0)) (by (with_reducible repeat (first | refine blk_drewN ?_ _ | refine blk_drew ?_ | refine blk_alloc ?_ _)); refine blk_put (cs := #[.int .u64 t214, .int .u64 t215, .int .u64 t216, .string t217, .string (⟨#[]⟩ : ByteArray)]) ?_ 4 _ rfl; (with_reducible repeat (first | refine blk_drewN ?_ _ | refine blk_drew ?_ | refine blk_alloc ?_ _)); refine blk_put (cs := #[.int .u64 t214, .int .u64 t215, .int .u64 t216, .string (⟨#[]⟩ : ByteArray), .string (⟨#[]⟩ : ByteArray)]) ?_ 3 _ rfl; (with_reducible repeat (first | refine blk_drewN ?_ _ | refine blk_drew ?_ | refine blk_alloc ?_ _)); refine blk_put (cs := #[.int .u64 t214, .int .u64 t215, .int .u64 0, .string (⟨#[]⟩ : ByteArray), .string (⟨#[]⟩ : ByteArray)]) ?_ 2 _ rfl; (with_reducible repeat (first | refine blk_drewN ?_ _ | refine blk_drew ?_ | refine blk_alloc ?_ _)); refine blk_put (cs := #[.int .u64 t214, .int .u64 0, .int .u64 0, .string (⟨#[]⟩ : ByteArray), .string (⟨#[]⟩ : ByteArray)]) ?_ 1 _ rfl; (with_reducible repeat (first | refine blk_drewN ?_ _ | refine blk_drew ?_ | refine blk_alloc ?_ _)); refine blk_put (cs := #[.int .u64 0, .int .u64 0, .int .u64 0, .string (⟨#[]⟩ : ByteArray), .string (⟨#[]⟩ : ByteArray)]) ?_ 0 _ rfl; (with_reducible repeat (first | refine blk_drewN ?_ _ | refine blk_drew ?_ | refine blk_alloc ?_ _)); exact BK220.out) hb); have n2_ := Aside0.mk (below_step (by repeat (first | (with_reducible first | exact HB.out | apply below_alloc | apply pw_below_drewN | apply below_drew1 | refine below_set ?_ GE220.out) | exact HB.out)) hb); clear BK220; clear HB; have HO223 := n0_; have BK220 := n1_; have HB := n2_; clear n0_ n1_ n2_; clear hb ho19; obtain ⟨Ao20, co20, eo20⟩ := Kd.R_slice HO223.out; subst eo20) | (go_at_call 14; (with_reducible refine (laws_svGood.calls kj3 _ _ y221 true _ ?side1 ?side2 A14.out).mono ?_); (case side1 => repeat (first | exact (Kd.R_reads' HO223.out).2.2 | (with_reducible refine Kd.C_alloc ?_ _) | (with_reducible refine Kd.C_drewN ?_ _) | (with_reducible refine Kd.C_drew ?_))); (case side2 => exact (Kd.R_reads' HO223.out).2.1); rintro e w21 ⟨rfl, hb⟩; have n0_ := Aside0.mk (Kd.R_below (by (with_reducible repeat (first | apply Kd.R_alloc | apply Kd.R_drewN | apply Kd.R_drew)); exact HO223.out) hb); have n1_ := Aside0.mk (blk_below (g := gb220) (o := .cells #[.int .u64 t214, .int .u64 t215, .int .u64 t216, .string t217, .string t218] 32 (0, 0)) (by (with_reducible repeat (first | refine blk_drewN ?_ _ | refine blk_drew ?_ | refine blk_alloc ?_ _)); exact BK220.out) hb); have n2_ := Aside0.mk (below_step (by repeat (first | (with_reducible first | exact HB.out | apply below_alloc | apply pw_below_drewN | apply below_drew1 | refine below_set ?_ GE220.out) | exact HB.out)) hb); clear HO223; clear BK220; clear HB; have HO223 := n0_; have BK220 := n1_; have HB := n2_; clear n0_ n1_ n2_; (try clear hb); (try clear hb2); (try clear hk); (try clear hi)) | ((with_reducible refine gate_dst (N := 40) rfl ?_); (try (refine gate_guard (by rfl) ?_; dsimp only)); refine Kd.R_lit Kd.string _ 9 ?hg (N := 40) ?hd (xs := ([a1, a2] : List ByteArray)) (inner := [.string a1, .string a2]) (ok := fun _ => True) (okp := fun _ => True) ?hr ?hp (fun _ hk => hk) trivial (Below.refl _ _) (Nat.le_refl _) (by simp) ?_; (case hd => rfl); (case hg => rfl); (case hr => first | (go_simp; done) | (go_simp; rfl) | (go_simp; simp [u8w]; done)); (case hp => exact (Reps.one (show Kd.M Kd.string _ _ _ a1 [.string a1] from rfl) (Reps.one (show Kd.M Kd.string _ _ _ a2 [.string a2] from rfl) (Reps.none _ _)))); intro v226 w22 ho23 hb hg_ hnew_; clear hg_ hnew_; (first | rw [← Ny225.out] at ho23 | (simp only [Int.reduceToNat] at ho23; rw [← Ny225.out] at ho23)); have n0_ := Aside0.mk (Kd.R_below (by (with_reducible repeat (first | apply Kd.R_alloc | apply Kd.R_drewN | apply Kd.R_drew)); exact HO223.out) hb); have n1_ := Aside0.mk (Kd.R_lower ho23 (below_size (by repeat (first | (with_reducible first | exact HB.out | apply below_alloc | apply pw_below_drewN | apply below_drew1 | refine below_set ?_ GE220.out) | exact HB.out)))); have n2_ := Aside0.mk (blk_below (g := gb220) (o := .cells #[.int .u64 t214, .int .u64 t215, .int .u64 t216, .string t217, .string t218] 32 (0, 0)) (by (with_reducible repeat (first | refine blk_drewN ?_ _ | refine blk_drew ?_ | refine blk_alloc ?_ _)); exact BK220.out) hb); have n3_ := Aside0.mk (below_step (by repeat (first | (with_reducible first | exact HB.out | apply below_alloc | apply pw_below_drewN | apply below_drew1 | refine below_set ?_ GE220.out) | exact HB.out)) hb); clear HO223; clear BK220; clear HB; have HO223 := n0_; have HO227 := n1_; have BK220 := n2_; have HB := n3_; clear n0_ n1_ n2_ n3_; clear hb ho23; obtain ⟨Ao24, co24, eo24⟩ := Kd.R_slice HO227.out; subst eo24) | (go_at_call 8; (with_reducible refine (laws_svShort.calls kj3 _ _ y225 t228 _ ?side1 ?side2 A16.out).mono ?_); (case side1 => repeat (first | exact (Kd.R_reads' HO227.out).2.2 | (with_reducible refine Kd.C_alloc ?_ _) | (with_reducible refine Kd.C_drewN ?_ _) | (with_reducible refine Kd.C_drew ?_))); (case side2 => exact (Kd.R_reads' HO227.out).2.1); rintro e w' ⟨rfl, ⟨nd, rfl⟩⟩))
       go_meet
       case rel => exact ⟨_, (!t228), (by first | rfl | (simp; done) | (simp [*]; done)), H', ⟨by have := HJ3.out; first | omega | exact Nat.le_refl _⟩, ⟨by (with_reducible repeat (first | refine blk_drewN ?_ _ | refine blk_drew ?_ | refine blk_alloc ?_ _)); exact BK220.out⟩, ⟨by repeat (first | (with_reducible first | exact HB.out | apply below_alloc | apply pw_below_drewN | apply below_drew1 | refine below_set ?_ GE220.out) | exact HB.out)⟩⟩
      ·
       replace c15 := Bool.eq_false_iff.mpr c15
       subst c15
       have H1 : (laws_FnSemverSetOriginal.j1 kj3 a0 a1 a2 true t214 t215 t216 t217 t218) = some r := by rw [if_neg (show ¬ (false = true) by decide)] at H; exact H
       clear H
       have H := H1
       clear H1
       have H' := Aside0.mk H
       clear H
       have hcz25_0 : w11.cell? ⟨gb220, 0, none⟩ = some (.int .u64 0) := (blk_cell BK220.out 0).trans rfl
       have hcz25_1 : w11.cell? ⟨gb220, 1, none⟩ = some (.int .u64 0) := (blk_cell BK220.out 1).trans rfl
       have hcz25_2 : w11.cell? ⟨gb220, 2, none⟩ = some (.int .u64 0) := (blk_cell BK220.out 2).trans rfl
       have hcz25_3 : w11.cell? ⟨gb220, 3, none⟩ = some (.string (⟨#[]⟩ : ByteArray)) := (blk_cell BK220.out 3).trans rfl
       have hcz25_4 : w11.cell? ⟨gb220, 4, none⟩ = some (.string (⟨#[]⟩ : ByteArray)) := (blk_cell BK220.out 4).trans rfl
       have hfz25_0 := blk_frozen BK220.out 0
       have hfz25_1 := blk_frozen BK220.out 1
       have hfz25_2 := blk_frozen BK220.out 2
       have hfz25_3 := blk_frozen BK220.out 3
       have hfz25_4 := blk_frozen BK220.out 4
       go_wp2_with (first | ((with_reducible refine gate_dst (N := 33) rfl ?_); (try (refine gate_guard (by rfl) ?_; dsimp only)); refine Kd.R_lit k32 _ 32 ?hg (N := 33) ?hd (xs := ([(⟨t214, t215, t216, t217, t218⟩ : S32)] : List (S32))) (inner := [.int .u64 t214, .int .u64 t215, .int .u64 t216, .string t217, .string t218]) (ok := fun _ => True) (okp := fun _ => True) ?hr ?hp (fun _ hk => hk) trivial (Below.refl _ _) (Nat.le_refl _) (by simp) ?_; (case hd => rfl); (case hg => rfl); (case hr => first | (go_simp; done) | (go_simp; rfl) | (go_simp; simp [u8w]; done)); (case hp => exact (Reps.c5 (show Kd.M k32 _ _ _ (⟨t214, t215, t216, t217, t218⟩ : S32) [.int .u64 t214, .int .u64 t215, .int .u64 t216, .string t217, .string t218] from (k32_mkM _ _ _ (⟨t214, t215, t216, t217, t218⟩ : S32) )) (Reps.none _ _))); intro v222 w26 ho27 hb hg_ hnew_; clear hg_ hnew_; (first | rw [← Ny221.out] at ho27 | (simp only [Int.reduceToNat] at ho27; rw [← Ny221.out] at ho27)); have n0_ := Aside0.mk (Kd.R_lower (Kd.R_newB ho27 (g := gb220) (o := .cells #[.int .u64 t214, .int .u64 t215, .int .u64 t216, .string t217, .string t218] 32 (0, 0)) (by (with_reducible repeat (first | refine blk_drewN ?_ _ | refine blk_drew ?_ | refine blk_alloc ?_ _)); refine blk_put (cs := #[.int .u64 t214, .int .u64 t215, .int .u64 t216, .string t217, .string (⟨#[]⟩ : ByteArray)]) ?_ 4 _ rfl; (with_reducible repeat (first | refine blk_drewN ?_ _ | refine blk_drew ?_ | refine blk_alloc ?_ _)); refine blk_put (cs := #[.int .u64 t214, .int .u64 t215, .int .u64 t216, .string (⟨#[]⟩ : ByteArray), .string (⟨#[]⟩ : ByteArray)]) ?_ 3 _ rfl; (with_reducible repeat (first | refine blk_drewN ?_ _ | refine blk_drew ?_ | refine blk_alloc ?_ _)); refine blk_put (cs := #[.int .u64 t214, .int .u64 t215, .int .u64 0, .string (⟨#[]⟩ : ByteArray), .string (⟨#[]⟩ : ByteArray)]) ?_ 2 _ rfl; (with_reducible repeat (first | refine blk_drewN ?_ _ | refine blk_drew ?_ | refine blk_alloc ?_ _)); refine blk_put (cs := #[.int .u64 t214, .int .u64 0, .int .u64 0, .string (⟨#[]⟩ : ByteArray), .string (⟨#[]⟩ : ByteArray)]) ?_ 1 _ rfl; (with_reducible repeat (first | refine blk_drewN ?_ _ | refine blk_drew ?_ | refine blk_alloc ?_ _)); refine blk_put (cs := #[.int .u64 0, .int .u64 0, .int .u64 0, .string (⟨#[]⟩ : ByteArray), .string (⟨#[]⟩ : ByteArray)]) ?_ 0 _ rfl; (with_reducible repeat (first | refine blk_drewN ?_ _ | refine blk_drew ?_ | refine blk_alloc ?_ _)); exact BK220.out)) (below_size (by repeat (first | (with_reducible first | exact HB.out | apply below_alloc | apply pw_below_drewN | apply below_drew1 | refine below_set ?_ GE220.out) | exact HB.out)))); have n1_ := Aside0.mk (blk_below (g := gb220) (o := .cells #[.int .u64 t214, .int .u64 t215, .int .u64 t216, .string t217, .string t218] 32 (0, 0)) (by (with_reducible repeat (first | refine blk_drewN ?_ _ | refine blk_drew ?_ | refine blk_alloc ?_ _)); refine blk_put (cs := #[.int .u64 t214, .int .u64 t215, .int .u64 t216, .string t217, .string (⟨#[]⟩ : ByteArray)]) ?_ 4 _ rfl; (with_reducible repeat (first | refine blk_drewN ?_ _ | refine blk_drew ?_ | refine blk_alloc ?_ _)); refine blk_put (cs := #[.int .u64 t214, .int .u64 t215, .int .u64 t216, .string (⟨#[]⟩ : ByteArray), .string (⟨#[]⟩ : ByteArray)]) ?_ 3 _ rfl; (with_reducible repeat (first | refine blk_drewN ?_ _ | refine blk_drew ?_ | refine blk_alloc ?_ _)); refine blk_put (cs := #[.int .u64 t214, .int .u64 t215, .int .u64 0, .string (⟨#[]⟩ : ByteArray), .string (⟨#[]⟩ : ByteArray)]) ?_ 2 _ rfl; (with_reducible repeat (first | refine blk_drewN ?_ _ | refine blk_drew ?_ | refine blk_alloc ?_ _)); refine blk_put (cs := #[.int .u64 t214, .int .u64 0, .int .u64 0, .string (⟨#[]⟩ : ByteArray), .string (⟨#[]⟩ : ByteArray)]) ?_ 1 _ rfl; (with_reducible repeat (first | refine blk_drewN ?_ _ | refine blk_drew ?_ | refine blk_alloc ?_ _)); refine blk_put (cs := #[.int .u64 0, .int .u64 0, .int .u64 0, .string (⟨#[]⟩ : ByteArray), .string (⟨#[]⟩ : ByteArray)]) ?_ 0 _ rfl; (with_reducible repeat (first | refine blk_drewN ?_ _ | refine blk_drew ?_ | refine blk_alloc ?_ _)); exact BK220.out) hb); have n2_ := Aside0.mk (below_step (by repeat (first | (with_reducible first | exact HB.out | apply below_alloc | apply pw_below_drewN | apply below_drew1 | refine below_set ?_ GE220.out) | exact HB.out)) hb); clear BK220; clear HB; have HO223 := n0_; have BK220 := n1_; have HB := n2_; clear n0_ n1_ n2_; clear hb ho27; obtain ⟨Ao28, co28, eo28⟩ := Kd.R_slice HO223.out; subst eo28) | (go_at_call 14; (with_reducible refine (laws_svGood.calls kj3 _ _ y221 false _ ?side1 ?side2 A14.out).mono ?_); (case side1 => repeat (first | exact (Kd.R_reads' HO223.out).2.2 | (with_reducible refine Kd.C_alloc ?_ _) | (with_reducible refine Kd.C_drewN ?_ _) | (with_reducible refine Kd.C_drew ?_))); (case side2 => exact (Kd.R_reads' HO223.out).2.1); rintro e w29 ⟨rfl, hb⟩; have n0_ := Aside0.mk (Kd.R_below (by (with_reducible repeat (first | apply Kd.R_alloc | apply Kd.R_drewN | apply Kd.R_drew)); exact HO223.out) hb); have n1_ := Aside0.mk (blk_below (g := gb220) (o := .cells #[.int .u64 t214, .int .u64 t215, .int .u64 t216, .string t217, .string t218] 32 (0, 0)) (by (with_reducible repeat (first | refine blk_drewN ?_ _ | refine blk_drew ?_ | refine blk_alloc ?_ _)); exact BK220.out) hb); have n2_ := Aside0.mk (below_step (by repeat (first | (with_reducible first | exact HB.out | apply below_alloc | apply pw_below_drewN | apply below_drew1 | refine below_set ?_ GE220.out) | exact HB.out)) hb); clear HO223; clear BK220; clear HB; have HO223 := n0_; have BK220 := n1_; have HB := n2_; clear n0_ n1_ n2_; (try clear hb); (try clear hb2); (try clear hk); (try clear hi)))
       go_meet
       case rel => exact ⟨_, (true), (by first | rfl | (simp; done) | (simp [*]; done)), H', ⟨by have := HJ3.out; first | omega | exact Nat.le_refl _⟩, ⟨by (with_reducible repeat (first | refine blk_drewN ?_ _ | refine blk_drew ?_ | refine blk_alloc ?_ _)); exact BK220.out⟩, ⟨by repeat (first | (with_reducible first | exact HB.out | apply below_alloc | apply pw_below_drewN | apply below_drew1 | refine below_set ?_ GE220.out) | exact HB.out)⟩⟩
     ·
      replace c13 := Bool.eq_false_iff.mpr c13
      subst c13
      have H1 : (laws_FnSemverSetOriginal.j1 kj3 a0 a1 a2 true t214 t215 t216 t217 t218) = some r := by rw [if_neg (show ¬ (false = true) by decide)] at H; exact H
      clear H
      have H := H1
      clear H1
      have H' := Aside0.mk H
      clear H
      go_wp2
      go_meet
      case rel => exact ⟨_, (true), (by first | rfl | (simp; done) | (simp [*]; done)), H', ⟨by have := HJ3.out; first | omega | exact Nat.le_refl _⟩, ⟨by (with_reducible repeat (first | refine blk_drewN ?_ _ | refine blk_drew ?_ | refine blk_alloc ?_ _)); refine blk_put (cs := #[.int .u64 t214, .int .u64 t215, .int .u64 t216, .string t217, .string (⟨#[]⟩ : ByteArray)]) ?_ 4 _ rfl; (with_reducible repeat (first | refine blk_drewN ?_ _ | refine blk_drew ?_ | refine blk_alloc ?_ _)); refine blk_put (cs := #[.int .u64 t214, .int .u64 t215, .int .u64 t216, .string (⟨#[]⟩ : ByteArray), .string (⟨#[]⟩ : ByteArray)]) ?_ 3 _ rfl; (with_reducible repeat (first | refine blk_drewN ?_ _ | refine blk_drew ?_ | refine blk_alloc ?_ _)); refine blk_put (cs := #[.int .u64 t214, .int .u64 t215, .int .u64 0, .string (⟨#[]⟩ : ByteArray), .string (⟨#[]⟩ : ByteArray)]) ?_ 2 _ rfl; (with_reducible repeat (first | refine blk_drewN ?_ _ | refine blk_drew ?_ | refine blk_alloc ?_ _)); refine blk_put (cs := #[.int .u64 t214, .int .u64 0, .int .u64 0, .string (⟨#[]⟩ : ByteArray), .string (⟨#[]⟩ : ByteArray)]) ?_ 1 _ rfl; (with_reducible repeat (first | refine blk_drewN ?_ _ | refine blk_drew ?_ | refine blk_alloc ?_ _)); refine blk_put (cs := #[.int .u64 0, .int .u64 0, .int .u64 0, .string (⟨#[]⟩ : ByteArray), .string (⟨#[]⟩ : ByteArray)]) ?_ 0 _ rfl; (with_reducible repeat (first | refine blk_drewN ?_ _ | refine blk_drew ?_ | refine blk_alloc ?_ _)); exact BK220.out⟩, ⟨by repeat (first | (with_reducible first | exact HB.out | apply below_alloc | apply pw_below_drewN | apply below_drew1 | refine below_set ?_ GE220.out) | exact HB.out)⟩⟩
    case rest =>
     clear HC9
     try clear c1
     try clear p2
     try clear c5
     try clear c5b0
     try clear c5b1
     try clear c6
     try clear c6b0
     try clear c6b1
     try clear c7
     try clear c13
     try clear c15
     try clear hcz12_0
     try clear hcz12_1
     try clear hcz12_2
     try clear hcz12_3
     try clear hcz12_4
     try clear hcz17_0
     try clear hcz17_1
     try clear hcz17_2
     try clear hcz17_3
     try clear hcz17_4
     try clear hcz25_0
     try clear hcz25_1
     try clear hcz25_2
     try clear hcz25_3
     try clear hcz25_4
     try clear hfz12_0
     try clear hfz12_1
     try clear hfz12_2
     try clear hfz12_3
     try clear hfz12_4
     try clear hfz17_0
     try clear hfz17_1
     try clear hfz17_2
     try clear hfz17_3
     try clear hfz17_4
     try clear hfz25_0
     try clear hfz25_1
     try clear hfz25_2
     try clear hfz25_3
     try clear hfz25_4
     try clear p2
     obtain ⟨kq, x43_8, rfl, HA, HJ8, BK220, HB⟩ := hcut
     cases kq with
     | zero => exact absurd HA.out (by simp [laws_FnSemverSetOriginal.j1])
     | succ kj8 =>
      have H := HA.out
      clear HA
      simp only [laws_FnSemverSetOriginal.j1] at H
      by_cases c30 : x43_8 = true
      ·
       subst c30
       have H1 : (some true) = some r := by rw [if_pos rfl] at H; exact H
       clear H
       have H := H1
       clear H1
       obtain rfl := Option.some.inj H
       go_wp2
       go_ret
       exact ⟨by first | rfl | (simp [errW_none, errW_some] <;> rfl) | (simp [*, errW_none, errW_some] <;> rfl) | (simp [bneNil]; done), by repeat (first | (with_reducible first | exact HB.out | apply below_alloc | apply pw_below_drewN | apply below_drew1 | refine below_set ?_ GE220.out) | exact HB.out)⟩
      ·
       replace c30 := Bool.eq_false_iff.mpr c30
       subst c30
       have H1 : ((impl_SetOriginal.f a0 a1 a2).bind fun bt229 => (if a1.toList = ([] : List UInt8) then (if a2.toList = ([] : List UInt8) then (laws_FnSemverSetOriginal.j2 kj8 a0 a1 a2 bt229.1 bt229.2 false t214 t215 t216 t217 t218) else ((spec_ValidMeta.f kj8 a2).bind fun t231 => (laws_FnSemverSetOriginal.j2 kj8 a0 a1 a2 bt229.1 bt229.2 (!t231) t214 t215 t216 t217 t218))) else ((spec_ValidPre.f kj8 a1).bind fun t232 => (if t232 = true then (if a2.toList = ([] : List UInt8) then (laws_FnSemverSetOriginal.j2 kj8 a0 a1 a2 bt229.1 bt229.2 false t214 t215 t216 t217 t218) else ((spec_ValidMeta.f kj8 a2).bind fun t233 => (laws_FnSemverSetOriginal.j2 kj8 a0 a1 a2 bt229.1 bt229.2 (!t233) t214 t215 t216 t217 t218))) else (laws_FnSemverSetOriginal.j2 kj8 a0 a1 a2 bt229.1 bt229.2 true t214 t215 t216 t217 t218))))) = some r := by rw [if_neg (show ¬ (false = true) by decide)] at H; exact H
       clear H
       have H := H1
       clear H1
       replace H := Option.bind_eq_some_iff.mp H
       obtain ⟨⟨t229, t230⟩, A310, H⟩ := H
       replace H : (if a1.toList = ([] : List UInt8) then (if a2.toList = ([] : List UInt8) then (laws_FnSemverSetOriginal.j2 kj8 a0 a1 a2 t229 t230 false t214 t215 t216 t217 t218) else ((spec_ValidMeta.f kj8 a2).bind fun t231 => (laws_FnSemverSetOriginal.j2 kj8 a0 a1 a2 t229 t230 (!t231) t214 t215 t216 t217 t218))) else ((spec_ValidPre.f kj8 a1).bind fun t232 => (if t232 = true then (if a2.toList = ([] : List UInt8) then (laws_FnSemverSetOriginal.j2 kj8 a0 a1 a2 t229 t230 false t214 t215 t216 t217 t218) else ((spec_ValidMeta.f kj8 a2).bind fun t233 => (laws_FnSemverSetOriginal.j2 kj8 a0 a1 a2 t229 t230 (!t233) t214 t215 t216 t217 t218))) else (laws_FnSemverSetOriginal.j2 kj8 a0 a1 a2 t229 t230 true t214 t215 t216 t217 t218)))) = some r := H
       have A31 := Aside0.mk A310
       clear A310
       have HC32 := Aside0.mk H
       clear H
       go_upto_region 7 with (first | ((with_reducible refine gate_callee (f := 15) rfl ?_); refine goesL_ (some 48) rfl rfl Tryz.func15 (by kernel_rfl) rfl #[.string a0, .string a1, .string a2] rfl (by (try simp only [List.map_toArray, List.map_cons, List.map_nil]); first | done | rfl | (simp only [List.length_drop, List.length_take]; rfl)) ?_; (with_reducible refine (impl_SetOriginal.calls a0 a1 a2 t229 t230 _ ?side1 ?side2 ?side3 A31.out).mono ?_); (case side1 => exact HPow.out.below (by repeat (first | (with_reducible first | exact HB.out | apply below_alloc | apply pw_below_drewN | apply below_drew1 | refine below_set ?_ GE220.out) | exact HB.out))); (case side2 => exact HSem.out.below (by repeat (first | (with_reducible first | exact HB.out | apply below_alloc | apply pw_below_drewN | apply below_drew1 | refine below_set ?_ GE220.out) | exact HB.out))); (case side3 => exact HStd.out.below (by repeat (first | (with_reducible first | exact HB.out | apply below_alloc | apply pw_below_drewN | apply below_drew1 | refine below_set ?_ GE220.out) | exact HB.out))); rintro e w33 ⟨rfl, hb⟩; refine ⟨_, rfl, ?_⟩; have n0_ := Aside0.mk (blk_below (g := gb220) (o := .cells #[.int .u64 t214, .int .u64 t215, .int .u64 t216, .string t217, .string t218] 32 (0, 0)) (by (with_reducible repeat (first | refine blk_drewN ?_ _ | refine blk_drew ?_ | refine blk_alloc ?_ _)); exact BK220.out) hb); have n1_ := Aside0.mk (below_step (by repeat (first | (with_reducible first | exact HB.out | apply below_alloc | apply pw_below_drewN | apply below_drew1 | refine below_set ?_ GE220.out) | exact HB.out)) hb); clear BK220; clear HB; have BK220 := n0_; have HB := n1_; clear n0_ n1_; (try clear hb); (try clear hb2); (try clear hk); (try clear hi)))
       (try simp only [Act.put, List.setIfInBounds_toArray, List.set_cons_zero, List.set_cons_succ])
       go_cut [66] (fun v66 wc => ∃ (kq : Nat) (x66_31 : Bool), v66 = .bool x66_31 ∧ Aside0 (laws_FnSemverSetOriginal.j2 kq a0 a1 a2 t229 t230 x66_31 t214 t215 t216 t217 t218 = some r) ∧ Aside0 (kq ≤ kj8) ∧ Aside0 (wc.heap[gb220]? = some (.cells #[.int .u64 t214, .int .u64 t215, .int .u64 t216, .string t217, .string t218] 32 (0, 0))) ∧ Aside0 (Below w.heap.size w wc))
       case first =>
        have H := HC32.out
        clear HC32
        by_cases c34 : a1.toList = ([] : List UInt8)
        ·
         rw [if_pos c34] at H
         have c34b0 : (a1.toList == ([] : List UInt8)) = true := beq_iff_eq.mpr c34
         have c34b1 : (a1.toList != ([] : List UInt8)) = false := bne_eq_false_iff_eq.mpr c34
         clear c34
         (first | rw [c34b0] | (simp only [i64_w, i32_w]; rw [c34b0]) | skip)
         by_cases c35 : a2.toList = ([] : List UInt8)
         ·
          rw [if_pos c35] at H
          have c35b0 : (a2.toList == ([] : List UInt8)) = true := beq_iff_eq.mpr c35
          have c35b1 : (a2.toList != ([] : List UInt8)) = false := bne_eq_false_iff_eq.mpr c35
          clear c35
          have H' := Aside0.mk H
          clear H
          go_wp2
          go_meet
          case rel => exact ⟨_, (false), (by first | rfl | (simp; done) | (simp [*]; done)), H', ⟨by have := HJ3.out; have := HJ8.out; first | omega | exact Nat.le_refl _⟩, ⟨by (with_reducible repeat (first | refine blk_drewN ?_ _ | refine blk_drew ?_ | refine blk_alloc ?_ _)); exact BK220.out⟩, ⟨by repeat (first | (with_reducible first | exact HB.out | apply below_alloc | apply pw_below_drewN | apply below_drew1 | refine below_set ?_ GE220.out) | exact HB.out)⟩⟩
         ·
          rw [if_neg c35] at H
          have c35b0 : (a2.toList == ([] : List UInt8)) = false := beq_eq_false_iff_ne.mpr c35
          have c35b1 : (a2.toList != ([] : List UInt8)) = true := bne_iff_ne.mpr c35
          replace H := Option.bind_eq_some_iff.mp H
          obtain ⟨t231, A360, H⟩ := H
          replace H : (laws_FnSemverSetOriginal.j2 kj8 a0 a1 a2 t229 t230 (!t231) t214 t215 t216 t217 t218) = some r := H
          have A36 := Aside0.mk A360
          clear A360
          have H' := Aside0.mk H
          clear H
          go_wp2_with (first | (go_at_call 17; (with_reducible refine (spec_ValidMeta.calls kj8 a2 t231 _ A36.out).mono ?_); rintro e w37 ⟨rfl, hb⟩; have n0_ := Aside0.mk (blk_below (g := gb220) (o := .cells #[.int .u64 t214, .int .u64 t215, .int .u64 t216, .string t217, .string t218] 32 (0, 0)) (by (with_reducible repeat (first | refine blk_drewN ?_ _ | refine blk_drew ?_ | refine blk_alloc ?_ _)); exact BK220.out) hb); have n1_ := Aside0.mk (below_step (by repeat (first | (with_reducible first | exact HB.out | apply below_alloc | apply pw_below_drewN | apply below_drew1 | refine below_set ?_ GE220.out) | exact HB.out)) hb); clear BK220; clear HB; have BK220 := n0_; have HB := n1_; clear n0_ n1_; (try clear hb); (try clear hb2); (try clear hk); (try clear hi)))
          go_meet
          case rel => exact ⟨_, (!t231), (by first | rfl | (simp; done) | (simp [*]; done)), H', ⟨by have := HJ3.out; have := HJ8.out; first | omega | exact Nat.le_refl _⟩, ⟨by (with_reducible repeat (first | refine blk_drewN ?_ _ | refine blk_drew ?_ | refine blk_alloc ?_ _)); exact BK220.out⟩, ⟨by repeat (first | (with_reducible first | exact HB.out | apply below_alloc | apply pw_below_drewN | apply below_drew1 | refine below_set ?_ GE220.out) | exact HB.out)⟩⟩
        ·
         rw [if_neg c34] at H
         have c34b0 : (a1.toList == ([] : List UInt8)) = false := beq_eq_false_iff_ne.mpr c34
         have c34b1 : (a1.toList != ([] : List UInt8)) = true := bne_iff_ne.mpr c34
         (first | rw [c34b0] | (simp only [i64_w, i32_w]; rw [c34b0]) | skip)
         replace H := Option.bind_eq_some_iff.mp H
         obtain ⟨t232, A380, H⟩ := H
         replace H : (if t232 = true then (if a2.toList = ([] : List UInt8) then (laws_FnSemverSetOriginal.j2 kj8 a0 a1 a2 t229 t230 false t214 t215 t216 t217 t218) else ((spec_ValidMeta.f kj8 a2).bind fun t233 => (laws_FnSemverSetOriginal.j2 kj8 a0 a1 a2 t229 t230 (!t233) t214 t215 t216 t217 t218))) else (laws_FnSemverSetOriginal.j2 kj8 a0 a1 a2 t229 t230 true t214 t215 t216 t217 t218)) = some r := H
         have A38 := Aside0.mk A380
         clear A380
         by_cases c39 : t232 = true
         ·
          subst c39
          have H1 : (if a2.toList = ([] : List UInt8) then (laws_FnSemverSetOriginal.j2 kj8 a0 a1 a2 t229 t230 false t214 t215 t216 t217 t218) else ((spec_ValidMeta.f kj8 a2).bind fun t233 => (laws_FnSemverSetOriginal.j2 kj8 a0 a1 a2 t229 t230 (!t233) t214 t215 t216 t217 t218))) = some r := by rw [if_pos rfl] at H; exact H
          clear H
          have H := H1
          clear H1
          by_cases c40 : a2.toList = ([] : List UInt8)
          ·
           rw [if_pos c40] at H
           have c40b0 : (a2.toList == ([] : List UInt8)) = true := beq_iff_eq.mpr c40
           have c40b1 : (a2.toList != ([] : List UInt8)) = false := bne_eq_false_iff_eq.mpr c40
           clear c40
           have H' := Aside0.mk H
           clear H
           go_wp2_with (first | (go_at_call 16; (with_reducible refine (spec_ValidPre.calls kj8 a1 true _ A38.out).mono ?_); rintro e w41 ⟨rfl, hb⟩; have n0_ := Aside0.mk (blk_below (g := gb220) (o := .cells #[.int .u64 t214, .int .u64 t215, .int .u64 t216, .string t217, .string t218] 32 (0, 0)) (by (with_reducible repeat (first | refine blk_drewN ?_ _ | refine blk_drew ?_ | refine blk_alloc ?_ _)); exact BK220.out) hb); have n1_ := Aside0.mk (below_step (by repeat (first | (with_reducible first | exact HB.out | apply below_alloc | apply pw_below_drewN | apply below_drew1 | refine below_set ?_ GE220.out) | exact HB.out)) hb); clear BK220; clear HB; have BK220 := n0_; have HB := n1_; clear n0_ n1_; (try clear hb); (try clear hb2); (try clear hk); (try clear hi)))
           go_meet
           case rel => exact ⟨_, (false), (by first | rfl | (simp; done) | (simp [*]; done)), H', ⟨by have := HJ3.out; have := HJ8.out; first | omega | exact Nat.le_refl _⟩, ⟨by (with_reducible repeat (first | refine blk_drewN ?_ _ | refine blk_drew ?_ | refine blk_alloc ?_ _)); exact BK220.out⟩, ⟨by repeat (first | (with_reducible first | exact HB.out | apply below_alloc | apply pw_below_drewN | apply below_drew1 | refine below_set ?_ GE220.out) | exact HB.out)⟩⟩
          ·
           rw [if_neg c40] at H
           have c40b0 : (a2.toList == ([] : List UInt8)) = false := beq_eq_false_iff_ne.mpr c40
           have c40b1 : (a2.toList != ([] : List UInt8)) = true := bne_iff_ne.mpr c40
           replace H := Option.bind_eq_some_iff.mp H
           obtain ⟨t233, A420, H⟩ := H
           replace H : (laws_FnSemverSetOriginal.j2 kj8 a0 a1 a2 t229 t230 (!t233) t214 t215 t216 t217 t218) = some r := H
           have A42 := Aside0.mk A420
           clear A420
           have H' := Aside0.mk H
           clear H
           go_wp2_with (first | (go_at_call 16; (with_reducible refine (spec_ValidPre.calls kj8 a1 true _ A38.out).mono ?_); rintro e w43 ⟨rfl, hb⟩; have n0_ := Aside0.mk (blk_below (g := gb220) (o := .cells #[.int .u64 t214, .int .u64 t215, .int .u64 t216, .string t217, .string t218] 32 (0, 0)) (by (with_reducible repeat (first | refine blk_drewN ?_ _ | refine blk_drew ?_ | refine blk_alloc ?_ _)); exact BK220.out) hb); have n1_ := Aside0.mk (below_step (by repeat (first | (with_reducible first | exact HB.out | apply below_alloc | apply pw_below_drewN | apply below_drew1 | refine below_set ?_ GE220.out) | exact HB.out)) hb); clear BK220; clear HB; have BK220 := n0_; have HB := n1_; clear n0_ n1_; (try clear hb); (try clear hb2); (try clear hk); (try clear hi)) | (go_at_call 17; (with_reducible refine (spec_ValidMeta.calls kj8 a2 t233 _ A42.out).mono ?_); rintro e w44 ⟨rfl, hb⟩; have n0_ := Aside0.mk (blk_below (g := gb220) (o := .cells #[.int .u64 t214, .int .u64 t215, .int .u64 t216, .string t217, .string t218] 32 (0, 0)) (by (with_reducible repeat (first | refine blk_drewN ?_ _ | refine blk_drew ?_ | refine blk_alloc ?_ _)); exact BK220.out) hb); have n1_ := Aside0.mk (below_step (by repeat (first | (with_reducible first | exact HB.out | apply below_alloc | apply pw_below_drewN | apply below_drew1 | refine below_set ?_ GE220.out) | exact HB.out)) hb); clear BK220; clear HB; have BK220 := n0_; have HB := n1_; clear n0_ n1_; (try clear hb); (try clear hb2); (try clear hk); (try clear hi)))
           go_meet
           case rel => exact ⟨_, (!t233), (by first | rfl | (simp; done) | (simp [*]; done)), H', ⟨by have := HJ3.out; have := HJ8.out; first | omega | exact Nat.le_refl _⟩, ⟨by (with_reducible repeat (first | refine blk_drewN ?_ _ | refine blk_drew ?_ | refine blk_alloc ?_ _)); exact BK220.out⟩, ⟨by repeat (first | (with_reducible first | exact HB.out | apply below_alloc | apply pw_below_drewN | apply below_drew1 | refine below_set ?_ GE220.out) | exact HB.out)⟩⟩
         ·
          replace c39 := Bool.eq_false_iff.mpr c39
          subst c39
          have H1 : (laws_FnSemverSetOriginal.j2 kj8 a0 a1 a2 t229 t230 true t214 t215 t216 t217 t218) = some r := by rw [if_neg (show ¬ (false = true) by decide)] at H; exact H
          clear H
          have H := H1
          clear H1
          have H' := Aside0.mk H
          clear H
          go_wp2_with (first | (go_at_call 16; (with_reducible refine (spec_ValidPre.calls kj8 a1 false _ A38.out).mono ?_); rintro e w45 ⟨rfl, hb⟩; have n0_ := Aside0.mk (blk_below (g := gb220) (o := .cells #[.int .u64 t214, .int .u64 t215, .int .u64 t216, .string t217, .string t218] 32 (0, 0)) (by (with_reducible repeat (first | refine blk_drewN ?_ _ | refine blk_drew ?_ | refine blk_alloc ?_ _)); exact BK220.out) hb); have n1_ := Aside0.mk (below_step (by repeat (first | (with_reducible first | exact HB.out | apply below_alloc | apply pw_below_drewN | apply below_drew1 | refine below_set ?_ GE220.out) | exact HB.out)) hb); clear BK220; clear HB; have BK220 := n0_; have HB := n1_; clear n0_ n1_; (try clear hb); (try clear hb2); (try clear hk); (try clear hi)))
          go_meet
          case rel => exact ⟨_, (true), (by first | rfl | (simp; done) | (simp [*]; done)), H', ⟨by have := HJ3.out; have := HJ8.out; first | omega | exact Nat.le_refl _⟩, ⟨by (with_reducible repeat (first | refine blk_drewN ?_ _ | refine blk_drew ?_ | refine blk_alloc ?_ _)); exact BK220.out⟩, ⟨by repeat (first | (with_reducible first | exact HB.out | apply below_alloc | apply pw_below_drewN | apply below_drew1 | refine below_set ?_ GE220.out) | exact HB.out)⟩⟩
       case rest =>
        clear HC32
        try clear c1
        try clear p2
        try clear c3
        try clear c4
        try clear c5
        try clear c5b0
        try clear c5b1
        try clear c6
        try clear c6b0
        try clear c6b1
        try clear c7
        try clear c13
        try clear c15
        try clear c30
        try clear c34
        try clear c34b0
        try clear c34b1
        try clear c35
        try clear c35b0
        try clear c35b1
        try clear c39
        try clear c40
        try clear c40b0
        try clear c40b1
        try clear hcz12_0
        try clear hcz12_1
        try clear hcz12_2
        try clear hcz12_3
        try clear hcz12_4
        try clear hcz17_0
        try clear hcz17_1
        try clear hcz17_2
        try clear hcz17_3
        try clear hcz17_4
        try clear hcz25_0
        try clear hcz25_1
        try clear hcz25_2
        try clear hcz25_3
        try clear hcz25_4
        try clear hfz12_0
        try clear hfz12_1
        try clear hfz12_2
        try clear hfz12_3
        try clear hfz12_4
        try clear hfz17_0
        try clear hfz17_1
        try clear hfz17_2
        try clear hfz17_3
        try clear hfz17_4
        try clear hfz25_0
        try clear hfz25_1
        try clear hfz25_2
        try clear hfz25_3
        try clear hfz25_4
        try clear p2
        obtain ⟨kq, x66_31, rfl, HA, HJ31, BK220, HB⟩ := hcut
        cases kq with
        | zero => exact absurd HA.out (by simp [laws_FnSemverSetOriginal.j2])
        | succ kj31 =>
         have H := HA.out
         clear HA
         simp only [laws_FnSemverSetOriginal.j2] at H
         by_cases c46 : x66_31 = true
         ·
          subst c46
          have H1 : (some (!t230)) = some r := by rw [if_pos rfl] at H; exact H
          clear H
          have H := H1
          clear H1
          obtain rfl := Option.some.inj H
          go_wp2
          go_ret
          exact ⟨by first | rfl | (simp [errW_none, errW_some] <;> rfl) | (simp [*, errW_none, errW_some] <;> rfl) | (simp [bneNil]; done), by repeat (first | (with_reducible first | exact HB.out | apply below_alloc | apply pw_below_drewN | apply below_drew1 | refine below_set ?_ GE220.out) | exact HB.out)⟩
         ·
          replace c46 := Bool.eq_false_iff.mpr c46
          subst c46
          have H1 : (if t230 = true then ((laws_smPrefix.f a0).bind fun t234 => ((laws_svPre.f t214 t215 t216 t217 t218 a1).bind fun bt235 => ((laws_svMeta.f bt235.1 bt235.2.1 bt235.2.2.1 bt235.2.2.2.1 bt235.2.2.2.2 a2).bind fun bt240 => ((spec_VersionText.f kj31 bt240.1 bt240.2.1 bt240.2.2.1 bt240.2.2.2.1 bt240.2.2.2.2).bind fun t245 => (if t234.size + t245.size ≤ 9223372036854775807 then (some (t229.toList == (t234 ++ t245).toList)) else (none)))))) else (some false)) = some r := by rw [if_neg (show ¬ (false = true) by decide)] at H; exact H
          clear H
          have H := H1
          clear H1
          by_cases c47 : t230 = true
          ·
           subst c47
           have H1 : ((laws_smPrefix.f a0).bind fun t234 => ((laws_svPre.f t214 t215 t216 t217 t218 a1).bind fun bt235 => ((laws_svMeta.f bt235.1 bt235.2.1 bt235.2.2.1 bt235.2.2.2.1 bt235.2.2.2.2 a2).bind fun bt240 => ((spec_VersionText.f kj31 bt240.1 bt240.2.1 bt240.2.2.1 bt240.2.2.2.1 bt240.2.2.2.2).bind fun t245 => (if t234.size + t245.size ≤ 9223372036854775807 then (some (t229.toList == (t234 ++ t245).toList)) else (none)))))) = some r := by rw [if_pos rfl] at H; exact H
           clear H
           have H := H1
           clear H1
           replace H := Option.bind_eq_some_iff.mp H
           obtain ⟨t234, A480, H⟩ := H
           replace H : ((laws_svPre.f t214 t215 t216 t217 t218 a1).bind fun bt235 => ((laws_svMeta.f bt235.1 bt235.2.1 bt235.2.2.1 bt235.2.2.2.1 bt235.2.2.2.2 a2).bind fun bt240 => ((spec_VersionText.f kj31 bt240.1 bt240.2.1 bt240.2.2.1 bt240.2.2.2.1 bt240.2.2.2.2).bind fun t245 => (if t234.size + t245.size ≤ 9223372036854775807 then (some (t229.toList == (t234 ++ t245).toList)) else (none))))) = some r := H
           have A48 := Aside0.mk A480
           clear A480
           replace H := Option.bind_eq_some_iff.mp H
           obtain ⟨⟨t235, t236, t237, t238, t239⟩, A490, H⟩ := H
           replace H : ((laws_svMeta.f t235 t236 t237 t238 t239 a2).bind fun bt240 => ((spec_VersionText.f kj31 bt240.1 bt240.2.1 bt240.2.2.1 bt240.2.2.2.1 bt240.2.2.2.2).bind fun t245 => (if t234.size + t245.size ≤ 9223372036854775807 then (some (t229.toList == (t234 ++ t245).toList)) else (none)))) = some r := H
           have A49 := Aside0.mk A490
           clear A490
           replace H := Option.bind_eq_some_iff.mp H
           obtain ⟨⟨t240, t241, t242, t243, t244⟩, A500, H⟩ := H
           replace H : ((spec_VersionText.f kj31 t240 t241 t242 t243 t244).bind fun t245 => (if t234.size + t245.size ≤ 9223372036854775807 then (some (t229.toList == (t234 ++ t245).toList)) else (none))) = some r := H
           have A50 := Aside0.mk A500
           clear A500
           replace H := Option.bind_eq_some_iff.mp H
           obtain ⟨t245, A510, H⟩ := H
           replace H : (if t234.size + t245.size ≤ 9223372036854775807 then (some (t229.toList == (t234 ++ t245).toList)) else (none)) = some r := H
           have A51 := Aside0.mk A510
           clear A510
           by_cases c52 : t234.size + t245.size ≤ 9223372036854775807
           ·
            rw [if_pos c52] at H
            have c52b0 := eq_true c52
            have c52b1 : decide (t234.size + t245.size ≤ 9223372036854775807) = true := decide_eq_true c52
            try have c52b2 : (9223372036854775807 < t234.size + t245.size) = False := eq_false (Nat.not_lt.2 c52)
            obtain rfl := Option.some.inj H
            try go_wp2
            have n0_ := Aside0.mk (blk_drew BK220.out)
            have n1_ := Aside0.mk (below_drew1 HB.out)
            clear BK220
            clear HB
            have BK220 := n0_
            have HB := n1_
            clear n0_ n1_
            refine start_ (n := 15) (S := fun w' => w'.cell? ⟨gb220, 0, none⟩ = some (.int .u64 t214) ∧ w'.cell? ⟨gb220, 1, none⟩ = some (.int .u64 t215) ∧ w'.cell? ⟨gb220, 2, none⟩ = some (.int .u64 t216) ∧ w'.cell? ⟨gb220, 3, none⟩ = some (.string t217) ∧ w'.cell? ⟨gb220, 4, none⟩ = some (.string t218)) (ds := []) #[false, false, false, false, false, false, false, false, false, false, false, false, false, false, false] (by kernel_rfl) rfl rfl ⟨(blk_cell BK220.out 0).trans rfl, (blk_cell BK220.out 1).trans rfl, (blk_cell BK220.out 2).trans rfl, (blk_cell BK220.out 3).trans rfl, (blk_cell BK220.out 4).trans rfl⟩ (fun hHeld => ?_); refine with_tabW laws_FnSemverSetOriginal.tab9 laws_FnSemverSetOriginal.bits9 (fun HT_ HW_ => ?_)
            generalize wc.drew = w53 at BK220 HB hHeld ⊢
            refine pure_ (i := 0) (N := some 69) (v := ?_) (a' := ?_) #[true, false, false, false, false, false, false, false, false, false, false, false, false, false, false] rfl rfl (any_of HT_.out (by kernel_rfl)) (fun _ _ _ h => h) (Or.inl ⟨by rfl, ?_⟩) ?_ ?_
            rotate_left
            ·
             intro w'
             go_simp
             with_reducible rfl
            rotate_left
            ·
             simp only [Act.put, List.setIfInBounds_toArray, List.set_cons_zero, List.set_cons_succ, i64_w, i32_w]
             rfl
            refine pure_ (i := 1) (N := some 70) (v := ?_) (a' := ?_) #[true, true, false, false, false, false, false, false, false, false, false, false, false, false, false] rfl rfl (any_of HT_.out (by kernel_rfl)) (fun _ _ _ h => h) (Or.inl ⟨by rfl, ?_⟩) ?_ ?_
            rotate_left
            ·
             intro w'
             go_simp
             with_reducible rfl
            rotate_left
            ·
             simp only [Act.put, List.setIfInBounds_toArray, List.set_cons_zero, List.set_cons_succ, i64_w, i32_w]
             rfl
            refine pure_ (i := 2) (N := some 71) (v := ?_) (a' := ?_) #[true, true, true, false, false, false, false, false, false, false, false, false, false, false, false] rfl rfl (any_of HT_.out (by kernel_rfl)) (fun _ _ _ h => h) (Or.inl ⟨by rfl, ?_⟩) ?_ ?_
            rotate_left
            ·
             intro w'
             go_simp
             with_reducible rfl
            rotate_left
            ·
             simp only [Act.put, List.setIfInBounds_toArray, List.set_cons_zero, List.set_cons_succ, i64_w, i32_w]
             rfl
            refine pure_ (i := 3) (N := some 72) (v := ?_) (a' := ?_) #[true, true, true, true, false, false, false, false, false, false, false, false, false, false, false] rfl rfl (any_of HT_.out (by kernel_rfl)) (fun _ _ _ h => h) (Or.inl ⟨by rfl, ?_⟩) ?_ ?_
            rotate_left
            ·
             intro w'
             go_simp
             with_reducible rfl
            rotate_left
            ·
             simp only [Act.put, List.setIfInBounds_toArray, List.set_cons_zero, List.set_cons_succ, i64_w, i32_w]
             rfl
            refine pure_ (i := 6) (N := some 75) (v := ?_) (a' := ?_) #[true, true, true, true, false, false, true, false, false, false, false, false, false, false, false] rfl rfl (any_of HT_.out (by kernel_rfl)) (fun _ _ _ h => h) (Or.inl ⟨by rfl, ?_⟩) ?_ ?_
            rotate_left
            ·
             intro w'
             go_simp
             with_reducible rfl
            rotate_left
            ·
             simp only [Act.put, List.setIfInBounds_toArray, List.set_cons_zero, List.set_cons_succ, i64_w, i32_w]
             rfl
            refine pure_ (i := 8) (N := some 77) (v := ?_) (a' := ?_) #[true, true, true, true, false, false, true, false, true, false, false, false, false, false, false] rfl rfl (any_of HT_.out (by kernel_rfl)) (fun _ _ _ h => h) (Or.inl ⟨by rfl, ?_⟩) ?_ ?_
            rotate_left
            ·
             intro w'
             go_simp
             with_reducible rfl
            rotate_left
            ·
             simp only [Act.put, List.setIfInBounds_toArray, List.set_cons_zero, List.set_cons_succ, i64_w, i32_w]
             rfl
            refine take_ (i := 5) (N := some 74) (v := ?_) (a' := ?_) #[true, true, true, true, false, true, true, false, true, false, false, false, false, false, false] rfl rfl (take_ofW HT_.out HW_.out (by kernel_rfl)) (fun _ _ _ h => h) (Or.inl ⟨by rfl, ?_⟩) hHeld ?_ ?_
            rotate_left
            ·
             rintro w' ⟨s0, s1, s2, s3, s4⟩
             go_simp
             with_reducible rfl
            rotate_left
            ·
             simp only [Act.put, List.setIfInBounds_toArray, List.set_cons_zero, List.set_cons_succ, i64_w, i32_w]
             rfl
            refine one_ (i := 4) (N := some 73) #[true, true, true, true, true, true, true, false, true, false, false, false, false, false, false] rfl rfl (one_of HT_.out (by kernel_rfl)) (by decide) (fun K hK => ?_)
            refine goes_ Tryz.func18 (by kernel_rfl) rfl #[.string a0] (by rfl) rfl rfl (by (try simp only [List.map_toArray, List.map_cons, List.map_nil]); first | done | rfl | (simp only [List.length_drop, List.length_take]; rfl)) ?_
            with_reducible refine (laws_smPrefix.calls a0 t234 _ A48.out).mono ?_
            rintro e w' ⟨rfl, ⟨nd, rfl⟩⟩
            refine ⟨_, rfl, ?_⟩
            refine hK.out _ _ ⟨(blk_cell BK220.out 0).trans rfl, (blk_cell BK220.out 1).trans rfl, (blk_cell BK220.out 2).trans rfl, (blk_cell BK220.out 3).trans rfl, (blk_cell BK220.out 4).trans rfl⟩ (fun hHeld => ?_)
            clear hK K
            refine norm_ (a' := ?_) ?_ ?_
            rotate_left
            ·
             show Act.put _ (some 73) _ = _
             simp only [Act.put, List.setIfInBounds_toArray, List.set_cons_zero, List.set_cons_succ, i64_w, i32_w]
             rfl
            refine one_ (i := 7) (N := some 76) #[true, true, true, true, true, true, true, true, true, false, false, false, false, false, false] rfl rfl (one_of HT_.out (by kernel_rfl)) (by decide) (fun K hK => ?_)
            refine goes_ Tryz.func21 (by kernel_rfl) rfl #[.agg #[.int .u64 t214, .int .u64 t215, .int .u64 t216, .string t217, .string t218], .string a1] (by rfl) rfl rfl (by (try simp only [List.map_toArray, List.map_cons, List.map_nil]); first | done | rfl | (simp only [List.length_drop, List.length_take]; rfl)) ?_
            with_reducible refine (laws_svPre.calls t214 t215 t216 t217 t218 a1 t235 t236 t237 t238 t239 _ A49.out).mono ?_
            rintro e w54 ⟨rfl, hb⟩
            refine ⟨_, rfl, ?_⟩
            have n0_ := Aside0.mk (blk_below (g := gb220) (o := .cells #[.int .u64 t214, .int .u64 t215, .int .u64 t216, .string t217, .string t218] 32 (0, 0)) (by (with_reducible repeat (first | refine blk_drewN ?_ _ | refine blk_drew ?_ | refine blk_alloc ?_ _)); exact BK220.out) hb)
            have n1_ := Aside0.mk (below_step (by repeat (first | (with_reducible first | exact HB.out | apply below_alloc | apply pw_below_drewN | apply below_drew1 | refine below_set ?_ GE220.out) | exact HB.out)) hb)
            clear BK220
            clear HB
            have BK220 := n0_
            have HB := n1_
            clear n0_ n1_
            (try clear hb)
            (try clear hb2)
            (try clear hk)
            (try clear hi)
            refine hK.out _ _ ⟨(blk_cell BK220.out 0).trans rfl, (blk_cell BK220.out 1).trans rfl, (blk_cell BK220.out 2).trans rfl, (blk_cell BK220.out 3).trans rfl, (blk_cell BK220.out 4).trans rfl⟩ (fun hHeld => ?_)
            clear hK K
            refine norm_ (a' := ?_) ?_ ?_
            rotate_left
            ·
             show Act.put _ (some 76) _ = _
             simp only [Act.put, List.setIfInBounds_toArray, List.set_cons_zero, List.set_cons_succ, i64_w, i32_w]
             rfl
            refine one_ (i := 9) (N := some 78) #[true, true, true, true, true, true, true, true, true, true, false, false, false, false, false] rfl rfl (one_of HT_.out (by kernel_rfl)) (by decide) (fun K hK => ?_)
            refine goes_ Tryz.func20 (by kernel_rfl) rfl #[.agg #[.int .u64 t235, .int .u64 t236, .int .u64 t237, .string t238, .string t239], .string a2] (by rfl) rfl rfl (by (try simp only [List.map_toArray, List.map_cons, List.map_nil]); first | done | rfl | (simp only [List.length_drop, List.length_take]; rfl)) ?_
            with_reducible refine (laws_svMeta.calls t235 t236 t237 t238 t239 a2 t240 t241 t242 t243 t244 _ A50.out).mono ?_
            rintro e w55 ⟨rfl, hb⟩
            refine ⟨_, rfl, ?_⟩
            have n0_ := Aside0.mk (blk_below (g := gb220) (o := .cells #[.int .u64 t214, .int .u64 t215, .int .u64 t216, .string t217, .string t218] 32 (0, 0)) (by (with_reducible repeat (first | refine blk_drewN ?_ _ | refine blk_drew ?_ | refine blk_alloc ?_ _)); exact BK220.out) hb)
            have n1_ := Aside0.mk (below_step (by repeat (first | (with_reducible first | exact HB.out | apply below_alloc | apply pw_below_drewN | apply below_drew1 | refine below_set ?_ GE220.out) | exact HB.out)) hb)
            clear BK220
            clear HB
            have BK220 := n0_
            have HB := n1_
            clear n0_ n1_
            (try clear hb)
            (try clear hb2)
            (try clear hk)
            (try clear hi)
            refine hK.out _ _ ⟨(blk_cell BK220.out 0).trans rfl, (blk_cell BK220.out 1).trans rfl, (blk_cell BK220.out 2).trans rfl, (blk_cell BK220.out 3).trans rfl, (blk_cell BK220.out 4).trans rfl⟩ (fun hHeld => ?_)
            clear hK K
            refine norm_ (a' := ?_) ?_ ?_
            rotate_left
            ·
             show Act.put _ (some 78) _ = _
             simp only [Act.put, List.setIfInBounds_toArray, List.set_cons_zero, List.set_cons_succ, i64_w, i32_w]
             rfl
            refine one_ (i := 10) (N := some 79) #[true, true, true, true, true, true, true, true, true, true, true, false, false, false, false] rfl rfl (one_of HT_.out (by kernel_rfl)) (by decide) (fun K hK => ?_)
            refine goes_ Tryz.func19 (by kernel_rfl) rfl #[.agg #[.int .u64 t240, .int .u64 t241, .int .u64 t242, .string t243, .string t244]] (by rfl) rfl rfl (by (try simp only [List.map_toArray, List.map_cons, List.map_nil]); first | done | rfl | (simp only [List.length_drop, List.length_take]; rfl)) ?_
            with_reducible refine (spec_VersionText.calls kj31 t240 t241 t242 t243 t244 t245 _ A51.out).mono ?_
            rintro e w56 ⟨rfl, hb⟩
            refine ⟨_, rfl, ?_⟩
            have n0_ := Aside0.mk (blk_below (g := gb220) (o := .cells #[.int .u64 t214, .int .u64 t215, .int .u64 t216, .string t217, .string t218] 32 (0, 0)) (by (with_reducible repeat (first | refine blk_drewN ?_ _ | refine blk_drew ?_ | refine blk_alloc ?_ _)); exact BK220.out) hb)
            have n1_ := Aside0.mk (below_step (by repeat (first | (with_reducible first | exact HB.out | apply below_alloc | apply pw_below_drewN | apply below_drew1 | refine below_set ?_ GE220.out) | exact HB.out)) hb)
            clear BK220
            clear HB
            have BK220 := n0_
            have HB := n1_
            clear n0_ n1_
            (try clear hb)
            (try clear hb2)
            (try clear hk)
            (try clear hi)
            refine hK.out _ _ ⟨(blk_cell BK220.out 0).trans rfl, (blk_cell BK220.out 1).trans rfl, (blk_cell BK220.out 2).trans rfl, (blk_cell BK220.out 3).trans rfl, (blk_cell BK220.out 4).trans rfl⟩ (fun hHeld => ?_)
            clear hK K
            refine norm_ (a' := ?_) ?_ ?_
            rotate_left
            ·
             show Act.put _ (some 79) _ = _
             simp only [Act.put, List.setIfInBounds_toArray, List.set_cons_zero, List.set_cons_succ, i64_w, i32_w]
             rfl
            refine pure_ (i := 11) (N := some 80) (v := ?_) (a' := ?_) #[true, true, true, true, true, true, true, true, true, true, true, true, false, false, false] rfl rfl (any_of HT_.out (by kernel_rfl)) (fun _ _ _ h => h) (Or.inl ⟨by rfl, ?_⟩) ?_ ?_
            rotate_left
            ·
             intro w'
             go_simp
             with_reducible rfl
            rotate_left
            ·
             simp only [Act.put, List.setIfInBounds_toArray, List.set_cons_zero, List.set_cons_succ, i64_w, i32_w]
             rfl
            refine pure_ (i := 12) (N := some 81) (v := ?_) (a' := ?_) #[true, true, true, true, true, true, true, true, true, true, true, true, true, false, false] rfl rfl (any_of HT_.out (by kernel_rfl)) (fun _ _ _ h => h) (Or.inl ⟨by rfl, ?_⟩) ?_ ?_
            rotate_left
            ·
             intro w'
             go_simp
             with_reducible rfl
            rotate_left
            ·
             simp only [Act.put, List.setIfInBounds_toArray, List.set_cons_zero, List.set_cons_succ, i64_w, i32_w]
             rfl
            refine pure_ (i := 13) (N := some 82) (v := ?_) (a' := ?_) #[true, true, true, true, true, true, true, true, true, true, true, true, true, true, false] rfl rfl (any_of HT_.out (by kernel_rfl)) (fun _ _ _ h => h) (Or.inl ⟨by rfl, ?_⟩) ?_ ?_
            rotate_left
            ·
             intro w'
             go_simp
             with_reducible rfl
            rotate_left
            ·
             simp only [Act.put, List.setIfInBounds_toArray, List.set_cons_zero, List.set_cons_succ, i64_w, i32_w]
             rfl
            refine pure_ (i := 14) (N := some 6) (v := ?_) (a' := ?_) #[true, true, true, true, true, true, true, true, true, true, true, true, true, true, true] rfl rfl (any_of HT_.out (by kernel_rfl)) (fun _ _ _ h => h) (Or.inl ⟨by rfl, ?_⟩) ?_ ?_
            rotate_left
            ·
             intro w'
             go_simp
             with_reducible rfl
            rotate_left
            ·
             simp only [Act.put, List.setIfInBounds_toArray, List.set_cons_zero, List.set_cons_succ, i64_w, i32_w]
             rfl
            refine done_ (done_of HT_.out (by kernel_rfl)) ?_
            try go_wp2
            go_ret
            exact ⟨by first | rfl | (simp [errW_none, errW_some] <;> rfl) | (simp [*, errW_none, errW_some] <;> rfl) | (simp [bneNil]; done), by repeat (first | (with_reducible first | exact HB.out | apply below_alloc | apply pw_below_drewN | apply below_drew1 | refine below_set ?_ GE220.out) | exact HB.out)⟩
           ·
            rw [if_neg c52] at H
            exact absurd H (by simp)
          ·
           replace c47 := Bool.eq_false_iff.mpr c47
           subst c47
           have H1 : (some false) = some r := by rw [if_neg (show ¬ (false = true) by decide)] at H; exact H
           clear H
           have H := H1
           clear H1
           obtain rfl := Option.some.inj H
           try go_wp2
           have n0_ := Aside0.mk (blk_drew BK220.out)
           have n1_ := Aside0.mk (below_drew1 HB.out)
           clear BK220
           clear HB
           have BK220 := n0_
           have HB := n1_
           clear n0_ n1_
           refine start_ (n := 15) (S := fun w' => True) (ds := []) #[false, false, false, false, false, false, false, false, false, false, false, false, false, false, false] (by kernel_rfl) rfl rfl trivial (fun hHeld => ?_); refine with_tabW laws_FnSemverSetOriginal.tab9 laws_FnSemverSetOriginal.bits9 (fun HT_ HW_ => ?_)
           generalize wc.drew = w57 at BK220 HB hHeld ⊢
           refine pure_ (i := 0) (N := some 69) (v := ?_) (a' := ?_) #[true, false, false, false, false, false, false, false, false, false, false, false, false, false, false] rfl rfl (any_of HT_.out (by kernel_rfl)) (fun _ _ _ h => h) (Or.inl ⟨by rfl, ?_⟩) ?_ ?_
           rotate_left
           ·
            intro w'
            go_simp
            with_reducible rfl
           rotate_left
           ·
            simp only [Act.put, List.setIfInBounds_toArray, List.set_cons_zero, List.set_cons_succ, i64_w, i32_w]
            rfl
           refine pure_ (i := 1) (N := some 70) (v := ?_) (a' := ?_) #[true, true, false, false, false, false, false, false, false, false, false, false, false, false, false] rfl rfl (any_of HT_.out (by kernel_rfl)) (fun _ _ _ h => h) (Or.inl ⟨by rfl, ?_⟩) ?_ ?_
           rotate_left
           ·
            intro w'
            go_simp
            with_reducible rfl
           rotate_left
           ·
            simp only [Act.put, List.setIfInBounds_toArray, List.set_cons_zero, List.set_cons_succ, i64_w, i32_w]
            rfl
           refine pure_ (i := 2) (N := some 71) (v := undef) (a' := ?_) #[true, true, true, false, false, false, false, false, false, false, false, false, false, false, false] rfl rfl (any_of HT_.out (by kernel_rfl)) (fun _ _ _ h => h) (Or.inr ⟨by rfl, rfl⟩) ?_ ?_
           rotate_left
           ·
            simp only [Act.put, List.setIfInBounds_toArray, List.set_cons_zero, List.set_cons_succ, i64_w, i32_w]
            rfl
           refine pure_ (i := 3) (N := some 72) (v := undef) (a' := ?_) #[true, true, true, true, false, false, false, false, false, false, false, false, false, false, false] rfl rfl (any_of HT_.out (by kernel_rfl)) (fun _ _ _ h => h) (Or.inr ⟨by rfl, rfl⟩) ?_ ?_
           rotate_left
           ·
            simp only [Act.put, List.setIfInBounds_toArray, List.set_cons_zero, List.set_cons_succ, i64_w, i32_w]
            rfl
           refine pure_ (i := 4) (N := some 73) (v := undef) (a' := ?_) #[true, true, true, true, true, false, false, false, false, false, false, false, false, false, false] rfl rfl (any_of HT_.out (by kernel_rfl)) (fun _ _ _ h => h) (Or.inr ⟨by rfl, rfl⟩) ?_ ?_
           rotate_left
           ·
            simp only [Act.put, List.setIfInBounds_toArray, List.set_cons_zero, List.set_cons_succ, i64_w, i32_w]
            rfl
           refine pure_ (i := 5) (N := some 74) (v := undef) (a' := ?_) #[true, true, true, true, true, true, false, false, false, false, false, false, false, false, false] rfl rfl (any_of HT_.out (by kernel_rfl)) (fun _ _ _ h => h) (Or.inr ⟨by rfl, rfl⟩) ?_ ?_
           rotate_left
           ·
            simp only [Act.put, List.setIfInBounds_toArray, List.set_cons_zero, List.set_cons_succ, i64_w, i32_w]
            rfl
           refine pure_ (i := 6) (N := some 75) (v := undef) (a' := ?_) #[true, true, true, true, true, true, true, false, false, false, false, false, false, false, false] rfl rfl (any_of HT_.out (by kernel_rfl)) (fun _ _ _ h => h) (Or.inr ⟨by rfl, rfl⟩) ?_ ?_
           rotate_left
           ·
            simp only [Act.put, List.setIfInBounds_toArray, List.set_cons_zero, List.set_cons_succ, i64_w, i32_w]
            rfl
           refine pure_ (i := 7) (N := some 76) (v := undef) (a' := ?_) #[true, true, true, true, true, true, true, true, false, false, false, false, false, false, false] rfl rfl (any_of HT_.out (by kernel_rfl)) (fun _ _ _ h => h) (Or.inr ⟨by rfl, rfl⟩) ?_ ?_
           rotate_left
           ·
            simp only [Act.put, List.setIfInBounds_toArray, List.set_cons_zero, List.set_cons_succ, i64_w, i32_w]
            rfl
           refine pure_ (i := 8) (N := some 77) (v := undef) (a' := ?_) #[true, true, true, true, true, true, true, true, true, false, false, false, false, false, false] rfl rfl (any_of HT_.out (by kernel_rfl)) (fun _ _ _ h => h) (Or.inr ⟨by rfl, rfl⟩) ?_ ?_
           rotate_left
           ·
            simp only [Act.put, List.setIfInBounds_toArray, List.set_cons_zero, List.set_cons_succ, i64_w, i32_w]
            rfl
           refine pure_ (i := 9) (N := some 78) (v := undef) (a' := ?_) #[true, true, true, true, true, true, true, true, true, true, false, false, false, false, false] rfl rfl (any_of HT_.out (by kernel_rfl)) (fun _ _ _ h => h) (Or.inr ⟨by rfl, rfl⟩) ?_ ?_
           rotate_left
           ·
            simp only [Act.put, List.setIfInBounds_toArray, List.set_cons_zero, List.set_cons_succ, i64_w, i32_w]
            rfl
           refine pure_ (i := 10) (N := some 79) (v := undef) (a' := ?_) #[true, true, true, true, true, true, true, true, true, true, true, false, false, false, false] rfl rfl (any_of HT_.out (by kernel_rfl)) (fun _ _ _ h => h) (Or.inr ⟨by rfl, rfl⟩) ?_ ?_
           rotate_left
           ·
            simp only [Act.put, List.setIfInBounds_toArray, List.set_cons_zero, List.set_cons_succ, i64_w, i32_w]
            rfl
           refine pure_ (i := 11) (N := some 80) (v := undef) (a' := ?_) #[true, true, true, true, true, true, true, true, true, true, true, true, false, false, false] rfl rfl (any_of HT_.out (by kernel_rfl)) (fun _ _ _ h => h) (Or.inr ⟨by rfl, rfl⟩) ?_ ?_
           rotate_left
           ·
            simp only [Act.put, List.setIfInBounds_toArray, List.set_cons_zero, List.set_cons_succ, i64_w, i32_w]
            rfl
           refine pure_ (i := 12) (N := some 81) (v := undef) (a' := ?_) #[true, true, true, true, true, true, true, true, true, true, true, true, true, false, false] rfl rfl (any_of HT_.out (by kernel_rfl)) (fun _ _ _ h => h) (Or.inr ⟨by rfl, rfl⟩) ?_ ?_
           rotate_left
           ·
            simp only [Act.put, List.setIfInBounds_toArray, List.set_cons_zero, List.set_cons_succ, i64_w, i32_w]
            rfl
           refine pure_ (i := 13) (N := some 82) (v := ?_) (a' := ?_) #[true, true, true, true, true, true, true, true, true, true, true, true, true, true, false] rfl rfl (any_of HT_.out (by kernel_rfl)) (fun _ _ _ h => h) (Or.inl ⟨by rfl, ?_⟩) ?_ ?_
           rotate_left
           ·
            intro w'
            go_simp
            with_reducible rfl
           rotate_left
           ·
            simp only [Act.put, List.setIfInBounds_toArray, List.set_cons_zero, List.set_cons_succ, i64_w, i32_w]
            rfl
           refine pure_ (i := 14) (N := some 6) (v := ?_) (a' := ?_) #[true, true, true, true, true, true, true, true, true, true, true, true, true, true, true] rfl rfl (any_of HT_.out (by kernel_rfl)) (fun _ _ _ h => h) (Or.inl ⟨by rfl, ?_⟩) ?_ ?_
           rotate_left
           ·
            intro w'
            go_simp
            with_reducible rfl
           rotate_left
           ·
            simp only [Act.put, List.setIfInBounds_toArray, List.set_cons_zero, List.set_cons_succ, i64_w, i32_w]
            rfl
           refine done_ (done_of HT_.out (by kernel_rfl)) ?_
           try go_wp2
           go_ret
           exact ⟨by first | rfl | (simp [errW_none, errW_some] <;> rfl) | (simp [*, errW_none, errW_some] <;> rfl) | (simp [bneNil]; done), by repeat (first | (with_reducible first | exact HB.out | apply below_alloc | apply pw_below_drewN | apply below_drew1 | refine below_set ?_ GE220.out) | exact HB.out)⟩

end Go.Proofs.YtjgedenoaocfjaaGreatDoor.PX
namespace Go.Proofs.YtjgedenoaocfjaaGreatDoor.PX

open Go Go.RowKit Go.Lib Go.Proofs Go.Proofs.YtjgedenoaocfjaaGreatDoor Go.Proofs.YtjgedenoaocfjaaGreatDoor.Rx Go.Proofs.YtjgedenoaocfjaaGreatDoor.L Go.Proofs.YtjgedenoaocfjaaGreatDoor.Bt Go.Proofs.YtjgedenoaocfjaaGreatDoor.KX Go.Proofs.YtjgedenoaocfjaaGreatDoor.Rxw Go.Proofs.YtjgedenoaocfjaaGreatDoor.Parse Go.Proofs.YtjgedenoaocfjaaGreatDoor.Num

open Go.Proofs.YtjgedenoaocfjaaGreatDoorW.PrintWords Go.Proofs.YtjgedenoaocfjaaGreatDoorW.PrintLast Go.Proofs.YtjgedenoaocfjaaGreatDoorW.PrintMore

theorem tOf_v (l : List UInt8) : ∃ v, (v = [] ∨ v = [118]) ∧ l = v ++ tOf l := by
  cases l with
  | nil => exact ⟨[], .inl rfl, rfl⟩
  | cons b u =>
    by_cases h : b = 118
    · refine ⟨[118], .inr rfl, ?_⟩
      show b :: u = [118] ++ (if b = 118 then u else b :: u)
      rw [if_pos h, h]; rfl
    · refine ⟨[], .inl rfl, ?_⟩
      show b :: u = (if b = 118 then u else b :: u)
      rw [if_neg h]

theorem loose_read {l : List UInt8} (h : (looseT (tOf l)).2.2.2.2.2 = true) : ∃ (x y z : Nat) (p m : List UInt8), looseT (tOf l) = ((x : Int), (y : Int), (z : Int), ofL p, ofL m, true) ∧ looseL l = some (x, y, z, p, m) ∧ asciiB l = true ∧ p.length ≤ l.length ∧ m.length ≤ l.length := by
  obtain ⟨x, y, z, a, bw, b, cw, c, pw, p, gw, m, h1, h2, ha, hb, hc, hbc, hp, hg⟩ := loose_good h
  obtain ⟨v, hv, hl⟩ := tOf_v l
  rw [h2] at hl
  refine ⟨x, y, z, p, m, h1, ?_, ?_, ?_, ?_⟩
  · have db : Dotted bw b := hb.elim (fun h => .inl ⟨h.1, h.2.1⟩) (fun h => .inr ⟨h.1, all_dig h.2⟩)
    have dc : Dotted cw c := hc.elim (fun h => .inl ⟨h.1, h.2.1⟩) (fun h => .inr ⟨h.1, all_dig h.2⟩)
    have hr := ver_of (m := l.length) hv (all_dig ha) db dc hbc hp.tail hg (by rw [hl]; simp; omega)
    rw [← hl] at hr
    unfold looseL
    rw [hr]
    have nb : numD bw = some y := by
      rcases hb with ⟨rfl, _, rfl⟩ | ⟨rfl, h⟩
      · rfl
      · exact h
    have nc : numD cw = some z := by
      rcases hc with ⟨rfl, _, rfl⟩ | ⟨rfl, h⟩
      · rfl
      · exact h
    dsimp only
    rw [ha, nb, nc]
    dsimp only
    rw [if_pos]
    refine ⟨?_, ?_⟩
    · rcases hp with ⟨_, rfl⟩ | ⟨_, h⟩
      · exact .inl rfl
      · exact .inr h
    · rcases hg with ⟨_, rfl⟩ | ⟨_, h⟩
      · exact .inl rfl
      · exact .inr h
  · rw [hl]
    refine List.all_eq_true.2 fun q hq => decide_eq_true ?_
    simp only [List.mem_append] at hq
    rcases hq with h | h | h | h | h | h
    · rcases hv with rfl | rfl
      · cases h
      · simp at h; rw [h]; decide
    · exact num_low ha q h
    · rcases hb with ⟨rfl, _⟩ | ⟨rfl, hn⟩
      · cases h
      · rcases List.mem_cons.1 h with e | e
        · rw [e]; decide
        · exact num_low hn q e
    · rcases hc with ⟨rfl, _⟩ | ⟨rfl, hn⟩
      · cases h
      · rcases List.mem_cons.1 h with e | e
        · rw [e]; decide
        · exact num_low hn q e
    · exact tail_low (by decide) hp.tail q h
    · exact tail_low (by decide) hg q h
  · have h1 : p.length ≤ pw.length := by rcases hp with ⟨rfl, rfl⟩ | ⟨rfl, _⟩ <;> simp
    rw [hl]; simp only [List.length_append]; omega
  · have h2 : m.length ≤ gw.length := by rcases hg with ⟨rfl, rfl⟩ | ⟨rfl, _⟩ <;> simp
    rw [hl]; simp only [List.length_append]; omega

theorem smPre_f (s : ByteArray) : laws_smPrefix.f s = some (ofL (vPre (bl s))) := by
  unfold laws_smPrefix.f
  rw [toList_bl]
  cases e : bl s with
  | nil => rw [if_pos rfl]; rfl
  | cons b u =>
    have hsz : s.size = u.length + 1 := by rw [← bl_len, e]; rfl
    have h0 : bt s ((0 : Nat) : Int) = _ := bt_bl s 0 (by omega)
    have e0 : (bl s)[0]'(by rw [bl_len]; omega) = b := by simp [e]
    rw [e0] at h0
    rw [if_neg (by simp), if_pos (by omega), show bt s 0 = (b.toNat : Int) from h0]
    have hv : vPre (b :: u) = if b = 118 then [118] else [] := rfl
    rw [hv]
    by_cases hb : b = 118
    · rw [if_pos (by rw [hb]; rfl), if_pos hb]; rfl
    · rw [if_neg (fun h => hb (UInt8.toNat_inj.1 (by show b.toNat = 118; omega))), if_neg hb]; rfl

theorem pure_SetOriginal (a0 a1 a2 : ByteArray) : ∃ k, laws_FnSemverSetOriginal.f k a0 a1 a2 = some true := by
  obtain ⟨K, hK⟩ : ∃ K : Nat, 200000 ≤ K := ⟨200000, Nat.le_refl _⟩
  refine ⟨K + 3, ?_⟩
  have j0t : laws_FnSemverSetOriginal.j0 (K + 3) a0 a1 a2 true = some true := by simp only [laws_FnSemverSetOriginal.j0]; rw [if_pos (by first | rfl | trivial)]
  have j1t : ∀ a b c p m, laws_FnSemverSetOriginal.j1 (K + 2) a0 a1 a2 true a b c p m = some true := fun a b c p m => by simp only [laws_FnSemverSetOriginal.j1]; rw [if_pos (by first | rfl | trivial)]
  unfold laws_FnSemverSetOriginal.f
  by_cases s0 : (a0.size : Int) > 2147483647
  · rw [if_pos s0]; exact j0t
  rw [if_neg s0]
  by_cases s1 : (a1.size : Int) > 2147483647
  · rw [if_pos s1]; exact j0t
  rw [if_neg s1]
  by_cases s2 : (a2.size : Int) > 2147483647
  · rw [decide_eq_true s2]; exact j0t
  rw [decide_eq_false s2]
  simp only [laws_FnSemverSetOriginal.j0]
  rw [if_neg (by decide)]
  by_cases hsz : (a0.size : Int) > 256
  · unfold spec_LooseVersion.f
    rw [if_pos hsz, Option.bind_some]
    dsimp only
    rw [if_neg (by decide)]
    exact j1t _ _ _ _ _
  rw [loose_f a0 (by omega) (K + 2) (by omega), Option.bind_some]
  cases hgood : (looseT (tOf (bl a0))).2.2.2.2.2 with
  | false =>
    rw [if_neg (by decide)]
    exact j1t _ _ _ _ _
  | true =>
  obtain ⟨x, y, z, p, m, hT, hL, hA, hp, hm⟩ := loose_read hgood
  have hz : (bl a0).length ≤ 256 := by rw [bl_len]; omega
  rw [hT]
  dsimp only
  rw [if_pos (by first | rfl | trivial), svGood_k _ (by simp) (K + 2) (by simp; omega), Option.bind_some]
  cases List.all [(⟨(x : Int), (y : Int), (z : Int), ofL p, ofL m⟩ : S32)] goodS with
  | false =>
    rw [if_neg (by decide)]
    exact j1t _ _ _ _ _
  | true =>
  rw [if_pos rfl, show K + 2 = (K - 1) + 3 by omega, short_two_f, Option.bind_some, show K - 1 + 3 = K + 2 by omega]
  by_cases h1 : ¬ a1.size ≤ 65536
  · rw [decide_eq_false h1]
    exact j1t _ _ _ _ _
  replace h1 := Decidable.not_not.1 h1
  by_cases h2 : ¬ a2.size ≤ 65536
  · rw [decide_eq_false h2, Bool.and_false]
    exact j1t _ _ _ _ _
  replace h2 := Decidable.not_not.1 h2
  rw [decide_eq_true h1, decide_eq_true h2]
  simp only [laws_FnSemverSetOriginal.j1, Bool.and_self, Bool.not_true]
  rw [if_neg (by decide)]
  have hS : impl_SetOriginal.f a0 a1 a2 = (if bl a1 ≠ [] ∧ preOk (bl a1) = false then some (⟨#[]⟩, false) else if bl a2 ≠ [] ∧ metaOk (bl a2) = false then some (⟨#[]⟩, false)
        else some (ofL (vPre (bl a0) ++ verText x y z (bl a1) (bl a2)), true)) := by
    unfold impl_SetOriginal.f
    rw [if_pos ⟨⟨by omega, hA⟩, h1, h2⟩, hL]
    dsimp only
    rw [if_pos (by omega)]
  have j2t : ∀ o a b c p m, laws_FnSemverSetOriginal.j2 (K + 1) a0 a1 a2 o false true a b c p m = some true := fun o a b c p m => by simp only [laws_FnSemverSetOriginal.j2]; rw [if_pos (by first | rfl | trivial)]; rfl
  rw [toList_bl, toList_bl, hS]
  have hv : spec_ValidPre.f (K + 1) a1 = some (preOk (bl a1)) := validPre_f a1 (by omega) _ (by omega)
  have hw : spec_ValidMeta.f (K + 1) a2 = some (metaOk (bl a2)) := specMeta_f a2 (by omega) _ (by omega)
  rw [hv, hw]
  simp only [Option.bind_some]
  have j2g : laws_FnSemverSetOriginal.j2 (K + 1) a0 a1 a2 (ofL (vPre (bl a0) ++ verText x y z (bl a1) (bl a2))) true false (x : Int) (y : Int) (z : Int) (ofL p) (ofL m) = some true := by
    have ht := loose_top hL
    simp only [laws_FnSemverSetOriginal.j2]
    rw [if_neg (by decide), if_pos (by first | rfl | trivial), smPre_f, Option.bind_some]
    unfold laws_svPre.f laws_svMeta.f
    simp only [Option.bind_some]
    rw [vtext_f x y z a1 a2 ht.1 ht.2.1 ht.2.2 (by omega) (by omega) K (by omega), Option.bind_some]
    have l1 := text_len x y z (bl a1) (bl a2) ht.1 ht.2.1 ht.2.2
    have l2 := vPre_len (bl a0)
    rw [bl_len, bl_len] at l1
    rw [if_pos (by rw [size_ofL, size_ofL]; omega), app_ofL, bl_ofL, beq_self_eq_true]
  by_cases e1 : bl a1 = []
  · rw [if_neg (fun h => h.1 e1)]
    by_cases e2 : bl a2 = []
    · rw [if_neg (fun h => h.1 e2), Option.bind_some, if_pos e1, if_pos e2]
      exact j2g
    · cases hq : metaOk (bl a2) with
      | true =>
        rw [if_neg (fun h => by cases h.2), Option.bind_some, if_pos e1, if_neg e2]
        exact j2g
      | false =>
        rw [if_pos ⟨e2, rfl⟩, Option.bind_some, if_pos e1, if_neg e2]
        exact j2t _ _ _ _ _ _
  · cases hr : preOk (bl a1) with
    | false =>
      rw [if_pos ⟨e1, rfl⟩, Option.bind_some, if_neg e1, if_neg (by decide)]
      exact j2t _ _ _ _ _ _
    | true =>
      rw [if_neg (fun h => by cases h.2)]
      by_cases e2 : bl a2 = []
      · rw [if_neg (fun h => h.1 e2), Option.bind_some, if_neg e1, if_pos (by first | rfl | trivial), if_pos e2]
        exact j2g
      · cases hq : metaOk (bl a2) with
        | true =>
          rw [if_neg (fun h => by cases h.2), Option.bind_some, if_neg e1, if_pos (by first | rfl | trivial), if_neg e2]
          exact j2g
        | false =>
          rw [if_pos ⟨e2, rfl⟩, Option.bind_some, if_neg e1, if_pos (by first | rfl | trivial), if_neg e2]
          exact j2t _ _ _ _ _ _

end Go.Proofs.YtjgedenoaocfjaaGreatDoor.PX
