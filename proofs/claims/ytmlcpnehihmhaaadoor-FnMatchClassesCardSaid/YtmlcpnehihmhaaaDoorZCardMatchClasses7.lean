/- The row and the tied card of FnMatchClasses, out of its printed walk and its plain law. For every input that the statement lets in. -/
import Derived.Test.YtmlcpnehihmhaaaDoorZCardMatchClasses1
import Derived.Test.YtmlcpnehihmhaaaDoorZCardMatchClasses6
import Derived.Test.YtmlcpnehihmhaaaDoorProg
import Derived.LoopTactic
import Derived.Deep.RegionWith
import Derived.RegionTactic
import Derived.Deep.RegionHeld3
namespace Go.Proofs.YtmlcpnehihmhaaaDoor.Base
end Go.Proofs.YtmlcpnehihmhaaaDoor.Base
namespace Go.Proofs.YtmlcpnehihmhaaaDoor.Bt
end Go.Proofs.YtmlcpnehihmhaaaDoor.Bt
namespace Go.Proofs.YtmlcpnehihmhaaaDoor.L
end Go.Proofs.YtmlcpnehihmhaaaDoor.L
namespace Go.Proofs.YtmlcpnehihmhaaaDoor.Mt

open Go Go.RowKit Go.Lib Go.Proofs Go.Proofs.YtmlcpnehihmhaaaDoor Go.Proofs.YtmlcpnehihmhaaaDoor.Base Go.Proofs.YtmlcpnehihmhaaaDoor.L Go.Proofs.YtmlcpnehihmhaaaDoor.Bt

open Go.Proofs.YtmlcpnehihmhaaaDoorW.PrintWords Go.Proofs.YtmlcpnehihmhaaaDoorW.PrintLast Go.Proofs.YtmlcpnehihmhaaaDoorW.PrintMore

attribute [local go_sem] setCell_drewN alloc_drewN

set_option linter.unusedVariables false

theorem head_of (s : ByteArray) (a : UInt8) (r : List UInt8) (h : bl s = a :: r) : ∃ p : 0 < s.size, s[0] = a := by
  have hz : 0 < s.size := by rw [← bl_len, h]; exact Nat.succ_pos _
  exact ⟨hz, by have := head_bl s hz; rw [h] at this; exact this.symm⟩

theorem tail_of (s : ByteArray) (a : UInt8) (r : List UInt8) (h : bl s = a :: r) : s.extract 1 s.size = ofL r ∧ s.size = r.length + 1 := by
  refine ⟨by rw [extract_end, h]; rfl, by rw [← bl_len, h]; rfl⟩

theorem isL {l : List UInt8} (h : ¬ l = []) : (l = []) = False ∧ l.isEmpty = false ∧ (!l.isEmpty) = true := by
  cases l with
  | nil => exact absurd rfl h
  | cons a b => exact ⟨eq_false h, rfl, rfl⟩

set_option maxHeartbeats 2000000 in
theorem drW (s : ByteArray) (a : UInt8) (r : List UInt8) (h : bl s = a :: r) (ha : a.toNat < 128) (w : World) :
    Calls Tryd.prog 19 #[.string s] w fun e w' => e = .returned (.tuple #[.int .i32 (a.toNat : Int), .int .i64 1]) ∧ w = w' := by
  obtain ⟨hz, h0⟩ := head_of s a r h
  obtain ⟨n1, n2, n3⟩ := isL (show ¬ s.toList = [] by rw [ByteArray.toList_eq]; show ¬ bl s = []; rw [h]; simp)
  have q1 : ((s[0].toNat : Int)) < 128 := by rw [h0]; omega
  have q2 : decide ((s[0].toNat : Int) < 128) = true := decide_eq_true q1
  have q3 : 0 ≤ (s[0].toNat : Int) := by omega
  rw [← h0]
  clear h h0 ha
  go_enter Tryd.func19, Tryd.ntmps19
  go_wp2
  go_ret2
  exact ⟨rfl, rfl⟩

set_option maxHeartbeats 2000000 in
theorem escW (c : ByteArray) (a : UInt8) (r : List UInt8) (h : bl c = 92 :: a :: r) (ha : a.toNat < 128) (hr : r ≠ []) (w : World) :
    Calls Tryd.prog 20 #[.string c] w fun e w' => e = .returned (.tuple #[.int .i32 (a.toNat : Int), .string (ofL r), .nilIface]) ∧ w = w' := by
  obtain ⟨hz, h0⟩ := head_of c 92 _ h
  obtain ⟨t1, z1⟩ := tail_of c 92 _ h
  have C := Lib.hid (fun W => drW (c.extract 1 c.size) a r (by rw [t1]; rfl) ha W)
  obtain ⟨t2, z2⟩ := tail_of (c.extract 1 c.size) a r (by rw [t1]; rfl)
  have z3 : (c.extract 1 c.size).size = c.size - 1 := by rw [ByteArray.size_extract]; omega
  have hl : 0 < r.length := List.length_pos_iff.2 hr
  have p0 : (c[0].toNat : Int) = 92 := by rw [h0]; rfl
  have e1 : (c = ByteArray.empty) = False := eq_false (fun q => by rw [q] at z1; simp at z1)
  have e2 : ((c.size : Int) == 0) = false := beq_eq_false_iff_ne.2 (by omega)
  have p1 : decide (1 < c.size) = true := decide_eq_true (by rw [z1]; simp)
  have p2 : 1 ≤ c.size := by omega
  have p3 : 2 < c.size := by rw [z1]; simp; omega
  have T2 := Lib.hid t2
  rw [z3] at T2
  have q : ((a.toNat : Int) == 65533) = false := beq_eq_false_iff_ne.2 (by omega)
  have q' : (((a.toNat : Int)) = 65533) = False := eq_false (by omega)
  clear h h0 t1 z1 t2 z2 z3 hl
  go_enter Tryd.func20, Tryd.ntmps20
  go_wp2_with (go_at_call 19; (with_reducible refine (C.out _).mono ?_); rintro e w1 ⟨rfl, rfl⟩)
  exact bodyPost_ret (v := .tuple #[.int .i32 (a.toNat : Int), .string ((c.extract 1 c.size).extract 1 (c.size - 1)), .nilIface]) (by simp [results, Tryd.results20, go_sem]) rfl ⟨by rw [T2.out], rfl⟩

end Go.Proofs.YtmlcpnehihmhaaaDoor.Mt
namespace Go.Proofs.YtmlcpnehihmhaaaDoor.Mt

open Go Go.RowKit Go.Lib Go.Proofs Go.Proofs.YtmlcpnehihmhaaaDoor Go.Proofs.YtmlcpnehihmhaaaDoor.Base Go.Proofs.YtmlcpnehihmhaaaDoor.L Go.Proofs.YtmlcpnehihmhaaaDoor.Bt

open Go.Proofs.YtmlcpnehihmhaaaDoorW.PrintWords Go.Proofs.YtmlcpnehihmhaaaDoorW.PrintLast Go.Proofs.YtmlcpnehihmhaaaDoorW.PrintMore

attribute [local go_sem] setCell_drewN alloc_drewN

set_option linter.unusedVariables false

abbrev Rg := UInt8 × UInt8

/-- The ranges of a class, each end escaped, and the closing bracket. -/
def enc : List Rg → List UInt8
  | [] => [93]
  | (a, b) :: r => 92 :: a :: 45 :: 92 :: b :: enc r

def inR (x : UInt8) (p : Rg) : Bool := decide (p.1.toNat ≤ x.toNat) && decide (x.toNat ≤ p.2.toNat)

theorem enc_ne (L : List Rg) : enc L ≠ [] := by cases L <;> simp [enc]

structure Hd (c : ByteArray) (a : UInt8) (r : List UInt8) : Prop where
  e : bl c = a :: r

theorem Hd.pos {c : ByteArray} {a : UInt8} {r : List UInt8} (h : Hd c a r) : 0 < c.size := (head_of c a r h.e).1

theorem Hd.get {c : ByteArray} {a : UInt8} {r : List UInt8} (h : Hd c a r) : (c[0]'h.pos).toNat = a.toNat := by
  obtain ⟨p, q⟩ := head_of c a r h.e
  rw [q]

theorem Hd.ne {c : ByteArray} {a : UInt8} {r : List UInt8} (h : Hd c a r) : (c = ByteArray.empty) = False := eq_false (fun q => by have := h.pos; rw [q] at this; simp at this)

theorem Hd.tail {c : ByteArray} {a : UInt8} {r : List UInt8} (h : Hd c a r) : c.extract 1 c.size = ofL r := (tail_of c a r h.e).1

set_option maxHeartbeats 8000000 in
set_option maxRecDepth 100000 in
theorem chunkW (L : List Rg) (x : UInt8) (xs : List UInt8) (hx : x.toNat < 128) (hL : L ≠ []) (hln : L.length ≤ 1000) (hA : ∀ p ∈ L, p.1.toNat < 128 ∧ p.2.toNat < 128) (c s : ByteArray) (hc : bl c = 91 :: enc L) (hs : bl s = x :: xs) (w : World) :
  Calls Tryd.prog 18 #[.string c, .string s] w fun e w' => e = .returned (.tuple #[.string (if L.any (inR x) then ofL xs else ⟨#[]⟩), .bool (L.any (inR x)), .nilIface]) ∧ w = w' := by
 obtain ⟨R, hR⟩ : ∃ R, L.any (inR x) = R := ⟨_, rfl⟩
 rw [hR]
 obtain ⟨s1, hs1⟩ : ∃ s1, ofL xs = s1 := ⟨_, rfl⟩
 rw [hs1]
 have HR := Lib.hid hR
 have HA := Lib.hid hA
 have hdc : Hd c 91 (enc L) := ⟨hc⟩
 have hds : Hd s x xs := ⟨hs⟩
 have DS := Lib.hid (fun W => drW s x xs hs hx W)
 have TS := Lib.hid (hds.tail.trans hs1)
 obtain ⟨c0, hc0⟩ : ∃ c0, c0 = c.extract 1 c.size := ⟨_, rfl⟩
 have HC0 := Lib.hid (show bl c0 = enc L by rw [hc0, hdc.tail]; rfl)
 have p1 := hdc.pos
 have p2 : (c[0].toNat : Int) = 91 := by rw [hdc.get]; rfl
 have p3 := hdc.ne
 have p4 := hds.pos
 have p5 := hds.ne
 have p6 : decide (0 < c.size) = true := decide_eq_true p1
 have p7 : 1 ≤ c.size := p1
 have p8 : 1 ≤ s.size := p4
 have p9 : ((s.size : Int) == 0) = false := beq_eq_false_iff_ne.2 (by omega)
 clear hR hA hdc hds hc hs hs1
 go_enter Tryd.func18, Tryd.ntmps18
 go_wp2_with fail
 refine wp_loop_rounds 4 ?_
 rw [rounds_succ]
 go_upto_region 13 with (go_at_call 19; (with_reducible refine (DS.out _).mono ?_); rintro e w1 ⟨rfl, rfl⟩)
 rw [TS.out]
 clear DS TS p4 p5 p8 p9
 go_upto_region 14 with fail
 rw [← hc0]
 clear hc0 p1 p2 p3 p6 p7
 obtain ⟨L0, hL0⟩ : ∃ L0, L0 = L := ⟨_, rfl⟩
 obtain ⟨q0, hh⟩ : ∃ q0 : List UInt8, Hd c0 92 q0 := by
  cases L with
  | nil => exact absurd rfl hL
  | cons p r => exact ⟨_, ⟨HC0.out⟩⟩
 have p1 := hh.pos
 have p2 : (c0[0].toNat : Int) = 92 := by rw [hh.get]; rfl
 have p3 := hh.ne
 have p6 : decide (0 < c0.size) = true := decide_eq_true p1
 have HL := Lib.hid hL
 clear hh hL hL0
 go_upto_region 19 with fail
 clear p1 p2 p3 p6
 go_wp2_with fail
 go_loop [0, 11, 12] (fun v m n => ∃ (cc : ByteArray) (l : List Rg) (mb : Bool) (k : Nat), v = .string cc ∧ m = .bool mb ∧ n = .int .i64 (k : Int) ∧ Hid (bl cc = enc l) ∧ Hid ((mb || l.any (inR x)) = R) ∧ k + l.length = L.length ∧ Hid (∀ p ∈ l, p.1.toNat < 128 ∧ p.2.toNat < 128)) (fun v _ n => L.length - (intOf n).toNat)
 case atStart => exact ⟨c0, L, false, 0, rfl, rfl, rfl, HC0, Lib.hid (by rw [HR.out]; rfl), by omega, HA⟩
 case round =>
  obtain ⟨cc, l, mb, k, rfl, rfl, rfl, HC, HM, hk, HP⟩ := hrel
  clear HR HA HC0
  cases l with
  | nil =>
   have hh : Hd cc 93 [] := ⟨HC.out⟩
   have p1 := hh.pos
   have p2 : (cc[0].toNat : Int) = 93 := by rw [hh.get]; rfl
   have p3 := hh.ne
   have p6 : decide (0 < cc.size) = true := decide_eq_true p1
   have p7 : 1 ≤ cc.size := p1
   have p8 : decide (0 < (k : Int)) = true := decide_eq_true (by
    have : 0 < L.length := List.length_pos_iff.2 HL.out
    simp at hk; omega)
   have p9 : decide (0 < k) = true := by simpa using p8
   have TC : cc.extract 1 cc.size = ByteArray.empty := by rw [hh.tail]; rfl
   have HM1 := Lib.hid (show mb = R by have := HM.out; simpa using this)
   clear hh HC HM HP hk
   obtain rfl := HM1.out
   clear HM1
   cases mb with
   | true =>
    go_wp2_with fail
    rw [rounds_succ]
    go_wp2_with fail
    exact bodyPost_ret (v := .tuple #[.string s1, .bool true, .nilIface]) (by simp [results, Tryd.results18, go_sem]) rfl ⟨rfl, rfl⟩
   | false =>
    go_wp2_with fail
    rw [rounds_succ]
    go_wp2_with fail
    exact bodyPost_ret (v := .tuple #[.string ⟨#[]⟩, .bool false, .nilIface]) (by simp [results, Tryd.results18, go_sem]) rfl ⟨rfl, rfl⟩
  | cons p r =>
   obtain ⟨a, b⟩ := p
   have ha : a.toNat < 128 ∧ b.toNat < 128 := HP.out (a, b) (by simp)
   have hr : ∀ q ∈ r, q.1.toNat < 128 ∧ q.2.toNat < 128 := fun q hq => HP.out q (List.mem_cons_of_mem _ hq)
   have hh : Hd cc 92 (a :: 45 :: 92 :: b :: enc r) := ⟨HC.out⟩
   obtain ⟨c1, hc1⟩ : ∃ c1, c1 = ofL (45 :: 92 :: b :: enc r) := ⟨_, rfl⟩
   have h1 : Hd c1 45 (92 :: b :: enc r) := ⟨by rw [hc1]; rfl⟩
   obtain ⟨c2, hc2⟩ : ∃ c2, c2 = c1.extract 1 c1.size := ⟨_, rfl⟩
   have e2 : bl c2 = 92 :: b :: enc r := by rw [hc2, h1.tail]; rfl
   obtain ⟨c3, hc3⟩ : ∃ c3, c3 = ofL (enc r) := ⟨_, rfl⟩
   have HC3 := Lib.hid (show bl c3 = enc r by rw [hc3]; rfl)
   have C1 := Lib.hid (fun W => escW cc a (45 :: 92 :: b :: enc r) HC.out ha.1 (by simp) W)
   rw [← hc1] at C1
   have C2 := Lib.hid (fun W => escW c2 b (enc r) e2 ha.2 (enc_ne r) W)
   rw [← hc3] at C2
   rw [hc2] at C2
   have p1 := hh.pos
   have p2 : (cc[0].toNat : Int) = 92 := by rw [hh.get]; rfl
   have p3 := hh.ne
   have p6 : decide (0 < cc.size) = true := decide_eq_true p1
   have g1 := h1.pos
   have g2 : (c1[0].toNat : Int) = 45 := by rw [h1.get]; rfl
   have g3 : 1 ≤ c1.size := g1
   have hk2 : k + 1 + r.length = L.length := by simp at hk; omega
   have HP2 := Lib.hid (show ∀ p ∈ r, p.1.toNat < 128 ∧ p.2.toNat < 128 from hr)
   have HM2 := Lib.hid (show ((mb || inR x (a, b)) || r.any (inR x)) = R by have := HM.out; rw [List.any_cons] at this; rw [← this]; cases mb <;> simp)
   rw [show inR x (a, b) = (decide (a.toNat ≤ x.toNat) && decide (x.toNat ≤ b.toNat)) from rfl] at HM2
   have q1 : 0 ≤ (a.toNat : Int) := by omega
   have q2 : (a.toNat : Int) ≤ 127 := by omega
   have q3 : 0 ≤ (b.toNat : Int) := by omega
   have q4 : (b.toNat : Int) ≤ 127 := by omega
   clear hh h1 hc1 hc2 e2 hc3 HC HP hk hr ha HM HL
   cases d1 : decide (a.toNat ≤ x.toNat)
   all_goals (cases d2 : decide (x.toNat ≤ b.toNat))
   all_goals (rw [d1, d2] at HM2)
   all_goals (cases mb)
   all_goals (go_wp2_with (first
    | (go_at_call 20; (with_reducible refine (C1.out _).mono ?_); rintro e w1 ⟨rfl, rfl⟩)
    | (go_at_call 20; (with_reducible refine (C2.out _).mono ?_); rintro e w1 ⟨rfl, rfl⟩)))
   all_goals (
    go_round
    case rel => exact ⟨c3, r, _, k + 1, rfl, rfl, by go_num, HC3, HM2, hk2, HP2⟩
    case measure => simp [intOf]; omega)

end Go.Proofs.YtmlcpnehihmhaaaDoor.Mt
