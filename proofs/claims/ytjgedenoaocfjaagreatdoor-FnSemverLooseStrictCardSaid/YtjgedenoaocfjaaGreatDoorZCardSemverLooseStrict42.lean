/- The row and the tied card of FnSemverLooseStrict, out of its printed walk and its plain law. For every input that the statement lets in. -/
import Derived.Test.YtjgedenoaocfjaaGreatDoorZCardSemverLooseStrict9
import Derived.Test.YtjgedenoaocfjaaGreatDoorZCardSemverLooseStrict13
import Derived.Test.YtjgedenoaocfjaaGreatDoorZCardSemverLooseStrict16
import Derived.Test.YtjgedenoaocfjaaGreatDoorZCardSemverLooseStrict20
import Derived.Test.YtjgedenoaocfjaaGreatDoorZCardSemverLooseStrict23
import Derived.Test.YtjgedenoaocfjaaGreatDoorZCardSemverLooseStrict26
import Derived.Test.YtjgedenoaocfjaaGreatDoorZCardSemverLooseStrict28
import Derived.Test.YtjgedenoaocfjaaGreatDoorZCardSemverLooseStrict34
import Derived.Test.YtjgedenoaocfjaaGreatDoorZCardSemverLooseStrict41
namespace Go.Proofs.YtjgedenoaocfjaaGreatDoor.Base
end Go.Proofs.YtjgedenoaocfjaaGreatDoor.Base
namespace Go.Proofs.YtjgedenoaocfjaaGreatDoor.Bt
end Go.Proofs.YtjgedenoaocfjaaGreatDoor.Bt
namespace Go.Proofs.YtjgedenoaocfjaaGreatDoor.KX
end Go.Proofs.YtjgedenoaocfjaaGreatDoor.KX
namespace Go.Proofs.YtjgedenoaocfjaaGreatDoor.L
end Go.Proofs.YtjgedenoaocfjaaGreatDoor.L
namespace Go.Proofs.YtjgedenoaocfjaaGreatDoor.MetaX
end Go.Proofs.YtjgedenoaocfjaaGreatDoor.MetaX
namespace Go.Proofs.YtjgedenoaocfjaaGreatDoor.Num
end Go.Proofs.YtjgedenoaocfjaaGreatDoor.Num
namespace Go.Proofs.YtjgedenoaocfjaaGreatDoor.PX
end Go.Proofs.YtjgedenoaocfjaaGreatDoor.PX
namespace Go.Proofs.YtjgedenoaocfjaaGreatDoor.Parse
end Go.Proofs.YtjgedenoaocfjaaGreatDoor.Parse
namespace Go.Proofs.YtjgedenoaocfjaaGreatDoor.Rx
end Go.Proofs.YtjgedenoaocfjaaGreatDoor.Rx
namespace Go.Proofs.YtjgedenoaocfjaaGreatDoor.Rxw
end Go.Proofs.YtjgedenoaocfjaaGreatDoor.Rxw
namespace Go.Proofs.YtjgedenoaocfjaaGreatDoor.Rxw

open Go Go.RowKit Go.Lib Go.Sort Go.Proofs Go.Proofs.YtjgedenoaocfjaaGreatDoor Go.Proofs.YtjgedenoaocfjaaGreatDoor.Base Go.Proofs.YtjgedenoaocfjaaGreatDoor.Rx Go.Proofs.YtjgedenoaocfjaaGreatDoor.L Go.Proofs.YtjgedenoaocfjaaGreatDoor.Parse Go.Proofs.YtjgedenoaocfjaaGreatDoor.Bt Go.Proofs.YtjgedenoaocfjaaGreatDoor.PX Go.Proofs.YtjgedenoaocfjaaGreatDoor.KX

open Go.Proofs.YtjgedenoaocfjaaGreatDoorW.PrintWords Go.Proofs.YtjgedenoaocfjaaGreatDoorW.PrintLast Go.Proofs.YtjgedenoaocfjaaGreatDoorW.PrintMore

attribute [local go_sem] setCell_drewN alloc_drewN

theorem at_of_row {w : World} {g : Nat} {e : TypeId} {xs : List Value} (h : Row w g e xs) : At w g xs := ⟨e, h⟩

def ReadRet (w : World) (a b c : Int) (p m : ByteArray) (ok : Bool) (e : Ending) (w' : World) : Prop := e = .returned (.tuple #[.agg #[.int .u64 a, .int .u64 b, .int .u64 c, .string p, .string m], .bool ok]) ∧ Below w.heap.size w w'

set_option maxHeartbeats 4000000 in
set_option maxRecDepth 100000 in
theorem readOk (g : Nat) (a b c : Int) (p m o : ByteArray) (w : World) (hv : At w g [.int .u64 a, .int .u64 b, .int .u64 c, .string p, .string m, .string o]) :
    Calls Tryz.prog 28 #[.pointer (some ⟨g, 0, none⟩), .nilIface] w (ReadRet w a b c p m true) := by
  have C := Lib.hid (fun W h => plainVer g a b c p m o W h)
  have HV := Lib.hid hv
  clear hv
  go_enter Tryz.func28, Tryz.ntmps28
  go_wp2_with fail
  have hz := Box.new' w #[.int .u64 0, .int .u64 0, .int .u64 0, .string ⟨#[]⟩, .string ⟨#[]⟩] 32 _ rfl
  have hb := (Below.refl w.heap.size w).alloc (Nat.le_refl _) (.cells #[.int .u64 0, .int .u64 0, .int .u64 0, .string ⟨#[]⟩, .string ⟨#[]⟩] 32)
  have hv0 := HV.out.alloc (.cells #[.int .u64 0, .int .u64 0, .int .u64 0, .string ⟨#[]⟩, .string ⟨#[]⟩] 32)
  generalize World.alloc w _ = w0 at *
  have HZ := Lib.hid hz; have HB := Lib.hid hb
  clear hz hb
  with_reducible refine (C.out _ hv0).mono ?_
  rintro e w1 ⟨rfl, hb1⟩
  have hz1 := HZ.out.below hb1
  have hbb := HB.out.trans (hb1.mono HB.out.size)
  have HZ1 := Lib.hid hz1; have HB1 := Lib.hid hbb
  have e0 := hz1.cell 0 _ rfl; have e1 := hz1.cell 1 _ rfl; have e2 := hz1.cell 2 _ rfl; have e3 := hz1.cell 3 _ rfl; have e4 := hz1.cell 4 _ rfl
  have fz := hz1.free; have hzl := hz1.lt
  clear hz1 hbb hb1 hv0
  go_wp2_with fail
  generalize hW4 : World.setCell _ _ _ = w4
  have Z4 : Box w4 w.heap.size [.int .u64 a, .int .u64 b, .int .u64 c, .string p, .string m] := by
    rw [← hW4]
    exact ((((HZ1.out.set 0 (by simp) _).set 1 (by simp) _).set 2 (by simp) _).set 3 (by simp) _).set 4 (by simp) _
  have b4 : Below w.heap.size w w4 := by
    have hb := HB1.out
    have := hb.size
    rw [← hW4]
    exact ((((hb.setCell (by simp) _).setCell (by simp) _).setCell (by simp) _).setCell (by simp) _).setCell (by simp) _
  clear hW4
  have r0 := Z4.cell 0 _ rfl; have r1 := Z4.cell 1 _ rfl; have r2 := Z4.cell 2 _ rfl; have r3 := Z4.cell 3 _ rfl; have r4 := Z4.cell 4 _ rfl
  exact bodyPost_ret (v := .tuple #[.agg #[.int .u64 a, .int .u64 b, .int .u64 c, .string p, .string m], .bool true]) (by simp [results, Tryz.results28, go_sem, r0, r1, r2, r3, r4]) rfl ⟨rfl, b4⟩

set_option maxHeartbeats 4000000 in
set_option maxRecDepth 100000 in
theorem readNo (v : Value) (t : TypeId) (y : Value) (w : World) :
    Calls Tryz.prog 28 #[v, .iface t y] w (ReadRet w 0 0 0 ⟨#[]⟩ ⟨#[]⟩ false) := by
  go_enter Tryz.func28, Tryz.ntmps28
  go_wp2_with fail
  exact bodyPost_ret (v := .tuple #[.agg #[.int .u64 0, .int .u64 0, .int .u64 0, .string ⟨#[]⟩, .string ⟨#[]⟩], .bool false]) (by simp [results, Tryz.results28, go_sem]) rfl ⟨rfl, by repeat (first | exact (Below.refl _ w).alloc (Nat.le_refl _) _ | (refine Below.setCell ?_ (by simp) _))⟩

def OpenRet (w : World) (r : Option (Nat × Nat × Nat × ByteArray × ByteArray)) (e : Ending) (w' : World) : Prop := match r with
  | some (a, b, c, p, m) => ReadRet w a b c p m true e w'
  | none => ReadRet w 0 0 0 ⟨#[]⟩ ⟨#[]⟩ false e w'

def VerR (s : ByteArray) (w : World) (r : Option (Nat × Nat × Nat × ByteArray × ByteArray)) (e : Ending) (w' : World) : Prop := match r with
  | some (a, b, c, p, m) => NewVer a b c p m s w e w'
  | none => ∃ v t y, e = .returned (.tuple #[v, .iface t y]) ∧ Below w.heap.size w w'

set_option maxHeartbeats 4000000 in
set_option maxRecDepth 100000 in
theorem openLoose (s : ByteArray) (r : Option (Nat × Nat × Nat × ByteArray × ByteArray)) (w : World) (hn : ∀ W, Below w.heap.size w W → Calls Tryz.prog 31 #[.string s] W (VerR s W r)) :
    Calls Tryz.prog 11 #[.string s] w (OpenRet w r) := by
  have CN := Lib.hid hn
  clear hn
  have CR := Lib.hid readOk; have CX := Lib.hid readNo
  cases r with
  | none =>
    unfold VerR at CN
    go_enter Tryz.func11, Tryz.ntmps11
    go_wp2_with fail
    have hz := Box.new' w #[.int .u64 0, .int .u64 0, .int .u64 0, .string ⟨#[]⟩, .string ⟨#[]⟩] 32 _ rfl
    have hb := (Below.refl w.heap.size w).alloc (Nat.le_refl _) (.cells #[.int .u64 0, .int .u64 0, .int .u64 0, .string ⟨#[]⟩, .string ⟨#[]⟩] 32)
    generalize World.alloc w _ = w0 at *
    have HZ := Lib.hid hz
    clear hz
    with_reducible refine (CN.out _ hb).mono ?_
    rintro e w1 ⟨v1, t1, y1, rfl, hb1⟩
    have HZ1 := Lib.hid (HZ.out.below hb1); have HB1 := Lib.hid (hb.trans (hb1.mono hb.size))
    clear hb1 hb
    go_wp2_with fail
    with_reducible refine (CX.out _ _ _ _).mono ?_
    rintro e w2 ⟨rfl, hb2⟩
    have HZ2 := Lib.hid (HZ1.out.below hb2); have HB2 := Lib.hid (HB1.out.trans (hb2.mono HB1.out.size))
    have e0 := HZ2.out.cell 0 _ rfl; have e1 := HZ2.out.cell 1 _ rfl; have e2 := HZ2.out.cell 2 _ rfl; have e3 := HZ2.out.cell 3 _ rfl; have e4 := HZ2.out.cell 4 _ rfl
    have fz := HZ2.out.free; have hzl := HZ2.out.lt
    clear hb2
    go_wp2_with fail
    generalize hW4 : World.setCell _ _ _ = w4
    have Z4 : Box w4 w.heap.size [.int .u64 0, .int .u64 0, .int .u64 0, .string ⟨#[]⟩, .string ⟨#[]⟩] := by
      rw [← hW4]
      exact ((((HZ2.out.set 0 (by simp) _).set 1 (by simp) _).set 2 (by simp) _).set 3 (by simp) _).set 4 (by simp) _
    have b4 : Below w.heap.size w w4 := by
      have hb := HB2.out
      have := hb.size
      rw [← hW4]
      exact ((((hb.setCell (by simp) _).setCell (by simp) _).setCell (by simp) _).setCell (by simp) _).setCell (by simp) _
    clear hW4
    have r0 := Z4.cell 0 _ rfl; have r1 := Z4.cell 1 _ rfl; have r2 := Z4.cell 2 _ rfl; have r3 := Z4.cell 3 _ rfl; have r4 := Z4.cell 4 _ rfl
    exact bodyPost_ret (v := .tuple #[.agg #[.int .u64 0, .int .u64 0, .int .u64 0, .string ⟨#[]⟩, .string ⟨#[]⟩], .bool false]) (by simp [results, Tryz.results11, go_sem, r0, r1, r2, r3, r4]) rfl ⟨rfl, b4⟩
  | some r =>
    obtain ⟨a, b, c, p, m⟩ := r
    unfold VerR at CN
    go_enter Tryz.func11, Tryz.ntmps11
    go_wp2_with fail
    have hz := Box.new' w #[.int .u64 0, .int .u64 0, .int .u64 0, .string ⟨#[]⟩, .string ⟨#[]⟩] 32 _ rfl
    have hb := (Below.refl w.heap.size w).alloc (Nat.le_refl _) (.cells #[.int .u64 0, .int .u64 0, .int .u64 0, .string ⟨#[]⟩, .string ⟨#[]⟩] 32)
    generalize World.alloc w _ = w0 at *
    have HZ := Lib.hid hz
    clear hz
    with_reducible refine (CN.out _ hb).mono ?_
    rintro e w1 ⟨g, rfl, hv, hg, hb1⟩
    have HZ1 := Lib.hid (HZ.out.below hb1); have HB1 := Lib.hid (hb.trans (hb1.mono hb.size))
    have HV := Lib.hid (at_of_row hv)
    clear hb1 hb hv hg
    go_wp2_with fail
    with_reducible refine (CR.out _ _ _ _ _ _ _ _ HV.out).mono ?_
    rintro e w2 ⟨rfl, hb2⟩
    have HZ2 := Lib.hid (HZ1.out.below hb2); have HB2 := Lib.hid (HB1.out.trans (hb2.mono HB1.out.size))
    have e0 := HZ2.out.cell 0 _ rfl; have e1 := HZ2.out.cell 1 _ rfl; have e2 := HZ2.out.cell 2 _ rfl; have e3 := HZ2.out.cell 3 _ rfl; have e4 := HZ2.out.cell 4 _ rfl
    have fz := HZ2.out.free; have hzl := HZ2.out.lt
    clear hb2
    go_wp2_with fail
    generalize hW4 : World.setCell _ _ _ = w4
    have Z4 : Box w4 w.heap.size [.int .u64 (a : Int), .int .u64 (b : Int), .int .u64 (c : Int), .string p, .string m] := by
      rw [← hW4]
      exact ((((HZ2.out.set 0 (by simp) _).set 1 (by simp) _).set 2 (by simp) _).set 3 (by simp) _).set 4 (by simp) _
    have b4 : Below w.heap.size w w4 := by
      have hb := HB2.out
      have := hb.size
      rw [← hW4]
      exact ((((hb.setCell (by simp) _).setCell (by simp) _).setCell (by simp) _).setCell (by simp) _).setCell (by simp) _
    clear hW4
    have r0 := Z4.cell 0 _ rfl; have r1 := Z4.cell 1 _ rfl; have r2 := Z4.cell 2 _ rfl; have r3 := Z4.cell 3 _ rfl; have r4 := Z4.cell 4 _ rfl
    exact bodyPost_ret (v := .tuple #[.agg #[.int .u64 (a : Int), .int .u64 (b : Int), .int .u64 (c : Int), .string p, .string m], .bool true]) (by simp [results, Tryz.results11, go_sem, r0, r1, r2, r3, r4]) rfl ⟨rfl, b4⟩

set_option maxHeartbeats 4000000 in
set_option maxRecDepth 100000 in
theorem openStrict (s : ByteArray) (r : Option (Nat × Nat × Nat × ByteArray × ByteArray)) (w : World) (hn : ∀ W, Below w.heap.size w W → Calls Tryz.prog 29 #[.string s] W (VerR s W r)) :
    Calls Tryz.prog 9 #[.string s] w (OpenRet w r) := by
  have CN := Lib.hid hn
  clear hn
  have CR := Lib.hid readOk; have CX := Lib.hid readNo
  cases r with
  | none =>
    unfold VerR at CN
    go_enter Tryz.func9, Tryz.ntmps9
    go_wp2_with fail
    have hz := Box.new' w #[.int .u64 0, .int .u64 0, .int .u64 0, .string ⟨#[]⟩, .string ⟨#[]⟩] 32 _ rfl
    have hb := (Below.refl w.heap.size w).alloc (Nat.le_refl _) (.cells #[.int .u64 0, .int .u64 0, .int .u64 0, .string ⟨#[]⟩, .string ⟨#[]⟩] 32)
    generalize World.alloc w _ = w0 at *
    have HZ := Lib.hid hz
    clear hz
    with_reducible refine (CN.out _ hb).mono ?_
    rintro e w1 ⟨v1, t1, y1, rfl, hb1⟩
    have HZ1 := Lib.hid (HZ.out.below hb1); have HB1 := Lib.hid (hb.trans (hb1.mono hb.size))
    clear hb1 hb
    go_wp2_with fail
    with_reducible refine (CX.out _ _ _ _).mono ?_
    rintro e w2 ⟨rfl, hb2⟩
    have HZ2 := Lib.hid (HZ1.out.below hb2); have HB2 := Lib.hid (HB1.out.trans (hb2.mono HB1.out.size))
    have e0 := HZ2.out.cell 0 _ rfl; have e1 := HZ2.out.cell 1 _ rfl; have e2 := HZ2.out.cell 2 _ rfl; have e3 := HZ2.out.cell 3 _ rfl; have e4 := HZ2.out.cell 4 _ rfl
    have fz := HZ2.out.free; have hzl := HZ2.out.lt
    clear hb2
    go_wp2_with fail
    generalize hW4 : World.setCell _ _ _ = w4
    have Z4 : Box w4 w.heap.size [.int .u64 0, .int .u64 0, .int .u64 0, .string ⟨#[]⟩, .string ⟨#[]⟩] := by
      rw [← hW4]
      exact ((((HZ2.out.set 0 (by simp) _).set 1 (by simp) _).set 2 (by simp) _).set 3 (by simp) _).set 4 (by simp) _
    have b4 : Below w.heap.size w w4 := by
      have hb := HB2.out
      have := hb.size
      rw [← hW4]
      exact ((((hb.setCell (by simp) _).setCell (by simp) _).setCell (by simp) _).setCell (by simp) _).setCell (by simp) _
    clear hW4
    have r0 := Z4.cell 0 _ rfl; have r1 := Z4.cell 1 _ rfl; have r2 := Z4.cell 2 _ rfl; have r3 := Z4.cell 3 _ rfl; have r4 := Z4.cell 4 _ rfl
    exact bodyPost_ret (v := .tuple #[.agg #[.int .u64 0, .int .u64 0, .int .u64 0, .string ⟨#[]⟩, .string ⟨#[]⟩], .bool false]) (by simp [results, Tryz.results9, go_sem, r0, r1, r2, r3, r4]) rfl ⟨rfl, b4⟩
  | some r =>
    obtain ⟨a, b, c, p, m⟩ := r
    unfold VerR at CN
    go_enter Tryz.func9, Tryz.ntmps9
    go_wp2_with fail
    have hz := Box.new' w #[.int .u64 0, .int .u64 0, .int .u64 0, .string ⟨#[]⟩, .string ⟨#[]⟩] 32 _ rfl
    have hb := (Below.refl w.heap.size w).alloc (Nat.le_refl _) (.cells #[.int .u64 0, .int .u64 0, .int .u64 0, .string ⟨#[]⟩, .string ⟨#[]⟩] 32)
    generalize World.alloc w _ = w0 at *
    have HZ := Lib.hid hz
    clear hz
    with_reducible refine (CN.out _ hb).mono ?_
    rintro e w1 ⟨g, rfl, hv, hg, hb1⟩
    have HZ1 := Lib.hid (HZ.out.below hb1); have HB1 := Lib.hid (hb.trans (hb1.mono hb.size))
    have HV := Lib.hid (at_of_row hv)
    clear hb1 hb hv hg
    go_wp2_with fail
    with_reducible refine (CR.out _ _ _ _ _ _ _ _ HV.out).mono ?_
    rintro e w2 ⟨rfl, hb2⟩
    have HZ2 := Lib.hid (HZ1.out.below hb2); have HB2 := Lib.hid (HB1.out.trans (hb2.mono HB1.out.size))
    have e0 := HZ2.out.cell 0 _ rfl; have e1 := HZ2.out.cell 1 _ rfl; have e2 := HZ2.out.cell 2 _ rfl; have e3 := HZ2.out.cell 3 _ rfl; have e4 := HZ2.out.cell 4 _ rfl
    have fz := HZ2.out.free; have hzl := HZ2.out.lt
    clear hb2
    go_wp2_with fail
    generalize hW4 : World.setCell _ _ _ = w4
    have Z4 : Box w4 w.heap.size [.int .u64 (a : Int), .int .u64 (b : Int), .int .u64 (c : Int), .string p, .string m] := by
      rw [← hW4]
      exact ((((HZ2.out.set 0 (by simp) _).set 1 (by simp) _).set 2 (by simp) _).set 3 (by simp) _).set 4 (by simp) _
    have b4 : Below w.heap.size w w4 := by
      have hb := HB2.out
      have := hb.size
      rw [← hW4]
      exact ((((hb.setCell (by simp) _).setCell (by simp) _).setCell (by simp) _).setCell (by simp) _).setCell (by simp) _
    clear hW4
    have r0 := Z4.cell 0 _ rfl; have r1 := Z4.cell 1 _ rfl; have r2 := Z4.cell 2 _ rfl; have r3 := Z4.cell 3 _ rfl; have r4 := Z4.cell 4 _ rfl
    exact bodyPost_ret (v := .tuple #[.agg #[.int .u64 (a : Int), .int .u64 (b : Int), .int .u64 (c : Int), .string p, .string m], .bool true]) (by simp [results, Tryz.results9, go_sem, r0, r1, r2, r3, r4]) rfl ⟨rfl, b4⟩

def TextRet (w : World) (st : ByteArray) (ok : Bool) (e : Ending) (w' : World) : Prop := e = .returned (.tuple #[.string st, .bool ok]) ∧ Below w.heap.size w w'

set_option maxHeartbeats 4000000 in
set_option maxRecDepth 100000 in
theorem looseText (s st p m : ByteArray) (a b c : Nat) (w : World) (hn : Calls Tryz.prog 31 #[.string s] w (NewVer a b c p m s w)) (hst : semver_Version_String.f (a : Int) b c p m s = some st) (hp : Pow w) :
    Calls Tryz.prog 12 #[.string s] w (TextRet w st true) := by
  have CN := Lib.hid hn
  have C2 := Lib.hid (fun W hW => semver_Version_String.calls (a : Int) b c p m s st W hW hst)
  have HP := Lib.hid hp
  clear hn hst hp
  go_enter Tryz.func12, Tryz.ntmps12
  go_wp2_with (first
    | (go_at_call 31; (with_reducible refine CN.out.mono ?_); rintro e w1 ⟨g, rfl, hv, hg, hb1⟩; have c0 := hv.cell 0 _ rfl; have c1 := hv.cell 1 _ rfl; have c2 := hv.cell 2 _ rfl; have c3 := hv.cell 3 _ rfl; have c4 := hv.cell 4 _ rfl; have c5 := hv.cell 5 _ rfl; have HW := Lib.hid (HP.out.below hb1); have HB1 := Lib.hid hb1; clear hv hg hb1)
    | (go_at_call 32; (with_reducible refine (C2.out _ HW.out).mono ?_); rintro e w2 ⟨rfl, hb2⟩))
  go_ret2
  exact ⟨rfl, HB1.out.trans (hb2.mono HB1.out.size)⟩

end Go.Proofs.YtjgedenoaocfjaaGreatDoor.Rxw
namespace Go.Proofs.YtjgedenoaocfjaaGreatDoor.Rxw

open Go Go.RowKit Go.Lib Go.Sort Go.Proofs Go.Proofs.YtjgedenoaocfjaaGreatDoor Go.Proofs.YtjgedenoaocfjaaGreatDoor.Base Go.Proofs.YtjgedenoaocfjaaGreatDoor.L Go.Proofs.YtjgedenoaocfjaaGreatDoor.PX Go.Proofs.YtjgedenoaocfjaaGreatDoor.MetaX

open Go.Proofs.YtjgedenoaocfjaaGreatDoorW.PrintWords Go.Proofs.YtjgedenoaocfjaaGreatDoorW.PrintLast Go.Proofs.YtjgedenoaocfjaaGreatDoorW.PrintMore

open Go.Proofs.YtjgedenoaocfjaaGreatDoor.Bt (toList_bl)

def goodI (X : ByteArray → Int × Bool) (p : ByteArray) : Bool := (X p).2 && !lead p

/-- What the function gives, out of its parts. -/
def gramV (X : ByteArray → Int × Bool) (pre mt : ByteArray) (ok : Bool) (l : List ByteArray) : Int × Int × Int × ByteArray × ByteArray × Bool :=
  match l with
  | [a, b, c] => if ok = true ∧ goodI X a = true ∧ goodI X b = true ∧ goodI X c = true then ((X a).1, (X b).1, (X c).1, pre, mt, true) else (0, 0, 0, ⟨#[]⟩, ⟨#[]⟩, false)
  | _ => (0, 0, 0, ⟨#[]⟩, ⟨#[]⟩, false)

def GramRet (w : World) (r : Int × Int × Int × ByteArray × ByteArray × Bool) (e : Ending) (w' : World) : Prop := ReadRet w r.1 r.2.1 r.2.2.1 r.2.2.2.1 r.2.2.2.2.1 r.2.2.2.2.2 e w'

theorem gramV_no {X pre mt ok} {l : List ByteArray} (h : ok = false ∨ l.length ≠ 3) : gramV X pre mt ok l = (0, 0, 0, ⟨#[]⟩, ⟨#[]⟩, false) := by
  unfold gramV
  split
  · rcases h with h | h
    · rw [if_neg (by simp [h])]
    · simp at h
  · rfl

theorem gramV_bad {X pre mt ok} {l : List ByteArray} {i : Nat} (hi : i < l.length) (h : goodI X l[i] = false) : gramV X pre mt ok l = (0, 0, 0, ⟨#[]⟩, ⟨#[]⟩, false) := by
  unfold gramV
  split
  · rename_i a b c
    refine if_neg ?_
    rintro ⟨_, h1, h2, h3⟩
    have : i = 0 ∨ i = 1 ∨ i = 2 := by simp at hi; omega
    rcases this with rfl | rfl | rfl <;> simp_all
  · rfl

def zs : List Value := [.int .u64 0, .int .u64 0, .int .u64 0, .string ⟨#[]⟩, .string ⟨#[]⟩]

def arrOf (X : ByteArray → Int × Bool) (l : List ByteArray) (k : Nat) : List Value := (List.range 3).map fun j => if j < k then .int .u64 (X (l.getD j ⟨#[]⟩)).1 else .int .u64 0

theorem arrOf_set (X : ByteArray → Int × Bool) (l : List ByteArray) (k : Nat) (h : k < 3) : (arrOf X l k).set k (.int .u64 (X (l.getD k ⟨#[]⟩)).1) = arrOf X l (k + 1) := by
  have : k = 0 ∨ k = 1 ∨ k = 2 := by omega
  rcases this with rfl | rfl | rfl <;> rfl

theorem arrOf_at (X : ByteArray → Int × Bool) (l : List ByteArray) (k : Nat) (h : k < 3) : (arrOf X l k)[k]? = some (.int .u64 0) := by
  have : k = 0 ∨ k = 1 ∨ k = 2 := by omega
  rcases this with rfl | rfl | rfl <;> rfl

theorem rset {W : World} {G base : Nat} {cs : List Value} {ok : Nat → Prop} {v : Value} {xs : List ByteArray} (h : Kd.R Kd.string 9 W base ok v xs) (hr : Row W G 78 cs) (k : Nat) (y : Value) :
    Kd.R Kd.string 9 (W.setCell ⟨G, k, none⟩ y) base ok v xs := Kd.R_set h hr (by decide) k y

theorem five {w W : World} {b : Nat} {vs : List Value} (x0 x1 x2 x3 x4 : Value) (Z : Box W b vs) (hv : vs.length = 5) (B : Below w.heap.size w W) (hb : w.heap.size ≤ b) :
    Box (((((W.setCell ⟨b, 0, none⟩ x0).setCell ⟨b, 1, none⟩ x1).setCell ⟨b, 2, none⟩ x2).setCell ⟨b, 3, none⟩ x3).setCell ⟨b, 4, none⟩ x4) b [x0, x1, x2, x3, x4] ∧
      Below w.heap.size w (((((W.setCell ⟨b, 0, none⟩ x0).setCell ⟨b, 1, none⟩ x1).setCell ⟨b, 2, none⟩ x2).setCell ⟨b, 3, none⟩ x3).setCell ⟨b, 4, none⟩ x4) := by
  obtain ⟨a0, a1, a2, a3, a4, rfl⟩ : ∃ a0 a1 a2 a3 a4, vs = [a0, a1, a2, a3, a4] := by
    match vs, hv with
    | [a0, a1, a2, a3, a4], _ => exact ⟨_, _, _, _, _, rfl⟩
  exact ⟨((((Z.set 0 (by simp) _).set 1 (by simp) _).set 2 (by simp) _).set 3 (by simp) _).set 4 (by simp) _, ((((B.setCell hb _).setCell hb _).setCell hb _).setCell hb _).setCell hb _⟩

set_option maxHeartbeats 8000000 in
set_option maxRecDepth 100000 in
theorem gramW (k : Nat) (s core pre mt : ByteArray) (ok : Bool) (l : List ByteArray) (X : ByteArray → Int × Bool) (ht : spec_tails.f k s = some (core, pre, mt, ok)) (hi : spec_Identifiers.f k core = some l) (hl : l.length ≤ 2147483648)
  (hX : ∀ p ∈ l, spec_Number.f k p = some (X p)) (w : World) :
  Calls Tryz.prog 30 #[.string s] w (GramRet w (gramV X pre mt ok l)) := by
 have CT := Lib.hid fun W => spec_tails.calls k s core pre mt ok W ht
 have CI := Lib.hid fun W => spec_Identifiers.calls k core l W hi
 have CN : Hid (∀ p ∈ l, ∀ W, Calls Tryz.prog 48 #[.string p] W fun e w' => e = .returned (.tuple #[.int .u64 (X p).1, .bool (X p).2]) ∧ Drawn0 W w') := Lib.hid fun p hp W => spec_Number.calls k p (X p).1 (X p).2 W (hX p hp)
 have HL := Lib.hid hl
 clear ht hi hX hl
 obtain ⟨R, hR⟩ : ∃ R, R = gramV X pre mt ok l := ⟨_, rfl⟩
 rw [← hR]
 have HR := Lib.hid hR
 clear hR
 go_enter Tryz.func30, Tryz.ntmps30
 go_upto_region 1 with fail
 have hz := Box.new' w #[.int .u64 0, .int .u64 0, .int .u64 0, .string ⟨#[]⟩, .string ⟨#[]⟩] 32 _ rfl
 have hb := (Below.refl w.heap.size w).alloc (Nat.le_refl _) (.cells #[.int .u64 0, .int .u64 0, .int .u64 0, .string ⟨#[]⟩, .string ⟨#[]⟩] 32)
 generalize World.alloc w _ = w0 at *
 have HZ : Hid (Box w0 w.heap.size zs) := Lib.hid hz
 have HB := Lib.hid hb
 clear hz hb
 go_upto_region 3 with (first
  | (go_at_call 33; (with_reducible refine (CT.out _).mono ?_); rintro e w1 ⟨rfl, hb1⟩; have HZ1 := Lib.hid (HZ.out.below hb1); have HB1 := Lib.hid (HB.out.trans (hb1.mono HB.out.size)); clear hb1)
  | (go_at_call 34; (with_reducible refine (CI.out _).mono ?_); rintro e w2 ⟨v2, rfl, ho2, hb2⟩; obtain ⟨A2, c2, e2⟩ := Kd.R_slice ho2; subst e2; have HO2 := Lib.hid ho2; have HZ2 := Lib.hid (HZ1.out.below hb2); have HB2 := Lib.hid (HB1.out.trans (hb2.mono HB1.out.size)); clear hb2 ho2))
 by_cases hc : ok = false ∨ l.length ≠ 3
 ·
  have HV : Hid (R = (0, 0, 0, ⟨#[]⟩, ⟨#[]⟩, false)) := Lib.hid (by rw [HR.out, gramV_no hc])
  have e0 := HZ2.out.cell 0 _ rfl; have e1 := HZ2.out.cell 1 _ rfl; have e2 := HZ2.out.cell 2 _ rfl; have e3 := HZ2.out.cell 3 _ rfl; have e4 := HZ2.out.cell 4 _ rfl
  have fz := HZ2.out.free; have hzl := HZ2.out.lt
  cases ok with
  | false =>
   clear hc
   go_wp2_with fail
   clear e0 e1 e2 e3 e4
   obtain ⟨Z4, b4⟩ := five (.int .u64 0) (.int .u64 0) (.int .u64 0) (.string ⟨#[]⟩) (.string ⟨#[]⟩) HZ2.out rfl HB2.out (Nat.le_refl _)
   generalize World.setCell _ _ _ = w4 at *
   have r0 := Z4.cell 0 _ rfl; have r1 := Z4.cell 1 _ rfl; have r2 := Z4.cell 2 _ rfl; have r3 := Z4.cell 3 _ rfl; have r4 := Z4.cell 4 _ rfl
   exact bodyPost_ret (v := .tuple #[.agg #[.int .u64 0, .int .u64 0, .int .u64 0, .string ⟨#[]⟩, .string ⟨#[]⟩], .bool false]) (by simp [results, Tryz.results30, go_sem, r0, r1, r2, r3, r4]) rfl ⟨by rw [HV.out], b4⟩
  | true =>
   have hc3 : l.length ≠ 3 := hc.resolve_left (by decide)
   have t3 : ((l.length : Int) != 3) = true := by rw [bne_iff_ne]; omega
   clear hc hc3
   go_wp2_with fail
   clear e0 e1 e2 e3 e4
   obtain ⟨Z4, b4⟩ := five (.int .u64 0) (.int .u64 0) (.int .u64 0) (.string ⟨#[]⟩) (.string ⟨#[]⟩) HZ2.out rfl HB2.out (Nat.le_refl _)
   generalize World.setCell _ _ _ = w4 at *
   have r0 := Z4.cell 0 _ rfl; have r1 := Z4.cell 1 _ rfl; have r2 := Z4.cell 2 _ rfl; have r3 := Z4.cell 3 _ rfl; have r4 := Z4.cell 4 _ rfl
   exact bodyPost_ret (v := .tuple #[.agg #[.int .u64 0, .int .u64 0, .int .u64 0, .string ⟨#[]⟩, .string ⟨#[]⟩], .bool false]) (by simp [results, Tryz.results30, go_sem, r0, r1, r2, r3, r4]) rfl ⟨by rw [HV.out], b4⟩
 ·
  obtain rfl : ok = true := by
   cases ok with
   | false => exact absurd (Or.inl rfl) hc
   | true => rfl
  have hl3 : l.length = 3 := by
   rcases Nat.decEq l.length 3 with h | h
   ·
    exact absurd (Or.inr h) hc
   ·
    exact h
  clear hc
  have t3 : ((l.length : Int) != 3) = false := by rw [hl3]; rfl
  have HL3 := Lib.hid hl3
  clear hl3
  go_upto_region 6 with fail
  have HA3 : Hid (Row (w2.alloc (.cells #[.int .u64 0, .int .u64 0, .int .u64 0] 78)) w2.heap.size 78 (arrOf X l 0)) := Lib.hid (Row.new w2 _ _)
  have hal := (Below.refl w2.heap.size w2).alloc (Nat.le_refl _) (.cells #[.int .u64 0, .int .u64 0, .int .u64 0] 78)
  have HZ3 := Lib.hid (HZ2.out.below hal)
  have HB3 := Lib.hid (HB2.out.trans (hal.mono HB2.out.size))
  have HO3 := Lib.hid (Kd.R_below HO2.out hal)
  have HG := Lib.hid HZ2.out.lt
  clear hal t3
  generalize World.alloc w2 _ = w3 at *
  generalize w2.heap.size = G at *
  go_wp2_with fail
  go_loopw [33] (fun i w' => ∃ kk : Nat, i = .int .i64 kk ∧ kk ≤ 3 ∧ Hid (∀ j (h : j < l.length), j < kk → goodI X l[j] = true) ∧ Hid (Row w' G 78 (arrOf X l kk)) ∧ Hid (Kd.R Kd.string 9 w' w1.heap.size (fun _ => True) (.slice A2 l.length c2) l) ∧ Hid (Box w' w.heap.size zs) ∧ Hid (Below w.heap.size w w')) (fun i _ => 3 - (Go.RowKit.intOf i).toNat)
  case atStart => exact ⟨0, rfl, by omega, Lib.hid (fun j _ h => by omega), HA3, HO3, HZ3, HB3⟩
  case round =>
   obtain ⟨kk, rfl, hk, HGD, HA2, HO4, HZ4, HB4⟩ := hrel
   clear HA3 HO3 HZ3 HB3
   by_cases hlt : kk < 3
   ·
    have hkl : kk < l.length := by have := HL3.out; omega
    have b0 : decide ((kk : Int) < (l.length : Int)) = true := decide_eq_true (by omega)
    have b0' : decide (kk < l.length) = true := decide_eq_true hkl
    have p1 : 0 ≤ (kk : Int) := by omega
    have q1 : (kk : Int) < (l.length : Int) := by omega
    have hkI : (kk : Int) < 3 := by omega
    obtain ⟨ad, e1, hx⟩ := Kd.at_string (Kd.R_reads' HO4.out).2.2 (kk : Int) p1 q1
    cases e1
    rw [rd_get l kk hkl, Int.toNat_natCast] at hx
    have hmem : l[kk] ∈ l := List.getElem_mem hkl
    have hgd : l.getD kk ⟨#[]⟩ = l[kk] := by rw [List.getD_eq_getElem?_getD, List.getElem?_eq_getElem hkl]; rfl
    have hset := arrOf_set X l kk hlt
    rw [hgd] at hset
    have hbad : goodI X l[kk] = false → R = (0, 0, 0, ⟨#[]⟩, ⟨#[]⟩, false) := fun h => by rw [HR.out]; exact gramV_bad hkl h
    have hnext : goodI X l[kk] = true → ∀ j (h : j < l.length), j < kk + 1 → goodI X l[j] = true := fun h j hj hjk => by
     rcases Nat.lt_or_ge j kk with h1 | h1
     ·
      exact HGD.out j hj h1
     ·
      have : j = kk := by omega
      subst this; exact h
    have hcall := CN.out l[kk] hmem
    generalize l[kk] = p at *
    obtain ⟨x, b, hxb⟩ : ∃ x b, X p = (x, b) := ⟨_, _, rfl⟩
    rw [hxb] at hcall hset
    have CP := Lib.hid hcall
    have HSET := Lib.hid hset
    have HK3 := Lib.hid hlt
    have hgx : goodI X p = (b && !lead p) := by unfold goodI; rw [hxb]
    rw [hgx] at hbad hnext
    clear hcall hset hmem hgd hgx hkl hlt
    cases b with
    | false =>
     have HV : Hid (R = (0, 0, 0, ⟨#[]⟩, ⟨#[]⟩, false)) := Lib.hid (hbad rfl)
     clear hbad hnext
     go_wp2_with ((go_at_call 48; (with_reducible refine (CP.out _).mono ?_); rintro e wn ⟨rfl, hbn⟩; have HMn := Lib.hid (drawn_below hbn); have HAn := Lib.hid (HA2.out.below HMn.out); have HOn := Lib.hid (Kd.R_below HO4.out HMn.out); have HZn := Lib.hid (HZ4.out.below HMn.out); have HBn := Lib.hid (HB4.out.trans (HMn.out.mono HB4.out.size)); have e0 := HZn.out.cell 0 _ rfl; have e1 := HZn.out.cell 1 _ rfl; have e2 := HZn.out.cell 2 _ rfl; have e3 := HZn.out.cell 3 _ rfl; have e4 := HZn.out.cell 4 _ rfl; have fz := HZn.out.free; have hzl := HZn.out.lt; have y1 := HAn.out.cell kk (.int .u64 0) (arrOf_at X l kk HK3.out); have y2 := HAn.out.free kk; clear hbn))
     clear e0 e1 e2 e3 e4
     obtain ⟨Z4, b4⟩ := five (.int .u64 0) (.int .u64 0) (.int .u64 0) (.string ⟨#[]⟩) (.string ⟨#[]⟩) HZn.out rfl HBn.out (Nat.le_refl _)
     generalize World.setCell _ _ _ = w4 at *
     have r0 := Z4.cell 0 _ rfl; have r1 := Z4.cell 1 _ rfl; have r2 := Z4.cell 2 _ rfl; have r3 := Z4.cell 3 _ rfl; have r4 := Z4.cell 4 _ rfl
     exact bodyPost_ret (v := .tuple #[.agg #[.int .u64 0, .int .u64 0, .int .u64 0, .string ⟨#[]⟩, .string ⟨#[]⟩], .bool false]) (by simp [results, Tryz.results30, go_sem, r0, r1, r2, r3, r4]) rfl ⟨by rw [HV.out], b4⟩
    | true =>
     rw [Bool.true_and] at hbad hnext
     cases hl : lead p
     ·
      have HGD2 := Lib.hid (hnext (by rw [hl]; rfl))
      clear hbad hnext
      by_cases h1 : 1 < p.size
      ·
       have d1 : decide (1 < (p.size : Int)) = true := decide_eq_true (by omega)
       have d1' : decide (1 < p.size) = true := decide_eq_true h1
       have d2 : (((p.data.toList.headD 0).toNat : Int) == 48) = false := by
        have hx0 : (p.data.toList.headD 0 == 48) = false := by unfold lead at hl; rw [d1', Bool.true_and] at hl; exact hl
        rw [beq_eq_false_iff_ne] at hx0 ⊢
        intro e; apply hx0; apply UInt8.toNat_inj.1
        show _ = 48; omega
       have hh : p.data.toList.headD 0 = p[0] := by
        have : p.data.toList = p[0] :: p.data.toList.drop 1 := by
         have h2 : 0 < p.data.toList.length := by simpa using (by omega : 0 < p.size)
         have := List.drop_eq_getElem_cons h2
         rw [List.drop_zero] at this
         exact this
        rw [this]; rfl
       rw [hh] at d2
       clear hl hh
       go_wp2_with ((go_at_call 48; (with_reducible refine (CP.out _).mono ?_); rintro e wn ⟨rfl, hbn⟩; have HMn := Lib.hid (drawn_below hbn); have HAn := Lib.hid (HA2.out.below HMn.out); have HOn := Lib.hid (Kd.R_below HO4.out HMn.out); have HZn := Lib.hid (HZ4.out.below HMn.out); have HBn := Lib.hid (HB4.out.trans (HMn.out.mono HB4.out.size)); have e0 := HZn.out.cell 0 _ rfl; have e1 := HZn.out.cell 1 _ rfl; have e2 := HZn.out.cell 2 _ rfl; have e3 := HZn.out.cell 3 _ rfl; have e4 := HZn.out.cell 4 _ rfl; have fz := HZn.out.free; have hzl := HZn.out.lt; have y1 := HAn.out.cell kk (.int .u64 0) (arrOf_at X l kk HK3.out); have y2 := HAn.out.free kk; clear hbn))
       clear e0 e1 e2 e3 e4 y1 y2
       have hAk := HAn.out.set kk (by have := HK3.out; simp [arrOf]; omega) (.int .u64 x)
       have hkeep := rset HOn.out HAn.out kk (.int .u64 x)
       have hzk := HZn.out.far ⟨G, kk, none⟩ (by have := HG.out; simp; omega) (.int .u64 x)
       have hbk := HBn.out.setCell (p := ⟨G, kk, none⟩) (Nat.le_of_lt HG.out) (.int .u64 x)
       rw [HSET.out] at hAk
       have HA5 := Lib.hid hAk; have HO5 := Lib.hid hkeep; have HZ5 := Lib.hid hzk; have HB5 := Lib.hid hbk
       clear hAk hkeep hzk hbk
       go_roundw
       case rel => exact ⟨kk + 1, by go_num, HK3.out, HGD2, HA5, HO5, HZ5, HB5⟩
       case measure => have := HK3.out; simp [Go.RowKit.intOf]; omega
      ·
       have d1 : decide (1 < (p.size : Int)) = false := decide_eq_false (by omega)
       have d1' : decide (1 < p.size) = false := decide_eq_false h1
       clear hl h1
       go_wp2_with ((go_at_call 48; (with_reducible refine (CP.out _).mono ?_); rintro e wn ⟨rfl, hbn⟩; have HMn := Lib.hid (drawn_below hbn); have HAn := Lib.hid (HA2.out.below HMn.out); have HOn := Lib.hid (Kd.R_below HO4.out HMn.out); have HZn := Lib.hid (HZ4.out.below HMn.out); have HBn := Lib.hid (HB4.out.trans (HMn.out.mono HB4.out.size)); have e0 := HZn.out.cell 0 _ rfl; have e1 := HZn.out.cell 1 _ rfl; have e2 := HZn.out.cell 2 _ rfl; have e3 := HZn.out.cell 3 _ rfl; have e4 := HZn.out.cell 4 _ rfl; have fz := HZn.out.free; have hzl := HZn.out.lt; have y1 := HAn.out.cell kk (.int .u64 0) (arrOf_at X l kk HK3.out); have y2 := HAn.out.free kk; clear hbn))
       clear e0 e1 e2 e3 e4 y1 y2
       have hAk := HAn.out.set kk (by have := HK3.out; simp [arrOf]; omega) (.int .u64 x)
       have hkeep := rset HOn.out HAn.out kk (.int .u64 x)
       have hzk := HZn.out.far ⟨G, kk, none⟩ (by have := HG.out; simp; omega) (.int .u64 x)
       have hbk := HBn.out.setCell (p := ⟨G, kk, none⟩) (Nat.le_of_lt HG.out) (.int .u64 x)
       rw [HSET.out] at hAk
       have HA5 := Lib.hid hAk; have HO5 := Lib.hid hkeep; have HZ5 := Lib.hid hzk; have HB5 := Lib.hid hbk
       clear hAk hkeep hzk hbk
       go_roundw
       case rel => exact ⟨kk + 1, by go_num, HK3.out, HGD2, HA5, HO5, HZ5, HB5⟩
       case measure => have := HK3.out; simp [Go.RowKit.intOf]; omega
     ·
      have HV : Hid (R = (0, 0, 0, ⟨#[]⟩, ⟨#[]⟩, false)) := Lib.hid (hbad (by rw [hl]; rfl))
      clear hbad hnext
      have h1 : 1 < p.size := by unfold lead at hl; rw [Bool.and_eq_true, decide_eq_true_eq] at hl; exact hl.1
      have d1 : decide (1 < (p.size : Int)) = true := decide_eq_true (by omega)
      have d1' : decide (1 < p.size) = true := decide_eq_true h1
      have d2 : (((p.data.toList.headD 0).toNat : Int) == 48) = true := by
       have hx0 : (p.data.toList.headD 0 == 48) = true := by unfold lead at hl; rw [d1', Bool.true_and] at hl; exact hl
       rw [beq_iff_eq] at hx0 ⊢
       rw [hx0]; rfl
      have hh : p.data.toList.headD 0 = p[0] := by
       have : p.data.toList = p[0] :: p.data.toList.drop 1 := by
        have h2 : 0 < p.data.toList.length := by simpa using (by omega : 0 < p.size)
        have := List.drop_eq_getElem_cons h2
        rw [List.drop_zero] at this
        exact this
       rw [this]; rfl
      rw [hh] at d2
      clear hl hh
      go_wp2_with ((go_at_call 48; (with_reducible refine (CP.out _).mono ?_); rintro e wn ⟨rfl, hbn⟩; have HMn := Lib.hid (drawn_below hbn); have HAn := Lib.hid (HA2.out.below HMn.out); have HOn := Lib.hid (Kd.R_below HO4.out HMn.out); have HZn := Lib.hid (HZ4.out.below HMn.out); have HBn := Lib.hid (HB4.out.trans (HMn.out.mono HB4.out.size)); have e0 := HZn.out.cell 0 _ rfl; have e1 := HZn.out.cell 1 _ rfl; have e2 := HZn.out.cell 2 _ rfl; have e3 := HZn.out.cell 3 _ rfl; have e4 := HZn.out.cell 4 _ rfl; have fz := HZn.out.free; have hzl := HZn.out.lt; have y1 := HAn.out.cell kk (.int .u64 0) (arrOf_at X l kk HK3.out); have y2 := HAn.out.free kk; clear hbn))
      clear e0 e1 e2 e3 e4
      obtain ⟨Z4, b4⟩ := five (.int .u64 0) (.int .u64 0) (.int .u64 0) (.string ⟨#[]⟩) (.string ⟨#[]⟩) HZn.out rfl HBn.out (Nat.le_refl _)
      generalize World.setCell _ _ _ = w4 at *
      have r0 := Z4.cell 0 _ rfl; have r1 := Z4.cell 1 _ rfl; have r2 := Z4.cell 2 _ rfl; have r3 := Z4.cell 3 _ rfl; have r4 := Z4.cell 4 _ rfl
      exact bodyPost_ret (v := .tuple #[.agg #[.int .u64 0, .int .u64 0, .int .u64 0, .string ⟨#[]⟩, .string ⟨#[]⟩], .bool false]) (by simp [results, Tryz.results30, go_sem, r0, r1, r2, r3, r4]) rfl ⟨by rw [HV.out], b4⟩
   ·
    obtain rfl : kk = 3 := by omega
    obtain ⟨a, b, c, rfl⟩ : ∃ a b c, l = [a, b, c] := by
     have := HL3.out
     match l, this with
     | [a, b, c], _ => exact ⟨a, b, c, rfl⟩
    have HV : Hid (R = ((X a).1, (X b).1, (X c).1, pre, mt, true)) := Lib.hid (by
     rw [HR.out]
     exact if_pos ⟨rfl, HGD.out 0 (by simp) (by decide), HGD.out 1 (by simp) (by decide), HGD.out 2 (by simp) (by decide)⟩)
    have n0 := HA2.out.cell 0 (.int .u64 (X a).1) rfl; have n1 := HA2.out.cell 1 (.int .u64 (X b).1) rfl; have n2 := HA2.out.cell 2 (.int .u64 (X c).1) rfl
    have e0 := HZ4.out.cell 0 _ rfl; have e1 := HZ4.out.cell 1 _ rfl; have e2 := HZ4.out.cell 2 _ rfl; have e3 := HZ4.out.cell 3 _ rfl; have e4 := HZ4.out.cell 4 _ rfl
    have fz := HZ4.out.free; have hzl := HZ4.out.lt
    generalize (X a).1 = xa at *
    generalize (X b).1 = xb at *
    generalize (X c).1 = xc at *
    clear hk hlt
    go_wp2_with fail
    clear e0 e1 e2 e3 e4
    obtain ⟨Z4, b4⟩ := five (.int .u64 xa) (.int .u64 xb) (.int .u64 xc) (.string pre) (.string mt) HZ4.out rfl HB4.out (Nat.le_refl _)
    generalize World.setCell _ _ _ = w4 at *
    have r0 := Z4.cell 0 _ rfl; have r1 := Z4.cell 1 _ rfl; have r2 := Z4.cell 2 _ rfl; have r3 := Z4.cell 3 _ rfl; have r4 := Z4.cell 4 _ rfl
    exact bodyPost_ret (v := .tuple #[.agg #[.int .u64 xa, .int .u64 xb, .int .u64 xc, .string pre, .string mt], .bool true]) (by simp [results, Tryz.results30, go_sem, r0, r1, r2, r3, r4]) rfl ⟨by rw [HV.out], b4⟩

end Go.Proofs.YtjgedenoaocfjaaGreatDoor.Rxw
namespace Go.Proofs.YtjgedenoaocfjaaGreatDoor.Rxw

open Go Go.RowKit Go.Proofs.YtjgedenoaocfjaaGreatDoor Go.Proofs.YtjgedenoaocfjaaGreatDoor.Rx Go.Proofs.YtjgedenoaocfjaaGreatDoor.L Go.Proofs.YtjgedenoaocfjaaGreatDoor.Parse Go.Proofs.YtjgedenoaocfjaaGreatDoor.KX Go.Proofs.YtjgedenoaocfjaaGreatDoor.Num Go.Proofs.YtjgedenoaocfjaaGreatDoor.MetaX

theorem fst_no {c : UInt8} : ∀ {l : List UInt8}, (∀ x ∈ l, x ≠ c) → fst c l = none := by
  intro l h
  cases e : fst c l with
  | none => rfl
  | some j =>
    obtain ⟨h1, h2, h3⟩ := fst_some c l j e
    exact absurd rfl (h c (by rw [h2]; simp))

theorem fst_at {c : UInt8} {u v : List UInt8} (h : ∀ x ∈ u, x ≠ c) : fst c (u ++ c :: v) = some u.length := by
  cases e : fst c (u ++ c :: v) with
  | none => exact absurd rfl (fst_none c _ e c (by simp))
  | some j =>
    obtain ⟨h1, h2, h3⟩ := fst_some c _ j e
    rcases Nat.lt_trichotomy j u.length with hj | hj | hj
    · have h4 : (u ++ c :: v)[j]? = some c := by
        rw [h2, List.getElem?_append_right (by rw [List.length_take]; omega), List.length_take, Nat.min_eq_left (by omega), Nat.sub_self]; rfl
      rw [List.getElem?_append_left hj, List.getElem?_eq_getElem hj] at h4
      exact absurd (Option.some.inj h4) (h _ (List.getElem_mem hj))
    · rw [hj]
    · exact absurd rfl (h3 c (by
        rw [List.take_append, List.mem_append]
        right
        obtain ⟨q, hq⟩ : ∃ q, j - u.length = q + 1 := ⟨j - u.length - 1, by omega⟩
        rw [hq, List.take_succ_cons]
        exact List.mem_cons_self ..))

theorem cutL_no {c : UInt8} {l : List UInt8} (h : ∀ x ∈ l, x ≠ c) : cutL c l = (l, [], false) := by unfold cutL; rw [fst_no h]

theorem cutL_at {c : UInt8} {u v : List UInt8} (h : ∀ x ∈ u, x ≠ c) : cutL c (u ++ c :: v) = (u, v, true) := by
  unfold cutL
  rw [fst_at h]
  simp

theorem cutL_inv {c : UInt8} {l u v : List UInt8} {f : Bool} (h : cutL c l = (u, v, f)) : (f = false ∧ u = l ∧ v = [] ∧ ∀ x ∈ l, x ≠ c) ∨ (f = true ∧ l = u ++ c :: v ∧ ∀ x ∈ u, x ≠ c) := by
  unfold cutL at h
  cases e : fst c l with
  | none => rw [e] at h; cases h; exact .inl ⟨rfl, rfl, rfl, fst_none c l e⟩
  | some j =>
    rw [e] at h
    cases h
    obtain ⟨h1, h2, h3⟩ := fst_some c l j e
    exact .inr ⟨rfl, h2, h3⟩

theorem splitNL_two {a b r : List UInt8} (ha : ∀ x ∈ a, x ≠ 46) (hb : ∀ x ∈ b, x ≠ 46) : splitNL 46 2 (a ++ 46 :: (b ++ 46 :: r)) = [a, b, r] := by
  unfold splitNL
  rw [fst_at ha]
  dsimp only
  rw [List.take_left]
  have e : (a ++ 46 :: (b ++ 46 :: r)).drop (a.length + 1) = b ++ 46 :: r := by simp
  rw [e]
  unfold splitNL
  rw [fst_at hb]
  dsimp only
  rw [List.take_left]
  have e : (b ++ 46 :: r).drop (b.length + 1) = r := by simp
  rw [e]
  rfl

theorem splitNL_inv {l a b r : List UInt8} (h : splitNL 46 2 l = [a, b, r]) : l = a ++ 46 :: (b ++ 46 :: r) := by
  unfold splitNL at h
  cases e : fst 46 l with
  | none => rw [e] at h; simp at h
  | some j =>
    rw [e] at h
    dsimp only at h
    obtain ⟨h1, h2, h3⟩ := fst_some 46 l j e
    unfold splitNL at h
    cases e2 : fst 46 (l.drop (j + 1)) with
    | none => rw [e2] at h; simp at h
    | some i =>
      rw [e2] at h
      dsimp only at h
      obtain ⟨g1, g2, g3⟩ := fst_some 46 _ i e2
      unfold splitNL at h
      simp only [List.cons.injEq, and_true] at h
      obtain ⟨q1, q2, q3⟩ := h
      rw [← q1, ← q2, ← q3, ← g2]
      exact h2

/-- A number of a version. -/
def NumOf (a : List UInt8) (x : Nat) : Prop := num a = some x ∧ leadL a = false

theorem num_all {a : List UInt8} {x : Nat} (h : num a = some x) : a ≠ [] ∧ a.all isDig = true ∧ valF 0 a = x ∧ x ≤ top := by
  rw [num_eq] at h
  split at h
  · rename_i q
    cases h
    exact ⟨q.1.1, q.1.2, rfl, q.2⟩
  · cases h

theorem NumOf.no {a : List UInt8} {x : Nat} (h : NumOf a x) (c : UInt8) (hc : isDig c = false) : ∀ y ∈ a, y ≠ c := by
  intro y hy e
  have := List.all_eq_true.1 (num_all h.1).2.1 y hy
  rw [e, hc] at this
  cases this

theorem NumOf.part {a : List UInt8} {x : Nat} (h : NumOf a x) : partK a = 8 := by
  unfold partK
  rw [(num_all h.1).2.1, if_neg (by decide), h.2, if_neg (by decide)]

def TailP (w p : List UInt8) : Prop := (w = [] ∧ p = []) ∨ (w = 45 :: p ∧ preOk p = true)

theorem TailP.tail {w p} (h : TailP w p) : Tail 45 w p := h.imp id fun h => ⟨h.1, pre_meta p h.2⟩

/-- A text that is put together as a strict version. -/
def Ver3 (l : List UInt8) (x y z : Nat) (p m : List UInt8) : Prop := ∃ a b c pw gw, l = a ++ 46 :: (b ++ 46 :: (c ++ (pw ++ gw))) ∧ NumOf a x ∧ NumOf b y ∧ NumOf c z ∧ TailP pw p ∧ Tail 43 gw m

theorem pre_no {pw p : List UInt8} (h : TailP pw p) : ∀ x ∈ pw, x ≠ 43 := by
  rcases h with ⟨rfl, _⟩ | ⟨rfl, h⟩
  · intro x hx; simp at hx
  · intro x hx
    rcases List.mem_cons.1 hx with h1 | h1
    · rw [h1]; decide
    · exact id_no 43 (by decide) (by decide) p (pre_meta p h) x h1

/-- The tails of a text whose front has neither mark. -/
theorem tails_of {u pw p gw m : List UInt8} (hu : ∀ x ∈ u, x ≠ 43 ∧ x ≠ 45) (hp : TailP pw p) (hg : Tail 43 gw m) : tailsL (u ++ (pw ++ gw)) = (u, p, m, true) := by
  have h43 : ∀ x ∈ u ++ pw, x ≠ 43 := fun x hx => (List.mem_append.1 hx).elim (fun h => (hu x h).1) (pre_no hp x)
  unfold tailsL
  rw [← List.append_assoc]
  have e1 : cutL 43 (u ++ pw ++ gw) = (u ++ pw, m, decide (gw ≠ [])) ∧ (gw ≠ [] → metaOk m = true) := by
    rcases hg with ⟨rfl, rfl⟩ | ⟨rfl, hm⟩
    · rw [List.append_nil, cutL_no h43]; exact ⟨rfl, fun h => absurd rfl h⟩
    · rw [cutL_at h43]; exact ⟨by simp, fun _ => hm⟩
  have e2 : cutL 45 (u ++ pw) = (u, p, decide (pw ≠ [])) ∧ (pw ≠ [] → preOk p = true) := by
    rcases hp with ⟨rfl, rfl⟩ | ⟨rfl, hp⟩
    · rw [List.append_nil, cutL_no (fun x hx => (hu x hx).2)]; exact ⟨rfl, fun h => absurd rfl h⟩
    · rw [cutL_at (fun x hx => (hu x hx).2)]; exact ⟨by simp, fun _ => hp⟩
  rw [e1.1]
  dsimp only
  rw [e2.1]
  dsimp only
  congr 3
  by_cases h1 : gw = [] <;> by_cases h2 : pw = [] <;> simp [h1, h2] <;> first | exact e1.2 h1 | exact e2.2 h2 | exact ⟨e1.2 h1, e2.2 h2⟩

theorem tails_inv {l u p m : List UInt8} (h : tailsL l = (u, p, m, true)) : ∃ pw gw, l = u ++ (pw ++ gw) ∧ TailP pw p ∧ Tail 43 gw m ∧ ∀ x ∈ u, x ≠ 43 ∧ x ≠ 45 := by
  unfold tailsL at h
  obtain ⟨u1, m1, f1, h1⟩ : ∃ u1 m1 f1, cutL 43 l = (u1, m1, f1) := ⟨_, _, _, rfl⟩
  obtain ⟨u2, p2, f2, h2⟩ : ∃ u2 p2 f2, cutL 45 u1 = (u2, p2, f2) := ⟨_, _, _, rfl⟩
  rw [h1] at h
  dsimp only at h
  rw [h2] at h
  simp only [Prod.mk.injEq, Bool.and_eq_true, Bool.or_eq_true] at h
  obtain ⟨rfl, rfl, rfl, hm, hp⟩ := h
  rcases cutL_inv h1 with ⟨rfl, rfl, rfl, n1⟩ | ⟨rfl, rfl, n1⟩
  · rcases cutL_inv h2 with ⟨rfl, rfl, rfl, n2⟩ | ⟨rfl, rfl, n2⟩
    · exact ⟨[], [], by simp, .inl ⟨rfl, rfl⟩, .inl ⟨rfl, rfl⟩, fun x hx => ⟨n1 x hx, n2 x hx⟩⟩
    · exact ⟨45 :: p2, [], by simp, .inr ⟨rfl, by simpa using hp⟩, .inl ⟨rfl, rfl⟩, fun x hx => ⟨n1 x (List.mem_append_left _ hx), n2 x hx⟩⟩
  · rcases cutL_inv h2 with ⟨rfl, rfl, rfl, n2⟩ | ⟨rfl, rfl, n2⟩
    · exact ⟨[], 43 :: m1, by simp, .inl ⟨rfl, rfl⟩, .inr ⟨rfl, by simpa using hm⟩, fun x hx => ⟨n1 x hx, n2 x hx⟩⟩
    · exact ⟨45 :: p2, 43 :: m1, by simp, .inr ⟨rfl, by simpa using hp⟩, .inr ⟨rfl, by simpa using hm⟩, fun x hx => ⟨n1 x (List.mem_append_left _ hx), n2 x hx⟩⟩

theorem goodX (a : List UInt8) : goodI numX (ofL a) = true ↔ ∃ x, NumOf a x := by
  unfold goodI numX NumOf
  rw [bl_ofL]
  have e : lead (ofL a) = leadL a := rfl
  rw [e]
  cases num a with
  | none => simp
  | some n => simp

theorem NumOf.valX {a : List UInt8} {x : Nat} (h : NumOf a x) : (numX (ofL a)).1 = (x : Int) := by
  unfold numX
  rw [bl_ofL, h.1]

/-- What the grammar gives. -/
def gramF (l : List UInt8) : Int × Int × Int × ByteArray × ByteArray × Bool := let t := tailsL l; gramV numX (ofL t.2.1) (ofL t.2.2.1) t.2.2.2 ((splitL 46 t.1).map ofL)

theorem ver3_gram {l : List UInt8} {x y z : Nat} {p m : List UInt8} (h : Ver3 l x y z p m) : gramF l = ((x : Int), (y : Int), (z : Int), ofL p, ofL m, true) := by
  obtain ⟨a, b, c, pw, gw, rfl, ha, hb, hc, hp, hg⟩ := h
  have hu : ∀ q ∈ a ++ 46 :: (b ++ 46 :: c), q ≠ 43 ∧ q ≠ 45 := by
    intro q hq
    simp only [List.mem_append, List.mem_cons] at hq
    rcases hq with h | h | h | h | h
    · exact ⟨ha.no 43 (by decide) q h, ha.no 45 (by decide) q h⟩
    · rw [h]; decide
    · exact ⟨hb.no 43 (by decide) q h, hb.no 45 (by decide) q h⟩
    · rw [h]; decide
    · exact ⟨hc.no 43 (by decide) q h, hc.no 45 (by decide) q h⟩
  have e : a ++ 46 :: (b ++ 46 :: (c ++ (pw ++ gw))) = (a ++ 46 :: (b ++ 46 :: c)) ++ (pw ++ gw) := by simp
  unfold gramF
  rw [e, tails_of hu hp hg]
  dsimp only
  rw [splitL_at 46 a _ (ha.no 46 (by decide)), splitL_at 46 b _ (hb.no 46 (by decide)), splitL_none 46 c (hc.no 46 (by decide))]
  unfold gramV
  simp only [List.map_cons, List.map_nil]
  rw [if_pos ⟨by first | rfl | trivial, (goodX a).2 ⟨x, ha⟩, (goodX b).2 ⟨y, hb⟩, (goodX c).2 ⟨z, hc⟩⟩, ha.valX, hb.valX, hc.valX]

theorem gram_ver3 {l : List UInt8} (h : (gramF l).2.2.2.2.2 = true) : ∃ x y z p m, Ver3 l x y z p m := by
  unfold gramF gramV at h
  obtain ⟨u, p, m, f, ht⟩ : ∃ u p m f, tailsL l = (u, p, m, f) := ⟨_, _, _, _, rfl⟩
  rw [ht] at h
  dsimp only at h
  split at h
  · rename_i a b c hl
    split at h
    · rename_i hg
      obtain ⟨rfl, ga, gb, gc⟩ := hg
      obtain ⟨pw, gw, rfl, hp, hgw, hu⟩ := tails_inv ht
      obtain ⟨a', t1, hs, ea, h1⟩ := List.map_eq_cons_iff.1 hl
      obtain ⟨b', t2, rfl, eb, h2⟩ := List.map_eq_cons_iff.1 h1
      obtain ⟨c', t3, rfl, ec, h3⟩ := List.map_eq_cons_iff.1 h2
      obtain rfl : t3 = [] := by simpa using h3
      subst ea eb ec
      obtain ⟨x, hx⟩ := (goodX a').1 ga
      obtain ⟨y, hy⟩ := (goodX b').1 gb
      obtain ⟨z, hz⟩ := (goodX c').1 gc
      have hj := join_split u a' [b', c'] hs
      exact ⟨x, y, z, p, m, a', b', c', pw, gw, by rw [hj]; simp [dots], hx, hy, hz, hp, hgw⟩
    · cases h
  · cases h

theorem ver3_strict {l : List UInt8} {x y z : Nat} {p m : List UInt8} (h : Ver3 l x y z p m) (hl : l.length ≤ 256) : strictL l = .ok (x, y, z, p, m) := by
  obtain ⟨a, b, c, pw, gw, rfl, ha, hb, hc, hp, hg⟩ := h
  unfold strictL
  rw [if_neg (by simp), if_neg (by omega), splitNL_two (ha.no 46 (by decide)) (hb.no 46 (by decide))]
  have h43 : ∀ q ∈ c ++ pw, q ≠ 43 := fun q hq => (List.mem_append.1 hq).elim (hc.no 43 (by decide) q) (pre_no hp q)
  have e1 : ∃ f, cutF 43 (c ++ (pw ++ gw)) = (c ++ pw, m, f) ∧ (f = true → metaOk m = true) := by
    show ∃ f, cutL 43 _ = _ ∧ _
    rw [← List.append_assoc]
    rcases hg with ⟨rfl, rfl⟩ | ⟨rfl, hm⟩
    · rw [List.append_nil, cutL_no h43]; exact ⟨false, rfl, fun h => by cases h⟩
    · rw [cutL_at h43]; exact ⟨true, rfl, fun _ => hm⟩
  have e2 : ∃ f, cutF 45 (c ++ pw) = (c, p, f) ∧ (f = true → preOk p = true) := by
    show ∃ f, cutL 45 _ = _ ∧ _
    rcases hp with ⟨rfl, rfl⟩ | ⟨rfl, hp⟩
    · rw [List.append_nil, cutL_no (hc.no 45 (by decide))]; exact ⟨false, rfl, fun h => by cases h⟩
    · rw [cutL_at (hc.no 45 (by decide))]; exact ⟨true, rfl, fun _ => hp⟩
  obtain ⟨f1, e1, g1⟩ := e1
  obtain ⟨f2, e2, g2⟩ := e2
  unfold partsK tailK
  dsimp only
  rw [e1]
  dsimp only
  rw [if_neg (fun h => by rw [g1 h.1] at h; exact absurd h.2 (by decide))]
  unfold preK
  rw [e2]
  dsimp only
  rw [if_neg (fun h => by rw [g2 h.1] at h; exact absurd h.2 (by decide))]
  unfold numK
  rw [if_neg (fun h => h ha.part), if_neg (fun h => h hb.part), if_neg (fun h => h hc.part)]
  unfold parseK
  rw [ha.1]
  dsimp only
  rw [hb.1]
  dsimp only
  rw [hc.1]

theorem part_no {a : List UInt8} (h : partK a = 8) : leadL a = false := by
  unfold partK at h
  split at h
  · cases h
  · split at h
    · cases h
    · rename_i q; simpa using q

theorem strict_ver3 {l : List UInt8} {x y z : Nat} {p m : List UInt8} (h : strictL l = .ok (x, y, z, p, m)) : Ver3 l x y z p m := by
  unfold strictL at h
  split at h
  · cases h
  · split at h
    · cases h
    · unfold partsK at h
      split at h
      · rename_i a b c hs
        obtain ⟨c1, m1, f1, h1⟩ : ∃ c1 m1 f1, cutF 43 c = (c1, m1, f1) := ⟨_, _, _, rfl⟩
        obtain ⟨c2, p2, f2, h2⟩ : ∃ c2 p2 f2, cutF 45 c1 = (c2, p2, f2) := ⟨_, _, _, rfl⟩
        unfold tailK at h
        rw [h1] at h
        dsimp only at h
        split at h
        · cases h
        · rename_i n1
          unfold preK at h
          rw [h2] at h
          dsimp only at h
          split at h
          · cases h
          · rename_i n2
            unfold numK at h
            by_cases q1 : partK a = 8
            · rw [if_neg (fun g => g q1)] at h
              by_cases q2 : partK b = 8
              · rw [if_neg (fun g => g q2)] at h
                by_cases q3 : partK c2 = 8
                · rw [if_neg (fun g => g q3)] at h
                  unfold parseK at h
                  cases na : num a with
                  | none => rw [na] at h; cases h
                  | some x' =>
                    rw [na] at h
                    dsimp only at h
                    cases nb : num b with
                    | none => rw [nb] at h; cases h
                    | some y' =>
                      rw [nb] at h
                      dsimp only at h
                      cases nc : num c2 with
                      | none => rw [nc] at h; cases h
                      | some z' =>
                        rw [nc] at h
                        cases h
                        have hA : NumOf a x := ⟨na, part_no q1⟩
                        have hB : NumOf b y := ⟨nb, part_no q2⟩
                        have hC : NumOf c2 z := ⟨nc, part_no q3⟩
                        have hl := splitNL_inv hs
                        rcases cutL_inv (show cutL 43 c = _ from h1) with ⟨rfl, rfl, rfl, _⟩ | ⟨rfl, rfl, _⟩
                        · rcases cutL_inv (show cutL 45 c1 = _ from h2) with ⟨rfl, rfl, rfl, _⟩ | ⟨rfl, rfl, _⟩
                          · exact ⟨a, b, c2, [], [], by rw [hl]; simp, hA, hB, hC, .inl ⟨rfl, rfl⟩, .inl ⟨rfl, rfl⟩⟩
                          · exact ⟨a, b, c2, 45 :: p, [], by rw [hl]; simp, hA, hB, hC, .inr ⟨rfl, by simpa using n2⟩, .inl ⟨rfl, rfl⟩⟩
                        · rcases cutL_inv (show cutL 45 c1 = _ from h2) with ⟨rfl, rfl, rfl, _⟩ | ⟨rfl, rfl, _⟩
                          · exact ⟨a, b, c2, [], 43 :: m, by rw [hl]; simp, hA, hB, hC, .inl ⟨rfl, rfl⟩, .inr ⟨rfl, by simpa using n1⟩⟩
                          · exact ⟨a, b, c2, 45 :: p, 43 :: m, by rw [hl]; simp, hA, hB, hC, .inr ⟨rfl, by simpa using n2⟩, .inr ⟨rfl, by simpa using n1⟩⟩
                · rw [if_pos q3] at h; cases h
              · rw [if_pos q2] at h; cases h
            · rw [if_pos q1] at h; cases h
      · cases h

end Go.Proofs.YtjgedenoaocfjaaGreatDoor.Rxw
namespace Go.Proofs.YtjgedenoaocfjaaGreatDoor.Rxw

open Go Go.RowKit Go.Lib Go.Sort Go.Proofs Go.Proofs.YtjgedenoaocfjaaGreatDoor Go.Proofs.YtjgedenoaocfjaaGreatDoor.Base Go.Proofs.YtjgedenoaocfjaaGreatDoor.Rx Go.Proofs.YtjgedenoaocfjaaGreatDoor.L Go.Proofs.YtjgedenoaocfjaaGreatDoor.Parse Go.Proofs.YtjgedenoaocfjaaGreatDoor.KX Go.Proofs.YtjgedenoaocfjaaGreatDoor.Num

theorem errs_of {w : World} (hSem : Sem w) (hStr : Str w) : ∃ te pe, Errs te pe w := by
  obtain ⟨t0, p0, h0⟩ := hStr.emp
  obtain ⟨t1, p1, h1⟩ := hStr.lng
  obtain ⟨t2, p2, h2⟩ := hStr.sem
  obtain ⟨t3, p3, h3⟩ := hStr.chr
  obtain ⟨t4, p4, h4⟩ := hSem.zer
  obtain ⟨t5, p5, h5⟩ := hSem.met
  obtain ⟨t6, p6, h6⟩ := hSem.pre
  refine ⟨fun k => match k with | 0 => t0 | 1 => t1 | 2 => t2 | 3 => t3 | 4 => t4 | 5 => t5 | _ => t6, fun k => match k with | 0 => p0 | 1 => p1 | 2 => p2 | 3 => p3 | 4 => p4 | 5 => p5 | _ => p6, fun k => ?_, fun k => ?_⟩
  · match k with
    | 0 => exact h0
    | 1 => exact h1
    | 2 => exact h2
    | 3 => exact h3
    | 4 => exact h4
    | 5 => exact h5
    | k + 6 => exact h6
  · match k with
    | 0 => exact hStr.emplt
    | 1 => exact hStr.lnglt
    | 2 => exact hStr.semlt
    | 3 => exact hStr.chrlt
    | 4 => exact hSem.zerlt
    | 5 => exact hSem.metlt
    | k + 6 => exact hSem.prelt

def strictO (l : List UInt8) : Option (Nat × Nat × Nat × ByteArray × ByteArray) := match strictL l with
  | .ok (a, b, c, p, m) => some (a, b, c, ofL p, ofL m)
  | .error _ => none

def numD (w : List UInt8) : Option Nat := match w with
  | [] => some 0
  | b :: r => if b = 46 then num r else none

/-- What a text is, read loosely. -/
def looseL (l : List UInt8) : Option (Nat × Nat × Nat × List UInt8 × List UInt8) := match verG digB l.length l with
  | some (x, []) => match num x.a, numD x.b, numD x.c with
    | some a, some b, some c => if (x.p = [] ∨ preOk x.p = true) ∧ (x.g = [] ∨ metaOk x.g = true) then some (a, b, c, x.p, x.g) else none
    | _, _, _ => none
  | _ => none

theorem numD_of {w : List UInt8} {n : Nat} (h : numD w = some n) : (w = [] ∧ n = 0) ∨ ∃ r, w = 46 :: r ∧ num r = some n := by
  unfold numD at h
  split at h
  · cases h; exact .inl ⟨rfl, rfl⟩
  · split at h
    · rename_i e; subst e; exact .inr ⟨_, rfl, h⟩
    · cases h

theorem newL (s : ByteArray) (ha : Ascii s) (hs : s.size ≤ 256) {a b c : Nat} {p m : List UInt8} (h : looseL (bl s) = some (a, b, c, p, m)) (w : World) (hStd : Std w) (hSem : Sem w) :
    Calls Tryz.prog 31 #[.string s] w (NewVer a b c (ofL p) (ofL m) s w) := by
  unfold looseL at h
  split at h
  · rename_i x hv
    split at h
    · rename_i na nb nc h1 h2 h3
      split at h
      · rename_i hg
        cases h
        exact newOf s ha hs x hv a b c h1 (numD_of h2) (numD_of h3) hg.1 hg.2 w hStd hSem
      · cases h
    · cases h
  · cases h

theorem num_top {l : List UInt8} {n : Nat} (h : num l = some n) : n ≤ 18446744073709551615 := (num_all h).2.2.2

theorem loose_top {l : List UInt8} {a b c : Nat} {p m : List UInt8} (h : looseL l = some (a, b, c, p, m)) : a ≤ 18446744073709551615 ∧ b ≤ 18446744073709551615 ∧ c ≤ 18446744073709551615 := by
  have nd : ∀ {w : List UInt8} {n : Nat}, numD w = some n → n ≤ 18446744073709551615 := fun h => by
    rcases numD_of h with ⟨_, rfl⟩ | ⟨r, _, h⟩
    · omega
    · exact num_top h
  unfold looseL at h
  split at h
  · split at h
    · rename_i h1 h2 h3
      split at h
      · cases h; exact ⟨num_top h1, nd h2, nd h3⟩
      · cases h
    · cases h
  · cases h

def asciiB (l : List UInt8) : Bool := l.all fun x => decide (x.toNat < 128)

theorem ascii_of {s : ByteArray} (h : asciiB (bl s) = true) : Ascii s := fun x hx => of_decide_eq_true (List.all_eq_true.1 h x hx)

end Go.Proofs.YtjgedenoaocfjaaGreatDoor.Rxw

namespace Go.Proofs.YtjgedenoaocfjaaGreatDoor.PX

open Go Go.RowKit Go.Lib Go.Sort Go.Proofs Go.Proofs.YtjgedenoaocfjaaGreatDoor Go.Proofs.YtjgedenoaocfjaaGreatDoor.Base Go.Proofs.YtjgedenoaocfjaaGreatDoor.Rx Go.Proofs.YtjgedenoaocfjaaGreatDoor.L Go.Proofs.YtjgedenoaocfjaaGreatDoor.Parse Go.Proofs.YtjgedenoaocfjaaGreatDoor.KX Go.Proofs.YtjgedenoaocfjaaGreatDoor.Rxw

def impl_StrictVersion.f (a0 : ByteArray) : Option (Int × Int × Int × ByteArray × ByteArray × Bool) :=
  if a0.size ≤ 2147483647 then some (match strictO (bl a0) with | some (a, b, c, p, m) => ((a : Int), (b : Int), (c : Int), p, m, true) | none => (0, 0, 0, ⟨#[]⟩, ⟨#[]⟩, false)) else none

theorem impl_StrictVersion.calls (a0 : ByteArray) (r1 r2 r3 : Int) (r4 r5 : ByteArray) (r6 : Bool) (w : World) (hSem : Sem w) (hStd : Std w) (hStr : Str w) (h : impl_StrictVersion.f a0 = some (r1, r2, r3, r4, r5, r6)) :
    Calls Tryz.prog 9 #[.string a0] w fun e w' => e = .returned (.tuple #[.agg #[.int .u64 r1, .int .u64 r2, .int .u64 r3, .string r4, .string r5], .bool r6]) ∧ Below w.heap.size w w' := by
  unfold impl_StrictVersion.f at h
  split at h
  · rename_i hs
    obtain ⟨te, pe, hE⟩ := errs_of hSem hStr
    have hO := openStrict a0 (strictO (bl a0)) w (fun W hW => by
      have := strictW a0 hs te pe W (hE.below hW) (hStd.below hW)
      refine this.mono fun e w' h => ?_
      unfold strictO
      cases hq : strictL (bl a0) with
      | ok r => obtain ⟨a, b, c, p, m⟩ := r; rw [hq] at h; exact h
      | error k =>
        rw [hq] at h
        obtain ⟨t, y, he, _, hb⟩ := h
        exact ⟨_, t, y, he, hb⟩)
    refine hO.mono fun e w' hR => ?_
    cases hq : strictO (bl a0) with
    | none => rw [hq] at h hR; cases h; exact hR
    | some r => obtain ⟨a, b, c, p, m⟩ := r; rw [hq] at h hR; cases h; exact hR
  · cases h

def impl_LooseVersion.f (a0 : ByteArray) : Option (Int × Int × Int × ByteArray × ByteArray × Bool) :=
  if a0.size ≤ 256 ∧ asciiB (bl a0) = true then (match looseL (bl a0) with | some (a, b, c, p, m) => some ((a : Int), (b : Int), (c : Int), ofL p, ofL m, true) | none => none) else none

theorem impl_LooseVersion.calls (a0 : ByteArray) (r1 r2 r3 : Int) (r4 r5 : ByteArray) (r6 : Bool) (w : World) (hSem : Sem w) (hStd : Std w) (h : impl_LooseVersion.f a0 = some (r1, r2, r3, r4, r5, r6)) :
    Calls Tryz.prog 11 #[.string a0] w fun e w' => e = .returned (.tuple #[.agg #[.int .u64 r1, .int .u64 r2, .int .u64 r3, .string r4, .string r5], .bool r6]) ∧ Below w.heap.size w w' := by
  unfold impl_LooseVersion.f at h
  split at h
  · rename_i hs
    split at h
    · rename_i a b c p m hl
      cases h
      exact openLoose a0 (some (a, b, c, ofL p, ofL m)) w (fun W hW => newL a0 (ascii_of hs.2) hs.1 hl W (hStd.below hW) (hSem.below hW))
    · cases h
  · cases h

def impl_LooseText.f (a0 : ByteArray) : Option (ByteArray × Bool) :=
  if a0.size ≤ 256 ∧ asciiB (bl a0) = true then (match looseL (bl a0) with | some (a, b, c, p, m) => if p.length ≤ 1000 ∧ m.length ≤ 1000 then some (ofL (verText a b c p m), true) else none | none => none) else none

theorem impl_LooseText.calls (a0 : ByteArray) (r1 : ByteArray) (r2 : Bool) (w : World) (hPow : Pow w) (hSem : Sem w) (hStd : Std w) (h : impl_LooseText.f a0 = some (r1, r2)) :
    Calls Tryz.prog 12 #[.string a0] w fun e w' => e = .returned (.tuple #[.string r1, .bool r2]) ∧ Below w.heap.size w w' := by
  unfold impl_LooseText.f at h
  split at h
  · rename_i hs
    split at h
    · rename_i a b c p m hl
      split at h
      · rename_i hz
        cases h
        have ht := loose_top hl
        have := string_f a b c (ofL p) (ofL m) a0 ht.1 ht.2.1 ht.2.2 (by rw [size_ofL]; omega) (by rw [size_ofL]; omega)
        rw [bl_ofL, bl_ofL] at this
        exact looseText a0 _ (ofL p) (ofL m) a b c w (newL a0 (ascii_of hs.2) hs.1 hl w hStd hSem) this hPow
      · cases h
    · cases h
  · cases h

def spec_grammar.f (a0 : ByteArray) : Option (Int × Int × Int × ByteArray × ByteArray × Bool) := if a0.size ≤ 1000000000 then some (gramF (bl a0)) else none

theorem spec_grammar.calls (a0 : ByteArray) (r1 r2 r3 : Int) (r4 r5 : ByteArray) (r6 : Bool) (w : World) (h : spec_grammar.f a0 = some (r1, r2, r3, r4, r5, r6)) :
    Calls Tryz.prog 30 #[.string a0] w fun e w' => e = .returned (.tuple #[.agg #[.int .u64 r1, .int .u64 r2, .int .u64 r3, .string r4, .string r5], .bool r6]) ∧ Below w.heap.size w w' := by
  unfold spec_grammar.f at h
  split at h
  · rename_i hs
    have hg : gramF (bl a0) = (r1, r2, r3, r4, r5, r6) := Option.some.inj h
    have hc := cutL_len 43 (bl a0)
    have hc2 := cutL_len 45 (cutL 43 (bl a0)).1
    rw [bl_len] at hc
    have hu : (tailsL (bl a0)).1.length ≤ a0.size := by show (cutL 45 (cutL 43 (bl a0)).1).1.length ≤ _; omega
    have hsp := splitL_len 46 (tailsL (bl a0)).1
    have := gramW (2 * a0.size + 4) a0 _ _ _ _ _ numX (tails_f a0 (by omega) _ (by omega)) (identifiers_f (ofL (tailsL (bl a0)).1) (by rw [size_ofL]; omega) _ (by rw [size_ofL]; omega)) (by rw [List.length_map, bl_ofL]; omega)
      (fun p hp => by
        rw [bl_ofL] at hp
        obtain ⟨q, hq, rfl⟩ := List.mem_map.1 hp
        have hle := Bt.parts_le 46 _ q hq
        exact number_f (ofL q) (by rw [size_ofL]; omega) _ (by rw [size_ofL]; omega)) w
    rw [bl_ofL] at this
    refine this.mono fun e w' hR => ?_
    have e2 : gramV numX (ofL (tailsL (bl a0)).2.1) (ofL (tailsL (bl a0)).2.2.1) (tailsL (bl a0)).2.2.2 ((splitL 46 (tailsL (bl a0)).1).map ofL) = (r1, r2, r3, r4, r5, r6) := hg
    rw [e2] at hR
    exact hR
  · cases h

end Go.Proofs.YtjgedenoaocfjaaGreatDoor.PX
namespace Go.Proofs.YtjgedenoaocfjaaGreatDoor.Rxw

open Go Go.RowKit Go.Proofs.YtjgedenoaocfjaaGreatDoor Go.Proofs.YtjgedenoaocfjaaGreatDoor.Rx Go.Proofs.YtjgedenoaocfjaaGreatDoor.L Go.Proofs.YtjgedenoaocfjaaGreatDoor.Parse Go.Proofs.YtjgedenoaocfjaaGreatDoor.KX Go.Proofs.YtjgedenoaocfjaaGreatDoor.Num

theorem valF_app : ∀ (u v : List UInt8) (a : Nat), valF a (u ++ v) = valF (valF a u) v := fun u v a => by unfold valF; rw [List.foldl_append]

theorem valF_pos {d : UInt8} {t : List UInt8} (h : d ≠ 48) (hd : isDig d = true) : 1 ≤ valF 0 (d :: t) := by
  have hle := valF_le t (Num.step 0 d)
  show 1 ≤ valF (Num.step 0 d) t
  have : 1 ≤ Num.step 0 d := by
    unfold Num.step
    rw [dig_iff] at hd
    have : d.toNat ≠ 48 := fun e => h (UInt8.toNat_inj.1 e)
    omega
  omega

theorem dec_num : ∀ (n : Nat) (a : List UInt8), a.length = n → a ≠ [] → a.all isDig = true → leadL a = false → decL (valF 0 a) = a := by
  intro n
  induction n with
  | zero => intro a h hne; exact absurd (List.eq_nil_of_length_eq_zero h) hne
  | succ n ih =>
    intro a h hne hall hl
    obtain ⟨u, d, rfl⟩ : ∃ u d, a = u ++ [d] := ⟨a.dropLast, a.getLast hne, (List.dropLast_concat_getLast hne).symm⟩
    rw [List.all_append, Bool.and_eq_true] at hall
    have hd : isDig d = true := by simpa using hall.2
    have hd' := (dig_iff d).1 hd
    rw [valF_app]
    have e : valF (valF 0 u) [d] = valF 0 u * 10 + (d.toNat - 48) := rfl
    rw [e]
    have hch : UInt8.ofNat (48 + (d.toNat - 48)) = d := by
      apply UInt8.toNat_inj.1
      rw [UInt8.toNat_ofNat']
      omega
    cases u with
    | nil =>
      show decL (0 * 10 + (d.toNat - 48)) = [d]
      unfold decL
      rw [if_pos (by omega), Nat.zero_mul, Nat.zero_add, hch]
    | cons c t =>
      have hc : isDig c = true := by have := hall.1; simp at this; exact this.1
      have hc0 : c ≠ 48 := by
        intro e
        subst e
        unfold leadL at hl
        simp at hl
      have hp := valF_pos (t := t) hc0 hc
      have hl2 : leadL (c :: t) = false := by
        unfold leadL
        have : ((c :: t).headD 0 == 48) = false := by simpa using hc0
        rw [this, Bool.and_false]
      have := ih (c :: t) (by simp at h ⊢; exact h) (by simp) hall.1 hl2
      generalize valF 0 (c :: t) = q at *
      rw [decL, if_neg (by omega), show (q * 10 + (d.toNat - 48)) / 10 = q by omega, show (q * 10 + (d.toNat - 48)) % 10 = d.toNat - 48 by omega, this, hch]

theorem NumOf.dec {a : List UInt8} {x : Nat} (h : NumOf a x) : Lib.decDigits x = a := by
  obtain ⟨h1, h2, h3, _⟩ := num_all h.1
  rw [← decL_eq, ← h3]
  exact dec_num _ a rfl h1 h2 h.2

theorem ver3_text {l : List UInt8} {x y z : Nat} {p m : List UInt8} (h : Ver3 l x y z p m) : verText x y z p m = l := by
  obtain ⟨a, b, c, pw, gw, rfl, ha, hb, hc, hp, hg⟩ := h
  unfold verText
  rw [ha.dec, hb.dec, hc.dec]
  have e1 : (if p = [] then [] else 45 :: p) = pw := by
    rcases hp with ⟨rfl, rfl⟩ | ⟨rfl, h⟩
    · rfl
    · rw [if_neg]; rintro rfl; exact absurd h (by decide)
  have e2 : (if m = [] then [] else 43 :: m) = gw := by
    rcases hg with ⟨rfl, rfl⟩ | ⟨rfl, h⟩
    · rfl
    · rw [if_neg]; rintro rfl; exact absurd h (by decide)
  rw [e1, e2]
  simp

theorem all_dig {a : List UInt8} {x : Nat} (h : num a = some x) : a ≠ [] ∧ ∀ q ∈ a, digB q = true := ⟨(num_all h).1, fun q hq => by rw [← isDig_digB]; exact List.all_eq_true.1 (num_all h).2.1 q hq⟩

theorem ver3_loose {l : List UInt8} {x y z : Nat} {p m : List UInt8} (h : Ver3 l x y z p m) : looseL l = some (x, y, z, p, m) := by
  obtain ⟨a, b, c, pw, gw, hl, ha, hb, hc, hp, hg⟩ := h
  have hv := ver_of (v := []) (m := l.length) (.inl rfl) (all_dig ha.1) (.inr ⟨rfl, all_dig hb.1⟩ : Dotted (46 :: b) b) (.inr ⟨rfl, all_dig hc.1⟩ : Dotted (46 :: c) c) (fun h => by cases h) hp.tail hg (by rw [hl]; simp; omega)
  have e : [] ++ (a ++ ((46 :: b) ++ ((46 :: c) ++ (pw ++ gw)))) = l := by rw [hl]; simp
  rw [e] at hv
  unfold looseL
  rw [hv]
  dsimp only [numD]
  rw [if_pos rfl, if_pos rfl, ha.1, hb.1, hc.1]
  dsimp only
  rw [if_pos]
  refine ⟨?_, ?_⟩
  · rcases hp with ⟨_, rfl⟩ | ⟨_, h⟩
    · exact .inl rfl
    · exact .inr h
  · rcases hg with ⟨_, rfl⟩ | ⟨_, h⟩
    · exact .inl rfl
    · exact .inr h

theorem id_low (b : UInt8) (h : isId b = true) : b.toNat < 128 := by
  unfold isId isDig at h
  simp at h
  rcases h with ((h | h) | h) | h
  · omega
  · omega
  · omega
  · rw [h]; decide

theorem meta_low {p : List UInt8} (h : metaOk p = true) : ∀ x ∈ p, x.toNat < 128 := fun x hx => by
  rcases meta_bytes p h x hx with h1 | h1
  · exact id_low x h1
  · rw [h1]; decide

theorem tail_low {c : UInt8} {w p : List UInt8} (hc : c.toNat < 128) (h : Tail c w p) : ∀ x ∈ w, x.toNat < 128 := by
  rcases h with ⟨rfl, _⟩ | ⟨rfl, h⟩
  · intro x hx; simp at hx
  · intro x hx
    rcases List.mem_cons.1 hx with h1 | h1
    · rw [h1]; exact hc
    · exact meta_low h x h1

theorem num_low {a : List UInt8} {x : Nat} (h : num a = some x) : ∀ y ∈ a, y.toNat < 128 := fun y hy => by
  have := (dig_iff y).1 (List.all_eq_true.1 (num_all h).2.1 y hy)
  omega

theorem ver3_ascii {l : List UInt8} {x y z : Nat} {p m : List UInt8} (h : Ver3 l x y z p m) : asciiB l = true := by
  obtain ⟨a, b, c, pw, gw, rfl, ha, hb, hc, hp, hg⟩ := h
  refine List.all_eq_true.2 fun q hq => decide_eq_true ?_
  simp only [List.mem_append, List.mem_cons] at hq
  rcases hq with h | h | h | h | h | h | h
  · exact num_low ha.1 q h
  · rw [h]; decide
  · exact num_low hb.1 q h
  · rw [h]; decide
  · exact num_low hc.1 q h
  · exact tail_low (by decide) hp.tail q h
  · exact tail_low (by decide) hg q h

theorem ver3_len {l : List UInt8} {x y z : Nat} {p m : List UInt8} (h : Ver3 l x y z p m) : p.length ≤ l.length ∧ m.length ≤ l.length := by
  obtain ⟨a, b, c, pw, gw, rfl, ha, hb, hc, hp, hg⟩ := h
  have h1 : p.length ≤ pw.length := by rcases hp with ⟨rfl, rfl⟩ | ⟨rfl, _⟩ <;> simp
  have h2 : m.length ≤ gw.length := by rcases hg with ⟨rfl, rfl⟩ | ⟨rfl, _⟩ <;> simp
  simp only [List.length_append, List.length_cons]
  omega

end Go.Proofs.YtjgedenoaocfjaaGreatDoor.Rxw
namespace Go.Proofs.YtjgedenoaocfjaaGreatDoor.PX

open Go.RowKit Go.Proofs.YtjgedenoaocfjaaGreatDoorW.PrintWords Go.Proofs.YtjgedenoaocfjaaGreatDoorW.PrintLast Go.Proofs.YtjgedenoaocfjaaGreatDoorW.PrintMore

attribute [local go_sem] max2_int min2_int max_two min_two max_three min_three max_four min_four   -- for this text's walks alone

set_option linter.unusedVariables false

set_option linter.unusedSimpArgs false

def spec_StrictVersion.f (a0 : ByteArray) : Option (Int × Int × Int × ByteArray × ByteArray × Bool) := if (a0.size : Int) > 256 then (some (0, 0, 0, (⟨#[]⟩ : ByteArray), (⟨#[]⟩ : ByteArray), false)) else ((spec_grammar.f a0).bind fun bt103 => (some (bt103.1, bt103.2.1, bt103.2.2.1, bt103.2.2.2.1, bt103.2.2.2.2.1, bt103.2.2.2.2.2)))

set_option maxHeartbeats 80000000 in
set_option maxRecDepth 100000 in
theorem spec_StrictVersion.calls (a0 : ByteArray) (r1 : Int) (r2 : Int) (r3 : Int) (r4 : ByteArray) (r5 : ByteArray) (r6 : Bool) (w : World) (h : spec_StrictVersion.f a0 = some (r1, r2, r3, r4, r5, r6)) :
  Calls Tryz.prog 10 #[.string a0] w fun e w' => e = .returned (.tuple #[.agg #[.int .u64 r1, .int .u64 r2, .int .u64 r3, .string r4, .string r5], .bool r6]) ∧ Below w.heap.size w w' := by
 have hu32 := Tryz.underlying32
 have HB := Aside0.mk (Below.refl w.heap.size w)
 have H : (if (a0.size : Int) > 256 then (some (0, 0, 0, (⟨#[]⟩ : ByteArray), (⟨#[]⟩ : ByteArray), false)) else ((spec_grammar.f a0).bind fun bt103 => (some (bt103.1, bt103.2.1, bt103.2.2.1, bt103.2.2.2.1, bt103.2.2.2.2.1, bt103.2.2.2.2.2)))) = some (r1, r2, r3, r4, r5, r6) := h
 clear h
 by_cases c2 : (a0.size : Int) > 256
 ·
  rw [if_pos c2] at H
  have c2b0 : decide (256 < (a0.size : Int)) = true := decide_eq_true c2
  have c2b1 : decide (256 < a0.size) = true := decide_eq_true (by omega)
  clear c2
  simp only [Option.some.injEq, Prod.mk.injEq] at H
  obtain ⟨rfl, rfl, rfl, rfl, rfl, rfl⟩ := H
  go_enter Tryz.func10, Tryz.ntmps10
  go_wp2_with (first | ((with_reducible refine gate_dst (N := 2) rfl ?_); refine box_event ?hg (N := 2) ?hd (cs := #[.int .u64 0, .int .u64 0, .int .u64 0, .string (⟨#[]⟩ : ByteArray), .string (⟨#[]⟩ : ByteArray)]) (t := 32) ?hr ?_; (case hd => rfl); (case hg => rfl); (case hr => first | (go_simp; done) | (go_simp; rfl) | (go_simp; simp [u8w]; done)); intro gb102 hg w3 hbox hb; have n0_ := Aside0.mk (below_step (by repeat (first | (with_reducible first | exact HB.out | apply below_alloc | apply pw_below_drewN | apply below_drew1) | exact HB.out)) hb); have n1_ := Aside0.mk (hbox); have n2_ := Aside0.mk ((by rw [hg]; exact (below_size (by repeat (first | (with_reducible first | exact HB.out | apply below_alloc | apply pw_below_drewN | apply below_drew1) | exact HB.out))) : w.heap.size ≤ gb102)); have n3_ := Aside0.mk ((by rw [hg]; exact (below_size (by repeat (first | (with_reducible first | exact HB.out | apply below_alloc | apply pw_below_drewN | apply below_drew1) | exact HB.out))) : w.heap.size ≤ gb102)); clear HB; have HB := n0_; have BK102 := n1_; have GW102 := n2_; have GE102 := n3_; clear n0_ n1_ n2_ n3_; clear hb hbox hg; have hcz4_0 : w3.cell? ⟨gb102, 0, none⟩ = some (.int .u64 0) := (blk_cell BK102.out 0).trans rfl; have hcz4_1 : w3.cell? ⟨gb102, 1, none⟩ = some (.int .u64 0) := (blk_cell BK102.out 1).trans rfl; have hcz4_2 : w3.cell? ⟨gb102, 2, none⟩ = some (.int .u64 0) := (blk_cell BK102.out 2).trans rfl; have hcz4_3 : w3.cell? ⟨gb102, 3, none⟩ = some (.string (⟨#[]⟩ : ByteArray)) := (blk_cell BK102.out 3).trans rfl; have hcz4_4 : w3.cell? ⟨gb102, 4, none⟩ = some (.string (⟨#[]⟩ : ByteArray)) := (blk_cell BK102.out 4).trans rfl; have hfz4_0 := blk_frozen BK102.out 0; have hfz4_1 := blk_frozen BK102.out 1; have hfz4_2 := blk_frozen BK102.out 2; have hfz4_3 := blk_frozen BK102.out 3; have hfz4_4 := blk_frozen BK102.out 4))
  refine bodyPost_ret (results_ct rfl _ _ gb102 32 #[.int .u64 0, .int .u64 0, .int .u64 0, .string (⟨#[]⟩ : ByteArray), .string (⟨#[]⟩ : ByteArray)] (0, 0) _ rfl (by (with_reducible repeat (first | refine blk_drewN ?_ _ | refine blk_drew ?_ | refine blk_alloc ?_ _)); refine blk_put (cs := #[.int .u64 0, .int .u64 0, .int .u64 0, .string (⟨#[]⟩ : ByteArray), .string (⟨#[]⟩ : ByteArray)]) ?_ 4 _ rfl; (with_reducible repeat (first | refine blk_drewN ?_ _ | refine blk_drew ?_ | refine blk_alloc ?_ _)); refine blk_put (cs := #[.int .u64 0, .int .u64 0, .int .u64 0, .string (⟨#[]⟩ : ByteArray), .string (⟨#[]⟩ : ByteArray)]) ?_ 3 _ rfl; (with_reducible repeat (first | refine blk_drewN ?_ _ | refine blk_drew ?_ | refine blk_alloc ?_ _)); refine blk_put (cs := #[.int .u64 0, .int .u64 0, .int .u64 0, .string (⟨#[]⟩ : ByteArray), .string (⟨#[]⟩ : ByteArray)]) ?_ 2 _ rfl; (with_reducible repeat (first | refine blk_drewN ?_ _ | refine blk_drew ?_ | refine blk_alloc ?_ _)); refine blk_put (cs := #[.int .u64 0, .int .u64 0, .int .u64 0, .string (⟨#[]⟩ : ByteArray), .string (⟨#[]⟩ : ByteArray)]) ?_ 1 _ rfl; (with_reducible repeat (first | refine blk_drewN ?_ _ | refine blk_drew ?_ | refine blk_alloc ?_ _)); refine blk_put (cs := #[.int .u64 0, .int .u64 0, .int .u64 0, .string (⟨#[]⟩ : ByteArray), .string (⟨#[]⟩ : ByteArray)]) ?_ 0 _ rfl; (with_reducible repeat (first | refine blk_drewN ?_ _ | refine blk_drew ?_ | refine blk_alloc ?_ _)); exact BK102.out) Tryz.underlying32 rfl (by kernel_rfl)) rfl ?_
  exact ⟨by first | rfl | (simp [errW_none, errW_some] <;> rfl) | (simp [*, errW_none, errW_some] <;> rfl) | (simp [bneNil]; done), by repeat (first | (with_reducible first | exact HB.out | apply below_alloc | apply pw_below_drewN | apply below_drew1 | refine below_set ?_ GE102.out) | exact HB.out)⟩
 ·
  rw [if_neg c2] at H
  have c2b0 : decide (256 < (a0.size : Int)) = false := decide_eq_false c2
  have c2b1 : decide (256 < a0.size) = false := decide_eq_false (by omega)
  clear c2
  replace H := Option.bind_eq_some_iff.mp H
  obtain ⟨⟨t103, t104, t105, t106, t107, t108⟩, A50, H⟩ := H
  replace H : (some (t103, t104, t105, t106, t107, t108)) = some (r1, r2, r3, r4, r5, r6) := H
  have A5 := Aside0.mk A50
  clear A50
  simp only [Option.some.injEq, Prod.mk.injEq] at H
  obtain ⟨rfl, rfl, rfl, rfl, rfl, rfl⟩ := H
  go_enter Tryz.func10, Tryz.ntmps10
  go_wp2_with (first | ((with_reducible refine gate_dst (N := 2) rfl ?_); refine box_event ?hg (N := 2) ?hd (cs := #[.int .u64 0, .int .u64 0, .int .u64 0, .string (⟨#[]⟩ : ByteArray), .string (⟨#[]⟩ : ByteArray)]) (t := 32) ?hr ?_; (case hd => rfl); (case hg => rfl); (case hr => first | (go_simp; done) | (go_simp; rfl) | (go_simp; simp [u8w]; done)); intro gb102 hg w6 hbox hb; have n0_ := Aside0.mk (below_step (by repeat (first | (with_reducible first | exact HB.out | apply below_alloc | apply pw_below_drewN | apply below_drew1) | exact HB.out)) hb); have n1_ := Aside0.mk (hbox); have n2_ := Aside0.mk ((by rw [hg]; exact (below_size (by repeat (first | (with_reducible first | exact HB.out | apply below_alloc | apply pw_below_drewN | apply below_drew1) | exact HB.out))) : w.heap.size ≤ gb102)); have n3_ := Aside0.mk ((by rw [hg]; exact (below_size (by repeat (first | (with_reducible first | exact HB.out | apply below_alloc | apply pw_below_drewN | apply below_drew1) | exact HB.out))) : w.heap.size ≤ gb102)); clear HB; have HB := n0_; have BK102 := n1_; have GW102 := n2_; have GE102 := n3_; clear n0_ n1_ n2_ n3_; clear hb hbox hg) | ((with_reducible refine gate_callee (f := 30) rfl ?_); refine goesL_ (some 9) rfl rfl Tryz.func30 (by kernel_rfl) rfl #[.string a0] rfl (by (try simp only [List.map_toArray, List.map_cons, List.map_nil]); first | done | rfl | (simp only [List.length_drop, List.length_take]; rfl)) ?_; (with_reducible refine (spec_grammar.calls a0 t103 t104 t105 t106 t107 t108 _ A5.out).mono ?_); rintro e w7 ⟨rfl, hb⟩; refine ⟨_, rfl, ?_⟩; have n0_ := Aside0.mk (blk_below (g := gb102) (o := .cells #[.int .u64 0, .int .u64 0, .int .u64 0, .string (⟨#[]⟩ : ByteArray), .string (⟨#[]⟩ : ByteArray)] 32 (0, 0)) (by (with_reducible repeat (first | refine blk_drewN ?_ _ | refine blk_drew ?_ | refine blk_alloc ?_ _)); exact BK102.out) hb); have n1_ := Aside0.mk (below_step (by repeat (first | (with_reducible first | exact HB.out | apply below_alloc | apply pw_below_drewN | apply below_drew1 | refine below_set ?_ GE102.out) | exact HB.out)) hb); clear BK102; clear HB; have BK102 := n0_; have HB := n1_; clear n0_ n1_; (try clear hb); (try clear hb2); (try clear hk); (try clear hi); have hcz8_0 : w7.cell? ⟨gb102, 0, none⟩ = some (.int .u64 0) := (blk_cell BK102.out 0).trans rfl; have hcz8_1 : w7.cell? ⟨gb102, 1, none⟩ = some (.int .u64 0) := (blk_cell BK102.out 1).trans rfl; have hcz8_2 : w7.cell? ⟨gb102, 2, none⟩ = some (.int .u64 0) := (blk_cell BK102.out 2).trans rfl; have hcz8_3 : w7.cell? ⟨gb102, 3, none⟩ = some (.string (⟨#[]⟩ : ByteArray)) := (blk_cell BK102.out 3).trans rfl; have hcz8_4 : w7.cell? ⟨gb102, 4, none⟩ = some (.string (⟨#[]⟩ : ByteArray)) := (blk_cell BK102.out 4).trans rfl; have hfz8_0 := blk_frozen BK102.out 0; have hfz8_1 := blk_frozen BK102.out 1; have hfz8_2 := blk_frozen BK102.out 2; have hfz8_3 := blk_frozen BK102.out 3; have hfz8_4 := blk_frozen BK102.out 4))
  refine bodyPost_ret (results_ct rfl _ _ gb102 32 #[.int .u64 t103, .int .u64 t104, .int .u64 t105, .string t106, .string t107] (0, 0) _ rfl (by (with_reducible repeat (first | refine blk_drewN ?_ _ | refine blk_drew ?_ | refine blk_alloc ?_ _)); refine blk_put (cs := #[.int .u64 t103, .int .u64 t104, .int .u64 t105, .string t106, .string (⟨#[]⟩ : ByteArray)]) ?_ 4 _ rfl; (with_reducible repeat (first | refine blk_drewN ?_ _ | refine blk_drew ?_ | refine blk_alloc ?_ _)); refine blk_put (cs := #[.int .u64 t103, .int .u64 t104, .int .u64 t105, .string (⟨#[]⟩ : ByteArray), .string (⟨#[]⟩ : ByteArray)]) ?_ 3 _ rfl; (with_reducible repeat (first | refine blk_drewN ?_ _ | refine blk_drew ?_ | refine blk_alloc ?_ _)); refine blk_put (cs := #[.int .u64 t103, .int .u64 t104, .int .u64 0, .string (⟨#[]⟩ : ByteArray), .string (⟨#[]⟩ : ByteArray)]) ?_ 2 _ rfl; (with_reducible repeat (first | refine blk_drewN ?_ _ | refine blk_drew ?_ | refine blk_alloc ?_ _)); refine blk_put (cs := #[.int .u64 t103, .int .u64 0, .int .u64 0, .string (⟨#[]⟩ : ByteArray), .string (⟨#[]⟩ : ByteArray)]) ?_ 1 _ rfl; (with_reducible repeat (first | refine blk_drewN ?_ _ | refine blk_drew ?_ | refine blk_alloc ?_ _)); refine blk_put (cs := #[.int .u64 0, .int .u64 0, .int .u64 0, .string (⟨#[]⟩ : ByteArray), .string (⟨#[]⟩ : ByteArray)]) ?_ 0 _ rfl; (with_reducible repeat (first | refine blk_drewN ?_ _ | refine blk_drew ?_ | refine blk_alloc ?_ _)); exact BK102.out) Tryz.underlying32 rfl (by kernel_rfl)) rfl ?_
  exact ⟨by first | rfl | (simp [errW_none, errW_some] <;> rfl) | (simp [*, errW_none, errW_some] <;> rfl) | (simp [bneNil]; done), by repeat (first | (with_reducible first | exact HB.out | apply below_alloc | apply pw_below_drewN | apply below_drew1 | refine below_set ?_ GE102.out) | exact HB.out)⟩

end Go.Proofs.YtjgedenoaocfjaaGreatDoor.PX
namespace Go.Proofs.YtjgedenoaocfjaaGreatDoor.PX

open Go.RowKit Go.Proofs.YtjgedenoaocfjaaGreatDoorW.PrintWords Go.Proofs.YtjgedenoaocfjaaGreatDoorW.PrintLast Go.Proofs.YtjgedenoaocfjaaGreatDoorW.PrintMore

attribute [local go_sem] max2_int min2_int max_two min_two max_three min_three max_four min_four   -- for this text's walks alone

set_option linter.unusedVariables false

set_option linter.unusedSimpArgs false

attribute [local go_sem high] eqA32

def laws_FnSemverLooseStrict.f (k : Nat) (a0 : ByteArray) : Option (Bool) := if (a0.size : Int) > 2147483647 then (some true) else ((laws_svShort.f k (([a0] : List ByteArray))).bind fun t112 => (if t112 = true then ((impl_StrictVersion.f a0).bind fun bt113 => ((spec_StrictVersion.f a0).bind fun bt120 => (if bt120.2.2.2.2.2 = true then ((impl_LooseVersion.f a0).bind fun bt127 => ((impl_LooseText.f a0).bind fun bt134 => (if bt113.2.2.2.2.2 = true then (if bt127.2.2.2.2.2 = true then (if bt134.2 = true then (if (bt113.1 == bt127.1 && (bt113.2.1 == bt127.2.1 && (bt113.2.2.1 == bt127.2.2.1 && (bt113.2.2.2.1.toList == bt127.2.2.2.1.toList && (bt113.2.2.2.2.1.toList == bt127.2.2.2.2.1.toList))))) = true then (some (bt134.1.toList == a0.toList)) else (some false)) else (some false)) else (some false)) else (some false)))) else (some (!bt113.2.2.2.2.2))))) else (some true)))

set_option maxHeartbeats 80000000 in
set_option maxRecDepth 100000 in
theorem laws_FnSemverLooseStrict.calls (k : Nat) (a0 : ByteArray) (r : Bool) (w : World) (hPow : Pow w) (hSem : Sem w) (hStd : Std w) (hStr : Str w) (h : laws_FnSemverLooseStrict.f k a0 = some r) :
  Calls Tryz.prog 4 #[.string a0] w fun e w' => e = .returned (.bool r) ∧ Below w.heap.size w w' := by
 have hu32 := Tryz.underlying32
 have HPow := Aside0.mk hPow
 clear hPow
 have HSem := Aside0.mk hSem
 clear hSem
 have HStd := Aside0.mk hStd
 clear hStd
 have HStr := Aside0.mk hStr
 clear hStr
 have HB := Aside0.mk (Below.refl w.heap.size w)
 have H : (if (a0.size : Int) > 2147483647 then (some true) else ((laws_svShort.f k (([a0] : List ByteArray))).bind fun t112 => (if t112 = true then ((impl_StrictVersion.f a0).bind fun bt113 => ((spec_StrictVersion.f a0).bind fun bt120 => (if bt120.2.2.2.2.2 = true then ((impl_LooseVersion.f a0).bind fun bt127 => ((impl_LooseText.f a0).bind fun bt134 => (if bt113.2.2.2.2.2 = true then (if bt127.2.2.2.2.2 = true then (if bt134.2 = true then (if (bt113.1 == bt127.1 && (bt113.2.1 == bt127.2.1 && (bt113.2.2.1 == bt127.2.2.1 && (bt113.2.2.2.1.toList == bt127.2.2.2.1.toList && (bt113.2.2.2.2.1.toList == bt127.2.2.2.2.1.toList))))) = true then (some (bt134.1.toList == a0.toList)) else (some false)) else (some false)) else (some false)) else (some false)))) else (some (!bt113.2.2.2.2.2))))) else (some true)))) = some r := h
 clear h
 by_cases c2 : (a0.size : Int) > 2147483647
 ·
  rw [if_pos c2] at H
  have c2b0 : decide (2147483647 < (a0.size : Int)) = true := decide_eq_true c2
  have c2b1 : decide (2147483647 < a0.size) = true := decide_eq_true (by omega)
  clear c2
  obtain rfl := Option.some.inj H
  go_enter Tryz.func4, Tryz.ntmps4
  go_wp2
  go_ret
  exact ⟨by first | rfl | (simp [errW_none, errW_some] <;> rfl) | (simp [*, errW_none, errW_some] <;> rfl) | (simp [bneNil]; done), by repeat (first | (with_reducible first | exact HB.out | apply below_alloc | apply pw_below_drewN | apply below_drew1) | exact HB.out)⟩
 ·
  rw [if_neg c2] at H
  have c2b0 : decide (2147483647 < (a0.size : Int)) = false := decide_eq_false c2
  have c2b1 : decide (2147483647 < a0.size) = false := decide_eq_false (by omega)
  clear c2
  obtain ⟨y109, hy109⟩ : ∃ y_ : List ByteArray, y_ = (([a0] : List ByteArray)) := ⟨_, rfl⟩
  replace H : ((laws_svShort.f k y109).bind fun t112 => (if t112 = true then ((impl_StrictVersion.f a0).bind fun bt113 => ((spec_StrictVersion.f a0).bind fun bt120 => (if bt120.2.2.2.2.2 = true then ((impl_LooseVersion.f a0).bind fun bt127 => ((impl_LooseText.f a0).bind fun bt134 => (if bt113.2.2.2.2.2 = true then (if bt127.2.2.2.2.2 = true then (if bt134.2 = true then (if (bt113.1 == bt127.1 && (bt113.2.1 == bt127.2.1 && (bt113.2.2.1 == bt127.2.2.1 && (bt113.2.2.2.1.toList == bt127.2.2.2.1.toList && (bt113.2.2.2.2.1.toList == bt127.2.2.2.2.1.toList))))) = true then (some (bt134.1.toList == a0.toList)) else (some false)) else (some false)) else (some false)) else (some false)))) else (some (!bt113.2.2.2.2.2))))) else (some true))) = some r := by first | (rw [hy109]; with_reducible exact H) | (have H2_ := (Option.bind_some _ _).symm.trans H; rw [hy109]; with_reducible exact H2_) | (have H2_ := (Option.bind_some _ _).symm.trans H; with_reducible exact H2_) | with_reducible exact H | (rw [hy109]; exact H) | exact H
  have Ny109 := Aside0.mk hy109
  clear hy109
  replace H := Option.bind_eq_some_iff.mp H
  obtain ⟨t112, A30, H⟩ := H
  replace H : (if t112 = true then ((impl_StrictVersion.f a0).bind fun bt113 => ((spec_StrictVersion.f a0).bind fun bt120 => (if bt120.2.2.2.2.2 = true then ((impl_LooseVersion.f a0).bind fun bt127 => ((impl_LooseText.f a0).bind fun bt134 => (if bt113.2.2.2.2.2 = true then (if bt127.2.2.2.2.2 = true then (if bt134.2 = true then (if (bt113.1 == bt127.1 && (bt113.2.1 == bt127.2.1 && (bt113.2.2.1 == bt127.2.2.1 && (bt113.2.2.2.1.toList == bt127.2.2.2.1.toList && (bt113.2.2.2.2.1.toList == bt127.2.2.2.2.1.toList))))) = true then (some (bt134.1.toList == a0.toList)) else (some false)) else (some false)) else (some false)) else (some false)))) else (some (!bt113.2.2.2.2.2))))) else (some true)) = some r := H
  have A3 := Aside0.mk A30
  clear A30
  by_cases c4 : t112 = true
  ·
   subst c4
   have H1 : ((impl_StrictVersion.f a0).bind fun bt113 => ((spec_StrictVersion.f a0).bind fun bt120 => (if bt120.2.2.2.2.2 = true then ((impl_LooseVersion.f a0).bind fun bt127 => ((impl_LooseText.f a0).bind fun bt134 => (if bt113.2.2.2.2.2 = true then (if bt127.2.2.2.2.2 = true then (if bt134.2 = true then (if (bt113.1 == bt127.1 && (bt113.2.1 == bt127.2.1 && (bt113.2.2.1 == bt127.2.2.1 && (bt113.2.2.2.1.toList == bt127.2.2.2.1.toList && (bt113.2.2.2.2.1.toList == bt127.2.2.2.2.1.toList))))) = true then (some (bt134.1.toList == a0.toList)) else (some false)) else (some false)) else (some false)) else (some false)))) else (some (!bt113.2.2.2.2.2))))) = some r := by rw [if_pos rfl] at H; exact H
   clear H
   have H := H1
   clear H1
   replace H := Option.bind_eq_some_iff.mp H
   obtain ⟨⟨t113, t114, t115, t116, t117, t118⟩, A50, H⟩ := H
   replace H : ((spec_StrictVersion.f a0).bind fun bt120 => (if bt120.2.2.2.2.2 = true then ((impl_LooseVersion.f a0).bind fun bt127 => ((impl_LooseText.f a0).bind fun bt134 => (if t118 = true then (if bt127.2.2.2.2.2 = true then (if bt134.2 = true then (if (t113 == bt127.1 && (t114 == bt127.2.1 && (t115 == bt127.2.2.1 && (t116.toList == bt127.2.2.2.1.toList && (t117.toList == bt127.2.2.2.2.1.toList))))) = true then (some (bt134.1.toList == a0.toList)) else (some false)) else (some false)) else (some false)) else (some false)))) else (some (!t118)))) = some r := H
   have A5 := Aside0.mk A50
   clear A50
   replace H := Option.bind_eq_some_iff.mp H
   obtain ⟨⟨t120, t121, t122, t123, t124, t125⟩, A60, H⟩ := H
   replace H : (if t125 = true then ((impl_LooseVersion.f a0).bind fun bt127 => ((impl_LooseText.f a0).bind fun bt134 => (if t118 = true then (if bt127.2.2.2.2.2 = true then (if bt134.2 = true then (if (t113 == bt127.1 && (t114 == bt127.2.1 && (t115 == bt127.2.2.1 && (t116.toList == bt127.2.2.2.1.toList && (t117.toList == bt127.2.2.2.2.1.toList))))) = true then (some (bt134.1.toList == a0.toList)) else (some false)) else (some false)) else (some false)) else (some false)))) else (some (!t118))) = some r := H
   have A6 := Aside0.mk A60
   clear A60
   by_cases c7 : t125 = true
   ·
    subst c7
    have H1 : ((impl_LooseVersion.f a0).bind fun bt127 => ((impl_LooseText.f a0).bind fun bt134 => (if t118 = true then (if bt127.2.2.2.2.2 = true then (if bt134.2 = true then (if (t113 == bt127.1 && (t114 == bt127.2.1 && (t115 == bt127.2.2.1 && (t116.toList == bt127.2.2.2.1.toList && (t117.toList == bt127.2.2.2.2.1.toList))))) = true then (some (bt134.1.toList == a0.toList)) else (some false)) else (some false)) else (some false)) else (some false)))) = some r := by rw [if_pos rfl] at H; exact H
    clear H
    have H := H1
    clear H1
    replace H := Option.bind_eq_some_iff.mp H
    obtain ⟨⟨t127, t128, t129, t130, t131, t132⟩, A80, H⟩ := H
    replace H : ((impl_LooseText.f a0).bind fun bt134 => (if t118 = true then (if t132 = true then (if bt134.2 = true then (if (t113 == t127 && (t114 == t128 && (t115 == t129 && (t116.toList == t130.toList && (t117.toList == t131.toList))))) = true then (some (bt134.1.toList == a0.toList)) else (some false)) else (some false)) else (some false)) else (some false))) = some r := H
    have A8 := Aside0.mk A80
    clear A80
    replace H := Option.bind_eq_some_iff.mp H
    obtain ⟨⟨t134, t135⟩, A90, H⟩ := H
    replace H : (if t118 = true then (if t132 = true then (if t135 = true then (if (t113 == t127 && (t114 == t128 && (t115 == t129 && (t116.toList == t130.toList && (t117.toList == t131.toList))))) = true then (some (t134.toList == a0.toList)) else (some false)) else (some false)) else (some false)) else (some false)) = some r := H
    have A9 := Aside0.mk A90
    clear A90
    by_cases c10 : t118 = true
    ·
     subst c10
     have H1 : (if t132 = true then (if t135 = true then (if (t113 == t127 && (t114 == t128 && (t115 == t129 && (t116.toList == t130.toList && (t117.toList == t131.toList))))) = true then (some (t134.toList == a0.toList)) else (some false)) else (some false)) else (some false)) = some r := by rw [if_pos rfl] at H; exact H
     clear H
     have H := H1
     clear H1
     by_cases c11 : t132 = true
     ·
      subst c11
      have H1 : (if t135 = true then (if (t113 == t127 && (t114 == t128 && (t115 == t129 && (t116.toList == t130.toList && (t117.toList == t131.toList))))) = true then (some (t134.toList == a0.toList)) else (some false)) else (some false)) = some r := by rw [if_pos rfl] at H; exact H
      clear H
      have H := H1
      clear H1
      by_cases c12 : t135 = true
      ·
       subst c12
       have H1 : (if (t113 == t127 && (t114 == t128 && (t115 == t129 && (t116.toList == t130.toList && (t117.toList == t131.toList))))) = true then (some (t134.toList == a0.toList)) else (some false)) = some r := by rw [if_pos rfl] at H; exact H
       clear H
       have H := H1
       clear H1
       by_cases c13 : (t113 == t127 && (t114 == t128 && (t115 == t129 && (t116.toList == t130.toList && (t117.toList == t131.toList))))) = true
       ·
        rw [if_pos c13] at H
        have c13b0 : (t113 == t127 && (t114 == t128 && (t115 == t129 && (t116.toList == t130.toList && (t117.toList == t131.toList))))) = true := c13
        (try (have c13b1 : decide (t113 = t127 && (t114 == t128 && (t115 == t129 && (t116.toList == t130.toList && (t117.toList == t131.toList))))) = true := by simpa using c13))
        (try (have c13b2 : (t113 == t127 && (t114 == t128 && (t115 == t129 && (t116.toList == t130.toList && (t117.toList == t131.toList))))) = true := by simpa using c13))
        clear c13
        obtain rfl := Option.some.inj H
        go_enter Tryz.func4, Tryz.ntmps4
        go_wp2_with (first | ((with_reducible refine gate_dst (N := 15) rfl ?_); refine Kd.R_lit Kd.string _ 9 ?hg (N := 15) ?hd (xs := ([a0] : List ByteArray)) (inner := [.string a0]) (ok := fun _ => True) (okp := fun _ => True) ?hr ?hp (fun _ hk => hk) trivial (Below.refl _ _) (Nat.le_refl _) (by simp) ?_; (case hd => rfl); (case hg => rfl); (case hr => first | (go_simp; done) | (go_simp; rfl) | (go_simp; simp [u8w]; done)); (case hp => exact (Reps.one (show Kd.M Kd.string _ _ _ a0 [.string a0] from rfl) (Reps.none _ _))); intro v110 w14 ho15 hb hg_ hnew_; clear hg_ hnew_; (first | rw [← Ny109.out] at ho15 | (simp only [Int.reduceToNat] at ho15; rw [← Ny109.out] at ho15)); have n0_ := Aside0.mk (Kd.R_lower ho15 (below_size (by repeat (first | (with_reducible first | exact HB.out | apply below_alloc | apply pw_below_drewN | apply below_drew1) | exact HB.out)))); have n1_ := Aside0.mk (below_step (by repeat (first | (with_reducible first | exact HB.out | apply below_alloc | apply pw_below_drewN | apply below_drew1) | exact HB.out)) hb); clear HB; have HO111 := n0_; have HB := n1_; clear n0_ n1_; clear hb ho15; obtain ⟨Ao16, co16, eo16⟩ := Kd.R_slice HO111.out; subst eo16) | ((with_reducible refine gate_callee (f := 8) rfl ?_); refine goesL_ (some 16) rfl rfl Tryz.func8 (by kernel_rfl) rfl #[.slice Ao16 y109.length co16] rfl (by (try simp only [List.map_toArray, List.map_cons, List.map_nil]); first | done | rfl | (simp only [List.length_drop, List.length_take]; rfl)) ?_; (with_reducible refine (laws_svShort.calls k _ _ y109 true _ ?side1 ?side2 A3.out).mono ?_); (case side1 => repeat (first | exact (Kd.R_reads' HO111.out).2.2 | (with_reducible refine Kd.C_alloc ?_ _) | (with_reducible refine Kd.C_drewN ?_ _) | (with_reducible refine Kd.C_drew ?_))); (case side2 => exact (Kd.R_reads' HO111.out).2.1); rintro e w' ⟨rfl, ⟨nd, rfl⟩⟩; refine ⟨_, rfl, ?_⟩; (try (rw [drewN_self w14]; generalize hq_ : World.drewN w14 _ = w14; have n0_ : Aside0 (Kd.R Kd.string 9 w14 w.heap.size (fun _ => True) (.slice Ao16 y109.length co16) y109) := ⟨by rw [← hq_]; exact (by (with_reducible repeat (first | apply Kd.R_alloc | apply Kd.R_drewN | apply Kd.R_drew)); exact HO111.out)⟩; have n1_ : Aside0 (Below w.heap.size w w14) := ⟨by rw [← hq_]; exact (by repeat (first | (with_reducible first | exact HB.out | apply below_alloc | apply pw_below_drewN | apply below_drew1) | exact HB.out))⟩; clear HO111 HB hq_; have HO111 := n0_; have HB := n1_; clear n0_ n1_))) | ((with_reducible refine gate_callee (f := 9) rfl ?_); refine goesL_ (some 20) rfl rfl Tryz.func9 (by kernel_rfl) rfl #[.string a0] rfl (by (try simp only [List.map_toArray, List.map_cons, List.map_nil]); first | done | rfl | (simp only [List.length_drop, List.length_take]; rfl)) ?_; (with_reducible refine (impl_StrictVersion.calls a0 t113 t114 t115 t116 t117 true _ ?side1 ?side2 ?side3 A5.out).mono ?_); (case side1 => exact HSem.out.below (by repeat (first | (with_reducible first | exact HB.out | apply below_alloc | apply pw_below_drewN | apply below_drew1) | exact HB.out))); (case side2 => exact HStd.out.below (by repeat (first | (with_reducible first | exact HB.out | apply below_alloc | apply pw_below_drewN | apply below_drew1) | exact HB.out))); (case side3 => exact HStr.out.below (by repeat (first | (with_reducible first | exact HB.out | apply below_alloc | apply pw_below_drewN | apply below_drew1) | exact HB.out))); rintro e w17 ⟨rfl, hb⟩; refine ⟨_, rfl, ?_⟩; have n0_ := Aside0.mk (Kd.R_below (by (with_reducible repeat (first | apply Kd.R_alloc | apply Kd.R_drewN | apply Kd.R_drew)); exact HO111.out) hb); have n1_ := Aside0.mk (below_step (by repeat (first | (with_reducible first | exact HB.out | apply below_alloc | apply pw_below_drewN | apply below_drew1) | exact HB.out)) hb); clear HO111; clear HB; have HO111 := n0_; have HB := n1_; clear n0_ n1_; (try clear hb); (try clear hb2); (try clear hk); (try clear hi)) | ((with_reducible refine gate_dst (N := 3) rfl ?_); refine box_event ?hg (N := 3) ?hd (cs := #[.int .u64 0, .int .u64 0, .int .u64 0, .string (⟨#[]⟩ : ByteArray), .string (⟨#[]⟩ : ByteArray)]) (t := 32) ?hr ?_; (case hd => rfl); (case hg => rfl); (case hr => first | (go_simp; done) | (go_simp; rfl) | (go_simp; simp [u8w]; done)); intro gb119 hg w18 hbox hb; have n0_ := Aside0.mk (Kd.R_below (by (with_reducible repeat (first | apply Kd.R_alloc | apply Kd.R_drewN | apply Kd.R_drew)); exact HO111.out) hb); have n1_ := Aside0.mk (below_step (by repeat (first | (with_reducible first | exact HB.out | apply below_alloc | apply pw_below_drewN | apply below_drew1) | exact HB.out)) hb); have n2_ := Aside0.mk (hbox); have n3_ := Aside0.mk ((by rw [hg]; exact (below_size (by repeat (first | (with_reducible first | exact HB.out | apply below_alloc | apply pw_below_drewN | apply below_drew1) | exact HB.out))) : w.heap.size ≤ gb119)); have n4_ := Aside0.mk ((by rw [hg]; exact (below_size (by repeat (first | (with_reducible first | exact HB.out | apply below_alloc | apply pw_below_drewN | apply below_drew1) | exact HB.out))) : w.heap.size ≤ gb119)); clear HO111; clear HB; have HO111 := n0_; have HB := n1_; have BK119 := n2_; have GW119 := n3_; have GE119 := n4_; clear n0_ n1_ n2_ n3_ n4_; clear hb hbox hg; have hcz19_0 : w18.cell? ⟨gb119, 0, none⟩ = some (.int .u64 0) := (blk_cell BK119.out 0).trans rfl; have hcz19_1 : w18.cell? ⟨gb119, 1, none⟩ = some (.int .u64 0) := (blk_cell BK119.out 1).trans rfl; have hcz19_2 : w18.cell? ⟨gb119, 2, none⟩ = some (.int .u64 0) := (blk_cell BK119.out 2).trans rfl; have hcz19_3 : w18.cell? ⟨gb119, 3, none⟩ = some (.string (⟨#[]⟩ : ByteArray)) := (blk_cell BK119.out 3).trans rfl; have hcz19_4 : w18.cell? ⟨gb119, 4, none⟩ = some (.string (⟨#[]⟩ : ByteArray)) := (blk_cell BK119.out 4).trans rfl; have hfz19_0 := blk_frozen BK119.out 0; have hfz19_1 := blk_frozen BK119.out 1; have hfz19_2 := blk_frozen BK119.out 2; have hfz19_3 := blk_frozen BK119.out 3; have hfz19_4 := blk_frozen BK119.out 4) | ((with_reducible refine gate_callee (f := 10) rfl ?_); refine goesL_ (some 25) rfl rfl Tryz.func10 (by kernel_rfl) rfl #[.string a0] rfl (by (try simp only [List.map_toArray, List.map_cons, List.map_nil]); first | done | rfl | (simp only [List.length_drop, List.length_take]; rfl)) ?_; (with_reducible refine (spec_StrictVersion.calls a0 t120 t121 t122 t123 t124 true _ A6.out).mono ?_); rintro e w20 ⟨rfl, hb⟩; refine ⟨_, rfl, ?_⟩; have n0_ := Aside0.mk (Kd.R_below (by (with_reducible repeat (first | apply Kd.R_alloc | apply Kd.R_drewN | apply Kd.R_drew)); exact (Kd.R_mono (Kd.R_far (p := ⟨gb119, 4, none⟩) (Kd.R_far (p := ⟨gb119, 3, none⟩) (Kd.R_far (p := ⟨gb119, 2, none⟩) (Kd.R_far (p := ⟨gb119, 1, none⟩) (Kd.R_far (p := ⟨gb119, 0, none⟩) (Kd.R_types HO111.out BK119.out (by decide)) (fun _ hk => hk.2) (.int .u64 t113)) (fun _ hk => hk.2) (.int .u64 t114)) (fun _ hk => hk.2) (.int .u64 t115)) (fun _ hk => hk.2) (.string t116)) (fun _ hk => hk.2) (.string t117)) (fun _ h_ => h_.1))) hb); have n1_ := Aside0.mk (blk_below (g := gb119) (o := .cells #[.int .u64 t113, .int .u64 t114, .int .u64 t115, .string t116, .string t117] 32 (0, 0)) (by (with_reducible repeat (first | refine blk_drewN ?_ _ | refine blk_drew ?_ | refine blk_alloc ?_ _)); refine blk_put (cs := #[.int .u64 t113, .int .u64 t114, .int .u64 t115, .string t116, .string (⟨#[]⟩ : ByteArray)]) ?_ 4 _ rfl; (with_reducible repeat (first | refine blk_drewN ?_ _ | refine blk_drew ?_ | refine blk_alloc ?_ _)); refine blk_put (cs := #[.int .u64 t113, .int .u64 t114, .int .u64 t115, .string (⟨#[]⟩ : ByteArray), .string (⟨#[]⟩ : ByteArray)]) ?_ 3 _ rfl; (with_reducible repeat (first | refine blk_drewN ?_ _ | refine blk_drew ?_ | refine blk_alloc ?_ _)); refine blk_put (cs := #[.int .u64 t113, .int .u64 t114, .int .u64 0, .string (⟨#[]⟩ : ByteArray), .string (⟨#[]⟩ : ByteArray)]) ?_ 2 _ rfl; (with_reducible repeat (first | refine blk_drewN ?_ _ | refine blk_drew ?_ | refine blk_alloc ?_ _)); refine blk_put (cs := #[.int .u64 t113, .int .u64 0, .int .u64 0, .string (⟨#[]⟩ : ByteArray), .string (⟨#[]⟩ : ByteArray)]) ?_ 1 _ rfl; (with_reducible repeat (first | refine blk_drewN ?_ _ | refine blk_drew ?_ | refine blk_alloc ?_ _)); refine blk_put (cs := #[.int .u64 0, .int .u64 0, .int .u64 0, .string (⟨#[]⟩ : ByteArray), .string (⟨#[]⟩ : ByteArray)]) ?_ 0 _ rfl; (with_reducible repeat (first | refine blk_drewN ?_ _ | refine blk_drew ?_ | refine blk_alloc ?_ _)); exact BK119.out) hb); have n2_ := Aside0.mk (below_step (by repeat (first | (with_reducible first | exact HB.out | apply below_alloc | apply pw_below_drewN | apply below_drew1 | refine below_set ?_ GE119.out) | exact HB.out)) hb); clear HO111; clear BK119; clear HB; have HO111 := n0_; have BK119 := n1_; have HB := n2_; clear n0_ n1_ n2_; (try clear hb); (try clear hb2); (try clear hk); (try clear hi)) | ((with_reducible refine gate_dst (N := 5) rfl ?_); refine box_event ?hg (N := 5) ?hd (cs := #[.int .u64 0, .int .u64 0, .int .u64 0, .string (⟨#[]⟩ : ByteArray), .string (⟨#[]⟩ : ByteArray)]) (t := 32) ?hr ?_; (case hd => rfl); (case hg => rfl); (case hr => first | (go_simp; done) | (go_simp; rfl) | (go_simp; simp [u8w]; done)); intro gb126 hg w21 hbox hb; have n0_ := Aside0.mk (Kd.R_below (by (with_reducible repeat (first | apply Kd.R_alloc | apply Kd.R_drewN | apply Kd.R_drew)); exact HO111.out) hb); have n1_ := Aside0.mk (blk_below (g := gb119) (o := .cells #[.int .u64 t113, .int .u64 t114, .int .u64 t115, .string t116, .string t117] 32 (0, 0)) (by (with_reducible repeat (first | refine blk_drewN ?_ _ | refine blk_drew ?_ | refine blk_alloc ?_ _)); exact BK119.out) hb); have n2_ := Aside0.mk (below_step (by repeat (first | (with_reducible first | exact HB.out | apply below_alloc | apply pw_below_drewN | apply below_drew1 | refine below_set ?_ GE119.out) | exact HB.out)) hb); have n3_ := Aside0.mk (hbox); have n4_ := Aside0.mk ((by rw [hg]; exact (below_size (by repeat (first | (with_reducible first | exact HB.out | apply below_alloc | apply pw_below_drewN | apply below_drew1 | refine below_set ?_ GE119.out) | exact HB.out))) : w.heap.size ≤ gb126)); have n5_ := Aside0.mk ((by rw [hg]; exact (below_size (by repeat (first | (with_reducible first | exact HB.out | apply below_alloc | apply pw_below_drewN | apply below_drew1 | refine below_set ?_ GE119.out) | exact HB.out))) : w.heap.size ≤ gb126)); have n6_ := Aside0.mk ((by rw [hg]; exact Nat.ne_of_lt (blk_lt (g := gb119) (o := .cells #[.int .u64 t113, .int .u64 t114, .int .u64 t115, .string t116, .string t117] 32 (0, 0)) (by (with_reducible repeat (first | refine blk_drewN ?_ _ | refine blk_drew ?_ | refine blk_alloc ?_ _)); exact BK119.out)) : gb119 ≠ gb126)); have n7_ := Aside0.mk ((by rw [hg]; exact Nat.ne_of_gt (blk_lt (g := gb119) (o := .cells #[.int .u64 t113, .int .u64 t114, .int .u64 t115, .string t116, .string t117] 32 (0, 0)) (by (with_reducible repeat (first | refine blk_drewN ?_ _ | refine blk_drew ?_ | refine blk_alloc ?_ _)); exact BK119.out)) : gb126 ≠ gb119)); clear HO111; clear BK119; clear HB; have HO111 := n0_; have BK119 := n1_; have HB := n2_; have BK126 := n3_; have GW126 := n4_; have GE126 := n5_; have NB119_126 := n6_; have NB126_119 := n7_; clear n0_ n1_ n2_ n3_ n4_ n5_ n6_ n7_; clear hb hbox hg; have hnb22 := NB126_119.out; have hnc22 := NB119_126.out; have hcz23_0 : w21.cell? ⟨gb126, 0, none⟩ = some (.int .u64 0) := (blk_cell BK126.out 0).trans rfl; have hcz23_1 : w21.cell? ⟨gb126, 1, none⟩ = some (.int .u64 0) := (blk_cell BK126.out 1).trans rfl; have hcz23_2 : w21.cell? ⟨gb126, 2, none⟩ = some (.int .u64 0) := (blk_cell BK126.out 2).trans rfl; have hcz23_3 : w21.cell? ⟨gb126, 3, none⟩ = some (.string (⟨#[]⟩ : ByteArray)) := (blk_cell BK126.out 3).trans rfl; have hcz23_4 : w21.cell? ⟨gb126, 4, none⟩ = some (.string (⟨#[]⟩ : ByteArray)) := (blk_cell BK126.out 4).trans rfl; have hfz23_0 := blk_frozen BK126.out 0; have hfz23_1 := blk_frozen BK126.out 1; have hfz23_2 := blk_frozen BK126.out 2; have hfz23_3 := blk_frozen BK126.out 3; have hfz23_4 := blk_frozen BK126.out 4) | ((with_reducible refine gate_callee (f := 11) rfl ?_); refine goesL_ (some 34) rfl rfl Tryz.func11 (by kernel_rfl) rfl #[.string a0] rfl (by (try simp only [List.map_toArray, List.map_cons, List.map_nil]); first | done | rfl | (simp only [List.length_drop, List.length_take]; rfl)) ?_; (with_reducible refine (impl_LooseVersion.calls a0 t127 t128 t129 t130 t131 true _ ?side1 ?side2 A8.out).mono ?_); (case side1 => exact HSem.out.below (by repeat (first | (with_reducible first | exact HB.out | apply below_alloc | apply pw_below_drewN | apply below_drew1 | refine below_set ?_ GE119.out | refine below_set ?_ GE126.out) | exact HB.out))); (case side2 => exact HStd.out.below (by repeat (first | (with_reducible first | exact HB.out | apply below_alloc | apply pw_below_drewN | apply below_drew1 | refine below_set ?_ GE119.out | refine below_set ?_ GE126.out) | exact HB.out))); rintro e w24 ⟨rfl, hb⟩; refine ⟨_, rfl, ?_⟩; have n0_ := Aside0.mk (Kd.R_below (by (with_reducible repeat (first | apply Kd.R_alloc | apply Kd.R_drewN | apply Kd.R_drew)); exact (Kd.R_mono (Kd.R_far (p := ⟨gb126, 4, none⟩) (Kd.R_far (p := ⟨gb126, 3, none⟩) (Kd.R_far (p := ⟨gb126, 2, none⟩) (Kd.R_far (p := ⟨gb126, 1, none⟩) (Kd.R_far (p := ⟨gb126, 0, none⟩) (Kd.R_types HO111.out BK126.out (by decide)) (fun _ hk => hk.2) (.int .u64 t120)) (fun _ hk => hk.2) (.int .u64 t121)) (fun _ hk => hk.2) (.int .u64 t122)) (fun _ hk => hk.2) (.string t123)) (fun _ hk => hk.2) (.string t124)) (fun _ h_ => h_.1))) hb); have n1_ := Aside0.mk (blk_below (g := gb119) (o := .cells #[.int .u64 t113, .int .u64 t114, .int .u64 t115, .string t116, .string t117] 32 (0, 0)) (by (with_reducible repeat (first | refine blk_drewN ?_ _ | refine blk_drew ?_ | refine blk_alloc ?_ _)); refine blk_far ?_ NB119_126.out _; (with_reducible repeat (first | refine blk_drewN ?_ _ | refine blk_drew ?_ | refine blk_alloc ?_ _)); refine blk_far ?_ NB119_126.out _; (with_reducible repeat (first | refine blk_drewN ?_ _ | refine blk_drew ?_ | refine blk_alloc ?_ _)); refine blk_far ?_ NB119_126.out _; (with_reducible repeat (first | refine blk_drewN ?_ _ | refine blk_drew ?_ | refine blk_alloc ?_ _)); refine blk_far ?_ NB119_126.out _; (with_reducible repeat (first | refine blk_drewN ?_ _ | refine blk_drew ?_ | refine blk_alloc ?_ _)); refine blk_far ?_ NB119_126.out _; (with_reducible repeat (first | refine blk_drewN ?_ _ | refine blk_drew ?_ | refine blk_alloc ?_ _)); exact BK119.out) hb); have n2_ := Aside0.mk (blk_below (g := gb126) (o := .cells #[.int .u64 t120, .int .u64 t121, .int .u64 t122, .string t123, .string t124] 32 (0, 0)) (by (with_reducible repeat (first | refine blk_drewN ?_ _ | refine blk_drew ?_ | refine blk_alloc ?_ _)); refine blk_put (cs := #[.int .u64 t120, .int .u64 t121, .int .u64 t122, .string t123, .string (⟨#[]⟩ : ByteArray)]) ?_ 4 _ rfl; (with_reducible repeat (first | refine blk_drewN ?_ _ | refine blk_drew ?_ | refine blk_alloc ?_ _)); refine blk_put (cs := #[.int .u64 t120, .int .u64 t121, .int .u64 t122, .string (⟨#[]⟩ : ByteArray), .string (⟨#[]⟩ : ByteArray)]) ?_ 3 _ rfl; (with_reducible repeat (first | refine blk_drewN ?_ _ | refine blk_drew ?_ | refine blk_alloc ?_ _)); refine blk_put (cs := #[.int .u64 t120, .int .u64 t121, .int .u64 0, .string (⟨#[]⟩ : ByteArray), .string (⟨#[]⟩ : ByteArray)]) ?_ 2 _ rfl; (with_reducible repeat (first | refine blk_drewN ?_ _ | refine blk_drew ?_ | refine blk_alloc ?_ _)); refine blk_put (cs := #[.int .u64 t120, .int .u64 0, .int .u64 0, .string (⟨#[]⟩ : ByteArray), .string (⟨#[]⟩ : ByteArray)]) ?_ 1 _ rfl; (with_reducible repeat (first | refine blk_drewN ?_ _ | refine blk_drew ?_ | refine blk_alloc ?_ _)); refine blk_put (cs := #[.int .u64 0, .int .u64 0, .int .u64 0, .string (⟨#[]⟩ : ByteArray), .string (⟨#[]⟩ : ByteArray)]) ?_ 0 _ rfl; (with_reducible repeat (first | refine blk_drewN ?_ _ | refine blk_drew ?_ | refine blk_alloc ?_ _)); exact BK126.out) hb); have n3_ := Aside0.mk (below_step (by repeat (first | (with_reducible first | exact HB.out | apply below_alloc | apply pw_below_drewN | apply below_drew1 | refine below_set ?_ GE119.out | refine below_set ?_ GE126.out) | exact HB.out)) hb); clear HO111; clear BK119; clear BK126; clear HB; have HO111 := n0_; have BK119 := n1_; have BK126 := n2_; have HB := n3_; clear n0_ n1_ n2_ n3_; (try clear hb); (try clear hb2); (try clear hk); (try clear hi)) | ((with_reducible refine gate_dst (N := 7) rfl ?_); refine box_event ?hg (N := 7) ?hd (cs := #[.int .u64 0, .int .u64 0, .int .u64 0, .string (⟨#[]⟩ : ByteArray), .string (⟨#[]⟩ : ByteArray)]) (t := 32) ?hr ?_; (case hd => rfl); (case hg => rfl); (case hr => first | (go_simp; done) | (go_simp; rfl) | (go_simp; simp [u8w]; done)); intro gb133 hg w25 hbox hb; have n0_ := Aside0.mk (Kd.R_below (by (with_reducible repeat (first | apply Kd.R_alloc | apply Kd.R_drewN | apply Kd.R_drew)); exact HO111.out) hb); have n1_ := Aside0.mk (blk_below (g := gb119) (o := .cells #[.int .u64 t113, .int .u64 t114, .int .u64 t115, .string t116, .string t117] 32 (0, 0)) (by (with_reducible repeat (first | refine blk_drewN ?_ _ | refine blk_drew ?_ | refine blk_alloc ?_ _)); exact BK119.out) hb); have n2_ := Aside0.mk (blk_below (g := gb126) (o := .cells #[.int .u64 t120, .int .u64 t121, .int .u64 t122, .string t123, .string t124] 32 (0, 0)) (by (with_reducible repeat (first | refine blk_drewN ?_ _ | refine blk_drew ?_ | refine blk_alloc ?_ _)); exact BK126.out) hb); have n3_ := Aside0.mk (below_step (by repeat (first | (with_reducible first | exact HB.out | apply below_alloc | apply pw_below_drewN | apply below_drew1 | refine below_set ?_ GE119.out | refine below_set ?_ GE126.out) | exact HB.out)) hb); have n4_ := Aside0.mk (hbox); have n5_ := Aside0.mk ((by rw [hg]; exact (below_size (by repeat (first | (with_reducible first | exact HB.out | apply below_alloc | apply pw_below_drewN | apply below_drew1 | refine below_set ?_ GE119.out | refine below_set ?_ GE126.out) | exact HB.out))) : w.heap.size ≤ gb133)); have n6_ := Aside0.mk ((by rw [hg]; exact (below_size (by repeat (first | (with_reducible first | exact HB.out | apply below_alloc | apply pw_below_drewN | apply below_drew1 | refine below_set ?_ GE119.out | refine below_set ?_ GE126.out) | exact HB.out))) : w.heap.size ≤ gb133)); have n7_ := Aside0.mk ((by rw [hg]; exact Nat.ne_of_lt (blk_lt (g := gb119) (o := .cells #[.int .u64 t113, .int .u64 t114, .int .u64 t115, .string t116, .string t117] 32 (0, 0)) (by (with_reducible repeat (first | refine blk_drewN ?_ _ | refine blk_drew ?_ | refine blk_alloc ?_ _)); exact BK119.out)) : gb119 ≠ gb133)); have n8_ := Aside0.mk ((by rw [hg]; exact Nat.ne_of_gt (blk_lt (g := gb119) (o := .cells #[.int .u64 t113, .int .u64 t114, .int .u64 t115, .string t116, .string t117] 32 (0, 0)) (by (with_reducible repeat (first | refine blk_drewN ?_ _ | refine blk_drew ?_ | refine blk_alloc ?_ _)); exact BK119.out)) : gb133 ≠ gb119)); have n9_ := Aside0.mk ((by rw [hg]; exact Nat.ne_of_lt (blk_lt (g := gb126) (o := .cells #[.int .u64 t120, .int .u64 t121, .int .u64 t122, .string t123, .string t124] 32 (0, 0)) (by (with_reducible repeat (first | refine blk_drewN ?_ _ | refine blk_drew ?_ | refine blk_alloc ?_ _)); exact BK126.out)) : gb126 ≠ gb133)); have n10_ := Aside0.mk ((by rw [hg]; exact Nat.ne_of_gt (blk_lt (g := gb126) (o := .cells #[.int .u64 t120, .int .u64 t121, .int .u64 t122, .string t123, .string t124] 32 (0, 0)) (by (with_reducible repeat (first | refine blk_drewN ?_ _ | refine blk_drew ?_ | refine blk_alloc ?_ _)); exact BK126.out)) : gb133 ≠ gb126)); clear HO111; clear BK119; clear BK126; clear HB; have HO111 := n0_; have BK119 := n1_; have BK126 := n2_; have HB := n3_; have BK133 := n4_; have GW133 := n5_; have GE133 := n6_; have NB119_133 := n7_; have NB133_119 := n8_; have NB126_133 := n9_; have NB133_126 := n10_; clear n0_ n1_ n2_ n3_ n4_ n5_ n6_ n7_ n8_ n9_ n10_; clear hb hbox hg; have hnb26 := NB133_119.out; have hnc26 := NB119_133.out; have hnb27 := NB133_126.out; have hnc27 := NB126_133.out; have hcz28_0 : w25.cell? ⟨gb133, 0, none⟩ = some (.int .u64 0) := (blk_cell BK133.out 0).trans rfl; have hcz28_1 : w25.cell? ⟨gb133, 1, none⟩ = some (.int .u64 0) := (blk_cell BK133.out 1).trans rfl; have hcz28_2 : w25.cell? ⟨gb133, 2, none⟩ = some (.int .u64 0) := (blk_cell BK133.out 2).trans rfl; have hcz28_3 : w25.cell? ⟨gb133, 3, none⟩ = some (.string (⟨#[]⟩ : ByteArray)) := (blk_cell BK133.out 3).trans rfl; have hcz28_4 : w25.cell? ⟨gb133, 4, none⟩ = some (.string (⟨#[]⟩ : ByteArray)) := (blk_cell BK133.out 4).trans rfl; have hfz28_0 := blk_frozen BK133.out 0; have hfz28_1 := blk_frozen BK133.out 1; have hfz28_2 := blk_frozen BK133.out 2; have hfz28_3 := blk_frozen BK133.out 3; have hfz28_4 := blk_frozen BK133.out 4) | ((with_reducible refine gate_callee (f := 12) rfl ?_); refine goesL_ (some 39) rfl rfl Tryz.func12 (by kernel_rfl) rfl #[.string a0] rfl (by (try simp only [List.map_toArray, List.map_cons, List.map_nil]); first | done | rfl | (simp only [List.length_drop, List.length_take]; rfl)) ?_; (with_reducible refine (impl_LooseText.calls a0 t134 true _ ?side1 ?side2 ?side3 A9.out).mono ?_); (case side1 => exact HPow.out.below (by repeat (first | (with_reducible first | exact HB.out | apply below_alloc | apply pw_below_drewN | apply below_drew1 | refine below_set ?_ GE119.out | refine below_set ?_ GE126.out | refine below_set ?_ GE133.out) | exact HB.out))); (case side2 => exact HSem.out.below (by repeat (first | (with_reducible first | exact HB.out | apply below_alloc | apply pw_below_drewN | apply below_drew1 | refine below_set ?_ GE119.out | refine below_set ?_ GE126.out | refine below_set ?_ GE133.out) | exact HB.out))); (case side3 => exact HStd.out.below (by repeat (first | (with_reducible first | exact HB.out | apply below_alloc | apply pw_below_drewN | apply below_drew1 | refine below_set ?_ GE119.out | refine below_set ?_ GE126.out | refine below_set ?_ GE133.out) | exact HB.out))); rintro e w29 ⟨rfl, hb⟩; refine ⟨_, rfl, ?_⟩; have n0_ := Aside0.mk (Kd.R_below (by (with_reducible repeat (first | apply Kd.R_alloc | apply Kd.R_drewN | apply Kd.R_drew)); exact (Kd.R_mono (Kd.R_far (p := ⟨gb133, 4, none⟩) (Kd.R_far (p := ⟨gb133, 3, none⟩) (Kd.R_far (p := ⟨gb133, 2, none⟩) (Kd.R_far (p := ⟨gb133, 1, none⟩) (Kd.R_far (p := ⟨gb133, 0, none⟩) (Kd.R_types HO111.out BK133.out (by decide)) (fun _ hk => hk.2) (.int .u64 t127)) (fun _ hk => hk.2) (.int .u64 t128)) (fun _ hk => hk.2) (.int .u64 t129)) (fun _ hk => hk.2) (.string t130)) (fun _ hk => hk.2) (.string t131)) (fun _ h_ => h_.1))) hb); have n1_ := Aside0.mk (blk_below (g := gb119) (o := .cells #[.int .u64 t113, .int .u64 t114, .int .u64 t115, .string t116, .string t117] 32 (0, 0)) (by (with_reducible repeat (first | refine blk_drewN ?_ _ | refine blk_drew ?_ | refine blk_alloc ?_ _)); refine blk_far ?_ NB119_133.out _; (with_reducible repeat (first | refine blk_drewN ?_ _ | refine blk_drew ?_ | refine blk_alloc ?_ _)); refine blk_far ?_ NB119_133.out _; (with_reducible repeat (first | refine blk_drewN ?_ _ | refine blk_drew ?_ | refine blk_alloc ?_ _)); refine blk_far ?_ NB119_133.out _; (with_reducible repeat (first | refine blk_drewN ?_ _ | refine blk_drew ?_ | refine blk_alloc ?_ _)); refine blk_far ?_ NB119_133.out _; (with_reducible repeat (first | refine blk_drewN ?_ _ | refine blk_drew ?_ | refine blk_alloc ?_ _)); refine blk_far ?_ NB119_133.out _; (with_reducible repeat (first | refine blk_drewN ?_ _ | refine blk_drew ?_ | refine blk_alloc ?_ _)); exact BK119.out) hb); have n2_ := Aside0.mk (blk_below (g := gb126) (o := .cells #[.int .u64 t120, .int .u64 t121, .int .u64 t122, .string t123, .string t124] 32 (0, 0)) (by (with_reducible repeat (first | refine blk_drewN ?_ _ | refine blk_drew ?_ | refine blk_alloc ?_ _)); refine blk_far ?_ NB126_133.out _; (with_reducible repeat (first | refine blk_drewN ?_ _ | refine blk_drew ?_ | refine blk_alloc ?_ _)); refine blk_far ?_ NB126_133.out _; (with_reducible repeat (first | refine blk_drewN ?_ _ | refine blk_drew ?_ | refine blk_alloc ?_ _)); refine blk_far ?_ NB126_133.out _; (with_reducible repeat (first | refine blk_drewN ?_ _ | refine blk_drew ?_ | refine blk_alloc ?_ _)); refine blk_far ?_ NB126_133.out _; (with_reducible repeat (first | refine blk_drewN ?_ _ | refine blk_drew ?_ | refine blk_alloc ?_ _)); refine blk_far ?_ NB126_133.out _; (with_reducible repeat (first | refine blk_drewN ?_ _ | refine blk_drew ?_ | refine blk_alloc ?_ _)); exact BK126.out) hb); have n3_ := Aside0.mk (blk_below (g := gb133) (o := .cells #[.int .u64 t127, .int .u64 t128, .int .u64 t129, .string t130, .string t131] 32 (0, 0)) (by (with_reducible repeat (first | refine blk_drewN ?_ _ | refine blk_drew ?_ | refine blk_alloc ?_ _)); refine blk_put (cs := #[.int .u64 t127, .int .u64 t128, .int .u64 t129, .string t130, .string (⟨#[]⟩ : ByteArray)]) ?_ 4 _ rfl; (with_reducible repeat (first | refine blk_drewN ?_ _ | refine blk_drew ?_ | refine blk_alloc ?_ _)); refine blk_put (cs := #[.int .u64 t127, .int .u64 t128, .int .u64 t129, .string (⟨#[]⟩ : ByteArray), .string (⟨#[]⟩ : ByteArray)]) ?_ 3 _ rfl; (with_reducible repeat (first | refine blk_drewN ?_ _ | refine blk_drew ?_ | refine blk_alloc ?_ _)); refine blk_put (cs := #[.int .u64 t127, .int .u64 t128, .int .u64 0, .string (⟨#[]⟩ : ByteArray), .string (⟨#[]⟩ : ByteArray)]) ?_ 2 _ rfl; (with_reducible repeat (first | refine blk_drewN ?_ _ | refine blk_drew ?_ | refine blk_alloc ?_ _)); refine blk_put (cs := #[.int .u64 t127, .int .u64 0, .int .u64 0, .string (⟨#[]⟩ : ByteArray), .string (⟨#[]⟩ : ByteArray)]) ?_ 1 _ rfl; (with_reducible repeat (first | refine blk_drewN ?_ _ | refine blk_drew ?_ | refine blk_alloc ?_ _)); refine blk_put (cs := #[.int .u64 0, .int .u64 0, .int .u64 0, .string (⟨#[]⟩ : ByteArray), .string (⟨#[]⟩ : ByteArray)]) ?_ 0 _ rfl; (with_reducible repeat (first | refine blk_drewN ?_ _ | refine blk_drew ?_ | refine blk_alloc ?_ _)); exact BK133.out) hb); have n4_ := Aside0.mk (below_step (by repeat (first | (with_reducible first | exact HB.out | apply below_alloc | apply pw_below_drewN | apply below_drew1 | refine below_set ?_ GE119.out | refine below_set ?_ GE126.out | refine below_set ?_ GE133.out) | exact HB.out)) hb); clear HO111; clear BK119; clear BK126; clear BK133; clear HB; have HO111 := n0_; have BK119 := n1_; have BK126 := n2_; have BK133 := n3_; have HB := n4_; clear n0_ n1_ n2_ n3_ n4_; (try clear hb); (try clear hb2); (try clear hk); (try clear hi); have hcz30_0 : w29.cell? ⟨gb119, 0, none⟩ = some (.int .u64 t113) := (blk_cell BK119.out 0).trans rfl; have hcz30_1 : w29.cell? ⟨gb119, 1, none⟩ = some (.int .u64 t114) := (blk_cell BK119.out 1).trans rfl; have hcz30_2 : w29.cell? ⟨gb119, 2, none⟩ = some (.int .u64 t115) := (blk_cell BK119.out 2).trans rfl; have hcz30_3 : w29.cell? ⟨gb119, 3, none⟩ = some (.string t116) := (blk_cell BK119.out 3).trans rfl; have hcz30_4 : w29.cell? ⟨gb119, 4, none⟩ = some (.string t117) := (blk_cell BK119.out 4).trans rfl; have hfz30_0 := blk_frozen BK119.out 0; have hfz30_1 := blk_frozen BK119.out 1; have hfz30_2 := blk_frozen BK119.out 2; have hfz30_3 := blk_frozen BK119.out 3; have hfz30_4 := blk_frozen BK119.out 4; have hcz31_0 : w29.cell? ⟨gb133, 0, none⟩ = some (.int .u64 t127) := (blk_cell BK133.out 0).trans rfl; have hcz31_1 : w29.cell? ⟨gb133, 1, none⟩ = some (.int .u64 t128) := (blk_cell BK133.out 1).trans rfl; have hcz31_2 : w29.cell? ⟨gb133, 2, none⟩ = some (.int .u64 t129) := (blk_cell BK133.out 2).trans rfl; have hcz31_3 : w29.cell? ⟨gb133, 3, none⟩ = some (.string t130) := (blk_cell BK133.out 3).trans rfl; have hcz31_4 : w29.cell? ⟨gb133, 4, none⟩ = some (.string t131) := (blk_cell BK133.out 4).trans rfl; have hfz31_0 := blk_frozen BK133.out 0; have hfz31_1 := blk_frozen BK133.out 1; have hfz31_2 := blk_frozen BK133.out 2; have hfz31_3 := blk_frozen BK133.out 3; have hfz31_4 := blk_frozen BK133.out 4))
        go_ret
        exact ⟨by first | rfl | (simp [errW_none, errW_some] <;> rfl) | (simp [*, errW_none, errW_some] <;> rfl) | (simp [bneNil]; done), by repeat (first | (with_reducible first | exact HB.out | apply below_alloc | apply pw_below_drewN | apply below_drew1 | refine below_set ?_ GE119.out | refine below_set ?_ GE126.out | refine below_set ?_ GE133.out) | exact HB.out)⟩
       ·
        rw [if_neg c13] at H
        have c13b0 : (t113 == t127 && (t114 == t128 && (t115 == t129 && (t116.toList == t130.toList && (t117.toList == t131.toList))))) = false := by simpa using c13
        (try (have c13b1 : decide (t113 = t127 && (t114 == t128 && (t115 == t129 && (t116.toList == t130.toList && (t117.toList == t131.toList))))) = false := by simpa using c13))
        (try (have c13b2 : (t113 == t127 && (t114 == t128 && (t115 == t129 && (t116.toList == t130.toList && (t117.toList == t131.toList))))) = false := by simpa using c13))
        (try (have c13b3 : ¬ (t113 = t127 && (t114 == t128 && (t115 == t129 && (t116.toList == t130.toList && (t117.toList == t131.toList))))) := by simpa using c13))
        clear c13
        obtain rfl := Option.some.inj H
        go_enter Tryz.func4, Tryz.ntmps4
        go_wp2_with (first | ((with_reducible refine gate_dst (N := 15) rfl ?_); refine Kd.R_lit Kd.string _ 9 ?hg (N := 15) ?hd (xs := ([a0] : List ByteArray)) (inner := [.string a0]) (ok := fun _ => True) (okp := fun _ => True) ?hr ?hp (fun _ hk => hk) trivial (Below.refl _ _) (Nat.le_refl _) (by simp) ?_; (case hd => rfl); (case hg => rfl); (case hr => first | (go_simp; done) | (go_simp; rfl) | (go_simp; simp [u8w]; done)); (case hp => exact (Reps.one (show Kd.M Kd.string _ _ _ a0 [.string a0] from rfl) (Reps.none _ _))); intro v110 w32 ho33 hb hg_ hnew_; clear hg_ hnew_; (first | rw [← Ny109.out] at ho33 | (simp only [Int.reduceToNat] at ho33; rw [← Ny109.out] at ho33)); have n0_ := Aside0.mk (Kd.R_lower ho33 (below_size (by repeat (first | (with_reducible first | exact HB.out | apply below_alloc | apply pw_below_drewN | apply below_drew1) | exact HB.out)))); have n1_ := Aside0.mk (below_step (by repeat (first | (with_reducible first | exact HB.out | apply below_alloc | apply pw_below_drewN | apply below_drew1) | exact HB.out)) hb); clear HB; have HO111 := n0_; have HB := n1_; clear n0_ n1_; clear hb ho33; obtain ⟨Ao34, co34, eo34⟩ := Kd.R_slice HO111.out; subst eo34) | ((with_reducible refine gate_callee (f := 8) rfl ?_); refine goesL_ (some 16) rfl rfl Tryz.func8 (by kernel_rfl) rfl #[.slice Ao34 y109.length co34] rfl (by (try simp only [List.map_toArray, List.map_cons, List.map_nil]); first | done | rfl | (simp only [List.length_drop, List.length_take]; rfl)) ?_; (with_reducible refine (laws_svShort.calls k _ _ y109 true _ ?side1 ?side2 A3.out).mono ?_); (case side1 => repeat (first | exact (Kd.R_reads' HO111.out).2.2 | (with_reducible refine Kd.C_alloc ?_ _) | (with_reducible refine Kd.C_drewN ?_ _) | (with_reducible refine Kd.C_drew ?_))); (case side2 => exact (Kd.R_reads' HO111.out).2.1); rintro e w' ⟨rfl, ⟨nd, rfl⟩⟩; refine ⟨_, rfl, ?_⟩; (try (rw [drewN_self w32]; generalize hq_ : World.drewN w32 _ = w32; have n0_ : Aside0 (Kd.R Kd.string 9 w32 w.heap.size (fun _ => True) (.slice Ao34 y109.length co34) y109) := ⟨by rw [← hq_]; exact (by (with_reducible repeat (first | apply Kd.R_alloc | apply Kd.R_drewN | apply Kd.R_drew)); exact HO111.out)⟩; have n1_ : Aside0 (Below w.heap.size w w32) := ⟨by rw [← hq_]; exact (by repeat (first | (with_reducible first | exact HB.out | apply below_alloc | apply pw_below_drewN | apply below_drew1) | exact HB.out))⟩; clear HO111 HB hq_; have HO111 := n0_; have HB := n1_; clear n0_ n1_))) | ((with_reducible refine gate_callee (f := 9) rfl ?_); refine goesL_ (some 20) rfl rfl Tryz.func9 (by kernel_rfl) rfl #[.string a0] rfl (by (try simp only [List.map_toArray, List.map_cons, List.map_nil]); first | done | rfl | (simp only [List.length_drop, List.length_take]; rfl)) ?_; (with_reducible refine (impl_StrictVersion.calls a0 t113 t114 t115 t116 t117 true _ ?side1 ?side2 ?side3 A5.out).mono ?_); (case side1 => exact HSem.out.below (by repeat (first | (with_reducible first | exact HB.out | apply below_alloc | apply pw_below_drewN | apply below_drew1) | exact HB.out))); (case side2 => exact HStd.out.below (by repeat (first | (with_reducible first | exact HB.out | apply below_alloc | apply pw_below_drewN | apply below_drew1) | exact HB.out))); (case side3 => exact HStr.out.below (by repeat (first | (with_reducible first | exact HB.out | apply below_alloc | apply pw_below_drewN | apply below_drew1) | exact HB.out))); rintro e w35 ⟨rfl, hb⟩; refine ⟨_, rfl, ?_⟩; have n0_ := Aside0.mk (Kd.R_below (by (with_reducible repeat (first | apply Kd.R_alloc | apply Kd.R_drewN | apply Kd.R_drew)); exact HO111.out) hb); have n1_ := Aside0.mk (below_step (by repeat (first | (with_reducible first | exact HB.out | apply below_alloc | apply pw_below_drewN | apply below_drew1) | exact HB.out)) hb); clear HO111; clear HB; have HO111 := n0_; have HB := n1_; clear n0_ n1_; (try clear hb); (try clear hb2); (try clear hk); (try clear hi)) | ((with_reducible refine gate_dst (N := 3) rfl ?_); refine box_event ?hg (N := 3) ?hd (cs := #[.int .u64 0, .int .u64 0, .int .u64 0, .string (⟨#[]⟩ : ByteArray), .string (⟨#[]⟩ : ByteArray)]) (t := 32) ?hr ?_; (case hd => rfl); (case hg => rfl); (case hr => first | (go_simp; done) | (go_simp; rfl) | (go_simp; simp [u8w]; done)); intro gb119 hg w36 hbox hb; have n0_ := Aside0.mk (Kd.R_below (by (with_reducible repeat (first | apply Kd.R_alloc | apply Kd.R_drewN | apply Kd.R_drew)); exact HO111.out) hb); have n1_ := Aside0.mk (below_step (by repeat (first | (with_reducible first | exact HB.out | apply below_alloc | apply pw_below_drewN | apply below_drew1) | exact HB.out)) hb); have n2_ := Aside0.mk (hbox); have n3_ := Aside0.mk ((by rw [hg]; exact (below_size (by repeat (first | (with_reducible first | exact HB.out | apply below_alloc | apply pw_below_drewN | apply below_drew1) | exact HB.out))) : w.heap.size ≤ gb119)); have n4_ := Aside0.mk ((by rw [hg]; exact (below_size (by repeat (first | (with_reducible first | exact HB.out | apply below_alloc | apply pw_below_drewN | apply below_drew1) | exact HB.out))) : w.heap.size ≤ gb119)); clear HO111; clear HB; have HO111 := n0_; have HB := n1_; have BK119 := n2_; have GW119 := n3_; have GE119 := n4_; clear n0_ n1_ n2_ n3_ n4_; clear hb hbox hg; have hcz37_0 : w36.cell? ⟨gb119, 0, none⟩ = some (.int .u64 0) := (blk_cell BK119.out 0).trans rfl; have hcz37_1 : w36.cell? ⟨gb119, 1, none⟩ = some (.int .u64 0) := (blk_cell BK119.out 1).trans rfl; have hcz37_2 : w36.cell? ⟨gb119, 2, none⟩ = some (.int .u64 0) := (blk_cell BK119.out 2).trans rfl; have hcz37_3 : w36.cell? ⟨gb119, 3, none⟩ = some (.string (⟨#[]⟩ : ByteArray)) := (blk_cell BK119.out 3).trans rfl; have hcz37_4 : w36.cell? ⟨gb119, 4, none⟩ = some (.string (⟨#[]⟩ : ByteArray)) := (blk_cell BK119.out 4).trans rfl; have hfz37_0 := blk_frozen BK119.out 0; have hfz37_1 := blk_frozen BK119.out 1; have hfz37_2 := blk_frozen BK119.out 2; have hfz37_3 := blk_frozen BK119.out 3; have hfz37_4 := blk_frozen BK119.out 4) | ((with_reducible refine gate_callee (f := 10) rfl ?_); refine goesL_ (some 25) rfl rfl Tryz.func10 (by kernel_rfl) rfl #[.string a0] rfl (by (try simp only [List.map_toArray, List.map_cons, List.map_nil]); first | done | rfl | (simp only [List.length_drop, List.length_take]; rfl)) ?_; (with_reducible refine (spec_StrictVersion.calls a0 t120 t121 t122 t123 t124 true _ A6.out).mono ?_); rintro e w38 ⟨rfl, hb⟩; refine ⟨_, rfl, ?_⟩; have n0_ := Aside0.mk (Kd.R_below (by (with_reducible repeat (first | apply Kd.R_alloc | apply Kd.R_drewN | apply Kd.R_drew)); exact (Kd.R_mono (Kd.R_far (p := ⟨gb119, 4, none⟩) (Kd.R_far (p := ⟨gb119, 3, none⟩) (Kd.R_far (p := ⟨gb119, 2, none⟩) (Kd.R_far (p := ⟨gb119, 1, none⟩) (Kd.R_far (p := ⟨gb119, 0, none⟩) (Kd.R_types HO111.out BK119.out (by decide)) (fun _ hk => hk.2) (.int .u64 t113)) (fun _ hk => hk.2) (.int .u64 t114)) (fun _ hk => hk.2) (.int .u64 t115)) (fun _ hk => hk.2) (.string t116)) (fun _ hk => hk.2) (.string t117)) (fun _ h_ => h_.1))) hb); have n1_ := Aside0.mk (blk_below (g := gb119) (o := .cells #[.int .u64 t113, .int .u64 t114, .int .u64 t115, .string t116, .string t117] 32 (0, 0)) (by (with_reducible repeat (first | refine blk_drewN ?_ _ | refine blk_drew ?_ | refine blk_alloc ?_ _)); refine blk_put (cs := #[.int .u64 t113, .int .u64 t114, .int .u64 t115, .string t116, .string (⟨#[]⟩ : ByteArray)]) ?_ 4 _ rfl; (with_reducible repeat (first | refine blk_drewN ?_ _ | refine blk_drew ?_ | refine blk_alloc ?_ _)); refine blk_put (cs := #[.int .u64 t113, .int .u64 t114, .int .u64 t115, .string (⟨#[]⟩ : ByteArray), .string (⟨#[]⟩ : ByteArray)]) ?_ 3 _ rfl; (with_reducible repeat (first | refine blk_drewN ?_ _ | refine blk_drew ?_ | refine blk_alloc ?_ _)); refine blk_put (cs := #[.int .u64 t113, .int .u64 t114, .int .u64 0, .string (⟨#[]⟩ : ByteArray), .string (⟨#[]⟩ : ByteArray)]) ?_ 2 _ rfl; (with_reducible repeat (first | refine blk_drewN ?_ _ | refine blk_drew ?_ | refine blk_alloc ?_ _)); refine blk_put (cs := #[.int .u64 t113, .int .u64 0, .int .u64 0, .string (⟨#[]⟩ : ByteArray), .string (⟨#[]⟩ : ByteArray)]) ?_ 1 _ rfl; (with_reducible repeat (first | refine blk_drewN ?_ _ | refine blk_drew ?_ | refine blk_alloc ?_ _)); refine blk_put (cs := #[.int .u64 0, .int .u64 0, .int .u64 0, .string (⟨#[]⟩ : ByteArray), .string (⟨#[]⟩ : ByteArray)]) ?_ 0 _ rfl; (with_reducible repeat (first | refine blk_drewN ?_ _ | refine blk_drew ?_ | refine blk_alloc ?_ _)); exact BK119.out) hb); have n2_ := Aside0.mk (below_step (by repeat (first | (with_reducible first | exact HB.out | apply below_alloc | apply pw_below_drewN | apply below_drew1 | refine below_set ?_ GE119.out) | exact HB.out)) hb); clear HO111; clear BK119; clear HB; have HO111 := n0_; have BK119 := n1_; have HB := n2_; clear n0_ n1_ n2_; (try clear hb); (try clear hb2); (try clear hk); (try clear hi)) | ((with_reducible refine gate_dst (N := 5) rfl ?_); refine box_event ?hg (N := 5) ?hd (cs := #[.int .u64 0, .int .u64 0, .int .u64 0, .string (⟨#[]⟩ : ByteArray), .string (⟨#[]⟩ : ByteArray)]) (t := 32) ?hr ?_; (case hd => rfl); (case hg => rfl); (case hr => first | (go_simp; done) | (go_simp; rfl) | (go_simp; simp [u8w]; done)); intro gb126 hg w39 hbox hb; have n0_ := Aside0.mk (Kd.R_below (by (with_reducible repeat (first | apply Kd.R_alloc | apply Kd.R_drewN | apply Kd.R_drew)); exact HO111.out) hb); have n1_ := Aside0.mk (blk_below (g := gb119) (o := .cells #[.int .u64 t113, .int .u64 t114, .int .u64 t115, .string t116, .string t117] 32 (0, 0)) (by (with_reducible repeat (first | refine blk_drewN ?_ _ | refine blk_drew ?_ | refine blk_alloc ?_ _)); exact BK119.out) hb); have n2_ := Aside0.mk (below_step (by repeat (first | (with_reducible first | exact HB.out | apply below_alloc | apply pw_below_drewN | apply below_drew1 | refine below_set ?_ GE119.out) | exact HB.out)) hb); have n3_ := Aside0.mk (hbox); have n4_ := Aside0.mk ((by rw [hg]; exact (below_size (by repeat (first | (with_reducible first | exact HB.out | apply below_alloc | apply pw_below_drewN | apply below_drew1 | refine below_set ?_ GE119.out) | exact HB.out))) : w.heap.size ≤ gb126)); have n5_ := Aside0.mk ((by rw [hg]; exact (below_size (by repeat (first | (with_reducible first | exact HB.out | apply below_alloc | apply pw_below_drewN | apply below_drew1 | refine below_set ?_ GE119.out) | exact HB.out))) : w.heap.size ≤ gb126)); have n6_ := Aside0.mk ((by rw [hg]; exact Nat.ne_of_lt (blk_lt (g := gb119) (o := .cells #[.int .u64 t113, .int .u64 t114, .int .u64 t115, .string t116, .string t117] 32 (0, 0)) (by (with_reducible repeat (first | refine blk_drewN ?_ _ | refine blk_drew ?_ | refine blk_alloc ?_ _)); exact BK119.out)) : gb119 ≠ gb126)); have n7_ := Aside0.mk ((by rw [hg]; exact Nat.ne_of_gt (blk_lt (g := gb119) (o := .cells #[.int .u64 t113, .int .u64 t114, .int .u64 t115, .string t116, .string t117] 32 (0, 0)) (by (with_reducible repeat (first | refine blk_drewN ?_ _ | refine blk_drew ?_ | refine blk_alloc ?_ _)); exact BK119.out)) : gb126 ≠ gb119)); clear HO111; clear BK119; clear HB; have HO111 := n0_; have BK119 := n1_; have HB := n2_; have BK126 := n3_; have GW126 := n4_; have GE126 := n5_; have NB119_126 := n6_; have NB126_119 := n7_; clear n0_ n1_ n2_ n3_ n4_ n5_ n6_ n7_; clear hb hbox hg; have hnb40 := NB126_119.out; have hnc40 := NB119_126.out; have hcz41_0 : w39.cell? ⟨gb126, 0, none⟩ = some (.int .u64 0) := (blk_cell BK126.out 0).trans rfl; have hcz41_1 : w39.cell? ⟨gb126, 1, none⟩ = some (.int .u64 0) := (blk_cell BK126.out 1).trans rfl; have hcz41_2 : w39.cell? ⟨gb126, 2, none⟩ = some (.int .u64 0) := (blk_cell BK126.out 2).trans rfl; have hcz41_3 : w39.cell? ⟨gb126, 3, none⟩ = some (.string (⟨#[]⟩ : ByteArray)) := (blk_cell BK126.out 3).trans rfl; have hcz41_4 : w39.cell? ⟨gb126, 4, none⟩ = some (.string (⟨#[]⟩ : ByteArray)) := (blk_cell BK126.out 4).trans rfl; have hfz41_0 := blk_frozen BK126.out 0; have hfz41_1 := blk_frozen BK126.out 1; have hfz41_2 := blk_frozen BK126.out 2; have hfz41_3 := blk_frozen BK126.out 3; have hfz41_4 := blk_frozen BK126.out 4) | ((with_reducible refine gate_callee (f := 11) rfl ?_); refine goesL_ (some 34) rfl rfl Tryz.func11 (by kernel_rfl) rfl #[.string a0] rfl (by (try simp only [List.map_toArray, List.map_cons, List.map_nil]); first | done | rfl | (simp only [List.length_drop, List.length_take]; rfl)) ?_; (with_reducible refine (impl_LooseVersion.calls a0 t127 t128 t129 t130 t131 true _ ?side1 ?side2 A8.out).mono ?_); (case side1 => exact HSem.out.below (by repeat (first | (with_reducible first | exact HB.out | apply below_alloc | apply pw_below_drewN | apply below_drew1 | refine below_set ?_ GE119.out | refine below_set ?_ GE126.out) | exact HB.out))); (case side2 => exact HStd.out.below (by repeat (first | (with_reducible first | exact HB.out | apply below_alloc | apply pw_below_drewN | apply below_drew1 | refine below_set ?_ GE119.out | refine below_set ?_ GE126.out) | exact HB.out))); rintro e w42 ⟨rfl, hb⟩; refine ⟨_, rfl, ?_⟩; have n0_ := Aside0.mk (Kd.R_below (by (with_reducible repeat (first | apply Kd.R_alloc | apply Kd.R_drewN | apply Kd.R_drew)); exact (Kd.R_mono (Kd.R_far (p := ⟨gb126, 4, none⟩) (Kd.R_far (p := ⟨gb126, 3, none⟩) (Kd.R_far (p := ⟨gb126, 2, none⟩) (Kd.R_far (p := ⟨gb126, 1, none⟩) (Kd.R_far (p := ⟨gb126, 0, none⟩) (Kd.R_types HO111.out BK126.out (by decide)) (fun _ hk => hk.2) (.int .u64 t120)) (fun _ hk => hk.2) (.int .u64 t121)) (fun _ hk => hk.2) (.int .u64 t122)) (fun _ hk => hk.2) (.string t123)) (fun _ hk => hk.2) (.string t124)) (fun _ h_ => h_.1))) hb); have n1_ := Aside0.mk (blk_below (g := gb119) (o := .cells #[.int .u64 t113, .int .u64 t114, .int .u64 t115, .string t116, .string t117] 32 (0, 0)) (by (with_reducible repeat (first | refine blk_drewN ?_ _ | refine blk_drew ?_ | refine blk_alloc ?_ _)); refine blk_far ?_ NB119_126.out _; (with_reducible repeat (first | refine blk_drewN ?_ _ | refine blk_drew ?_ | refine blk_alloc ?_ _)); refine blk_far ?_ NB119_126.out _; (with_reducible repeat (first | refine blk_drewN ?_ _ | refine blk_drew ?_ | refine blk_alloc ?_ _)); refine blk_far ?_ NB119_126.out _; (with_reducible repeat (first | refine blk_drewN ?_ _ | refine blk_drew ?_ | refine blk_alloc ?_ _)); refine blk_far ?_ NB119_126.out _; (with_reducible repeat (first | refine blk_drewN ?_ _ | refine blk_drew ?_ | refine blk_alloc ?_ _)); refine blk_far ?_ NB119_126.out _; (with_reducible repeat (first | refine blk_drewN ?_ _ | refine blk_drew ?_ | refine blk_alloc ?_ _)); exact BK119.out) hb); have n2_ := Aside0.mk (blk_below (g := gb126) (o := .cells #[.int .u64 t120, .int .u64 t121, .int .u64 t122, .string t123, .string t124] 32 (0, 0)) (by (with_reducible repeat (first | refine blk_drewN ?_ _ | refine blk_drew ?_ | refine blk_alloc ?_ _)); refine blk_put (cs := #[.int .u64 t120, .int .u64 t121, .int .u64 t122, .string t123, .string (⟨#[]⟩ : ByteArray)]) ?_ 4 _ rfl; (with_reducible repeat (first | refine blk_drewN ?_ _ | refine blk_drew ?_ | refine blk_alloc ?_ _)); refine blk_put (cs := #[.int .u64 t120, .int .u64 t121, .int .u64 t122, .string (⟨#[]⟩ : ByteArray), .string (⟨#[]⟩ : ByteArray)]) ?_ 3 _ rfl; (with_reducible repeat (first | refine blk_drewN ?_ _ | refine blk_drew ?_ | refine blk_alloc ?_ _)); refine blk_put (cs := #[.int .u64 t120, .int .u64 t121, .int .u64 0, .string (⟨#[]⟩ : ByteArray), .string (⟨#[]⟩ : ByteArray)]) ?_ 2 _ rfl; (with_reducible repeat (first | refine blk_drewN ?_ _ | refine blk_drew ?_ | refine blk_alloc ?_ _)); refine blk_put (cs := #[.int .u64 t120, .int .u64 0, .int .u64 0, .string (⟨#[]⟩ : ByteArray), .string (⟨#[]⟩ : ByteArray)]) ?_ 1 _ rfl; (with_reducible repeat (first | refine blk_drewN ?_ _ | refine blk_drew ?_ | refine blk_alloc ?_ _)); refine blk_put (cs := #[.int .u64 0, .int .u64 0, .int .u64 0, .string (⟨#[]⟩ : ByteArray), .string (⟨#[]⟩ : ByteArray)]) ?_ 0 _ rfl; (with_reducible repeat (first | refine blk_drewN ?_ _ | refine blk_drew ?_ | refine blk_alloc ?_ _)); exact BK126.out) hb); have n3_ := Aside0.mk (below_step (by repeat (first | (with_reducible first | exact HB.out | apply below_alloc | apply pw_below_drewN | apply below_drew1 | refine below_set ?_ GE119.out | refine below_set ?_ GE126.out) | exact HB.out)) hb); clear HO111; clear BK119; clear BK126; clear HB; have HO111 := n0_; have BK119 := n1_; have BK126 := n2_; have HB := n3_; clear n0_ n1_ n2_ n3_; (try clear hb); (try clear hb2); (try clear hk); (try clear hi)) | ((with_reducible refine gate_dst (N := 7) rfl ?_); refine box_event ?hg (N := 7) ?hd (cs := #[.int .u64 0, .int .u64 0, .int .u64 0, .string (⟨#[]⟩ : ByteArray), .string (⟨#[]⟩ : ByteArray)]) (t := 32) ?hr ?_; (case hd => rfl); (case hg => rfl); (case hr => first | (go_simp; done) | (go_simp; rfl) | (go_simp; simp [u8w]; done)); intro gb133 hg w43 hbox hb; have n0_ := Aside0.mk (Kd.R_below (by (with_reducible repeat (first | apply Kd.R_alloc | apply Kd.R_drewN | apply Kd.R_drew)); exact HO111.out) hb); have n1_ := Aside0.mk (blk_below (g := gb119) (o := .cells #[.int .u64 t113, .int .u64 t114, .int .u64 t115, .string t116, .string t117] 32 (0, 0)) (by (with_reducible repeat (first | refine blk_drewN ?_ _ | refine blk_drew ?_ | refine blk_alloc ?_ _)); exact BK119.out) hb); have n2_ := Aside0.mk (blk_below (g := gb126) (o := .cells #[.int .u64 t120, .int .u64 t121, .int .u64 t122, .string t123, .string t124] 32 (0, 0)) (by (with_reducible repeat (first | refine blk_drewN ?_ _ | refine blk_drew ?_ | refine blk_alloc ?_ _)); exact BK126.out) hb); have n3_ := Aside0.mk (below_step (by repeat (first | (with_reducible first | exact HB.out | apply below_alloc | apply pw_below_drewN | apply below_drew1 | refine below_set ?_ GE119.out | refine below_set ?_ GE126.out) | exact HB.out)) hb); have n4_ := Aside0.mk (hbox); have n5_ := Aside0.mk ((by rw [hg]; exact (below_size (by repeat (first | (with_reducible first | exact HB.out | apply below_alloc | apply pw_below_drewN | apply below_drew1 | refine below_set ?_ GE119.out | refine below_set ?_ GE126.out) | exact HB.out))) : w.heap.size ≤ gb133)); have n6_ := Aside0.mk ((by rw [hg]; exact (below_size (by repeat (first | (with_reducible first | exact HB.out | apply below_alloc | apply pw_below_drewN | apply below_drew1 | refine below_set ?_ GE119.out | refine below_set ?_ GE126.out) | exact HB.out))) : w.heap.size ≤ gb133)); have n7_ := Aside0.mk ((by rw [hg]; exact Nat.ne_of_lt (blk_lt (g := gb119) (o := .cells #[.int .u64 t113, .int .u64 t114, .int .u64 t115, .string t116, .string t117] 32 (0, 0)) (by (with_reducible repeat (first | refine blk_drewN ?_ _ | refine blk_drew ?_ | refine blk_alloc ?_ _)); exact BK119.out)) : gb119 ≠ gb133)); have n8_ := Aside0.mk ((by rw [hg]; exact Nat.ne_of_gt (blk_lt (g := gb119) (o := .cells #[.int .u64 t113, .int .u64 t114, .int .u64 t115, .string t116, .string t117] 32 (0, 0)) (by (with_reducible repeat (first | refine blk_drewN ?_ _ | refine blk_drew ?_ | refine blk_alloc ?_ _)); exact BK119.out)) : gb133 ≠ gb119)); have n9_ := Aside0.mk ((by rw [hg]; exact Nat.ne_of_lt (blk_lt (g := gb126) (o := .cells #[.int .u64 t120, .int .u64 t121, .int .u64 t122, .string t123, .string t124] 32 (0, 0)) (by (with_reducible repeat (first | refine blk_drewN ?_ _ | refine blk_drew ?_ | refine blk_alloc ?_ _)); exact BK126.out)) : gb126 ≠ gb133)); have n10_ := Aside0.mk ((by rw [hg]; exact Nat.ne_of_gt (blk_lt (g := gb126) (o := .cells #[.int .u64 t120, .int .u64 t121, .int .u64 t122, .string t123, .string t124] 32 (0, 0)) (by (with_reducible repeat (first | refine blk_drewN ?_ _ | refine blk_drew ?_ | refine blk_alloc ?_ _)); exact BK126.out)) : gb133 ≠ gb126)); clear HO111; clear BK119; clear BK126; clear HB; have HO111 := n0_; have BK119 := n1_; have BK126 := n2_; have HB := n3_; have BK133 := n4_; have GW133 := n5_; have GE133 := n6_; have NB119_133 := n7_; have NB133_119 := n8_; have NB126_133 := n9_; have NB133_126 := n10_; clear n0_ n1_ n2_ n3_ n4_ n5_ n6_ n7_ n8_ n9_ n10_; clear hb hbox hg; have hnb44 := NB133_119.out; have hnc44 := NB119_133.out; have hnb45 := NB133_126.out; have hnc45 := NB126_133.out; have hcz46_0 : w43.cell? ⟨gb133, 0, none⟩ = some (.int .u64 0) := (blk_cell BK133.out 0).trans rfl; have hcz46_1 : w43.cell? ⟨gb133, 1, none⟩ = some (.int .u64 0) := (blk_cell BK133.out 1).trans rfl; have hcz46_2 : w43.cell? ⟨gb133, 2, none⟩ = some (.int .u64 0) := (blk_cell BK133.out 2).trans rfl; have hcz46_3 : w43.cell? ⟨gb133, 3, none⟩ = some (.string (⟨#[]⟩ : ByteArray)) := (blk_cell BK133.out 3).trans rfl; have hcz46_4 : w43.cell? ⟨gb133, 4, none⟩ = some (.string (⟨#[]⟩ : ByteArray)) := (blk_cell BK133.out 4).trans rfl; have hfz46_0 := blk_frozen BK133.out 0; have hfz46_1 := blk_frozen BK133.out 1; have hfz46_2 := blk_frozen BK133.out 2; have hfz46_3 := blk_frozen BK133.out 3; have hfz46_4 := blk_frozen BK133.out 4) | ((with_reducible refine gate_callee (f := 12) rfl ?_); refine goesL_ (some 39) rfl rfl Tryz.func12 (by kernel_rfl) rfl #[.string a0] rfl (by (try simp only [List.map_toArray, List.map_cons, List.map_nil]); first | done | rfl | (simp only [List.length_drop, List.length_take]; rfl)) ?_; (with_reducible refine (impl_LooseText.calls a0 t134 true _ ?side1 ?side2 ?side3 A9.out).mono ?_); (case side1 => exact HPow.out.below (by repeat (first | (with_reducible first | exact HB.out | apply below_alloc | apply pw_below_drewN | apply below_drew1 | refine below_set ?_ GE119.out | refine below_set ?_ GE126.out | refine below_set ?_ GE133.out) | exact HB.out))); (case side2 => exact HSem.out.below (by repeat (first | (with_reducible first | exact HB.out | apply below_alloc | apply pw_below_drewN | apply below_drew1 | refine below_set ?_ GE119.out | refine below_set ?_ GE126.out | refine below_set ?_ GE133.out) | exact HB.out))); (case side3 => exact HStd.out.below (by repeat (first | (with_reducible first | exact HB.out | apply below_alloc | apply pw_below_drewN | apply below_drew1 | refine below_set ?_ GE119.out | refine below_set ?_ GE126.out | refine below_set ?_ GE133.out) | exact HB.out))); rintro e w47 ⟨rfl, hb⟩; refine ⟨_, rfl, ?_⟩; have n0_ := Aside0.mk (Kd.R_below (by (with_reducible repeat (first | apply Kd.R_alloc | apply Kd.R_drewN | apply Kd.R_drew)); exact (Kd.R_mono (Kd.R_far (p := ⟨gb133, 4, none⟩) (Kd.R_far (p := ⟨gb133, 3, none⟩) (Kd.R_far (p := ⟨gb133, 2, none⟩) (Kd.R_far (p := ⟨gb133, 1, none⟩) (Kd.R_far (p := ⟨gb133, 0, none⟩) (Kd.R_types HO111.out BK133.out (by decide)) (fun _ hk => hk.2) (.int .u64 t127)) (fun _ hk => hk.2) (.int .u64 t128)) (fun _ hk => hk.2) (.int .u64 t129)) (fun _ hk => hk.2) (.string t130)) (fun _ hk => hk.2) (.string t131)) (fun _ h_ => h_.1))) hb); have n1_ := Aside0.mk (blk_below (g := gb119) (o := .cells #[.int .u64 t113, .int .u64 t114, .int .u64 t115, .string t116, .string t117] 32 (0, 0)) (by (with_reducible repeat (first | refine blk_drewN ?_ _ | refine blk_drew ?_ | refine blk_alloc ?_ _)); refine blk_far ?_ NB119_133.out _; (with_reducible repeat (first | refine blk_drewN ?_ _ | refine blk_drew ?_ | refine blk_alloc ?_ _)); refine blk_far ?_ NB119_133.out _; (with_reducible repeat (first | refine blk_drewN ?_ _ | refine blk_drew ?_ | refine blk_alloc ?_ _)); refine blk_far ?_ NB119_133.out _; (with_reducible repeat (first | refine blk_drewN ?_ _ | refine blk_drew ?_ | refine blk_alloc ?_ _)); refine blk_far ?_ NB119_133.out _; (with_reducible repeat (first | refine blk_drewN ?_ _ | refine blk_drew ?_ | refine blk_alloc ?_ _)); refine blk_far ?_ NB119_133.out _; (with_reducible repeat (first | refine blk_drewN ?_ _ | refine blk_drew ?_ | refine blk_alloc ?_ _)); exact BK119.out) hb); have n2_ := Aside0.mk (blk_below (g := gb126) (o := .cells #[.int .u64 t120, .int .u64 t121, .int .u64 t122, .string t123, .string t124] 32 (0, 0)) (by (with_reducible repeat (first | refine blk_drewN ?_ _ | refine blk_drew ?_ | refine blk_alloc ?_ _)); refine blk_far ?_ NB126_133.out _; (with_reducible repeat (first | refine blk_drewN ?_ _ | refine blk_drew ?_ | refine blk_alloc ?_ _)); refine blk_far ?_ NB126_133.out _; (with_reducible repeat (first | refine blk_drewN ?_ _ | refine blk_drew ?_ | refine blk_alloc ?_ _)); refine blk_far ?_ NB126_133.out _; (with_reducible repeat (first | refine blk_drewN ?_ _ | refine blk_drew ?_ | refine blk_alloc ?_ _)); refine blk_far ?_ NB126_133.out _; (with_reducible repeat (first | refine blk_drewN ?_ _ | refine blk_drew ?_ | refine blk_alloc ?_ _)); refine blk_far ?_ NB126_133.out _; (with_reducible repeat (first | refine blk_drewN ?_ _ | refine blk_drew ?_ | refine blk_alloc ?_ _)); exact BK126.out) hb); have n3_ := Aside0.mk (blk_below (g := gb133) (o := .cells #[.int .u64 t127, .int .u64 t128, .int .u64 t129, .string t130, .string t131] 32 (0, 0)) (by (with_reducible repeat (first | refine blk_drewN ?_ _ | refine blk_drew ?_ | refine blk_alloc ?_ _)); refine blk_put (cs := #[.int .u64 t127, .int .u64 t128, .int .u64 t129, .string t130, .string (⟨#[]⟩ : ByteArray)]) ?_ 4 _ rfl; (with_reducible repeat (first | refine blk_drewN ?_ _ | refine blk_drew ?_ | refine blk_alloc ?_ _)); refine blk_put (cs := #[.int .u64 t127, .int .u64 t128, .int .u64 t129, .string (⟨#[]⟩ : ByteArray), .string (⟨#[]⟩ : ByteArray)]) ?_ 3 _ rfl; (with_reducible repeat (first | refine blk_drewN ?_ _ | refine blk_drew ?_ | refine blk_alloc ?_ _)); refine blk_put (cs := #[.int .u64 t127, .int .u64 t128, .int .u64 0, .string (⟨#[]⟩ : ByteArray), .string (⟨#[]⟩ : ByteArray)]) ?_ 2 _ rfl; (with_reducible repeat (first | refine blk_drewN ?_ _ | refine blk_drew ?_ | refine blk_alloc ?_ _)); refine blk_put (cs := #[.int .u64 t127, .int .u64 0, .int .u64 0, .string (⟨#[]⟩ : ByteArray), .string (⟨#[]⟩ : ByteArray)]) ?_ 1 _ rfl; (with_reducible repeat (first | refine blk_drewN ?_ _ | refine blk_drew ?_ | refine blk_alloc ?_ _)); refine blk_put (cs := #[.int .u64 0, .int .u64 0, .int .u64 0, .string (⟨#[]⟩ : ByteArray), .string (⟨#[]⟩ : ByteArray)]) ?_ 0 _ rfl; (with_reducible repeat (first | refine blk_drewN ?_ _ | refine blk_drew ?_ | refine blk_alloc ?_ _)); exact BK133.out) hb); have n4_ := Aside0.mk (below_step (by repeat (first | (with_reducible first | exact HB.out | apply below_alloc | apply pw_below_drewN | apply below_drew1 | refine below_set ?_ GE119.out | refine below_set ?_ GE126.out | refine below_set ?_ GE133.out) | exact HB.out)) hb); clear HO111; clear BK119; clear BK126; clear BK133; clear HB; have HO111 := n0_; have BK119 := n1_; have BK126 := n2_; have BK133 := n3_; have HB := n4_; clear n0_ n1_ n2_ n3_ n4_; (try clear hb); (try clear hb2); (try clear hk); (try clear hi); have hcz48_0 : w47.cell? ⟨gb119, 0, none⟩ = some (.int .u64 t113) := (blk_cell BK119.out 0).trans rfl; have hcz48_1 : w47.cell? ⟨gb119, 1, none⟩ = some (.int .u64 t114) := (blk_cell BK119.out 1).trans rfl; have hcz48_2 : w47.cell? ⟨gb119, 2, none⟩ = some (.int .u64 t115) := (blk_cell BK119.out 2).trans rfl; have hcz48_3 : w47.cell? ⟨gb119, 3, none⟩ = some (.string t116) := (blk_cell BK119.out 3).trans rfl; have hcz48_4 : w47.cell? ⟨gb119, 4, none⟩ = some (.string t117) := (blk_cell BK119.out 4).trans rfl; have hfz48_0 := blk_frozen BK119.out 0; have hfz48_1 := blk_frozen BK119.out 1; have hfz48_2 := blk_frozen BK119.out 2; have hfz48_3 := blk_frozen BK119.out 3; have hfz48_4 := blk_frozen BK119.out 4; have hcz49_0 : w47.cell? ⟨gb133, 0, none⟩ = some (.int .u64 t127) := (blk_cell BK133.out 0).trans rfl; have hcz49_1 : w47.cell? ⟨gb133, 1, none⟩ = some (.int .u64 t128) := (blk_cell BK133.out 1).trans rfl; have hcz49_2 : w47.cell? ⟨gb133, 2, none⟩ = some (.int .u64 t129) := (blk_cell BK133.out 2).trans rfl; have hcz49_3 : w47.cell? ⟨gb133, 3, none⟩ = some (.string t130) := (blk_cell BK133.out 3).trans rfl; have hcz49_4 : w47.cell? ⟨gb133, 4, none⟩ = some (.string t131) := (blk_cell BK133.out 4).trans rfl; have hfz49_0 := blk_frozen BK133.out 0; have hfz49_1 := blk_frozen BK133.out 1; have hfz49_2 := blk_frozen BK133.out 2; have hfz49_3 := blk_frozen BK133.out 3; have hfz49_4 := blk_frozen BK133.out 4))
        go_ret
        exact ⟨by first | rfl | (simp [errW_none, errW_some] <;> rfl) | (simp [*, errW_none, errW_some] <;> rfl) | (simp [bneNil]; done), by repeat (first | (with_reducible first | exact HB.out | apply below_alloc | apply pw_below_drewN | apply below_drew1 | refine below_set ?_ GE119.out | refine below_set ?_ GE126.out | refine below_set ?_ GE133.out) | exact HB.out)⟩
      ·
       replace c12 := Bool.eq_false_iff.mpr c12
       subst c12
       have H1 : (some false) = some r := by rw [if_neg (show ¬ (false = true) by decide)] at H; exact H
       clear H
       have H := H1
       clear H1
       obtain rfl := Option.some.inj H
       go_enter Tryz.func4, Tryz.ntmps4
       go_wp2_with (first | ((with_reducible refine gate_dst (N := 15) rfl ?_); refine Kd.R_lit Kd.string _ 9 ?hg (N := 15) ?hd (xs := ([a0] : List ByteArray)) (inner := [.string a0]) (ok := fun _ => True) (okp := fun _ => True) ?hr ?hp (fun _ hk => hk) trivial (Below.refl _ _) (Nat.le_refl _) (by simp) ?_; (case hd => rfl); (case hg => rfl); (case hr => first | (go_simp; done) | (go_simp; rfl) | (go_simp; simp [u8w]; done)); (case hp => exact (Reps.one (show Kd.M Kd.string _ _ _ a0 [.string a0] from rfl) (Reps.none _ _))); intro v110 w50 ho51 hb hg_ hnew_; clear hg_ hnew_; (first | rw [← Ny109.out] at ho51 | (simp only [Int.reduceToNat] at ho51; rw [← Ny109.out] at ho51)); have n0_ := Aside0.mk (Kd.R_lower ho51 (below_size (by repeat (first | (with_reducible first | exact HB.out | apply below_alloc | apply pw_below_drewN | apply below_drew1) | exact HB.out)))); have n1_ := Aside0.mk (below_step (by repeat (first | (with_reducible first | exact HB.out | apply below_alloc | apply pw_below_drewN | apply below_drew1) | exact HB.out)) hb); clear HB; have HO111 := n0_; have HB := n1_; clear n0_ n1_; clear hb ho51; obtain ⟨Ao52, co52, eo52⟩ := Kd.R_slice HO111.out; subst eo52) | ((with_reducible refine gate_callee (f := 8) rfl ?_); refine goesL_ (some 16) rfl rfl Tryz.func8 (by kernel_rfl) rfl #[.slice Ao52 y109.length co52] rfl (by (try simp only [List.map_toArray, List.map_cons, List.map_nil]); first | done | rfl | (simp only [List.length_drop, List.length_take]; rfl)) ?_; (with_reducible refine (laws_svShort.calls k _ _ y109 true _ ?side1 ?side2 A3.out).mono ?_); (case side1 => repeat (first | exact (Kd.R_reads' HO111.out).2.2 | (with_reducible refine Kd.C_alloc ?_ _) | (with_reducible refine Kd.C_drewN ?_ _) | (with_reducible refine Kd.C_drew ?_))); (case side2 => exact (Kd.R_reads' HO111.out).2.1); rintro e w' ⟨rfl, ⟨nd, rfl⟩⟩; refine ⟨_, rfl, ?_⟩; (try (rw [drewN_self w50]; generalize hq_ : World.drewN w50 _ = w50; have n0_ : Aside0 (Kd.R Kd.string 9 w50 w.heap.size (fun _ => True) (.slice Ao52 y109.length co52) y109) := ⟨by rw [← hq_]; exact (by (with_reducible repeat (first | apply Kd.R_alloc | apply Kd.R_drewN | apply Kd.R_drew)); exact HO111.out)⟩; have n1_ : Aside0 (Below w.heap.size w w50) := ⟨by rw [← hq_]; exact (by repeat (first | (with_reducible first | exact HB.out | apply below_alloc | apply pw_below_drewN | apply below_drew1) | exact HB.out))⟩; clear HO111 HB hq_; have HO111 := n0_; have HB := n1_; clear n0_ n1_))) | ((with_reducible refine gate_callee (f := 9) rfl ?_); refine goesL_ (some 20) rfl rfl Tryz.func9 (by kernel_rfl) rfl #[.string a0] rfl (by (try simp only [List.map_toArray, List.map_cons, List.map_nil]); first | done | rfl | (simp only [List.length_drop, List.length_take]; rfl)) ?_; (with_reducible refine (impl_StrictVersion.calls a0 t113 t114 t115 t116 t117 true _ ?side1 ?side2 ?side3 A5.out).mono ?_); (case side1 => exact HSem.out.below (by repeat (first | (with_reducible first | exact HB.out | apply below_alloc | apply pw_below_drewN | apply below_drew1) | exact HB.out))); (case side2 => exact HStd.out.below (by repeat (first | (with_reducible first | exact HB.out | apply below_alloc | apply pw_below_drewN | apply below_drew1) | exact HB.out))); (case side3 => exact HStr.out.below (by repeat (first | (with_reducible first | exact HB.out | apply below_alloc | apply pw_below_drewN | apply below_drew1) | exact HB.out))); rintro e w53 ⟨rfl, hb⟩; refine ⟨_, rfl, ?_⟩; have n0_ := Aside0.mk (Kd.R_below (by (with_reducible repeat (first | apply Kd.R_alloc | apply Kd.R_drewN | apply Kd.R_drew)); exact HO111.out) hb); have n1_ := Aside0.mk (below_step (by repeat (first | (with_reducible first | exact HB.out | apply below_alloc | apply pw_below_drewN | apply below_drew1) | exact HB.out)) hb); clear HO111; clear HB; have HO111 := n0_; have HB := n1_; clear n0_ n1_; (try clear hb); (try clear hb2); (try clear hk); (try clear hi)) | ((with_reducible refine gate_dst (N := 3) rfl ?_); refine box_event ?hg (N := 3) ?hd (cs := #[.int .u64 0, .int .u64 0, .int .u64 0, .string (⟨#[]⟩ : ByteArray), .string (⟨#[]⟩ : ByteArray)]) (t := 32) ?hr ?_; (case hd => rfl); (case hg => rfl); (case hr => first | (go_simp; done) | (go_simp; rfl) | (go_simp; simp [u8w]; done)); intro gb119 hg w54 hbox hb; have n0_ := Aside0.mk (Kd.R_below (by (with_reducible repeat (first | apply Kd.R_alloc | apply Kd.R_drewN | apply Kd.R_drew)); exact HO111.out) hb); have n1_ := Aside0.mk (below_step (by repeat (first | (with_reducible first | exact HB.out | apply below_alloc | apply pw_below_drewN | apply below_drew1) | exact HB.out)) hb); have n2_ := Aside0.mk (hbox); have n3_ := Aside0.mk ((by rw [hg]; exact (below_size (by repeat (first | (with_reducible first | exact HB.out | apply below_alloc | apply pw_below_drewN | apply below_drew1) | exact HB.out))) : w.heap.size ≤ gb119)); have n4_ := Aside0.mk ((by rw [hg]; exact (below_size (by repeat (first | (with_reducible first | exact HB.out | apply below_alloc | apply pw_below_drewN | apply below_drew1) | exact HB.out))) : w.heap.size ≤ gb119)); clear HO111; clear HB; have HO111 := n0_; have HB := n1_; have BK119 := n2_; have GW119 := n3_; have GE119 := n4_; clear n0_ n1_ n2_ n3_ n4_; clear hb hbox hg; have hcz55_0 : w54.cell? ⟨gb119, 0, none⟩ = some (.int .u64 0) := (blk_cell BK119.out 0).trans rfl; have hcz55_1 : w54.cell? ⟨gb119, 1, none⟩ = some (.int .u64 0) := (blk_cell BK119.out 1).trans rfl; have hcz55_2 : w54.cell? ⟨gb119, 2, none⟩ = some (.int .u64 0) := (blk_cell BK119.out 2).trans rfl; have hcz55_3 : w54.cell? ⟨gb119, 3, none⟩ = some (.string (⟨#[]⟩ : ByteArray)) := (blk_cell BK119.out 3).trans rfl; have hcz55_4 : w54.cell? ⟨gb119, 4, none⟩ = some (.string (⟨#[]⟩ : ByteArray)) := (blk_cell BK119.out 4).trans rfl; have hfz55_0 := blk_frozen BK119.out 0; have hfz55_1 := blk_frozen BK119.out 1; have hfz55_2 := blk_frozen BK119.out 2; have hfz55_3 := blk_frozen BK119.out 3; have hfz55_4 := blk_frozen BK119.out 4) | ((with_reducible refine gate_callee (f := 10) rfl ?_); refine goesL_ (some 25) rfl rfl Tryz.func10 (by kernel_rfl) rfl #[.string a0] rfl (by (try simp only [List.map_toArray, List.map_cons, List.map_nil]); first | done | rfl | (simp only [List.length_drop, List.length_take]; rfl)) ?_; (with_reducible refine (spec_StrictVersion.calls a0 t120 t121 t122 t123 t124 true _ A6.out).mono ?_); rintro e w56 ⟨rfl, hb⟩; refine ⟨_, rfl, ?_⟩; have n0_ := Aside0.mk (Kd.R_below (by (with_reducible repeat (first | apply Kd.R_alloc | apply Kd.R_drewN | apply Kd.R_drew)); exact (Kd.R_mono (Kd.R_far (p := ⟨gb119, 4, none⟩) (Kd.R_far (p := ⟨gb119, 3, none⟩) (Kd.R_far (p := ⟨gb119, 2, none⟩) (Kd.R_far (p := ⟨gb119, 1, none⟩) (Kd.R_far (p := ⟨gb119, 0, none⟩) (Kd.R_types HO111.out BK119.out (by decide)) (fun _ hk => hk.2) (.int .u64 t113)) (fun _ hk => hk.2) (.int .u64 t114)) (fun _ hk => hk.2) (.int .u64 t115)) (fun _ hk => hk.2) (.string t116)) (fun _ hk => hk.2) (.string t117)) (fun _ h_ => h_.1))) hb); have n1_ := Aside0.mk (blk_below (g := gb119) (o := .cells #[.int .u64 t113, .int .u64 t114, .int .u64 t115, .string t116, .string t117] 32 (0, 0)) (by (with_reducible repeat (first | refine blk_drewN ?_ _ | refine blk_drew ?_ | refine blk_alloc ?_ _)); refine blk_put (cs := #[.int .u64 t113, .int .u64 t114, .int .u64 t115, .string t116, .string (⟨#[]⟩ : ByteArray)]) ?_ 4 _ rfl; (with_reducible repeat (first | refine blk_drewN ?_ _ | refine blk_drew ?_ | refine blk_alloc ?_ _)); refine blk_put (cs := #[.int .u64 t113, .int .u64 t114, .int .u64 t115, .string (⟨#[]⟩ : ByteArray), .string (⟨#[]⟩ : ByteArray)]) ?_ 3 _ rfl; (with_reducible repeat (first | refine blk_drewN ?_ _ | refine blk_drew ?_ | refine blk_alloc ?_ _)); refine blk_put (cs := #[.int .u64 t113, .int .u64 t114, .int .u64 0, .string (⟨#[]⟩ : ByteArray), .string (⟨#[]⟩ : ByteArray)]) ?_ 2 _ rfl; (with_reducible repeat (first | refine blk_drewN ?_ _ | refine blk_drew ?_ | refine blk_alloc ?_ _)); refine blk_put (cs := #[.int .u64 t113, .int .u64 0, .int .u64 0, .string (⟨#[]⟩ : ByteArray), .string (⟨#[]⟩ : ByteArray)]) ?_ 1 _ rfl; (with_reducible repeat (first | refine blk_drewN ?_ _ | refine blk_drew ?_ | refine blk_alloc ?_ _)); refine blk_put (cs := #[.int .u64 0, .int .u64 0, .int .u64 0, .string (⟨#[]⟩ : ByteArray), .string (⟨#[]⟩ : ByteArray)]) ?_ 0 _ rfl; (with_reducible repeat (first | refine blk_drewN ?_ _ | refine blk_drew ?_ | refine blk_alloc ?_ _)); exact BK119.out) hb); have n2_ := Aside0.mk (below_step (by repeat (first | (with_reducible first | exact HB.out | apply below_alloc | apply pw_below_drewN | apply below_drew1 | refine below_set ?_ GE119.out) | exact HB.out)) hb); clear HO111; clear BK119; clear HB; have HO111 := n0_; have BK119 := n1_; have HB := n2_; clear n0_ n1_ n2_; (try clear hb); (try clear hb2); (try clear hk); (try clear hi)) | ((with_reducible refine gate_dst (N := 5) rfl ?_); refine box_event ?hg (N := 5) ?hd (cs := #[.int .u64 0, .int .u64 0, .int .u64 0, .string (⟨#[]⟩ : ByteArray), .string (⟨#[]⟩ : ByteArray)]) (t := 32) ?hr ?_; (case hd => rfl); (case hg => rfl); (case hr => first | (go_simp; done) | (go_simp; rfl) | (go_simp; simp [u8w]; done)); intro gb126 hg w57 hbox hb; have n0_ := Aside0.mk (Kd.R_below (by (with_reducible repeat (first | apply Kd.R_alloc | apply Kd.R_drewN | apply Kd.R_drew)); exact HO111.out) hb); have n1_ := Aside0.mk (blk_below (g := gb119) (o := .cells #[.int .u64 t113, .int .u64 t114, .int .u64 t115, .string t116, .string t117] 32 (0, 0)) (by (with_reducible repeat (first | refine blk_drewN ?_ _ | refine blk_drew ?_ | refine blk_alloc ?_ _)); exact BK119.out) hb); have n2_ := Aside0.mk (below_step (by repeat (first | (with_reducible first | exact HB.out | apply below_alloc | apply pw_below_drewN | apply below_drew1 | refine below_set ?_ GE119.out) | exact HB.out)) hb); have n3_ := Aside0.mk (hbox); have n4_ := Aside0.mk ((by rw [hg]; exact (below_size (by repeat (first | (with_reducible first | exact HB.out | apply below_alloc | apply pw_below_drewN | apply below_drew1 | refine below_set ?_ GE119.out) | exact HB.out))) : w.heap.size ≤ gb126)); have n5_ := Aside0.mk ((by rw [hg]; exact (below_size (by repeat (first | (with_reducible first | exact HB.out | apply below_alloc | apply pw_below_drewN | apply below_drew1 | refine below_set ?_ GE119.out) | exact HB.out))) : w.heap.size ≤ gb126)); have n6_ := Aside0.mk ((by rw [hg]; exact Nat.ne_of_lt (blk_lt (g := gb119) (o := .cells #[.int .u64 t113, .int .u64 t114, .int .u64 t115, .string t116, .string t117] 32 (0, 0)) (by (with_reducible repeat (first | refine blk_drewN ?_ _ | refine blk_drew ?_ | refine blk_alloc ?_ _)); exact BK119.out)) : gb119 ≠ gb126)); have n7_ := Aside0.mk ((by rw [hg]; exact Nat.ne_of_gt (blk_lt (g := gb119) (o := .cells #[.int .u64 t113, .int .u64 t114, .int .u64 t115, .string t116, .string t117] 32 (0, 0)) (by (with_reducible repeat (first | refine blk_drewN ?_ _ | refine blk_drew ?_ | refine blk_alloc ?_ _)); exact BK119.out)) : gb126 ≠ gb119)); clear HO111; clear BK119; clear HB; have HO111 := n0_; have BK119 := n1_; have HB := n2_; have BK126 := n3_; have GW126 := n4_; have GE126 := n5_; have NB119_126 := n6_; have NB126_119 := n7_; clear n0_ n1_ n2_ n3_ n4_ n5_ n6_ n7_; clear hb hbox hg; have hnb58 := NB126_119.out; have hnc58 := NB119_126.out; have hcz59_0 : w57.cell? ⟨gb126, 0, none⟩ = some (.int .u64 0) := (blk_cell BK126.out 0).trans rfl; have hcz59_1 : w57.cell? ⟨gb126, 1, none⟩ = some (.int .u64 0) := (blk_cell BK126.out 1).trans rfl; have hcz59_2 : w57.cell? ⟨gb126, 2, none⟩ = some (.int .u64 0) := (blk_cell BK126.out 2).trans rfl; have hcz59_3 : w57.cell? ⟨gb126, 3, none⟩ = some (.string (⟨#[]⟩ : ByteArray)) := (blk_cell BK126.out 3).trans rfl; have hcz59_4 : w57.cell? ⟨gb126, 4, none⟩ = some (.string (⟨#[]⟩ : ByteArray)) := (blk_cell BK126.out 4).trans rfl; have hfz59_0 := blk_frozen BK126.out 0; have hfz59_1 := blk_frozen BK126.out 1; have hfz59_2 := blk_frozen BK126.out 2; have hfz59_3 := blk_frozen BK126.out 3; have hfz59_4 := blk_frozen BK126.out 4) | ((with_reducible refine gate_callee (f := 11) rfl ?_); refine goesL_ (some 34) rfl rfl Tryz.func11 (by kernel_rfl) rfl #[.string a0] rfl (by (try simp only [List.map_toArray, List.map_cons, List.map_nil]); first | done | rfl | (simp only [List.length_drop, List.length_take]; rfl)) ?_; (with_reducible refine (impl_LooseVersion.calls a0 t127 t128 t129 t130 t131 true _ ?side1 ?side2 A8.out).mono ?_); (case side1 => exact HSem.out.below (by repeat (first | (with_reducible first | exact HB.out | apply below_alloc | apply pw_below_drewN | apply below_drew1 | refine below_set ?_ GE119.out | refine below_set ?_ GE126.out) | exact HB.out))); (case side2 => exact HStd.out.below (by repeat (first | (with_reducible first | exact HB.out | apply below_alloc | apply pw_below_drewN | apply below_drew1 | refine below_set ?_ GE119.out | refine below_set ?_ GE126.out) | exact HB.out))); rintro e w60 ⟨rfl, hb⟩; refine ⟨_, rfl, ?_⟩; have n0_ := Aside0.mk (Kd.R_below (by (with_reducible repeat (first | apply Kd.R_alloc | apply Kd.R_drewN | apply Kd.R_drew)); exact (Kd.R_mono (Kd.R_far (p := ⟨gb126, 4, none⟩) (Kd.R_far (p := ⟨gb126, 3, none⟩) (Kd.R_far (p := ⟨gb126, 2, none⟩) (Kd.R_far (p := ⟨gb126, 1, none⟩) (Kd.R_far (p := ⟨gb126, 0, none⟩) (Kd.R_types HO111.out BK126.out (by decide)) (fun _ hk => hk.2) (.int .u64 t120)) (fun _ hk => hk.2) (.int .u64 t121)) (fun _ hk => hk.2) (.int .u64 t122)) (fun _ hk => hk.2) (.string t123)) (fun _ hk => hk.2) (.string t124)) (fun _ h_ => h_.1))) hb); have n1_ := Aside0.mk (blk_below (g := gb119) (o := .cells #[.int .u64 t113, .int .u64 t114, .int .u64 t115, .string t116, .string t117] 32 (0, 0)) (by (with_reducible repeat (first | refine blk_drewN ?_ _ | refine blk_drew ?_ | refine blk_alloc ?_ _)); refine blk_far ?_ NB119_126.out _; (with_reducible repeat (first | refine blk_drewN ?_ _ | refine blk_drew ?_ | refine blk_alloc ?_ _)); refine blk_far ?_ NB119_126.out _; (with_reducible repeat (first | refine blk_drewN ?_ _ | refine blk_drew ?_ | refine blk_alloc ?_ _)); refine blk_far ?_ NB119_126.out _; (with_reducible repeat (first | refine blk_drewN ?_ _ | refine blk_drew ?_ | refine blk_alloc ?_ _)); refine blk_far ?_ NB119_126.out _; (with_reducible repeat (first | refine blk_drewN ?_ _ | refine blk_drew ?_ | refine blk_alloc ?_ _)); refine blk_far ?_ NB119_126.out _; (with_reducible repeat (first | refine blk_drewN ?_ _ | refine blk_drew ?_ | refine blk_alloc ?_ _)); exact BK119.out) hb); have n2_ := Aside0.mk (blk_below (g := gb126) (o := .cells #[.int .u64 t120, .int .u64 t121, .int .u64 t122, .string t123, .string t124] 32 (0, 0)) (by (with_reducible repeat (first | refine blk_drewN ?_ _ | refine blk_drew ?_ | refine blk_alloc ?_ _)); refine blk_put (cs := #[.int .u64 t120, .int .u64 t121, .int .u64 t122, .string t123, .string (⟨#[]⟩ : ByteArray)]) ?_ 4 _ rfl; (with_reducible repeat (first | refine blk_drewN ?_ _ | refine blk_drew ?_ | refine blk_alloc ?_ _)); refine blk_put (cs := #[.int .u64 t120, .int .u64 t121, .int .u64 t122, .string (⟨#[]⟩ : ByteArray), .string (⟨#[]⟩ : ByteArray)]) ?_ 3 _ rfl; (with_reducible repeat (first | refine blk_drewN ?_ _ | refine blk_drew ?_ | refine blk_alloc ?_ _)); refine blk_put (cs := #[.int .u64 t120, .int .u64 t121, .int .u64 0, .string (⟨#[]⟩ : ByteArray), .string (⟨#[]⟩ : ByteArray)]) ?_ 2 _ rfl; (with_reducible repeat (first | refine blk_drewN ?_ _ | refine blk_drew ?_ | refine blk_alloc ?_ _)); refine blk_put (cs := #[.int .u64 t120, .int .u64 0, .int .u64 0, .string (⟨#[]⟩ : ByteArray), .string (⟨#[]⟩ : ByteArray)]) ?_ 1 _ rfl; (with_reducible repeat (first | refine blk_drewN ?_ _ | refine blk_drew ?_ | refine blk_alloc ?_ _)); refine blk_put (cs := #[.int .u64 0, .int .u64 0, .int .u64 0, .string (⟨#[]⟩ : ByteArray), .string (⟨#[]⟩ : ByteArray)]) ?_ 0 _ rfl; (with_reducible repeat (first | refine blk_drewN ?_ _ | refine blk_drew ?_ | refine blk_alloc ?_ _)); exact BK126.out) hb); have n3_ := Aside0.mk (below_step (by repeat (first | (with_reducible first | exact HB.out | apply below_alloc | apply pw_below_drewN | apply below_drew1 | refine below_set ?_ GE119.out | refine below_set ?_ GE126.out) | exact HB.out)) hb); clear HO111; clear BK119; clear BK126; clear HB; have HO111 := n0_; have BK119 := n1_; have BK126 := n2_; have HB := n3_; clear n0_ n1_ n2_ n3_; (try clear hb); (try clear hb2); (try clear hk); (try clear hi)) | ((with_reducible refine gate_dst (N := 7) rfl ?_); refine box_event ?hg (N := 7) ?hd (cs := #[.int .u64 0, .int .u64 0, .int .u64 0, .string (⟨#[]⟩ : ByteArray), .string (⟨#[]⟩ : ByteArray)]) (t := 32) ?hr ?_; (case hd => rfl); (case hg => rfl); (case hr => first | (go_simp; done) | (go_simp; rfl) | (go_simp; simp [u8w]; done)); intro gb133 hg w61 hbox hb; have n0_ := Aside0.mk (Kd.R_below (by (with_reducible repeat (first | apply Kd.R_alloc | apply Kd.R_drewN | apply Kd.R_drew)); exact HO111.out) hb); have n1_ := Aside0.mk (blk_below (g := gb119) (o := .cells #[.int .u64 t113, .int .u64 t114, .int .u64 t115, .string t116, .string t117] 32 (0, 0)) (by (with_reducible repeat (first | refine blk_drewN ?_ _ | refine blk_drew ?_ | refine blk_alloc ?_ _)); exact BK119.out) hb); have n2_ := Aside0.mk (blk_below (g := gb126) (o := .cells #[.int .u64 t120, .int .u64 t121, .int .u64 t122, .string t123, .string t124] 32 (0, 0)) (by (with_reducible repeat (first | refine blk_drewN ?_ _ | refine blk_drew ?_ | refine blk_alloc ?_ _)); exact BK126.out) hb); have n3_ := Aside0.mk (below_step (by repeat (first | (with_reducible first | exact HB.out | apply below_alloc | apply pw_below_drewN | apply below_drew1 | refine below_set ?_ GE119.out | refine below_set ?_ GE126.out) | exact HB.out)) hb); have n4_ := Aside0.mk (hbox); have n5_ := Aside0.mk ((by rw [hg]; exact (below_size (by repeat (first | (with_reducible first | exact HB.out | apply below_alloc | apply pw_below_drewN | apply below_drew1 | refine below_set ?_ GE119.out | refine below_set ?_ GE126.out) | exact HB.out))) : w.heap.size ≤ gb133)); have n6_ := Aside0.mk ((by rw [hg]; exact (below_size (by repeat (first | (with_reducible first | exact HB.out | apply below_alloc | apply pw_below_drewN | apply below_drew1 | refine below_set ?_ GE119.out | refine below_set ?_ GE126.out) | exact HB.out))) : w.heap.size ≤ gb133)); have n7_ := Aside0.mk ((by rw [hg]; exact Nat.ne_of_lt (blk_lt (g := gb119) (o := .cells #[.int .u64 t113, .int .u64 t114, .int .u64 t115, .string t116, .string t117] 32 (0, 0)) (by (with_reducible repeat (first | refine blk_drewN ?_ _ | refine blk_drew ?_ | refine blk_alloc ?_ _)); exact BK119.out)) : gb119 ≠ gb133)); have n8_ := Aside0.mk ((by rw [hg]; exact Nat.ne_of_gt (blk_lt (g := gb119) (o := .cells #[.int .u64 t113, .int .u64 t114, .int .u64 t115, .string t116, .string t117] 32 (0, 0)) (by (with_reducible repeat (first | refine blk_drewN ?_ _ | refine blk_drew ?_ | refine blk_alloc ?_ _)); exact BK119.out)) : gb133 ≠ gb119)); have n9_ := Aside0.mk ((by rw [hg]; exact Nat.ne_of_lt (blk_lt (g := gb126) (o := .cells #[.int .u64 t120, .int .u64 t121, .int .u64 t122, .string t123, .string t124] 32 (0, 0)) (by (with_reducible repeat (first | refine blk_drewN ?_ _ | refine blk_drew ?_ | refine blk_alloc ?_ _)); exact BK126.out)) : gb126 ≠ gb133)); have n10_ := Aside0.mk ((by rw [hg]; exact Nat.ne_of_gt (blk_lt (g := gb126) (o := .cells #[.int .u64 t120, .int .u64 t121, .int .u64 t122, .string t123, .string t124] 32 (0, 0)) (by (with_reducible repeat (first | refine blk_drewN ?_ _ | refine blk_drew ?_ | refine blk_alloc ?_ _)); exact BK126.out)) : gb133 ≠ gb126)); clear HO111; clear BK119; clear BK126; clear HB; have HO111 := n0_; have BK119 := n1_; have BK126 := n2_; have HB := n3_; have BK133 := n4_; have GW133 := n5_; have GE133 := n6_; have NB119_133 := n7_; have NB133_119 := n8_; have NB126_133 := n9_; have NB133_126 := n10_; clear n0_ n1_ n2_ n3_ n4_ n5_ n6_ n7_ n8_ n9_ n10_; clear hb hbox hg; have hnb62 := NB133_119.out; have hnc62 := NB119_133.out; have hnb63 := NB133_126.out; have hnc63 := NB126_133.out; have hcz64_0 : w61.cell? ⟨gb133, 0, none⟩ = some (.int .u64 0) := (blk_cell BK133.out 0).trans rfl; have hcz64_1 : w61.cell? ⟨gb133, 1, none⟩ = some (.int .u64 0) := (blk_cell BK133.out 1).trans rfl; have hcz64_2 : w61.cell? ⟨gb133, 2, none⟩ = some (.int .u64 0) := (blk_cell BK133.out 2).trans rfl; have hcz64_3 : w61.cell? ⟨gb133, 3, none⟩ = some (.string (⟨#[]⟩ : ByteArray)) := (blk_cell BK133.out 3).trans rfl; have hcz64_4 : w61.cell? ⟨gb133, 4, none⟩ = some (.string (⟨#[]⟩ : ByteArray)) := (blk_cell BK133.out 4).trans rfl; have hfz64_0 := blk_frozen BK133.out 0; have hfz64_1 := blk_frozen BK133.out 1; have hfz64_2 := blk_frozen BK133.out 2; have hfz64_3 := blk_frozen BK133.out 3; have hfz64_4 := blk_frozen BK133.out 4) | ((with_reducible refine gate_callee (f := 12) rfl ?_); refine goesL_ (some 39) rfl rfl Tryz.func12 (by kernel_rfl) rfl #[.string a0] rfl (by (try simp only [List.map_toArray, List.map_cons, List.map_nil]); first | done | rfl | (simp only [List.length_drop, List.length_take]; rfl)) ?_; (with_reducible refine (impl_LooseText.calls a0 t134 false _ ?side1 ?side2 ?side3 A9.out).mono ?_); (case side1 => exact HPow.out.below (by repeat (first | (with_reducible first | exact HB.out | apply below_alloc | apply pw_below_drewN | apply below_drew1 | refine below_set ?_ GE119.out | refine below_set ?_ GE126.out | refine below_set ?_ GE133.out) | exact HB.out))); (case side2 => exact HSem.out.below (by repeat (first | (with_reducible first | exact HB.out | apply below_alloc | apply pw_below_drewN | apply below_drew1 | refine below_set ?_ GE119.out | refine below_set ?_ GE126.out | refine below_set ?_ GE133.out) | exact HB.out))); (case side3 => exact HStd.out.below (by repeat (first | (with_reducible first | exact HB.out | apply below_alloc | apply pw_below_drewN | apply below_drew1 | refine below_set ?_ GE119.out | refine below_set ?_ GE126.out | refine below_set ?_ GE133.out) | exact HB.out))); rintro e w65 ⟨rfl, hb⟩; refine ⟨_, rfl, ?_⟩; have n0_ := Aside0.mk (Kd.R_below (by (with_reducible repeat (first | apply Kd.R_alloc | apply Kd.R_drewN | apply Kd.R_drew)); exact (Kd.R_mono (Kd.R_far (p := ⟨gb133, 4, none⟩) (Kd.R_far (p := ⟨gb133, 3, none⟩) (Kd.R_far (p := ⟨gb133, 2, none⟩) (Kd.R_far (p := ⟨gb133, 1, none⟩) (Kd.R_far (p := ⟨gb133, 0, none⟩) (Kd.R_types HO111.out BK133.out (by decide)) (fun _ hk => hk.2) (.int .u64 t127)) (fun _ hk => hk.2) (.int .u64 t128)) (fun _ hk => hk.2) (.int .u64 t129)) (fun _ hk => hk.2) (.string t130)) (fun _ hk => hk.2) (.string t131)) (fun _ h_ => h_.1))) hb); have n1_ := Aside0.mk (blk_below (g := gb119) (o := .cells #[.int .u64 t113, .int .u64 t114, .int .u64 t115, .string t116, .string t117] 32 (0, 0)) (by (with_reducible repeat (first | refine blk_drewN ?_ _ | refine blk_drew ?_ | refine blk_alloc ?_ _)); refine blk_far ?_ NB119_133.out _; (with_reducible repeat (first | refine blk_drewN ?_ _ | refine blk_drew ?_ | refine blk_alloc ?_ _)); refine blk_far ?_ NB119_133.out _; (with_reducible repeat (first | refine blk_drewN ?_ _ | refine blk_drew ?_ | refine blk_alloc ?_ _)); refine blk_far ?_ NB119_133.out _; (with_reducible repeat (first | refine blk_drewN ?_ _ | refine blk_drew ?_ | refine blk_alloc ?_ _)); refine blk_far ?_ NB119_133.out _; (with_reducible repeat (first | refine blk_drewN ?_ _ | refine blk_drew ?_ | refine blk_alloc ?_ _)); refine blk_far ?_ NB119_133.out _; (with_reducible repeat (first | refine blk_drewN ?_ _ | refine blk_drew ?_ | refine blk_alloc ?_ _)); exact BK119.out) hb); have n2_ := Aside0.mk (blk_below (g := gb126) (o := .cells #[.int .u64 t120, .int .u64 t121, .int .u64 t122, .string t123, .string t124] 32 (0, 0)) (by (with_reducible repeat (first | refine blk_drewN ?_ _ | refine blk_drew ?_ | refine blk_alloc ?_ _)); refine blk_far ?_ NB126_133.out _; (with_reducible repeat (first | refine blk_drewN ?_ _ | refine blk_drew ?_ | refine blk_alloc ?_ _)); refine blk_far ?_ NB126_133.out _; (with_reducible repeat (first | refine blk_drewN ?_ _ | refine blk_drew ?_ | refine blk_alloc ?_ _)); refine blk_far ?_ NB126_133.out _; (with_reducible repeat (first | refine blk_drewN ?_ _ | refine blk_drew ?_ | refine blk_alloc ?_ _)); refine blk_far ?_ NB126_133.out _; (with_reducible repeat (first | refine blk_drewN ?_ _ | refine blk_drew ?_ | refine blk_alloc ?_ _)); refine blk_far ?_ NB126_133.out _; (with_reducible repeat (first | refine blk_drewN ?_ _ | refine blk_drew ?_ | refine blk_alloc ?_ _)); exact BK126.out) hb); have n3_ := Aside0.mk (blk_below (g := gb133) (o := .cells #[.int .u64 t127, .int .u64 t128, .int .u64 t129, .string t130, .string t131] 32 (0, 0)) (by (with_reducible repeat (first | refine blk_drewN ?_ _ | refine blk_drew ?_ | refine blk_alloc ?_ _)); refine blk_put (cs := #[.int .u64 t127, .int .u64 t128, .int .u64 t129, .string t130, .string (⟨#[]⟩ : ByteArray)]) ?_ 4 _ rfl; (with_reducible repeat (first | refine blk_drewN ?_ _ | refine blk_drew ?_ | refine blk_alloc ?_ _)); refine blk_put (cs := #[.int .u64 t127, .int .u64 t128, .int .u64 t129, .string (⟨#[]⟩ : ByteArray), .string (⟨#[]⟩ : ByteArray)]) ?_ 3 _ rfl; (with_reducible repeat (first | refine blk_drewN ?_ _ | refine blk_drew ?_ | refine blk_alloc ?_ _)); refine blk_put (cs := #[.int .u64 t127, .int .u64 t128, .int .u64 0, .string (⟨#[]⟩ : ByteArray), .string (⟨#[]⟩ : ByteArray)]) ?_ 2 _ rfl; (with_reducible repeat (first | refine blk_drewN ?_ _ | refine blk_drew ?_ | refine blk_alloc ?_ _)); refine blk_put (cs := #[.int .u64 t127, .int .u64 0, .int .u64 0, .string (⟨#[]⟩ : ByteArray), .string (⟨#[]⟩ : ByteArray)]) ?_ 1 _ rfl; (with_reducible repeat (first | refine blk_drewN ?_ _ | refine blk_drew ?_ | refine blk_alloc ?_ _)); refine blk_put (cs := #[.int .u64 0, .int .u64 0, .int .u64 0, .string (⟨#[]⟩ : ByteArray), .string (⟨#[]⟩ : ByteArray)]) ?_ 0 _ rfl; (with_reducible repeat (first | refine blk_drewN ?_ _ | refine blk_drew ?_ | refine blk_alloc ?_ _)); exact BK133.out) hb); have n4_ := Aside0.mk (below_step (by repeat (first | (with_reducible first | exact HB.out | apply below_alloc | apply pw_below_drewN | apply below_drew1 | refine below_set ?_ GE119.out | refine below_set ?_ GE126.out | refine below_set ?_ GE133.out) | exact HB.out)) hb); clear HO111; clear BK119; clear BK126; clear BK133; clear HB; have HO111 := n0_; have BK119 := n1_; have BK126 := n2_; have BK133 := n3_; have HB := n4_; clear n0_ n1_ n2_ n3_ n4_; (try clear hb); (try clear hb2); (try clear hk); (try clear hi)))
       go_ret
       exact ⟨by first | rfl | (simp [errW_none, errW_some] <;> rfl) | (simp [*, errW_none, errW_some] <;> rfl) | (simp [bneNil]; done), by repeat (first | (with_reducible first | exact HB.out | apply below_alloc | apply pw_below_drewN | apply below_drew1 | refine below_set ?_ GE119.out | refine below_set ?_ GE126.out | refine below_set ?_ GE133.out) | exact HB.out)⟩
     ·
      replace c11 := Bool.eq_false_iff.mpr c11
      subst c11
      have H1 : (some false) = some r := by rw [if_neg (show ¬ (false = true) by decide)] at H; exact H
      clear H
      have H := H1
      clear H1
      obtain rfl := Option.some.inj H
      go_enter Tryz.func4, Tryz.ntmps4
      go_wp2_with (first | ((with_reducible refine gate_dst (N := 15) rfl ?_); refine Kd.R_lit Kd.string _ 9 ?hg (N := 15) ?hd (xs := ([a0] : List ByteArray)) (inner := [.string a0]) (ok := fun _ => True) (okp := fun _ => True) ?hr ?hp (fun _ hk => hk) trivial (Below.refl _ _) (Nat.le_refl _) (by simp) ?_; (case hd => rfl); (case hg => rfl); (case hr => first | (go_simp; done) | (go_simp; rfl) | (go_simp; simp [u8w]; done)); (case hp => exact (Reps.one (show Kd.M Kd.string _ _ _ a0 [.string a0] from rfl) (Reps.none _ _))); intro v110 w66 ho67 hb hg_ hnew_; clear hg_ hnew_; (first | rw [← Ny109.out] at ho67 | (simp only [Int.reduceToNat] at ho67; rw [← Ny109.out] at ho67)); have n0_ := Aside0.mk (Kd.R_lower ho67 (below_size (by repeat (first | (with_reducible first | exact HB.out | apply below_alloc | apply pw_below_drewN | apply below_drew1) | exact HB.out)))); have n1_ := Aside0.mk (below_step (by repeat (first | (with_reducible first | exact HB.out | apply below_alloc | apply pw_below_drewN | apply below_drew1) | exact HB.out)) hb); clear HB; have HO111 := n0_; have HB := n1_; clear n0_ n1_; clear hb ho67; obtain ⟨Ao68, co68, eo68⟩ := Kd.R_slice HO111.out; subst eo68) | ((with_reducible refine gate_callee (f := 8) rfl ?_); refine goesL_ (some 16) rfl rfl Tryz.func8 (by kernel_rfl) rfl #[.slice Ao68 y109.length co68] rfl (by (try simp only [List.map_toArray, List.map_cons, List.map_nil]); first | done | rfl | (simp only [List.length_drop, List.length_take]; rfl)) ?_; (with_reducible refine (laws_svShort.calls k _ _ y109 true _ ?side1 ?side2 A3.out).mono ?_); (case side1 => repeat (first | exact (Kd.R_reads' HO111.out).2.2 | (with_reducible refine Kd.C_alloc ?_ _) | (with_reducible refine Kd.C_drewN ?_ _) | (with_reducible refine Kd.C_drew ?_))); (case side2 => exact (Kd.R_reads' HO111.out).2.1); rintro e w' ⟨rfl, ⟨nd, rfl⟩⟩; refine ⟨_, rfl, ?_⟩; (try (rw [drewN_self w66]; generalize hq_ : World.drewN w66 _ = w66; have n0_ : Aside0 (Kd.R Kd.string 9 w66 w.heap.size (fun _ => True) (.slice Ao68 y109.length co68) y109) := ⟨by rw [← hq_]; exact (by (with_reducible repeat (first | apply Kd.R_alloc | apply Kd.R_drewN | apply Kd.R_drew)); exact HO111.out)⟩; have n1_ : Aside0 (Below w.heap.size w w66) := ⟨by rw [← hq_]; exact (by repeat (first | (with_reducible first | exact HB.out | apply below_alloc | apply pw_below_drewN | apply below_drew1) | exact HB.out))⟩; clear HO111 HB hq_; have HO111 := n0_; have HB := n1_; clear n0_ n1_))) | ((with_reducible refine gate_callee (f := 9) rfl ?_); refine goesL_ (some 20) rfl rfl Tryz.func9 (by kernel_rfl) rfl #[.string a0] rfl (by (try simp only [List.map_toArray, List.map_cons, List.map_nil]); first | done | rfl | (simp only [List.length_drop, List.length_take]; rfl)) ?_; (with_reducible refine (impl_StrictVersion.calls a0 t113 t114 t115 t116 t117 true _ ?side1 ?side2 ?side3 A5.out).mono ?_); (case side1 => exact HSem.out.below (by repeat (first | (with_reducible first | exact HB.out | apply below_alloc | apply pw_below_drewN | apply below_drew1) | exact HB.out))); (case side2 => exact HStd.out.below (by repeat (first | (with_reducible first | exact HB.out | apply below_alloc | apply pw_below_drewN | apply below_drew1) | exact HB.out))); (case side3 => exact HStr.out.below (by repeat (first | (with_reducible first | exact HB.out | apply below_alloc | apply pw_below_drewN | apply below_drew1) | exact HB.out))); rintro e w69 ⟨rfl, hb⟩; refine ⟨_, rfl, ?_⟩; have n0_ := Aside0.mk (Kd.R_below (by (with_reducible repeat (first | apply Kd.R_alloc | apply Kd.R_drewN | apply Kd.R_drew)); exact HO111.out) hb); have n1_ := Aside0.mk (below_step (by repeat (first | (with_reducible first | exact HB.out | apply below_alloc | apply pw_below_drewN | apply below_drew1) | exact HB.out)) hb); clear HO111; clear HB; have HO111 := n0_; have HB := n1_; clear n0_ n1_; (try clear hb); (try clear hb2); (try clear hk); (try clear hi)) | ((with_reducible refine gate_dst (N := 3) rfl ?_); refine box_event ?hg (N := 3) ?hd (cs := #[.int .u64 0, .int .u64 0, .int .u64 0, .string (⟨#[]⟩ : ByteArray), .string (⟨#[]⟩ : ByteArray)]) (t := 32) ?hr ?_; (case hd => rfl); (case hg => rfl); (case hr => first | (go_simp; done) | (go_simp; rfl) | (go_simp; simp [u8w]; done)); intro gb119 hg w70 hbox hb; have n0_ := Aside0.mk (Kd.R_below (by (with_reducible repeat (first | apply Kd.R_alloc | apply Kd.R_drewN | apply Kd.R_drew)); exact HO111.out) hb); have n1_ := Aside0.mk (below_step (by repeat (first | (with_reducible first | exact HB.out | apply below_alloc | apply pw_below_drewN | apply below_drew1) | exact HB.out)) hb); have n2_ := Aside0.mk (hbox); have n3_ := Aside0.mk ((by rw [hg]; exact (below_size (by repeat (first | (with_reducible first | exact HB.out | apply below_alloc | apply pw_below_drewN | apply below_drew1) | exact HB.out))) : w.heap.size ≤ gb119)); have n4_ := Aside0.mk ((by rw [hg]; exact (below_size (by repeat (first | (with_reducible first | exact HB.out | apply below_alloc | apply pw_below_drewN | apply below_drew1) | exact HB.out))) : w.heap.size ≤ gb119)); clear HO111; clear HB; have HO111 := n0_; have HB := n1_; have BK119 := n2_; have GW119 := n3_; have GE119 := n4_; clear n0_ n1_ n2_ n3_ n4_; clear hb hbox hg; have hcz71_0 : w70.cell? ⟨gb119, 0, none⟩ = some (.int .u64 0) := (blk_cell BK119.out 0).trans rfl; have hcz71_1 : w70.cell? ⟨gb119, 1, none⟩ = some (.int .u64 0) := (blk_cell BK119.out 1).trans rfl; have hcz71_2 : w70.cell? ⟨gb119, 2, none⟩ = some (.int .u64 0) := (blk_cell BK119.out 2).trans rfl; have hcz71_3 : w70.cell? ⟨gb119, 3, none⟩ = some (.string (⟨#[]⟩ : ByteArray)) := (blk_cell BK119.out 3).trans rfl; have hcz71_4 : w70.cell? ⟨gb119, 4, none⟩ = some (.string (⟨#[]⟩ : ByteArray)) := (blk_cell BK119.out 4).trans rfl; have hfz71_0 := blk_frozen BK119.out 0; have hfz71_1 := blk_frozen BK119.out 1; have hfz71_2 := blk_frozen BK119.out 2; have hfz71_3 := blk_frozen BK119.out 3; have hfz71_4 := blk_frozen BK119.out 4) | ((with_reducible refine gate_callee (f := 10) rfl ?_); refine goesL_ (some 25) rfl rfl Tryz.func10 (by kernel_rfl) rfl #[.string a0] rfl (by (try simp only [List.map_toArray, List.map_cons, List.map_nil]); first | done | rfl | (simp only [List.length_drop, List.length_take]; rfl)) ?_; (with_reducible refine (spec_StrictVersion.calls a0 t120 t121 t122 t123 t124 true _ A6.out).mono ?_); rintro e w72 ⟨rfl, hb⟩; refine ⟨_, rfl, ?_⟩; have n0_ := Aside0.mk (Kd.R_below (by (with_reducible repeat (first | apply Kd.R_alloc | apply Kd.R_drewN | apply Kd.R_drew)); exact (Kd.R_mono (Kd.R_far (p := ⟨gb119, 4, none⟩) (Kd.R_far (p := ⟨gb119, 3, none⟩) (Kd.R_far (p := ⟨gb119, 2, none⟩) (Kd.R_far (p := ⟨gb119, 1, none⟩) (Kd.R_far (p := ⟨gb119, 0, none⟩) (Kd.R_types HO111.out BK119.out (by decide)) (fun _ hk => hk.2) (.int .u64 t113)) (fun _ hk => hk.2) (.int .u64 t114)) (fun _ hk => hk.2) (.int .u64 t115)) (fun _ hk => hk.2) (.string t116)) (fun _ hk => hk.2) (.string t117)) (fun _ h_ => h_.1))) hb); have n1_ := Aside0.mk (blk_below (g := gb119) (o := .cells #[.int .u64 t113, .int .u64 t114, .int .u64 t115, .string t116, .string t117] 32 (0, 0)) (by (with_reducible repeat (first | refine blk_drewN ?_ _ | refine blk_drew ?_ | refine blk_alloc ?_ _)); refine blk_put (cs := #[.int .u64 t113, .int .u64 t114, .int .u64 t115, .string t116, .string (⟨#[]⟩ : ByteArray)]) ?_ 4 _ rfl; (with_reducible repeat (first | refine blk_drewN ?_ _ | refine blk_drew ?_ | refine blk_alloc ?_ _)); refine blk_put (cs := #[.int .u64 t113, .int .u64 t114, .int .u64 t115, .string (⟨#[]⟩ : ByteArray), .string (⟨#[]⟩ : ByteArray)]) ?_ 3 _ rfl; (with_reducible repeat (first | refine blk_drewN ?_ _ | refine blk_drew ?_ | refine blk_alloc ?_ _)); refine blk_put (cs := #[.int .u64 t113, .int .u64 t114, .int .u64 0, .string (⟨#[]⟩ : ByteArray), .string (⟨#[]⟩ : ByteArray)]) ?_ 2 _ rfl; (with_reducible repeat (first | refine blk_drewN ?_ _ | refine blk_drew ?_ | refine blk_alloc ?_ _)); refine blk_put (cs := #[.int .u64 t113, .int .u64 0, .int .u64 0, .string (⟨#[]⟩ : ByteArray), .string (⟨#[]⟩ : ByteArray)]) ?_ 1 _ rfl; (with_reducible repeat (first | refine blk_drewN ?_ _ | refine blk_drew ?_ | refine blk_alloc ?_ _)); refine blk_put (cs := #[.int .u64 0, .int .u64 0, .int .u64 0, .string (⟨#[]⟩ : ByteArray), .string (⟨#[]⟩ : ByteArray)]) ?_ 0 _ rfl; (with_reducible repeat (first | refine blk_drewN ?_ _ | refine blk_drew ?_ | refine blk_alloc ?_ _)); exact BK119.out) hb); have n2_ := Aside0.mk (below_step (by repeat (first | (with_reducible first | exact HB.out | apply below_alloc | apply pw_below_drewN | apply below_drew1 | refine below_set ?_ GE119.out) | exact HB.out)) hb); clear HO111; clear BK119; clear HB; have HO111 := n0_; have BK119 := n1_; have HB := n2_; clear n0_ n1_ n2_; (try clear hb); (try clear hb2); (try clear hk); (try clear hi)) | ((with_reducible refine gate_dst (N := 5) rfl ?_); refine box_event ?hg (N := 5) ?hd (cs := #[.int .u64 0, .int .u64 0, .int .u64 0, .string (⟨#[]⟩ : ByteArray), .string (⟨#[]⟩ : ByteArray)]) (t := 32) ?hr ?_; (case hd => rfl); (case hg => rfl); (case hr => first | (go_simp; done) | (go_simp; rfl) | (go_simp; simp [u8w]; done)); intro gb126 hg w73 hbox hb; have n0_ := Aside0.mk (Kd.R_below (by (with_reducible repeat (first | apply Kd.R_alloc | apply Kd.R_drewN | apply Kd.R_drew)); exact HO111.out) hb); have n1_ := Aside0.mk (blk_below (g := gb119) (o := .cells #[.int .u64 t113, .int .u64 t114, .int .u64 t115, .string t116, .string t117] 32 (0, 0)) (by (with_reducible repeat (first | refine blk_drewN ?_ _ | refine blk_drew ?_ | refine blk_alloc ?_ _)); exact BK119.out) hb); have n2_ := Aside0.mk (below_step (by repeat (first | (with_reducible first | exact HB.out | apply below_alloc | apply pw_below_drewN | apply below_drew1 | refine below_set ?_ GE119.out) | exact HB.out)) hb); have n3_ := Aside0.mk (hbox); have n4_ := Aside0.mk ((by rw [hg]; exact (below_size (by repeat (first | (with_reducible first | exact HB.out | apply below_alloc | apply pw_below_drewN | apply below_drew1 | refine below_set ?_ GE119.out) | exact HB.out))) : w.heap.size ≤ gb126)); have n5_ := Aside0.mk ((by rw [hg]; exact (below_size (by repeat (first | (with_reducible first | exact HB.out | apply below_alloc | apply pw_below_drewN | apply below_drew1 | refine below_set ?_ GE119.out) | exact HB.out))) : w.heap.size ≤ gb126)); have n6_ := Aside0.mk ((by rw [hg]; exact Nat.ne_of_lt (blk_lt (g := gb119) (o := .cells #[.int .u64 t113, .int .u64 t114, .int .u64 t115, .string t116, .string t117] 32 (0, 0)) (by (with_reducible repeat (first | refine blk_drewN ?_ _ | refine blk_drew ?_ | refine blk_alloc ?_ _)); exact BK119.out)) : gb119 ≠ gb126)); have n7_ := Aside0.mk ((by rw [hg]; exact Nat.ne_of_gt (blk_lt (g := gb119) (o := .cells #[.int .u64 t113, .int .u64 t114, .int .u64 t115, .string t116, .string t117] 32 (0, 0)) (by (with_reducible repeat (first | refine blk_drewN ?_ _ | refine blk_drew ?_ | refine blk_alloc ?_ _)); exact BK119.out)) : gb126 ≠ gb119)); clear HO111; clear BK119; clear HB; have HO111 := n0_; have BK119 := n1_; have HB := n2_; have BK126 := n3_; have GW126 := n4_; have GE126 := n5_; have NB119_126 := n6_; have NB126_119 := n7_; clear n0_ n1_ n2_ n3_ n4_ n5_ n6_ n7_; clear hb hbox hg; have hnb74 := NB126_119.out; have hnc74 := NB119_126.out; have hcz75_0 : w73.cell? ⟨gb126, 0, none⟩ = some (.int .u64 0) := (blk_cell BK126.out 0).trans rfl; have hcz75_1 : w73.cell? ⟨gb126, 1, none⟩ = some (.int .u64 0) := (blk_cell BK126.out 1).trans rfl; have hcz75_2 : w73.cell? ⟨gb126, 2, none⟩ = some (.int .u64 0) := (blk_cell BK126.out 2).trans rfl; have hcz75_3 : w73.cell? ⟨gb126, 3, none⟩ = some (.string (⟨#[]⟩ : ByteArray)) := (blk_cell BK126.out 3).trans rfl; have hcz75_4 : w73.cell? ⟨gb126, 4, none⟩ = some (.string (⟨#[]⟩ : ByteArray)) := (blk_cell BK126.out 4).trans rfl; have hfz75_0 := blk_frozen BK126.out 0; have hfz75_1 := blk_frozen BK126.out 1; have hfz75_2 := blk_frozen BK126.out 2; have hfz75_3 := blk_frozen BK126.out 3; have hfz75_4 := blk_frozen BK126.out 4) | ((with_reducible refine gate_callee (f := 11) rfl ?_); refine goesL_ (some 34) rfl rfl Tryz.func11 (by kernel_rfl) rfl #[.string a0] rfl (by (try simp only [List.map_toArray, List.map_cons, List.map_nil]); first | done | rfl | (simp only [List.length_drop, List.length_take]; rfl)) ?_; (with_reducible refine (impl_LooseVersion.calls a0 t127 t128 t129 t130 t131 false _ ?side1 ?side2 A8.out).mono ?_); (case side1 => exact HSem.out.below (by repeat (first | (with_reducible first | exact HB.out | apply below_alloc | apply pw_below_drewN | apply below_drew1 | refine below_set ?_ GE119.out | refine below_set ?_ GE126.out) | exact HB.out))); (case side2 => exact HStd.out.below (by repeat (first | (with_reducible first | exact HB.out | apply below_alloc | apply pw_below_drewN | apply below_drew1 | refine below_set ?_ GE119.out | refine below_set ?_ GE126.out) | exact HB.out))); rintro e w76 ⟨rfl, hb⟩; refine ⟨_, rfl, ?_⟩; have n0_ := Aside0.mk (Kd.R_below (by (with_reducible repeat (first | apply Kd.R_alloc | apply Kd.R_drewN | apply Kd.R_drew)); exact (Kd.R_mono (Kd.R_far (p := ⟨gb126, 4, none⟩) (Kd.R_far (p := ⟨gb126, 3, none⟩) (Kd.R_far (p := ⟨gb126, 2, none⟩) (Kd.R_far (p := ⟨gb126, 1, none⟩) (Kd.R_far (p := ⟨gb126, 0, none⟩) (Kd.R_types HO111.out BK126.out (by decide)) (fun _ hk => hk.2) (.int .u64 t120)) (fun _ hk => hk.2) (.int .u64 t121)) (fun _ hk => hk.2) (.int .u64 t122)) (fun _ hk => hk.2) (.string t123)) (fun _ hk => hk.2) (.string t124)) (fun _ h_ => h_.1))) hb); have n1_ := Aside0.mk (blk_below (g := gb119) (o := .cells #[.int .u64 t113, .int .u64 t114, .int .u64 t115, .string t116, .string t117] 32 (0, 0)) (by (with_reducible repeat (first | refine blk_drewN ?_ _ | refine blk_drew ?_ | refine blk_alloc ?_ _)); refine blk_far ?_ NB119_126.out _; (with_reducible repeat (first | refine blk_drewN ?_ _ | refine blk_drew ?_ | refine blk_alloc ?_ _)); refine blk_far ?_ NB119_126.out _; (with_reducible repeat (first | refine blk_drewN ?_ _ | refine blk_drew ?_ | refine blk_alloc ?_ _)); refine blk_far ?_ NB119_126.out _; (with_reducible repeat (first | refine blk_drewN ?_ _ | refine blk_drew ?_ | refine blk_alloc ?_ _)); refine blk_far ?_ NB119_126.out _; (with_reducible repeat (first | refine blk_drewN ?_ _ | refine blk_drew ?_ | refine blk_alloc ?_ _)); refine blk_far ?_ NB119_126.out _; (with_reducible repeat (first | refine blk_drewN ?_ _ | refine blk_drew ?_ | refine blk_alloc ?_ _)); exact BK119.out) hb); have n2_ := Aside0.mk (blk_below (g := gb126) (o := .cells #[.int .u64 t120, .int .u64 t121, .int .u64 t122, .string t123, .string t124] 32 (0, 0)) (by (with_reducible repeat (first | refine blk_drewN ?_ _ | refine blk_drew ?_ | refine blk_alloc ?_ _)); refine blk_put (cs := #[.int .u64 t120, .int .u64 t121, .int .u64 t122, .string t123, .string (⟨#[]⟩ : ByteArray)]) ?_ 4 _ rfl; (with_reducible repeat (first | refine blk_drewN ?_ _ | refine blk_drew ?_ | refine blk_alloc ?_ _)); refine blk_put (cs := #[.int .u64 t120, .int .u64 t121, .int .u64 t122, .string (⟨#[]⟩ : ByteArray), .string (⟨#[]⟩ : ByteArray)]) ?_ 3 _ rfl; (with_reducible repeat (first | refine blk_drewN ?_ _ | refine blk_drew ?_ | refine blk_alloc ?_ _)); refine blk_put (cs := #[.int .u64 t120, .int .u64 t121, .int .u64 0, .string (⟨#[]⟩ : ByteArray), .string (⟨#[]⟩ : ByteArray)]) ?_ 2 _ rfl; (with_reducible repeat (first | refine blk_drewN ?_ _ | refine blk_drew ?_ | refine blk_alloc ?_ _)); refine blk_put (cs := #[.int .u64 t120, .int .u64 0, .int .u64 0, .string (⟨#[]⟩ : ByteArray), .string (⟨#[]⟩ : ByteArray)]) ?_ 1 _ rfl; (with_reducible repeat (first | refine blk_drewN ?_ _ | refine blk_drew ?_ | refine blk_alloc ?_ _)); refine blk_put (cs := #[.int .u64 0, .int .u64 0, .int .u64 0, .string (⟨#[]⟩ : ByteArray), .string (⟨#[]⟩ : ByteArray)]) ?_ 0 _ rfl; (with_reducible repeat (first | refine blk_drewN ?_ _ | refine blk_drew ?_ | refine blk_alloc ?_ _)); exact BK126.out) hb); have n3_ := Aside0.mk (below_step (by repeat (first | (with_reducible first | exact HB.out | apply below_alloc | apply pw_below_drewN | apply below_drew1 | refine below_set ?_ GE119.out | refine below_set ?_ GE126.out) | exact HB.out)) hb); clear HO111; clear BK119; clear BK126; clear HB; have HO111 := n0_; have BK119 := n1_; have BK126 := n2_; have HB := n3_; clear n0_ n1_ n2_ n3_; (try clear hb); (try clear hb2); (try clear hk); (try clear hi)) | ((with_reducible refine gate_dst (N := 7) rfl ?_); refine box_event ?hg (N := 7) ?hd (cs := #[.int .u64 0, .int .u64 0, .int .u64 0, .string (⟨#[]⟩ : ByteArray), .string (⟨#[]⟩ : ByteArray)]) (t := 32) ?hr ?_; (case hd => rfl); (case hg => rfl); (case hr => first | (go_simp; done) | (go_simp; rfl) | (go_simp; simp [u8w]; done)); intro gb133 hg w77 hbox hb; have n0_ := Aside0.mk (Kd.R_below (by (with_reducible repeat (first | apply Kd.R_alloc | apply Kd.R_drewN | apply Kd.R_drew)); exact HO111.out) hb); have n1_ := Aside0.mk (blk_below (g := gb119) (o := .cells #[.int .u64 t113, .int .u64 t114, .int .u64 t115, .string t116, .string t117] 32 (0, 0)) (by (with_reducible repeat (first | refine blk_drewN ?_ _ | refine blk_drew ?_ | refine blk_alloc ?_ _)); exact BK119.out) hb); have n2_ := Aside0.mk (blk_below (g := gb126) (o := .cells #[.int .u64 t120, .int .u64 t121, .int .u64 t122, .string t123, .string t124] 32 (0, 0)) (by (with_reducible repeat (first | refine blk_drewN ?_ _ | refine blk_drew ?_ | refine blk_alloc ?_ _)); exact BK126.out) hb); have n3_ := Aside0.mk (below_step (by repeat (first | (with_reducible first | exact HB.out | apply below_alloc | apply pw_below_drewN | apply below_drew1 | refine below_set ?_ GE119.out | refine below_set ?_ GE126.out) | exact HB.out)) hb); have n4_ := Aside0.mk (hbox); have n5_ := Aside0.mk ((by rw [hg]; exact (below_size (by repeat (first | (with_reducible first | exact HB.out | apply below_alloc | apply pw_below_drewN | apply below_drew1 | refine below_set ?_ GE119.out | refine below_set ?_ GE126.out) | exact HB.out))) : w.heap.size ≤ gb133)); have n6_ := Aside0.mk ((by rw [hg]; exact (below_size (by repeat (first | (with_reducible first | exact HB.out | apply below_alloc | apply pw_below_drewN | apply below_drew1 | refine below_set ?_ GE119.out | refine below_set ?_ GE126.out) | exact HB.out))) : w.heap.size ≤ gb133)); have n7_ := Aside0.mk ((by rw [hg]; exact Nat.ne_of_lt (blk_lt (g := gb119) (o := .cells #[.int .u64 t113, .int .u64 t114, .int .u64 t115, .string t116, .string t117] 32 (0, 0)) (by (with_reducible repeat (first | refine blk_drewN ?_ _ | refine blk_drew ?_ | refine blk_alloc ?_ _)); exact BK119.out)) : gb119 ≠ gb133)); have n8_ := Aside0.mk ((by rw [hg]; exact Nat.ne_of_gt (blk_lt (g := gb119) (o := .cells #[.int .u64 t113, .int .u64 t114, .int .u64 t115, .string t116, .string t117] 32 (0, 0)) (by (with_reducible repeat (first | refine blk_drewN ?_ _ | refine blk_drew ?_ | refine blk_alloc ?_ _)); exact BK119.out)) : gb133 ≠ gb119)); have n9_ := Aside0.mk ((by rw [hg]; exact Nat.ne_of_lt (blk_lt (g := gb126) (o := .cells #[.int .u64 t120, .int .u64 t121, .int .u64 t122, .string t123, .string t124] 32 (0, 0)) (by (with_reducible repeat (first | refine blk_drewN ?_ _ | refine blk_drew ?_ | refine blk_alloc ?_ _)); exact BK126.out)) : gb126 ≠ gb133)); have n10_ := Aside0.mk ((by rw [hg]; exact Nat.ne_of_gt (blk_lt (g := gb126) (o := .cells #[.int .u64 t120, .int .u64 t121, .int .u64 t122, .string t123, .string t124] 32 (0, 0)) (by (with_reducible repeat (first | refine blk_drewN ?_ _ | refine blk_drew ?_ | refine blk_alloc ?_ _)); exact BK126.out)) : gb133 ≠ gb126)); clear HO111; clear BK119; clear BK126; clear HB; have HO111 := n0_; have BK119 := n1_; have BK126 := n2_; have HB := n3_; have BK133 := n4_; have GW133 := n5_; have GE133 := n6_; have NB119_133 := n7_; have NB133_119 := n8_; have NB126_133 := n9_; have NB133_126 := n10_; clear n0_ n1_ n2_ n3_ n4_ n5_ n6_ n7_ n8_ n9_ n10_; clear hb hbox hg; have hnb78 := NB133_119.out; have hnc78 := NB119_133.out; have hnb79 := NB133_126.out; have hnc79 := NB126_133.out; have hcz80_0 : w77.cell? ⟨gb133, 0, none⟩ = some (.int .u64 0) := (blk_cell BK133.out 0).trans rfl; have hcz80_1 : w77.cell? ⟨gb133, 1, none⟩ = some (.int .u64 0) := (blk_cell BK133.out 1).trans rfl; have hcz80_2 : w77.cell? ⟨gb133, 2, none⟩ = some (.int .u64 0) := (blk_cell BK133.out 2).trans rfl; have hcz80_3 : w77.cell? ⟨gb133, 3, none⟩ = some (.string (⟨#[]⟩ : ByteArray)) := (blk_cell BK133.out 3).trans rfl; have hcz80_4 : w77.cell? ⟨gb133, 4, none⟩ = some (.string (⟨#[]⟩ : ByteArray)) := (blk_cell BK133.out 4).trans rfl; have hfz80_0 := blk_frozen BK133.out 0; have hfz80_1 := blk_frozen BK133.out 1; have hfz80_2 := blk_frozen BK133.out 2; have hfz80_3 := blk_frozen BK133.out 3; have hfz80_4 := blk_frozen BK133.out 4) | ((with_reducible refine gate_callee (f := 12) rfl ?_); refine goesL_ (some 39) rfl rfl Tryz.func12 (by kernel_rfl) rfl #[.string a0] rfl (by (try simp only [List.map_toArray, List.map_cons, List.map_nil]); first | done | rfl | (simp only [List.length_drop, List.length_take]; rfl)) ?_; (with_reducible refine (impl_LooseText.calls a0 t134 t135 _ ?side1 ?side2 ?side3 A9.out).mono ?_); (case side1 => exact HPow.out.below (by repeat (first | (with_reducible first | exact HB.out | apply below_alloc | apply pw_below_drewN | apply below_drew1 | refine below_set ?_ GE119.out | refine below_set ?_ GE126.out | refine below_set ?_ GE133.out) | exact HB.out))); (case side2 => exact HSem.out.below (by repeat (first | (with_reducible first | exact HB.out | apply below_alloc | apply pw_below_drewN | apply below_drew1 | refine below_set ?_ GE119.out | refine below_set ?_ GE126.out | refine below_set ?_ GE133.out) | exact HB.out))); (case side3 => exact HStd.out.below (by repeat (first | (with_reducible first | exact HB.out | apply below_alloc | apply pw_below_drewN | apply below_drew1 | refine below_set ?_ GE119.out | refine below_set ?_ GE126.out | refine below_set ?_ GE133.out) | exact HB.out))); rintro e w81 ⟨rfl, hb⟩; refine ⟨_, rfl, ?_⟩; have n0_ := Aside0.mk (Kd.R_below (by (with_reducible repeat (first | apply Kd.R_alloc | apply Kd.R_drewN | apply Kd.R_drew)); exact (Kd.R_mono (Kd.R_far (p := ⟨gb133, 4, none⟩) (Kd.R_far (p := ⟨gb133, 3, none⟩) (Kd.R_far (p := ⟨gb133, 2, none⟩) (Kd.R_far (p := ⟨gb133, 1, none⟩) (Kd.R_far (p := ⟨gb133, 0, none⟩) (Kd.R_types HO111.out BK133.out (by decide)) (fun _ hk => hk.2) (.int .u64 t127)) (fun _ hk => hk.2) (.int .u64 t128)) (fun _ hk => hk.2) (.int .u64 t129)) (fun _ hk => hk.2) (.string t130)) (fun _ hk => hk.2) (.string t131)) (fun _ h_ => h_.1))) hb); have n1_ := Aside0.mk (blk_below (g := gb119) (o := .cells #[.int .u64 t113, .int .u64 t114, .int .u64 t115, .string t116, .string t117] 32 (0, 0)) (by (with_reducible repeat (first | refine blk_drewN ?_ _ | refine blk_drew ?_ | refine blk_alloc ?_ _)); refine blk_far ?_ NB119_133.out _; (with_reducible repeat (first | refine blk_drewN ?_ _ | refine blk_drew ?_ | refine blk_alloc ?_ _)); refine blk_far ?_ NB119_133.out _; (with_reducible repeat (first | refine blk_drewN ?_ _ | refine blk_drew ?_ | refine blk_alloc ?_ _)); refine blk_far ?_ NB119_133.out _; (with_reducible repeat (first | refine blk_drewN ?_ _ | refine blk_drew ?_ | refine blk_alloc ?_ _)); refine blk_far ?_ NB119_133.out _; (with_reducible repeat (first | refine blk_drewN ?_ _ | refine blk_drew ?_ | refine blk_alloc ?_ _)); refine blk_far ?_ NB119_133.out _; (with_reducible repeat (first | refine blk_drewN ?_ _ | refine blk_drew ?_ | refine blk_alloc ?_ _)); exact BK119.out) hb); have n2_ := Aside0.mk (blk_below (g := gb126) (o := .cells #[.int .u64 t120, .int .u64 t121, .int .u64 t122, .string t123, .string t124] 32 (0, 0)) (by (with_reducible repeat (first | refine blk_drewN ?_ _ | refine blk_drew ?_ | refine blk_alloc ?_ _)); refine blk_far ?_ NB126_133.out _; (with_reducible repeat (first | refine blk_drewN ?_ _ | refine blk_drew ?_ | refine blk_alloc ?_ _)); refine blk_far ?_ NB126_133.out _; (with_reducible repeat (first | refine blk_drewN ?_ _ | refine blk_drew ?_ | refine blk_alloc ?_ _)); refine blk_far ?_ NB126_133.out _; (with_reducible repeat (first | refine blk_drewN ?_ _ | refine blk_drew ?_ | refine blk_alloc ?_ _)); refine blk_far ?_ NB126_133.out _; (with_reducible repeat (first | refine blk_drewN ?_ _ | refine blk_drew ?_ | refine blk_alloc ?_ _)); refine blk_far ?_ NB126_133.out _; (with_reducible repeat (first | refine blk_drewN ?_ _ | refine blk_drew ?_ | refine blk_alloc ?_ _)); exact BK126.out) hb); have n3_ := Aside0.mk (blk_below (g := gb133) (o := .cells #[.int .u64 t127, .int .u64 t128, .int .u64 t129, .string t130, .string t131] 32 (0, 0)) (by (with_reducible repeat (first | refine blk_drewN ?_ _ | refine blk_drew ?_ | refine blk_alloc ?_ _)); refine blk_put (cs := #[.int .u64 t127, .int .u64 t128, .int .u64 t129, .string t130, .string (⟨#[]⟩ : ByteArray)]) ?_ 4 _ rfl; (with_reducible repeat (first | refine blk_drewN ?_ _ | refine blk_drew ?_ | refine blk_alloc ?_ _)); refine blk_put (cs := #[.int .u64 t127, .int .u64 t128, .int .u64 t129, .string (⟨#[]⟩ : ByteArray), .string (⟨#[]⟩ : ByteArray)]) ?_ 3 _ rfl; (with_reducible repeat (first | refine blk_drewN ?_ _ | refine blk_drew ?_ | refine blk_alloc ?_ _)); refine blk_put (cs := #[.int .u64 t127, .int .u64 t128, .int .u64 0, .string (⟨#[]⟩ : ByteArray), .string (⟨#[]⟩ : ByteArray)]) ?_ 2 _ rfl; (with_reducible repeat (first | refine blk_drewN ?_ _ | refine blk_drew ?_ | refine blk_alloc ?_ _)); refine blk_put (cs := #[.int .u64 t127, .int .u64 0, .int .u64 0, .string (⟨#[]⟩ : ByteArray), .string (⟨#[]⟩ : ByteArray)]) ?_ 1 _ rfl; (with_reducible repeat (first | refine blk_drewN ?_ _ | refine blk_drew ?_ | refine blk_alloc ?_ _)); refine blk_put (cs := #[.int .u64 0, .int .u64 0, .int .u64 0, .string (⟨#[]⟩ : ByteArray), .string (⟨#[]⟩ : ByteArray)]) ?_ 0 _ rfl; (with_reducible repeat (first | refine blk_drewN ?_ _ | refine blk_drew ?_ | refine blk_alloc ?_ _)); exact BK133.out) hb); have n4_ := Aside0.mk (below_step (by repeat (first | (with_reducible first | exact HB.out | apply below_alloc | apply pw_below_drewN | apply below_drew1 | refine below_set ?_ GE119.out | refine below_set ?_ GE126.out | refine below_set ?_ GE133.out) | exact HB.out)) hb); clear HO111; clear BK119; clear BK126; clear BK133; clear HB; have HO111 := n0_; have BK119 := n1_; have BK126 := n2_; have BK133 := n3_; have HB := n4_; clear n0_ n1_ n2_ n3_ n4_; (try clear hb); (try clear hb2); (try clear hk); (try clear hi)))
      go_ret
      exact ⟨by first | rfl | (simp [errW_none, errW_some] <;> rfl) | (simp [*, errW_none, errW_some] <;> rfl) | (simp [bneNil]; done), by repeat (first | (with_reducible first | exact HB.out | apply below_alloc | apply pw_below_drewN | apply below_drew1 | refine below_set ?_ GE119.out | refine below_set ?_ GE126.out | refine below_set ?_ GE133.out) | exact HB.out)⟩
    ·
     replace c10 := Bool.eq_false_iff.mpr c10
     subst c10
     have H1 : (some false) = some r := by rw [if_neg (show ¬ (false = true) by decide)] at H; exact H
     clear H
     have H := H1
     clear H1
     obtain rfl := Option.some.inj H
     go_enter Tryz.func4, Tryz.ntmps4
     go_wp2_with (first | ((with_reducible refine gate_dst (N := 15) rfl ?_); refine Kd.R_lit Kd.string _ 9 ?hg (N := 15) ?hd (xs := ([a0] : List ByteArray)) (inner := [.string a0]) (ok := fun _ => True) (okp := fun _ => True) ?hr ?hp (fun _ hk => hk) trivial (Below.refl _ _) (Nat.le_refl _) (by simp) ?_; (case hd => rfl); (case hg => rfl); (case hr => first | (go_simp; done) | (go_simp; rfl) | (go_simp; simp [u8w]; done)); (case hp => exact (Reps.one (show Kd.M Kd.string _ _ _ a0 [.string a0] from rfl) (Reps.none _ _))); intro v110 w82 ho83 hb hg_ hnew_; clear hg_ hnew_; (first | rw [← Ny109.out] at ho83 | (simp only [Int.reduceToNat] at ho83; rw [← Ny109.out] at ho83)); have n0_ := Aside0.mk (Kd.R_lower ho83 (below_size (by repeat (first | (with_reducible first | exact HB.out | apply below_alloc | apply pw_below_drewN | apply below_drew1) | exact HB.out)))); have n1_ := Aside0.mk (below_step (by repeat (first | (with_reducible first | exact HB.out | apply below_alloc | apply pw_below_drewN | apply below_drew1) | exact HB.out)) hb); clear HB; have HO111 := n0_; have HB := n1_; clear n0_ n1_; clear hb ho83; obtain ⟨Ao84, co84, eo84⟩ := Kd.R_slice HO111.out; subst eo84) | ((with_reducible refine gate_callee (f := 8) rfl ?_); refine goesL_ (some 16) rfl rfl Tryz.func8 (by kernel_rfl) rfl #[.slice Ao84 y109.length co84] rfl (by (try simp only [List.map_toArray, List.map_cons, List.map_nil]); first | done | rfl | (simp only [List.length_drop, List.length_take]; rfl)) ?_; (with_reducible refine (laws_svShort.calls k _ _ y109 true _ ?side1 ?side2 A3.out).mono ?_); (case side1 => repeat (first | exact (Kd.R_reads' HO111.out).2.2 | (with_reducible refine Kd.C_alloc ?_ _) | (with_reducible refine Kd.C_drewN ?_ _) | (with_reducible refine Kd.C_drew ?_))); (case side2 => exact (Kd.R_reads' HO111.out).2.1); rintro e w' ⟨rfl, ⟨nd, rfl⟩⟩; refine ⟨_, rfl, ?_⟩; (try (rw [drewN_self w82]; generalize hq_ : World.drewN w82 _ = w82; have n0_ : Aside0 (Kd.R Kd.string 9 w82 w.heap.size (fun _ => True) (.slice Ao84 y109.length co84) y109) := ⟨by rw [← hq_]; exact (by (with_reducible repeat (first | apply Kd.R_alloc | apply Kd.R_drewN | apply Kd.R_drew)); exact HO111.out)⟩; have n1_ : Aside0 (Below w.heap.size w w82) := ⟨by rw [← hq_]; exact (by repeat (first | (with_reducible first | exact HB.out | apply below_alloc | apply pw_below_drewN | apply below_drew1) | exact HB.out))⟩; clear HO111 HB hq_; have HO111 := n0_; have HB := n1_; clear n0_ n1_))) | ((with_reducible refine gate_callee (f := 9) rfl ?_); refine goesL_ (some 20) rfl rfl Tryz.func9 (by kernel_rfl) rfl #[.string a0] rfl (by (try simp only [List.map_toArray, List.map_cons, List.map_nil]); first | done | rfl | (simp only [List.length_drop, List.length_take]; rfl)) ?_; (with_reducible refine (impl_StrictVersion.calls a0 t113 t114 t115 t116 t117 false _ ?side1 ?side2 ?side3 A5.out).mono ?_); (case side1 => exact HSem.out.below (by repeat (first | (with_reducible first | exact HB.out | apply below_alloc | apply pw_below_drewN | apply below_drew1) | exact HB.out))); (case side2 => exact HStd.out.below (by repeat (first | (with_reducible first | exact HB.out | apply below_alloc | apply pw_below_drewN | apply below_drew1) | exact HB.out))); (case side3 => exact HStr.out.below (by repeat (first | (with_reducible first | exact HB.out | apply below_alloc | apply pw_below_drewN | apply below_drew1) | exact HB.out))); rintro e w85 ⟨rfl, hb⟩; refine ⟨_, rfl, ?_⟩; have n0_ := Aside0.mk (Kd.R_below (by (with_reducible repeat (first | apply Kd.R_alloc | apply Kd.R_drewN | apply Kd.R_drew)); exact HO111.out) hb); have n1_ := Aside0.mk (below_step (by repeat (first | (with_reducible first | exact HB.out | apply below_alloc | apply pw_below_drewN | apply below_drew1) | exact HB.out)) hb); clear HO111; clear HB; have HO111 := n0_; have HB := n1_; clear n0_ n1_; (try clear hb); (try clear hb2); (try clear hk); (try clear hi)) | ((with_reducible refine gate_dst (N := 3) rfl ?_); refine box_event ?hg (N := 3) ?hd (cs := #[.int .u64 0, .int .u64 0, .int .u64 0, .string (⟨#[]⟩ : ByteArray), .string (⟨#[]⟩ : ByteArray)]) (t := 32) ?hr ?_; (case hd => rfl); (case hg => rfl); (case hr => first | (go_simp; done) | (go_simp; rfl) | (go_simp; simp [u8w]; done)); intro gb119 hg w86 hbox hb; have n0_ := Aside0.mk (Kd.R_below (by (with_reducible repeat (first | apply Kd.R_alloc | apply Kd.R_drewN | apply Kd.R_drew)); exact HO111.out) hb); have n1_ := Aside0.mk (below_step (by repeat (first | (with_reducible first | exact HB.out | apply below_alloc | apply pw_below_drewN | apply below_drew1) | exact HB.out)) hb); have n2_ := Aside0.mk (hbox); have n3_ := Aside0.mk ((by rw [hg]; exact (below_size (by repeat (first | (with_reducible first | exact HB.out | apply below_alloc | apply pw_below_drewN | apply below_drew1) | exact HB.out))) : w.heap.size ≤ gb119)); have n4_ := Aside0.mk ((by rw [hg]; exact (below_size (by repeat (first | (with_reducible first | exact HB.out | apply below_alloc | apply pw_below_drewN | apply below_drew1) | exact HB.out))) : w.heap.size ≤ gb119)); clear HO111; clear HB; have HO111 := n0_; have HB := n1_; have BK119 := n2_; have GW119 := n3_; have GE119 := n4_; clear n0_ n1_ n2_ n3_ n4_; clear hb hbox hg; have hcz87_0 : w86.cell? ⟨gb119, 0, none⟩ = some (.int .u64 0) := (blk_cell BK119.out 0).trans rfl; have hcz87_1 : w86.cell? ⟨gb119, 1, none⟩ = some (.int .u64 0) := (blk_cell BK119.out 1).trans rfl; have hcz87_2 : w86.cell? ⟨gb119, 2, none⟩ = some (.int .u64 0) := (blk_cell BK119.out 2).trans rfl; have hcz87_3 : w86.cell? ⟨gb119, 3, none⟩ = some (.string (⟨#[]⟩ : ByteArray)) := (blk_cell BK119.out 3).trans rfl; have hcz87_4 : w86.cell? ⟨gb119, 4, none⟩ = some (.string (⟨#[]⟩ : ByteArray)) := (blk_cell BK119.out 4).trans rfl; have hfz87_0 := blk_frozen BK119.out 0; have hfz87_1 := blk_frozen BK119.out 1; have hfz87_2 := blk_frozen BK119.out 2; have hfz87_3 := blk_frozen BK119.out 3; have hfz87_4 := blk_frozen BK119.out 4) | ((with_reducible refine gate_callee (f := 10) rfl ?_); refine goesL_ (some 25) rfl rfl Tryz.func10 (by kernel_rfl) rfl #[.string a0] rfl (by (try simp only [List.map_toArray, List.map_cons, List.map_nil]); first | done | rfl | (simp only [List.length_drop, List.length_take]; rfl)) ?_; (with_reducible refine (spec_StrictVersion.calls a0 t120 t121 t122 t123 t124 true _ A6.out).mono ?_); rintro e w88 ⟨rfl, hb⟩; refine ⟨_, rfl, ?_⟩; have n0_ := Aside0.mk (Kd.R_below (by (with_reducible repeat (first | apply Kd.R_alloc | apply Kd.R_drewN | apply Kd.R_drew)); exact (Kd.R_mono (Kd.R_far (p := ⟨gb119, 4, none⟩) (Kd.R_far (p := ⟨gb119, 3, none⟩) (Kd.R_far (p := ⟨gb119, 2, none⟩) (Kd.R_far (p := ⟨gb119, 1, none⟩) (Kd.R_far (p := ⟨gb119, 0, none⟩) (Kd.R_types HO111.out BK119.out (by decide)) (fun _ hk => hk.2) (.int .u64 t113)) (fun _ hk => hk.2) (.int .u64 t114)) (fun _ hk => hk.2) (.int .u64 t115)) (fun _ hk => hk.2) (.string t116)) (fun _ hk => hk.2) (.string t117)) (fun _ h_ => h_.1))) hb); have n1_ := Aside0.mk (blk_below (g := gb119) (o := .cells #[.int .u64 t113, .int .u64 t114, .int .u64 t115, .string t116, .string t117] 32 (0, 0)) (by (with_reducible repeat (first | refine blk_drewN ?_ _ | refine blk_drew ?_ | refine blk_alloc ?_ _)); refine blk_put (cs := #[.int .u64 t113, .int .u64 t114, .int .u64 t115, .string t116, .string (⟨#[]⟩ : ByteArray)]) ?_ 4 _ rfl; (with_reducible repeat (first | refine blk_drewN ?_ _ | refine blk_drew ?_ | refine blk_alloc ?_ _)); refine blk_put (cs := #[.int .u64 t113, .int .u64 t114, .int .u64 t115, .string (⟨#[]⟩ : ByteArray), .string (⟨#[]⟩ : ByteArray)]) ?_ 3 _ rfl; (with_reducible repeat (first | refine blk_drewN ?_ _ | refine blk_drew ?_ | refine blk_alloc ?_ _)); refine blk_put (cs := #[.int .u64 t113, .int .u64 t114, .int .u64 0, .string (⟨#[]⟩ : ByteArray), .string (⟨#[]⟩ : ByteArray)]) ?_ 2 _ rfl; (with_reducible repeat (first | refine blk_drewN ?_ _ | refine blk_drew ?_ | refine blk_alloc ?_ _)); refine blk_put (cs := #[.int .u64 t113, .int .u64 0, .int .u64 0, .string (⟨#[]⟩ : ByteArray), .string (⟨#[]⟩ : ByteArray)]) ?_ 1 _ rfl; (with_reducible repeat (first | refine blk_drewN ?_ _ | refine blk_drew ?_ | refine blk_alloc ?_ _)); refine blk_put (cs := #[.int .u64 0, .int .u64 0, .int .u64 0, .string (⟨#[]⟩ : ByteArray), .string (⟨#[]⟩ : ByteArray)]) ?_ 0 _ rfl; (with_reducible repeat (first | refine blk_drewN ?_ _ | refine blk_drew ?_ | refine blk_alloc ?_ _)); exact BK119.out) hb); have n2_ := Aside0.mk (below_step (by repeat (first | (with_reducible first | exact HB.out | apply below_alloc | apply pw_below_drewN | apply below_drew1 | refine below_set ?_ GE119.out) | exact HB.out)) hb); clear HO111; clear BK119; clear HB; have HO111 := n0_; have BK119 := n1_; have HB := n2_; clear n0_ n1_ n2_; (try clear hb); (try clear hb2); (try clear hk); (try clear hi)) | ((with_reducible refine gate_dst (N := 5) rfl ?_); refine box_event ?hg (N := 5) ?hd (cs := #[.int .u64 0, .int .u64 0, .int .u64 0, .string (⟨#[]⟩ : ByteArray), .string (⟨#[]⟩ : ByteArray)]) (t := 32) ?hr ?_; (case hd => rfl); (case hg => rfl); (case hr => first | (go_simp; done) | (go_simp; rfl) | (go_simp; simp [u8w]; done)); intro gb126 hg w89 hbox hb; have n0_ := Aside0.mk (Kd.R_below (by (with_reducible repeat (first | apply Kd.R_alloc | apply Kd.R_drewN | apply Kd.R_drew)); exact HO111.out) hb); have n1_ := Aside0.mk (blk_below (g := gb119) (o := .cells #[.int .u64 t113, .int .u64 t114, .int .u64 t115, .string t116, .string t117] 32 (0, 0)) (by (with_reducible repeat (first | refine blk_drewN ?_ _ | refine blk_drew ?_ | refine blk_alloc ?_ _)); exact BK119.out) hb); have n2_ := Aside0.mk (below_step (by repeat (first | (with_reducible first | exact HB.out | apply below_alloc | apply pw_below_drewN | apply below_drew1 | refine below_set ?_ GE119.out) | exact HB.out)) hb); have n3_ := Aside0.mk (hbox); have n4_ := Aside0.mk ((by rw [hg]; exact (below_size (by repeat (first | (with_reducible first | exact HB.out | apply below_alloc | apply pw_below_drewN | apply below_drew1 | refine below_set ?_ GE119.out) | exact HB.out))) : w.heap.size ≤ gb126)); have n5_ := Aside0.mk ((by rw [hg]; exact (below_size (by repeat (first | (with_reducible first | exact HB.out | apply below_alloc | apply pw_below_drewN | apply below_drew1 | refine below_set ?_ GE119.out) | exact HB.out))) : w.heap.size ≤ gb126)); have n6_ := Aside0.mk ((by rw [hg]; exact Nat.ne_of_lt (blk_lt (g := gb119) (o := .cells #[.int .u64 t113, .int .u64 t114, .int .u64 t115, .string t116, .string t117] 32 (0, 0)) (by (with_reducible repeat (first | refine blk_drewN ?_ _ | refine blk_drew ?_ | refine blk_alloc ?_ _)); exact BK119.out)) : gb119 ≠ gb126)); have n7_ := Aside0.mk ((by rw [hg]; exact Nat.ne_of_gt (blk_lt (g := gb119) (o := .cells #[.int .u64 t113, .int .u64 t114, .int .u64 t115, .string t116, .string t117] 32 (0, 0)) (by (with_reducible repeat (first | refine blk_drewN ?_ _ | refine blk_drew ?_ | refine blk_alloc ?_ _)); exact BK119.out)) : gb126 ≠ gb119)); clear HO111; clear BK119; clear HB; have HO111 := n0_; have BK119 := n1_; have HB := n2_; have BK126 := n3_; have GW126 := n4_; have GE126 := n5_; have NB119_126 := n6_; have NB126_119 := n7_; clear n0_ n1_ n2_ n3_ n4_ n5_ n6_ n7_; clear hb hbox hg; have hnb90 := NB126_119.out; have hnc90 := NB119_126.out; have hcz91_0 : w89.cell? ⟨gb126, 0, none⟩ = some (.int .u64 0) := (blk_cell BK126.out 0).trans rfl; have hcz91_1 : w89.cell? ⟨gb126, 1, none⟩ = some (.int .u64 0) := (blk_cell BK126.out 1).trans rfl; have hcz91_2 : w89.cell? ⟨gb126, 2, none⟩ = some (.int .u64 0) := (blk_cell BK126.out 2).trans rfl; have hcz91_3 : w89.cell? ⟨gb126, 3, none⟩ = some (.string (⟨#[]⟩ : ByteArray)) := (blk_cell BK126.out 3).trans rfl; have hcz91_4 : w89.cell? ⟨gb126, 4, none⟩ = some (.string (⟨#[]⟩ : ByteArray)) := (blk_cell BK126.out 4).trans rfl; have hfz91_0 := blk_frozen BK126.out 0; have hfz91_1 := blk_frozen BK126.out 1; have hfz91_2 := blk_frozen BK126.out 2; have hfz91_3 := blk_frozen BK126.out 3; have hfz91_4 := blk_frozen BK126.out 4) | ((with_reducible refine gate_callee (f := 11) rfl ?_); refine goesL_ (some 34) rfl rfl Tryz.func11 (by kernel_rfl) rfl #[.string a0] rfl (by (try simp only [List.map_toArray, List.map_cons, List.map_nil]); first | done | rfl | (simp only [List.length_drop, List.length_take]; rfl)) ?_; (with_reducible refine (impl_LooseVersion.calls a0 t127 t128 t129 t130 t131 t132 _ ?side1 ?side2 A8.out).mono ?_); (case side1 => exact HSem.out.below (by repeat (first | (with_reducible first | exact HB.out | apply below_alloc | apply pw_below_drewN | apply below_drew1 | refine below_set ?_ GE119.out | refine below_set ?_ GE126.out) | exact HB.out))); (case side2 => exact HStd.out.below (by repeat (first | (with_reducible first | exact HB.out | apply below_alloc | apply pw_below_drewN | apply below_drew1 | refine below_set ?_ GE119.out | refine below_set ?_ GE126.out) | exact HB.out))); rintro e w92 ⟨rfl, hb⟩; refine ⟨_, rfl, ?_⟩; have n0_ := Aside0.mk (Kd.R_below (by (with_reducible repeat (first | apply Kd.R_alloc | apply Kd.R_drewN | apply Kd.R_drew)); exact (Kd.R_mono (Kd.R_far (p := ⟨gb126, 4, none⟩) (Kd.R_far (p := ⟨gb126, 3, none⟩) (Kd.R_far (p := ⟨gb126, 2, none⟩) (Kd.R_far (p := ⟨gb126, 1, none⟩) (Kd.R_far (p := ⟨gb126, 0, none⟩) (Kd.R_types HO111.out BK126.out (by decide)) (fun _ hk => hk.2) (.int .u64 t120)) (fun _ hk => hk.2) (.int .u64 t121)) (fun _ hk => hk.2) (.int .u64 t122)) (fun _ hk => hk.2) (.string t123)) (fun _ hk => hk.2) (.string t124)) (fun _ h_ => h_.1))) hb); have n1_ := Aside0.mk (blk_below (g := gb119) (o := .cells #[.int .u64 t113, .int .u64 t114, .int .u64 t115, .string t116, .string t117] 32 (0, 0)) (by (with_reducible repeat (first | refine blk_drewN ?_ _ | refine blk_drew ?_ | refine blk_alloc ?_ _)); refine blk_far ?_ NB119_126.out _; (with_reducible repeat (first | refine blk_drewN ?_ _ | refine blk_drew ?_ | refine blk_alloc ?_ _)); refine blk_far ?_ NB119_126.out _; (with_reducible repeat (first | refine blk_drewN ?_ _ | refine blk_drew ?_ | refine blk_alloc ?_ _)); refine blk_far ?_ NB119_126.out _; (with_reducible repeat (first | refine blk_drewN ?_ _ | refine blk_drew ?_ | refine blk_alloc ?_ _)); refine blk_far ?_ NB119_126.out _; (with_reducible repeat (first | refine blk_drewN ?_ _ | refine blk_drew ?_ | refine blk_alloc ?_ _)); refine blk_far ?_ NB119_126.out _; (with_reducible repeat (first | refine blk_drewN ?_ _ | refine blk_drew ?_ | refine blk_alloc ?_ _)); exact BK119.out) hb); have n2_ := Aside0.mk (blk_below (g := gb126) (o := .cells #[.int .u64 t120, .int .u64 t121, .int .u64 t122, .string t123, .string t124] 32 (0, 0)) (by (with_reducible repeat (first | refine blk_drewN ?_ _ | refine blk_drew ?_ | refine blk_alloc ?_ _)); refine blk_put (cs := #[.int .u64 t120, .int .u64 t121, .int .u64 t122, .string t123, .string (⟨#[]⟩ : ByteArray)]) ?_ 4 _ rfl; (with_reducible repeat (first | refine blk_drewN ?_ _ | refine blk_drew ?_ | refine blk_alloc ?_ _)); refine blk_put (cs := #[.int .u64 t120, .int .u64 t121, .int .u64 t122, .string (⟨#[]⟩ : ByteArray), .string (⟨#[]⟩ : ByteArray)]) ?_ 3 _ rfl; (with_reducible repeat (first | refine blk_drewN ?_ _ | refine blk_drew ?_ | refine blk_alloc ?_ _)); refine blk_put (cs := #[.int .u64 t120, .int .u64 t121, .int .u64 0, .string (⟨#[]⟩ : ByteArray), .string (⟨#[]⟩ : ByteArray)]) ?_ 2 _ rfl; (with_reducible repeat (first | refine blk_drewN ?_ _ | refine blk_drew ?_ | refine blk_alloc ?_ _)); refine blk_put (cs := #[.int .u64 t120, .int .u64 0, .int .u64 0, .string (⟨#[]⟩ : ByteArray), .string (⟨#[]⟩ : ByteArray)]) ?_ 1 _ rfl; (with_reducible repeat (first | refine blk_drewN ?_ _ | refine blk_drew ?_ | refine blk_alloc ?_ _)); refine blk_put (cs := #[.int .u64 0, .int .u64 0, .int .u64 0, .string (⟨#[]⟩ : ByteArray), .string (⟨#[]⟩ : ByteArray)]) ?_ 0 _ rfl; (with_reducible repeat (first | refine blk_drewN ?_ _ | refine blk_drew ?_ | refine blk_alloc ?_ _)); exact BK126.out) hb); have n3_ := Aside0.mk (below_step (by repeat (first | (with_reducible first | exact HB.out | apply below_alloc | apply pw_below_drewN | apply below_drew1 | refine below_set ?_ GE119.out | refine below_set ?_ GE126.out) | exact HB.out)) hb); clear HO111; clear BK119; clear BK126; clear HB; have HO111 := n0_; have BK119 := n1_; have BK126 := n2_; have HB := n3_; clear n0_ n1_ n2_ n3_; (try clear hb); (try clear hb2); (try clear hk); (try clear hi)) | ((with_reducible refine gate_dst (N := 7) rfl ?_); refine box_event ?hg (N := 7) ?hd (cs := #[.int .u64 0, .int .u64 0, .int .u64 0, .string (⟨#[]⟩ : ByteArray), .string (⟨#[]⟩ : ByteArray)]) (t := 32) ?hr ?_; (case hd => rfl); (case hg => rfl); (case hr => first | (go_simp; done) | (go_simp; rfl) | (go_simp; simp [u8w]; done)); intro gb133 hg w93 hbox hb; have n0_ := Aside0.mk (Kd.R_below (by (with_reducible repeat (first | apply Kd.R_alloc | apply Kd.R_drewN | apply Kd.R_drew)); exact HO111.out) hb); have n1_ := Aside0.mk (blk_below (g := gb119) (o := .cells #[.int .u64 t113, .int .u64 t114, .int .u64 t115, .string t116, .string t117] 32 (0, 0)) (by (with_reducible repeat (first | refine blk_drewN ?_ _ | refine blk_drew ?_ | refine blk_alloc ?_ _)); exact BK119.out) hb); have n2_ := Aside0.mk (blk_below (g := gb126) (o := .cells #[.int .u64 t120, .int .u64 t121, .int .u64 t122, .string t123, .string t124] 32 (0, 0)) (by (with_reducible repeat (first | refine blk_drewN ?_ _ | refine blk_drew ?_ | refine blk_alloc ?_ _)); exact BK126.out) hb); have n3_ := Aside0.mk (below_step (by repeat (first | (with_reducible first | exact HB.out | apply below_alloc | apply pw_below_drewN | apply below_drew1 | refine below_set ?_ GE119.out | refine below_set ?_ GE126.out) | exact HB.out)) hb); have n4_ := Aside0.mk (hbox); have n5_ := Aside0.mk ((by rw [hg]; exact (below_size (by repeat (first | (with_reducible first | exact HB.out | apply below_alloc | apply pw_below_drewN | apply below_drew1 | refine below_set ?_ GE119.out | refine below_set ?_ GE126.out) | exact HB.out))) : w.heap.size ≤ gb133)); have n6_ := Aside0.mk ((by rw [hg]; exact (below_size (by repeat (first | (with_reducible first | exact HB.out | apply below_alloc | apply pw_below_drewN | apply below_drew1 | refine below_set ?_ GE119.out | refine below_set ?_ GE126.out) | exact HB.out))) : w.heap.size ≤ gb133)); have n7_ := Aside0.mk ((by rw [hg]; exact Nat.ne_of_lt (blk_lt (g := gb119) (o := .cells #[.int .u64 t113, .int .u64 t114, .int .u64 t115, .string t116, .string t117] 32 (0, 0)) (by (with_reducible repeat (first | refine blk_drewN ?_ _ | refine blk_drew ?_ | refine blk_alloc ?_ _)); exact BK119.out)) : gb119 ≠ gb133)); have n8_ := Aside0.mk ((by rw [hg]; exact Nat.ne_of_gt (blk_lt (g := gb119) (o := .cells #[.int .u64 t113, .int .u64 t114, .int .u64 t115, .string t116, .string t117] 32 (0, 0)) (by (with_reducible repeat (first | refine blk_drewN ?_ _ | refine blk_drew ?_ | refine blk_alloc ?_ _)); exact BK119.out)) : gb133 ≠ gb119)); have n9_ := Aside0.mk ((by rw [hg]; exact Nat.ne_of_lt (blk_lt (g := gb126) (o := .cells #[.int .u64 t120, .int .u64 t121, .int .u64 t122, .string t123, .string t124] 32 (0, 0)) (by (with_reducible repeat (first | refine blk_drewN ?_ _ | refine blk_drew ?_ | refine blk_alloc ?_ _)); exact BK126.out)) : gb126 ≠ gb133)); have n10_ := Aside0.mk ((by rw [hg]; exact Nat.ne_of_gt (blk_lt (g := gb126) (o := .cells #[.int .u64 t120, .int .u64 t121, .int .u64 t122, .string t123, .string t124] 32 (0, 0)) (by (with_reducible repeat (first | refine blk_drewN ?_ _ | refine blk_drew ?_ | refine blk_alloc ?_ _)); exact BK126.out)) : gb133 ≠ gb126)); clear HO111; clear BK119; clear BK126; clear HB; have HO111 := n0_; have BK119 := n1_; have BK126 := n2_; have HB := n3_; have BK133 := n4_; have GW133 := n5_; have GE133 := n6_; have NB119_133 := n7_; have NB133_119 := n8_; have NB126_133 := n9_; have NB133_126 := n10_; clear n0_ n1_ n2_ n3_ n4_ n5_ n6_ n7_ n8_ n9_ n10_; clear hb hbox hg; have hnb94 := NB133_119.out; have hnc94 := NB119_133.out; have hnb95 := NB133_126.out; have hnc95 := NB126_133.out; have hcz96_0 : w93.cell? ⟨gb133, 0, none⟩ = some (.int .u64 0) := (blk_cell BK133.out 0).trans rfl; have hcz96_1 : w93.cell? ⟨gb133, 1, none⟩ = some (.int .u64 0) := (blk_cell BK133.out 1).trans rfl; have hcz96_2 : w93.cell? ⟨gb133, 2, none⟩ = some (.int .u64 0) := (blk_cell BK133.out 2).trans rfl; have hcz96_3 : w93.cell? ⟨gb133, 3, none⟩ = some (.string (⟨#[]⟩ : ByteArray)) := (blk_cell BK133.out 3).trans rfl; have hcz96_4 : w93.cell? ⟨gb133, 4, none⟩ = some (.string (⟨#[]⟩ : ByteArray)) := (blk_cell BK133.out 4).trans rfl; have hfz96_0 := blk_frozen BK133.out 0; have hfz96_1 := blk_frozen BK133.out 1; have hfz96_2 := blk_frozen BK133.out 2; have hfz96_3 := blk_frozen BK133.out 3; have hfz96_4 := blk_frozen BK133.out 4) | ((with_reducible refine gate_callee (f := 12) rfl ?_); refine goesL_ (some 39) rfl rfl Tryz.func12 (by kernel_rfl) rfl #[.string a0] rfl (by (try simp only [List.map_toArray, List.map_cons, List.map_nil]); first | done | rfl | (simp only [List.length_drop, List.length_take]; rfl)) ?_; (with_reducible refine (impl_LooseText.calls a0 t134 t135 _ ?side1 ?side2 ?side3 A9.out).mono ?_); (case side1 => exact HPow.out.below (by repeat (first | (with_reducible first | exact HB.out | apply below_alloc | apply pw_below_drewN | apply below_drew1 | refine below_set ?_ GE119.out | refine below_set ?_ GE126.out | refine below_set ?_ GE133.out) | exact HB.out))); (case side2 => exact HSem.out.below (by repeat (first | (with_reducible first | exact HB.out | apply below_alloc | apply pw_below_drewN | apply below_drew1 | refine below_set ?_ GE119.out | refine below_set ?_ GE126.out | refine below_set ?_ GE133.out) | exact HB.out))); (case side3 => exact HStd.out.below (by repeat (first | (with_reducible first | exact HB.out | apply below_alloc | apply pw_below_drewN | apply below_drew1 | refine below_set ?_ GE119.out | refine below_set ?_ GE126.out | refine below_set ?_ GE133.out) | exact HB.out))); rintro e w97 ⟨rfl, hb⟩; refine ⟨_, rfl, ?_⟩; have n0_ := Aside0.mk (Kd.R_below (by (with_reducible repeat (first | apply Kd.R_alloc | apply Kd.R_drewN | apply Kd.R_drew)); exact (Kd.R_mono (Kd.R_far (p := ⟨gb133, 4, none⟩) (Kd.R_far (p := ⟨gb133, 3, none⟩) (Kd.R_far (p := ⟨gb133, 2, none⟩) (Kd.R_far (p := ⟨gb133, 1, none⟩) (Kd.R_far (p := ⟨gb133, 0, none⟩) (Kd.R_types HO111.out BK133.out (by decide)) (fun _ hk => hk.2) (.int .u64 t127)) (fun _ hk => hk.2) (.int .u64 t128)) (fun _ hk => hk.2) (.int .u64 t129)) (fun _ hk => hk.2) (.string t130)) (fun _ hk => hk.2) (.string t131)) (fun _ h_ => h_.1))) hb); have n1_ := Aside0.mk (blk_below (g := gb119) (o := .cells #[.int .u64 t113, .int .u64 t114, .int .u64 t115, .string t116, .string t117] 32 (0, 0)) (by (with_reducible repeat (first | refine blk_drewN ?_ _ | refine blk_drew ?_ | refine blk_alloc ?_ _)); refine blk_far ?_ NB119_133.out _; (with_reducible repeat (first | refine blk_drewN ?_ _ | refine blk_drew ?_ | refine blk_alloc ?_ _)); refine blk_far ?_ NB119_133.out _; (with_reducible repeat (first | refine blk_drewN ?_ _ | refine blk_drew ?_ | refine blk_alloc ?_ _)); refine blk_far ?_ NB119_133.out _; (with_reducible repeat (first | refine blk_drewN ?_ _ | refine blk_drew ?_ | refine blk_alloc ?_ _)); refine blk_far ?_ NB119_133.out _; (with_reducible repeat (first | refine blk_drewN ?_ _ | refine blk_drew ?_ | refine blk_alloc ?_ _)); refine blk_far ?_ NB119_133.out _; (with_reducible repeat (first | refine blk_drewN ?_ _ | refine blk_drew ?_ | refine blk_alloc ?_ _)); exact BK119.out) hb); have n2_ := Aside0.mk (blk_below (g := gb126) (o := .cells #[.int .u64 t120, .int .u64 t121, .int .u64 t122, .string t123, .string t124] 32 (0, 0)) (by (with_reducible repeat (first | refine blk_drewN ?_ _ | refine blk_drew ?_ | refine blk_alloc ?_ _)); refine blk_far ?_ NB126_133.out _; (with_reducible repeat (first | refine blk_drewN ?_ _ | refine blk_drew ?_ | refine blk_alloc ?_ _)); refine blk_far ?_ NB126_133.out _; (with_reducible repeat (first | refine blk_drewN ?_ _ | refine blk_drew ?_ | refine blk_alloc ?_ _)); refine blk_far ?_ NB126_133.out _; (with_reducible repeat (first | refine blk_drewN ?_ _ | refine blk_drew ?_ | refine blk_alloc ?_ _)); refine blk_far ?_ NB126_133.out _; (with_reducible repeat (first | refine blk_drewN ?_ _ | refine blk_drew ?_ | refine blk_alloc ?_ _)); refine blk_far ?_ NB126_133.out _; (with_reducible repeat (first | refine blk_drewN ?_ _ | refine blk_drew ?_ | refine blk_alloc ?_ _)); exact BK126.out) hb); have n3_ := Aside0.mk (blk_below (g := gb133) (o := .cells #[.int .u64 t127, .int .u64 t128, .int .u64 t129, .string t130, .string t131] 32 (0, 0)) (by (with_reducible repeat (first | refine blk_drewN ?_ _ | refine blk_drew ?_ | refine blk_alloc ?_ _)); refine blk_put (cs := #[.int .u64 t127, .int .u64 t128, .int .u64 t129, .string t130, .string (⟨#[]⟩ : ByteArray)]) ?_ 4 _ rfl; (with_reducible repeat (first | refine blk_drewN ?_ _ | refine blk_drew ?_ | refine blk_alloc ?_ _)); refine blk_put (cs := #[.int .u64 t127, .int .u64 t128, .int .u64 t129, .string (⟨#[]⟩ : ByteArray), .string (⟨#[]⟩ : ByteArray)]) ?_ 3 _ rfl; (with_reducible repeat (first | refine blk_drewN ?_ _ | refine blk_drew ?_ | refine blk_alloc ?_ _)); refine blk_put (cs := #[.int .u64 t127, .int .u64 t128, .int .u64 0, .string (⟨#[]⟩ : ByteArray), .string (⟨#[]⟩ : ByteArray)]) ?_ 2 _ rfl; (with_reducible repeat (first | refine blk_drewN ?_ _ | refine blk_drew ?_ | refine blk_alloc ?_ _)); refine blk_put (cs := #[.int .u64 t127, .int .u64 0, .int .u64 0, .string (⟨#[]⟩ : ByteArray), .string (⟨#[]⟩ : ByteArray)]) ?_ 1 _ rfl; (with_reducible repeat (first | refine blk_drewN ?_ _ | refine blk_drew ?_ | refine blk_alloc ?_ _)); refine blk_put (cs := #[.int .u64 0, .int .u64 0, .int .u64 0, .string (⟨#[]⟩ : ByteArray), .string (⟨#[]⟩ : ByteArray)]) ?_ 0 _ rfl; (with_reducible repeat (first | refine blk_drewN ?_ _ | refine blk_drew ?_ | refine blk_alloc ?_ _)); exact BK133.out) hb); have n4_ := Aside0.mk (below_step (by repeat (first | (with_reducible first | exact HB.out | apply below_alloc | apply pw_below_drewN | apply below_drew1 | refine below_set ?_ GE119.out | refine below_set ?_ GE126.out | refine below_set ?_ GE133.out) | exact HB.out)) hb); clear HO111; clear BK119; clear BK126; clear BK133; clear HB; have HO111 := n0_; have BK119 := n1_; have BK126 := n2_; have BK133 := n3_; have HB := n4_; clear n0_ n1_ n2_ n3_ n4_; (try clear hb); (try clear hb2); (try clear hk); (try clear hi)))
     go_ret
     exact ⟨by first | rfl | (simp [errW_none, errW_some] <;> rfl) | (simp [*, errW_none, errW_some] <;> rfl) | (simp [bneNil]; done), by repeat (first | (with_reducible first | exact HB.out | apply below_alloc | apply pw_below_drewN | apply below_drew1 | refine below_set ?_ GE119.out | refine below_set ?_ GE126.out | refine below_set ?_ GE133.out) | exact HB.out)⟩
   ·
    replace c7 := Bool.eq_false_iff.mpr c7
    subst c7
    have H1 : (some (!t118)) = some r := by rw [if_neg (show ¬ (false = true) by decide)] at H; exact H
    clear H
    have H := H1
    clear H1
    obtain rfl := Option.some.inj H
    go_enter Tryz.func4, Tryz.ntmps4
    go_wp2_with (first | ((with_reducible refine gate_dst (N := 15) rfl ?_); refine Kd.R_lit Kd.string _ 9 ?hg (N := 15) ?hd (xs := ([a0] : List ByteArray)) (inner := [.string a0]) (ok := fun _ => True) (okp := fun _ => True) ?hr ?hp (fun _ hk => hk) trivial (Below.refl _ _) (Nat.le_refl _) (by simp) ?_; (case hd => rfl); (case hg => rfl); (case hr => first | (go_simp; done) | (go_simp; rfl) | (go_simp; simp [u8w]; done)); (case hp => exact (Reps.one (show Kd.M Kd.string _ _ _ a0 [.string a0] from rfl) (Reps.none _ _))); intro v110 w98 ho99 hb hg_ hnew_; clear hg_ hnew_; (first | rw [← Ny109.out] at ho99 | (simp only [Int.reduceToNat] at ho99; rw [← Ny109.out] at ho99)); have n0_ := Aside0.mk (Kd.R_lower ho99 (below_size (by repeat (first | (with_reducible first | exact HB.out | apply below_alloc | apply pw_below_drewN | apply below_drew1) | exact HB.out)))); have n1_ := Aside0.mk (below_step (by repeat (first | (with_reducible first | exact HB.out | apply below_alloc | apply pw_below_drewN | apply below_drew1) | exact HB.out)) hb); clear HB; have HO111 := n0_; have HB := n1_; clear n0_ n1_; clear hb ho99; obtain ⟨Ao100, co100, eo100⟩ := Kd.R_slice HO111.out; subst eo100) | ((with_reducible refine gate_callee (f := 8) rfl ?_); refine goesL_ (some 16) rfl rfl Tryz.func8 (by kernel_rfl) rfl #[.slice Ao100 y109.length co100] rfl (by (try simp only [List.map_toArray, List.map_cons, List.map_nil]); first | done | rfl | (simp only [List.length_drop, List.length_take]; rfl)) ?_; (with_reducible refine (laws_svShort.calls k _ _ y109 true _ ?side1 ?side2 A3.out).mono ?_); (case side1 => repeat (first | exact (Kd.R_reads' HO111.out).2.2 | (with_reducible refine Kd.C_alloc ?_ _) | (with_reducible refine Kd.C_drewN ?_ _) | (with_reducible refine Kd.C_drew ?_))); (case side2 => exact (Kd.R_reads' HO111.out).2.1); rintro e w' ⟨rfl, ⟨nd, rfl⟩⟩; refine ⟨_, rfl, ?_⟩; (try (rw [drewN_self w98]; generalize hq_ : World.drewN w98 _ = w98; have n0_ : Aside0 (Kd.R Kd.string 9 w98 w.heap.size (fun _ => True) (.slice Ao100 y109.length co100) y109) := ⟨by rw [← hq_]; exact (by (with_reducible repeat (first | apply Kd.R_alloc | apply Kd.R_drewN | apply Kd.R_drew)); exact HO111.out)⟩; have n1_ : Aside0 (Below w.heap.size w w98) := ⟨by rw [← hq_]; exact (by repeat (first | (with_reducible first | exact HB.out | apply below_alloc | apply pw_below_drewN | apply below_drew1) | exact HB.out))⟩; clear HO111 HB hq_; have HO111 := n0_; have HB := n1_; clear n0_ n1_))) | ((with_reducible refine gate_callee (f := 9) rfl ?_); refine goesL_ (some 20) rfl rfl Tryz.func9 (by kernel_rfl) rfl #[.string a0] rfl (by (try simp only [List.map_toArray, List.map_cons, List.map_nil]); first | done | rfl | (simp only [List.length_drop, List.length_take]; rfl)) ?_; (with_reducible refine (impl_StrictVersion.calls a0 t113 t114 t115 t116 t117 t118 _ ?side1 ?side2 ?side3 A5.out).mono ?_); (case side1 => exact HSem.out.below (by repeat (first | (with_reducible first | exact HB.out | apply below_alloc | apply pw_below_drewN | apply below_drew1) | exact HB.out))); (case side2 => exact HStd.out.below (by repeat (first | (with_reducible first | exact HB.out | apply below_alloc | apply pw_below_drewN | apply below_drew1) | exact HB.out))); (case side3 => exact HStr.out.below (by repeat (first | (with_reducible first | exact HB.out | apply below_alloc | apply pw_below_drewN | apply below_drew1) | exact HB.out))); rintro e w101 ⟨rfl, hb⟩; refine ⟨_, rfl, ?_⟩; have n0_ := Aside0.mk (Kd.R_below (by (with_reducible repeat (first | apply Kd.R_alloc | apply Kd.R_drewN | apply Kd.R_drew)); exact HO111.out) hb); have n1_ := Aside0.mk (below_step (by repeat (first | (with_reducible first | exact HB.out | apply below_alloc | apply pw_below_drewN | apply below_drew1) | exact HB.out)) hb); clear HO111; clear HB; have HO111 := n0_; have HB := n1_; clear n0_ n1_; (try clear hb); (try clear hb2); (try clear hk); (try clear hi)) | ((with_reducible refine gate_dst (N := 3) rfl ?_); refine box_event ?hg (N := 3) ?hd (cs := #[.int .u64 0, .int .u64 0, .int .u64 0, .string (⟨#[]⟩ : ByteArray), .string (⟨#[]⟩ : ByteArray)]) (t := 32) ?hr ?_; (case hd => rfl); (case hg => rfl); (case hr => first | (go_simp; done) | (go_simp; rfl) | (go_simp; simp [u8w]; done)); intro gb119 hg w102 hbox hb; have n0_ := Aside0.mk (Kd.R_below (by (with_reducible repeat (first | apply Kd.R_alloc | apply Kd.R_drewN | apply Kd.R_drew)); exact HO111.out) hb); have n1_ := Aside0.mk (below_step (by repeat (first | (with_reducible first | exact HB.out | apply below_alloc | apply pw_below_drewN | apply below_drew1) | exact HB.out)) hb); have n2_ := Aside0.mk (hbox); have n3_ := Aside0.mk ((by rw [hg]; exact (below_size (by repeat (first | (with_reducible first | exact HB.out | apply below_alloc | apply pw_below_drewN | apply below_drew1) | exact HB.out))) : w.heap.size ≤ gb119)); have n4_ := Aside0.mk ((by rw [hg]; exact (below_size (by repeat (first | (with_reducible first | exact HB.out | apply below_alloc | apply pw_below_drewN | apply below_drew1) | exact HB.out))) : w.heap.size ≤ gb119)); clear HO111; clear HB; have HO111 := n0_; have HB := n1_; have BK119 := n2_; have GW119 := n3_; have GE119 := n4_; clear n0_ n1_ n2_ n3_ n4_; clear hb hbox hg; have hcz103_0 : w102.cell? ⟨gb119, 0, none⟩ = some (.int .u64 0) := (blk_cell BK119.out 0).trans rfl; have hcz103_1 : w102.cell? ⟨gb119, 1, none⟩ = some (.int .u64 0) := (blk_cell BK119.out 1).trans rfl; have hcz103_2 : w102.cell? ⟨gb119, 2, none⟩ = some (.int .u64 0) := (blk_cell BK119.out 2).trans rfl; have hcz103_3 : w102.cell? ⟨gb119, 3, none⟩ = some (.string (⟨#[]⟩ : ByteArray)) := (blk_cell BK119.out 3).trans rfl; have hcz103_4 : w102.cell? ⟨gb119, 4, none⟩ = some (.string (⟨#[]⟩ : ByteArray)) := (blk_cell BK119.out 4).trans rfl; have hfz103_0 := blk_frozen BK119.out 0; have hfz103_1 := blk_frozen BK119.out 1; have hfz103_2 := blk_frozen BK119.out 2; have hfz103_3 := blk_frozen BK119.out 3; have hfz103_4 := blk_frozen BK119.out 4) | ((with_reducible refine gate_callee (f := 10) rfl ?_); refine goesL_ (some 25) rfl rfl Tryz.func10 (by kernel_rfl) rfl #[.string a0] rfl (by (try simp only [List.map_toArray, List.map_cons, List.map_nil]); first | done | rfl | (simp only [List.length_drop, List.length_take]; rfl)) ?_; (with_reducible refine (spec_StrictVersion.calls a0 t120 t121 t122 t123 t124 false _ A6.out).mono ?_); rintro e w104 ⟨rfl, hb⟩; refine ⟨_, rfl, ?_⟩; have n0_ := Aside0.mk (Kd.R_below (by (with_reducible repeat (first | apply Kd.R_alloc | apply Kd.R_drewN | apply Kd.R_drew)); exact (Kd.R_mono (Kd.R_far (p := ⟨gb119, 4, none⟩) (Kd.R_far (p := ⟨gb119, 3, none⟩) (Kd.R_far (p := ⟨gb119, 2, none⟩) (Kd.R_far (p := ⟨gb119, 1, none⟩) (Kd.R_far (p := ⟨gb119, 0, none⟩) (Kd.R_types HO111.out BK119.out (by decide)) (fun _ hk => hk.2) (.int .u64 t113)) (fun _ hk => hk.2) (.int .u64 t114)) (fun _ hk => hk.2) (.int .u64 t115)) (fun _ hk => hk.2) (.string t116)) (fun _ hk => hk.2) (.string t117)) (fun _ h_ => h_.1))) hb); have n1_ := Aside0.mk (blk_below (g := gb119) (o := .cells #[.int .u64 t113, .int .u64 t114, .int .u64 t115, .string t116, .string t117] 32 (0, 0)) (by (with_reducible repeat (first | refine blk_drewN ?_ _ | refine blk_drew ?_ | refine blk_alloc ?_ _)); refine blk_put (cs := #[.int .u64 t113, .int .u64 t114, .int .u64 t115, .string t116, .string (⟨#[]⟩ : ByteArray)]) ?_ 4 _ rfl; (with_reducible repeat (first | refine blk_drewN ?_ _ | refine blk_drew ?_ | refine blk_alloc ?_ _)); refine blk_put (cs := #[.int .u64 t113, .int .u64 t114, .int .u64 t115, .string (⟨#[]⟩ : ByteArray), .string (⟨#[]⟩ : ByteArray)]) ?_ 3 _ rfl; (with_reducible repeat (first | refine blk_drewN ?_ _ | refine blk_drew ?_ | refine blk_alloc ?_ _)); refine blk_put (cs := #[.int .u64 t113, .int .u64 t114, .int .u64 0, .string (⟨#[]⟩ : ByteArray), .string (⟨#[]⟩ : ByteArray)]) ?_ 2 _ rfl; (with_reducible repeat (first | refine blk_drewN ?_ _ | refine blk_drew ?_ | refine blk_alloc ?_ _)); refine blk_put (cs := #[.int .u64 t113, .int .u64 0, .int .u64 0, .string (⟨#[]⟩ : ByteArray), .string (⟨#[]⟩ : ByteArray)]) ?_ 1 _ rfl; (with_reducible repeat (first | refine blk_drewN ?_ _ | refine blk_drew ?_ | refine blk_alloc ?_ _)); refine blk_put (cs := #[.int .u64 0, .int .u64 0, .int .u64 0, .string (⟨#[]⟩ : ByteArray), .string (⟨#[]⟩ : ByteArray)]) ?_ 0 _ rfl; (with_reducible repeat (first | refine blk_drewN ?_ _ | refine blk_drew ?_ | refine blk_alloc ?_ _)); exact BK119.out) hb); have n2_ := Aside0.mk (below_step (by repeat (first | (with_reducible first | exact HB.out | apply below_alloc | apply pw_below_drewN | apply below_drew1 | refine below_set ?_ GE119.out) | exact HB.out)) hb); clear HO111; clear BK119; clear HB; have HO111 := n0_; have BK119 := n1_; have HB := n2_; clear n0_ n1_ n2_; (try clear hb); (try clear hb2); (try clear hk); (try clear hi)) | ((with_reducible refine gate_dst (N := 5) rfl ?_); refine box_event ?hg (N := 5) ?hd (cs := #[.int .u64 0, .int .u64 0, .int .u64 0, .string (⟨#[]⟩ : ByteArray), .string (⟨#[]⟩ : ByteArray)]) (t := 32) ?hr ?_; (case hd => rfl); (case hg => rfl); (case hr => first | (go_simp; done) | (go_simp; rfl) | (go_simp; simp [u8w]; done)); intro gb126 hg w105 hbox hb; have n0_ := Aside0.mk (Kd.R_below (by (with_reducible repeat (first | apply Kd.R_alloc | apply Kd.R_drewN | apply Kd.R_drew)); exact HO111.out) hb); have n1_ := Aside0.mk (blk_below (g := gb119) (o := .cells #[.int .u64 t113, .int .u64 t114, .int .u64 t115, .string t116, .string t117] 32 (0, 0)) (by (with_reducible repeat (first | refine blk_drewN ?_ _ | refine blk_drew ?_ | refine blk_alloc ?_ _)); exact BK119.out) hb); have n2_ := Aside0.mk (below_step (by repeat (first | (with_reducible first | exact HB.out | apply below_alloc | apply pw_below_drewN | apply below_drew1 | refine below_set ?_ GE119.out) | exact HB.out)) hb); have n3_ := Aside0.mk (hbox); have n4_ := Aside0.mk ((by rw [hg]; exact (below_size (by repeat (first | (with_reducible first | exact HB.out | apply below_alloc | apply pw_below_drewN | apply below_drew1 | refine below_set ?_ GE119.out) | exact HB.out))) : w.heap.size ≤ gb126)); have n5_ := Aside0.mk ((by rw [hg]; exact (below_size (by repeat (first | (with_reducible first | exact HB.out | apply below_alloc | apply pw_below_drewN | apply below_drew1 | refine below_set ?_ GE119.out) | exact HB.out))) : w.heap.size ≤ gb126)); have n6_ := Aside0.mk ((by rw [hg]; exact Nat.ne_of_lt (blk_lt (g := gb119) (o := .cells #[.int .u64 t113, .int .u64 t114, .int .u64 t115, .string t116, .string t117] 32 (0, 0)) (by (with_reducible repeat (first | refine blk_drewN ?_ _ | refine blk_drew ?_ | refine blk_alloc ?_ _)); exact BK119.out)) : gb119 ≠ gb126)); have n7_ := Aside0.mk ((by rw [hg]; exact Nat.ne_of_gt (blk_lt (g := gb119) (o := .cells #[.int .u64 t113, .int .u64 t114, .int .u64 t115, .string t116, .string t117] 32 (0, 0)) (by (with_reducible repeat (first | refine blk_drewN ?_ _ | refine blk_drew ?_ | refine blk_alloc ?_ _)); exact BK119.out)) : gb126 ≠ gb119)); clear HO111; clear BK119; clear HB; have HO111 := n0_; have BK119 := n1_; have HB := n2_; have BK126 := n3_; have GW126 := n4_; have GE126 := n5_; have NB119_126 := n6_; have NB126_119 := n7_; clear n0_ n1_ n2_ n3_ n4_ n5_ n6_ n7_; clear hb hbox hg; have hnb106 := NB126_119.out; have hnc106 := NB119_126.out; have hcz107_0 : w105.cell? ⟨gb126, 0, none⟩ = some (.int .u64 0) := (blk_cell BK126.out 0).trans rfl; have hcz107_1 : w105.cell? ⟨gb126, 1, none⟩ = some (.int .u64 0) := (blk_cell BK126.out 1).trans rfl; have hcz107_2 : w105.cell? ⟨gb126, 2, none⟩ = some (.int .u64 0) := (blk_cell BK126.out 2).trans rfl; have hcz107_3 : w105.cell? ⟨gb126, 3, none⟩ = some (.string (⟨#[]⟩ : ByteArray)) := (blk_cell BK126.out 3).trans rfl; have hcz107_4 : w105.cell? ⟨gb126, 4, none⟩ = some (.string (⟨#[]⟩ : ByteArray)) := (blk_cell BK126.out 4).trans rfl; have hfz107_0 := blk_frozen BK126.out 0; have hfz107_1 := blk_frozen BK126.out 1; have hfz107_2 := blk_frozen BK126.out 2; have hfz107_3 := blk_frozen BK126.out 3; have hfz107_4 := blk_frozen BK126.out 4))
    go_ret
    exact ⟨by first | rfl | (simp [errW_none, errW_some] <;> rfl) | (simp [*, errW_none, errW_some] <;> rfl) | (simp [bneNil]; done), by repeat (first | (with_reducible first | exact HB.out | apply below_alloc | apply pw_below_drewN | apply below_drew1 | refine below_set ?_ GE119.out | refine below_set ?_ GE126.out) | exact HB.out)⟩
  ·
   replace c4 := Bool.eq_false_iff.mpr c4
   subst c4
   have H1 : (some true) = some r := by rw [if_neg (show ¬ (false = true) by decide)] at H; exact H
   clear H
   have H := H1
   clear H1
   obtain rfl := Option.some.inj H
   go_enter Tryz.func4, Tryz.ntmps4
   go_wp2_with (first | ((with_reducible refine gate_dst (N := 15) rfl ?_); refine Kd.R_lit Kd.string _ 9 ?hg (N := 15) ?hd (xs := ([a0] : List ByteArray)) (inner := [.string a0]) (ok := fun _ => True) (okp := fun _ => True) ?hr ?hp (fun _ hk => hk) trivial (Below.refl _ _) (Nat.le_refl _) (by simp) ?_; (case hd => rfl); (case hg => rfl); (case hr => first | (go_simp; done) | (go_simp; rfl) | (go_simp; simp [u8w]; done)); (case hp => exact (Reps.one (show Kd.M Kd.string _ _ _ a0 [.string a0] from rfl) (Reps.none _ _))); intro v110 w108 ho109 hb hg_ hnew_; clear hg_ hnew_; (first | rw [← Ny109.out] at ho109 | (simp only [Int.reduceToNat] at ho109; rw [← Ny109.out] at ho109)); have n0_ := Aside0.mk (Kd.R_lower ho109 (below_size (by repeat (first | (with_reducible first | exact HB.out | apply below_alloc | apply pw_below_drewN | apply below_drew1) | exact HB.out)))); have n1_ := Aside0.mk (below_step (by repeat (first | (with_reducible first | exact HB.out | apply below_alloc | apply pw_below_drewN | apply below_drew1) | exact HB.out)) hb); clear HB; have HO111 := n0_; have HB := n1_; clear n0_ n1_; clear hb ho109; obtain ⟨Ao110, co110, eo110⟩ := Kd.R_slice HO111.out; subst eo110) | ((with_reducible refine gate_callee (f := 8) rfl ?_); refine goesL_ (some 16) rfl rfl Tryz.func8 (by kernel_rfl) rfl #[.slice Ao110 y109.length co110] rfl (by (try simp only [List.map_toArray, List.map_cons, List.map_nil]); first | done | rfl | (simp only [List.length_drop, List.length_take]; rfl)) ?_; (with_reducible refine (laws_svShort.calls k _ _ y109 false _ ?side1 ?side2 A3.out).mono ?_); (case side1 => repeat (first | exact (Kd.R_reads' HO111.out).2.2 | (with_reducible refine Kd.C_alloc ?_ _) | (with_reducible refine Kd.C_drewN ?_ _) | (with_reducible refine Kd.C_drew ?_))); (case side2 => exact (Kd.R_reads' HO111.out).2.1); rintro e w' ⟨rfl, ⟨nd, rfl⟩⟩; refine ⟨_, rfl, ?_⟩))
   go_ret
   exact ⟨by first | rfl | (simp [errW_none, errW_some] <;> rfl) | (simp [*, errW_none, errW_some] <;> rfl) | (simp [bneNil]; done), by repeat (first | (with_reducible first | exact HB.out | apply below_alloc | apply pw_below_drewN | apply below_drew1) | exact HB.out)⟩

end Go.Proofs.YtjgedenoaocfjaaGreatDoor.PX
namespace Go.Proofs.YtjgedenoaocfjaaGreatDoor.PX

open Go Go.RowKit Go.Lib Go.Proofs Go.Proofs.YtjgedenoaocfjaaGreatDoor Go.Proofs.YtjgedenoaocfjaaGreatDoor.L Go.Proofs.YtjgedenoaocfjaaGreatDoor.KX Go.Proofs.YtjgedenoaocfjaaGreatDoor.Rxw

open Go.Proofs.YtjgedenoaocfjaaGreatDoorW.PrintWords Go.Proofs.YtjgedenoaocfjaaGreatDoorW.PrintLast Go.Proofs.YtjgedenoaocfjaaGreatDoorW.PrintMore

theorem pure_LooseStrict (a0 : ByteArray) : ∃ k, laws_FnSemverLooseStrict.f k a0 = some true := by
  refine ⟨2, ?_⟩
  unfold laws_FnSemverLooseStrict.f
  by_cases h0 : (a0.size : Int) > 2147483647
  · rw [if_pos h0]
  rw [if_neg h0, short_f a0 0, Option.bind_some]
  by_cases h1' : ¬ a0.size ≤ 65536
  · rw [decide_eq_false h1']; rfl
  have h1 : a0.size ≤ 65536 := by omega
  rw [decide_eq_true h1, if_pos rfl]
  have hS : impl_StrictVersion.f a0 = some (match strictO (bl a0) with | some (a, b, c, p, m) => ((a : Int), (b : Int), (c : Int), p, m, true) | none => (0, 0, 0, ⟨#[]⟩, ⟨#[]⟩, false)) := by unfold impl_StrictVersion.f; rw [if_pos (by omega)] <;> rfl
  rw [hS, Option.bind_some]
  unfold spec_StrictVersion.f spec_grammar.f
  by_cases h2 : (a0.size : Int) > 256
  · rw [if_pos h2, Option.bind_some]
    have e : strictO (bl a0) = none := by
      unfold strictO strictL
      rw [if_neg (fun e => by have := bl_len a0; rw [e] at this; simp at this; omega), if_pos (by rw [bl_len]; omega)]
    rw [e]
    rfl
  rw [if_neg h2, if_pos (by omega), Option.bind_some, Option.bind_some]
  cases hg : (gramF (bl a0)).2.2.2.2.2 with
  | false =>
    have e : strictO (bl a0) = none := by
      unfold strictO
      cases hq : strictL (bl a0) with
      | error k => rfl
      | ok r =>
        obtain ⟨x, y, z, p, m⟩ := r
        rw [ver3_gram (strict_ver3 hq)] at hg
        cases hg
    rw [e]
    simp
  | true =>
    obtain ⟨x, y, z, p, m, hv⟩ := gram_ver3 hg
    have hl : (bl a0).length ≤ 256 := by rw [bl_len]; omega
    have e1 : strictO (bl a0) = some (x, y, z, ofL p, ofL m) := by unfold strictO; rw [ver3_strict hv hl]
    have hlen := ver3_len hv
    have e2 : impl_LooseVersion.f a0 = some ((x : Int), (y : Int), (z : Int), ofL p, ofL m, true) := by
      unfold impl_LooseVersion.f
      rw [if_pos ⟨by omega, ver3_ascii hv⟩, ver3_loose hv]
    have e3 : impl_LooseText.f a0 = some (a0, true) := by
      unfold impl_LooseText.f
      rw [if_pos ⟨by omega, ver3_ascii hv⟩, ver3_loose hv]
      dsimp only
      rw [if_pos (by omega), ver3_text hv, ofL_bl]
    rw [e1, e2, e3]
    simp

end Go.Proofs.YtjgedenoaocfjaaGreatDoor.PX
