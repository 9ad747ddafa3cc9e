/- The row and the tied card of FnSemverSetOriginal, out of its printed walk and its plain law. For every input that the statement lets in. -/
import Derived.Test.YtjgedenoaocfjaaGreatDoorZCardSemverSetOriginal0
import Derived.Test.YtjgedenoaocfjaaGreatDoorZCardSemverSetOriginal26
import Derived.Test.YtjgedenoaocfjaaGreatDoorZCardSemverSetOriginal28
import Derived.Deep.RegionHeld3
import Derived.RegionTactic
import Derived.Deep.RegionWith
import Derived.Deep.DeepCutAuto
namespace Go.Proofs.YtjgedenoaocfjaaGreatDoor.Base
end Go.Proofs.YtjgedenoaocfjaaGreatDoor.Base
namespace Go.Proofs.YtjgedenoaocfjaaGreatDoor.Bt
end Go.Proofs.YtjgedenoaocfjaaGreatDoor.Bt
namespace Go.Proofs.YtjgedenoaocfjaaGreatDoor.KX
end Go.Proofs.YtjgedenoaocfjaaGreatDoor.KX
namespace Go.Proofs.YtjgedenoaocfjaaGreatDoor.L
end Go.Proofs.YtjgedenoaocfjaaGreatDoor.L
namespace Go.Proofs.YtjgedenoaocfjaaGreatDoor.PX
end Go.Proofs.YtjgedenoaocfjaaGreatDoor.PX
namespace Go.Proofs.YtjgedenoaocfjaaGreatDoor.SemC
end Go.Proofs.YtjgedenoaocfjaaGreatDoor.SemC
namespace Go.Proofs.YtjgedenoaocfjaaGreatDoor.KX.SetPrerelease

open Go Go.RowKit Go.Lib Go.Sort Go.Proofs Go.Proofs.YtjgedenoaocfjaaGreatDoor Go.Proofs.YtjgedenoaocfjaaGreatDoor.Base Go.Proofs.YtjgedenoaocfjaaGreatDoor.L Go.Proofs.YtjgedenoaocfjaaGreatDoor.Bt Go.Proofs.YtjgedenoaocfjaaGreatDoor.PX Go.Proofs.YtjgedenoaocfjaaGreatDoor.KX Go.Proofs.YtjgedenoaocfjaaGreatDoor.SemC

open Go.Proofs.YtjgedenoaocfjaaGreatDoorW.PrintWords Go.Proofs.YtjgedenoaocfjaaGreatDoorW.PrintLast Go.Proofs.YtjgedenoaocfjaaGreatDoorW.PrintMore

attribute [local go_sem] setCell_drewN alloc_drewN

def SetRet (w : World) (a b c : Int) (p m o : ByteArray) (e : Ending) (w' : World) : Prop := e = .returned (.tuple #[.agg #[.int .u64 a, .int .u64 b, .int .u64 c, .string p, .string m, .string o], .nilIface]) ∧ Below w.heap.size w w'

structure S3 (w : World) (v z n : List Value) (wx : World) : Prop where
  v : Box wx w.heap.size v
  z : Box wx (w.heap.size + 1) z
  n : Box wx (w.heap.size + 1 + 1) n
  bel : Below w.heap.size w wx

theorem S3.below {w wx wy : World} {v z n : List Value} (h : S3 w v z n wx) (hb : Below wx.heap.size wx wy) : S3 w v z n wy := ⟨h.v.below hb, h.z.below hb, h.n.below hb, h.bel.trans (hb.mono h.bel.size)⟩

set_option maxHeartbeats 8000000 in
set_option maxRecDepth 100000 in
theorem setOk (a b c : Nat) (p m o q pf st : ByteArray) (hq : bl q = [] ∨ preOk (bl q) = true) (hqs : q.size ≤ 1000000) (hpf : semver_Version_originalVPrefix.f (a : Int) b c p m o = some pf) (hpz : pf.size ≤ 1)
  (hst : semver_Version_String.f (a : Int) b c q m o = some st) (hsz : st.size ≤ 1000000000) (w : World) (hp : Pow w) (hS : Sem w) :
  Calls Tryz.prog 37 #[.agg #[.int .u64 (a : Int), .int .u64 (b : Int), .int .u64 (c : Int), .string p, .string m, .string o], .string q] w (SetRet w a b c q m (pf ++ ⟨#[]⟩ ++ st)) := by
 have C1 := Lib.hid (fun W => semver_Version_originalVPrefix.calls (a : Int) b c p m o pf W hpf)
 have C2 := Lib.hid (fun W hW => semver_Version_String.calls (a : Int) b c q m o _ W hW hst)
 have hs1 : st.size ≤ 9223372036854775807 := by omega
 have hs0 : pf.size + 0 ≤ 9223372036854775807 := by omega
 have hs2 : (pf ++ (⟨#[]⟩ : ByteArray)).size + st.size ≤ 9223372036854775807 := by rw [ByteArray.size_append, show (⟨#[]⟩ : ByteArray).size = 0 from rfl]; omega
 have hs3 : pf.size + st.size ≤ 9223372036854775807 := by omega
 have HP := Lib.hid hp; have HS := Lib.hid hS; have HQ := Lib.hid hq; have HQS := Lib.hid hqs
 clear hp hS hq hqs hpf hst hsz hpz
 go_enter Tryz.func37, Tryz.ntmps37
 go_upto_if 11 with fail
 have hM : S3 w [.int .u64 (a : Int), .int .u64 (b : Int), .int .u64 (c : Int), .string p, .string m, .string o] [.int .u64 0, .int .u64 0, .int .u64 0, .string ⟨#[]⟩, .string ⟨#[]⟩, .string ⟨#[]⟩] [.int .u64 (a : Int), .int .u64 (b : Int), .int .u64 (c : Int), .string p, .string m, .string o]
   (((w.alloc (.cells #[.int .u64 (a : Int), .int .u64 (b : Int), .int .u64 (c : Int), .string p, .string m, .string o] 70)).alloc (.cells #[.int .u64 0, .int .u64 0, .int .u64 0, .string ⟨#[]⟩, .string ⟨#[]⟩, .string ⟨#[]⟩] 70)).alloc (.cells #[.int .u64 (a : Int), .int .u64 (b : Int), .int .u64 (c : Int), .string p, .string m, .string o] 70)) :=
  ⟨(Box.new' _ _ _ _ rfl).below (((Below.refl _ _).alloc (Nat.le_refl _) _).alloc (by simp) _), (Box.new' _ _ _ _ (by simp)).below ((Below.refl _ _).alloc (Nat.le_refl _) _), Box.new' _ _ _ _ (by simp), by go_grown⟩
 generalize World.alloc (World.alloc (World.alloc w _) _) _ = w0 at *
 have M0 := Lib.hid hM
 clear hM
 obtain ⟨qb, hqb⟩ : ∃ b, decide (0 < q.size) = b := ⟨_, rfl⟩
 rw [hqb]
 go_cut [] (fun wx => Hid (S3 w [.int .u64 (a : Int), .int .u64 (b : Int), .int .u64 (c : Int), .string p, .string m, .string o] [.int .u64 0, .int .u64 0, .int .u64 0, .string ⟨#[]⟩, .string ⟨#[]⟩, .string ⟨#[]⟩] [.int .u64 (a : Int), .int .u64 (b : Int), .int .u64 (c : Int), .string p, .string m, .string o] wx))
 case first =>
  cases qb with
  | false =>
   clear hqb
   go_wp2_with fail
   go_meet
   exact M0
  | true =>
   have h : preOk (bl q) = true := HQ.out.resolve_left (fun e => by have := of_decide_eq_true hqb; rw [← bl_len, e] at this; simp at this)
   have CV := Lib.hid fun W hW => pre_ok q (by have := HQS.out; omega) h W hW
   have HW := Lib.hid (HS.out.below M0.out.bel)
   clear h hqb
   go_wp2_with (go_at_call 59; (with_reducible refine (CV.out _ HW.out).mono ?_); rintro e wt ⟨rfl, hbt⟩; have hMt := M0.out.below hbt; have Mt := Lib.hid hMt; clear hMt hbt)
   go_meet
   exact Mt
 clear M0 HQ HQS qb hqb
 have hM1 := hcut.out
 have n3 := hM1.n.cell 3 _ rfl
 have f3 := hM1.n.free 3
 have M1 := Lib.hid hM1
 clear hM1 hcut
 go_upto_region 7 with fail
 have hM2 : S3 w [.int .u64 (a : Int), .int .u64 (b : Int), .int .u64 (c : Int), .string p, .string m, .string o] [.int .u64 0, .int .u64 0, .int .u64 0, .string ⟨#[]⟩, .string ⟨#[]⟩, .string ⟨#[]⟩] [.int .u64 (a : Int), .int .u64 (b : Int), .int .u64 (c : Int), .string q, .string m, .string o] (wc.setCell ⟨w.heap.size + 1 + 1, 3, none⟩ (.string q)) :=
  ⟨M1.out.v.far _ (by simp; omega) _, M1.out.z.far _ (by simp) _, M1.out.n.set 3 (by simp) _, M1.out.bel.setCell (by simp; omega) _⟩
 generalize World.setCell wc _ _ = w2 at *
 have M2 := Lib.hid hM2
 have HV0 := Aside0.mk hM2.v; have HN0 := Aside0.mk hM2.n; have HZ0 := Aside0.mk hM2.z; have HB0 := Aside0.mk hM2.bel; have HP0 := Aside0.mk (HP.out.below hM2.bel)
 have a0 := hM2.v.cell 0 _ rfl; have a1 := hM2.v.cell 1 _ rfl; have a2 := hM2.v.cell 2 _ rfl; have a3 := hM2.v.cell 3 _ rfl; have a4 := hM2.v.cell 4 _ rfl; have a5 := hM2.v.cell 5 _ rfl
 have n0 := hM2.n.cell 0 _ rfl; have n1 := hM2.n.cell 1 _ rfl; have n2 := hM2.n.cell 2 _ rfl; have n3 := hM2.n.cell 3 _ rfl; have n4 := hM2.n.cell 4 _ rfl; have n5 := hM2.n.cell 5 _ rfl
 clear hM2 M1 f3
 go_region_with (first
  | (go_at_call 67; (with_reducible refine (C1.out _).mono ?_); rintro e w1 ⟨rfl, hd1⟩; have hb1 := undrew hd1; clear hd1; have HV1 := Aside0.mk (HV0.out.below hb1); have HN1 := Aside0.mk (HN0.out.below hb1); have HZ1 := Aside0.mk (HZ0.out.below hb1); have HB1 := Aside0.mk (HB0.out.trans (hb1.mono HB0.out.size)); have HP1 := Aside0.mk (HP0.out.below hb1); clear hb1 a0 a1 a2 a3 a4 a5 n0 n1 n2 n3 n4 n5; have n0 := HN1.out.cell 0 _ rfl; have n1 := HN1.out.cell 1 _ rfl; have n2 := HN1.out.cell 2 _ rfl; have n3 := HN1.out.cell 3 _ rfl; have n4 := HN1.out.cell 4 _ rfl; have n5 := HN1.out.cell 5 _ rfl)
  | (go_at_call 32; (with_reducible refine (C2.out _ HP1.out).mono ?_); rintro e w2 ⟨rfl, hb2⟩; have HN2 := Aside0.mk (HN1.out.below hb2); have HZ2 := Aside0.mk (HZ1.out.below hb2); have HB2 := Aside0.mk (HB1.out.trans (hb2.mono HB1.out.size)); clear hb2; have f2 := HN2.out.free; have n5 := HN2.out.cell 5 _ rfl))
 all_goals
  generalize hW3 : World.setCell _ _ _ = w3
  have N3 : Box w3 (w.heap.size + 1 + 1) [.int .u64 (a : Int), .int .u64 (b : Int), .int .u64 (c : Int), .string q, .string m, .string (pf ++ ⟨#[]⟩ ++ st)] := by
   rw [← hW3]
   exact HN2.out.set 5 (by simp) _
  have Z3 : Box w3 (w.heap.size + 1) [.int .u64 0, .int .u64 0, .int .u64 0, .string ⟨#[]⟩, .string ⟨#[]⟩, .string ⟨#[]⟩] := by
   rw [← hW3]
   exact HZ2.out.far _ (by simp) _
  have B3 : Below w.heap.size w w3 := by
   rw [← hW3]
   exact HB2.out.setCell (by simp; omega) _
  clear hW3
  have HZ3 := Aside0.mk Z3
  have HB3 := Aside0.mk B3
  have m0 := N3.cell 0 _ rfl; have m1 := N3.cell 1 _ rfl; have m2 := N3.cell 2 _ rfl; have m3 := N3.cell 3 _ rfl; have m4 := N3.cell 4 _ rfl; have m5 := N3.cell 5 _ rfl
  have g0 := Z3.cell 0 _ rfl; have g1 := Z3.cell 1 _ rfl; have g2 := Z3.cell 2 _ rfl; have g3 := Z3.cell 3 _ rfl; have g4 := Z3.cell 4 _ rfl; have g5 := Z3.cell 5 _ rfl
  have fz := Z3.free; have hz := Z3.lt
  clear N3 Z3 B3
  go_wp2_with fail
  generalize hW4 : World.setCell _ _ _ = w4
  have Z4 : Box w4 (w.heap.size + 1) [.int .u64 (a : Int), .int .u64 (b : Int), .int .u64 (c : Int), .string q, .string m, .string (pf ++ ⟨#[]⟩ ++ st)] := by
   rw [← hW4]
   exact (((((HZ3.out.set 0 (by simp) _).set 1 (by simp) _).set 2 (by simp) _).set 3 (by simp) _).set 4 (by simp) _).set 5 (by simp) _
  have B4 : Below w.heap.size w w4 := by
   have hb := HB3.out
   have := hb.size
   rw [← hW4]
   exact (((((hb.setCell (by simp) _).setCell (by simp) _).setCell (by simp) _).setCell (by simp) _).setCell (by simp) _).setCell (by simp) _
  clear hW4
  have r0 := Z4.cell 0 _ rfl; have r1 := Z4.cell 1 _ rfl; have r2 := Z4.cell 2 _ rfl; have r3 := Z4.cell 3 _ rfl; have r4 := Z4.cell 4 _ rfl; have r5 := Z4.cell 5 _ rfl
  exact bodyPost_ret (v := .tuple #[.agg #[.int .u64 (a : Int), .int .u64 (b : Int), .int .u64 (c : Int), .string q, .string m, .string (pf ++ ⟨#[]⟩ ++ st)], .nilIface]) (by simp [results, Tryz.results37, go_sem, r0, r1, r2, r3, r4, r5]) rfl ⟨rfl, B4⟩

set_option maxHeartbeats 8000000 in
set_option maxRecDepth 100000 in
theorem setNo (a b c : Nat) (p m o q : ByteArray) (hne : bl q ≠ []) (hq : preOk (bl q) = false) (hqs : q.size ≤ 1000000) (w : World) (hS : Sem w) :
    Calls Tryz.prog 37 #[.agg #[.int .u64 (a : Int), .int .u64 (b : Int), .int .u64 (c : Int), .string p, .string m, .string o], .string q] w fun e w' => ∃ t v, e = .returned (.tuple #[.agg #[.int .u64 (a : Int), .int .u64 (b : Int), .int .u64 (c : Int), .string p, .string m, .string o], .iface t v]) ∧ Below w.heap.size w w' := by
  have CV := Lib.hid fun W hW => pre_no q (by omega) hq W hW
  have hqb : decide (0 < q.size) = true := decide_eq_true (by rcases Nat.eq_zero_or_pos q.size with h | h; (exact absurd (List.eq_nil_of_length_eq_zero (by rw [bl_len]; exact h)) hne); exact h)
  have HS := Lib.hid hS
  clear hq hqs hS hne
  go_enter Tryz.func37, Tryz.ntmps37
  go_upto_if 11 with fail
  have hM : S3 w [.int .u64 (a : Int), .int .u64 (b : Int), .int .u64 (c : Int), .string p, .string m, .string o] [.int .u64 0, .int .u64 0, .int .u64 0, .string ⟨#[]⟩, .string ⟨#[]⟩, .string ⟨#[]⟩] [.int .u64 (a : Int), .int .u64 (b : Int), .int .u64 (c : Int), .string p, .string m, .string o]
      (((w.alloc (.cells #[.int .u64 (a : Int), .int .u64 (b : Int), .int .u64 (c : Int), .string p, .string m, .string o] 70)).alloc (.cells #[.int .u64 0, .int .u64 0, .int .u64 0, .string ⟨#[]⟩, .string ⟨#[]⟩, .string ⟨#[]⟩] 70)).alloc (.cells #[.int .u64 (a : Int), .int .u64 (b : Int), .int .u64 (c : Int), .string p, .string m, .string o] 70)) :=
    ⟨(Box.new' _ _ _ _ rfl).below (((Below.refl _ _).alloc (Nat.le_refl _) _).alloc (by simp) _), (Box.new' _ _ _ _ (by simp)).below ((Below.refl _ _).alloc (Nat.le_refl _) _), Box.new' _ _ _ _ (by simp), by go_grown⟩
  generalize World.alloc (World.alloc (World.alloc w _) _) _ = w0 at *
  have M0 := Lib.hid hM
  have HW := Lib.hid (HS.out.below hM.bel)
  clear hM
  clear hqb
  go_upto_region 4 with (go_at_call 59; (with_reducible refine (CV.out _ HW.out).mono ?_); rintro e wt ⟨t1, p1, rfl, hbt⟩; have hMt := M0.out.below hbt; have Mt := Lib.hid hMt; clear hMt hbt)
  have hZ := Mt.out.z; have hN := Mt.out.n
  have m0 := hN.cell 0 _ rfl; have m1 := hN.cell 1 _ rfl; have m2 := hN.cell 2 _ rfl; have m3 := hN.cell 3 _ rfl; have m4 := hN.cell 4 _ rfl; have m5 := hN.cell 5 _ rfl
  have g0 := hZ.cell 0 _ rfl; have g1 := hZ.cell 1 _ rfl; have g2 := hZ.cell 2 _ rfl; have g3 := hZ.cell 3 _ rfl; have g4 := hZ.cell 4 _ rfl; have g5 := hZ.cell 5 _ rfl
  have fz := hZ.free; have hz := hZ.lt
  clear hZ hN
  go_wp2_with fail
  generalize hW4 : World.setCell _ _ _ = w4
  have Z4 : Box w4 (w.heap.size + 1) [.int .u64 (a : Int), .int .u64 (b : Int), .int .u64 (c : Int), .string p, .string m, .string o] := by
    rw [← hW4]
    exact (((((Mt.out.z.set 0 (by simp) _).set 1 (by simp) _).set 2 (by simp) _).set 3 (by simp) _).set 4 (by simp) _).set 5 (by simp) _
  have B4 : Below w.heap.size w w4 := by
    have hb := Mt.out.bel
    have := hb.size
    rw [← hW4]
    exact (((((hb.setCell (by simp) _).setCell (by simp) _).setCell (by simp) _).setCell (by simp) _).setCell (by simp) _).setCell (by simp) _
  clear hW4
  have r0 := Z4.cell 0 _ rfl; have r1 := Z4.cell 1 _ rfl; have r2 := Z4.cell 2 _ rfl; have r3 := Z4.cell 3 _ rfl; have r4 := Z4.cell 4 _ rfl; have r5 := Z4.cell 5 _ rfl
  exact bodyPost_ret (v := .tuple #[.agg #[.int .u64 (a : Int), .int .u64 (b : Int), .int .u64 (c : Int), .string p, .string m, .string o], .iface t1 p1]) (by simp [results, Tryz.results37, go_sem, r0, r1, r2, r3, r4, r5]) rfl ⟨t1, p1, rfl, B4⟩

end Go.Proofs.YtjgedenoaocfjaaGreatDoor.KX.SetPrerelease
namespace Go.Proofs.YtjgedenoaocfjaaGreatDoor.KX.SetMetadata

open Go Go.RowKit Go.Lib Go.Sort Go.Proofs Go.Proofs.YtjgedenoaocfjaaGreatDoor Go.Proofs.YtjgedenoaocfjaaGreatDoor.Base Go.Proofs.YtjgedenoaocfjaaGreatDoor.L Go.Proofs.YtjgedenoaocfjaaGreatDoor.Bt Go.Proofs.YtjgedenoaocfjaaGreatDoor.PX Go.Proofs.YtjgedenoaocfjaaGreatDoor.KX Go.Proofs.YtjgedenoaocfjaaGreatDoor.SemC

open Go.Proofs.YtjgedenoaocfjaaGreatDoorW.PrintWords Go.Proofs.YtjgedenoaocfjaaGreatDoorW.PrintLast Go.Proofs.YtjgedenoaocfjaaGreatDoorW.PrintMore

attribute [local go_sem] setCell_drewN alloc_drewN

def SetRet (w : World) (a b c : Int) (p m o : ByteArray) (e : Ending) (w' : World) : Prop := e = .returned (.tuple #[.agg #[.int .u64 a, .int .u64 b, .int .u64 c, .string p, .string m, .string o], .nilIface]) ∧ Below w.heap.size w w'

structure S3 (w : World) (v z n : List Value) (wx : World) : Prop where
  v : Box wx w.heap.size v
  z : Box wx (w.heap.size + 1) z
  n : Box wx (w.heap.size + 1 + 1) n
  bel : Below w.heap.size w wx

theorem S3.below {w wx wy : World} {v z n : List Value} (h : S3 w v z n wx) (hb : Below wx.heap.size wx wy) : S3 w v z n wy := ⟨h.v.below hb, h.z.below hb, h.n.below hb, h.bel.trans (hb.mono h.bel.size)⟩

set_option maxHeartbeats 8000000 in
set_option maxRecDepth 100000 in
theorem setOk (a b c : Nat) (p m o q pf st : ByteArray) (hq : bl q = [] ∨ metaOk (bl q) = true) (hqs : q.size ≤ 1000000) (hpf : semver_Version_originalVPrefix.f (a : Int) b c p m o = some pf) (hpz : pf.size ≤ 1)
  (hst : semver_Version_String.f (a : Int) b c p q o = some st) (hsz : st.size ≤ 1000000000) (w : World) (hp : Pow w) (hS : Sem w) :
  Calls Tryz.prog 38 #[.agg #[.int .u64 (a : Int), .int .u64 (b : Int), .int .u64 (c : Int), .string p, .string m, .string o], .string q] w (SetRet w a b c p q (pf ++ ⟨#[]⟩ ++ st)) := by
 have C1 := Lib.hid (fun W => semver_Version_originalVPrefix.calls (a : Int) b c p m o pf W hpf)
 have C2 := Lib.hid (fun W hW => semver_Version_String.calls (a : Int) b c p q o _ W hW hst)
 have hs1 : st.size ≤ 9223372036854775807 := by omega
 have hs0 : pf.size + 0 ≤ 9223372036854775807 := by omega
 have hs2 : (pf ++ (⟨#[]⟩ : ByteArray)).size + st.size ≤ 9223372036854775807 := by rw [ByteArray.size_append, show (⟨#[]⟩ : ByteArray).size = 0 from rfl]; omega
 have hs3 : pf.size + st.size ≤ 9223372036854775807 := by omega
 have HP := Lib.hid hp; have HS := Lib.hid hS; have HQ := Lib.hid hq; have HQS := Lib.hid hqs
 clear hp hS hq hqs hpf hst hsz hpz
 go_enter Tryz.func38, Tryz.ntmps38
 go_upto_if 11 with fail
 have hM : S3 w [.int .u64 (a : Int), .int .u64 (b : Int), .int .u64 (c : Int), .string p, .string m, .string o] [.int .u64 0, .int .u64 0, .int .u64 0, .string ⟨#[]⟩, .string ⟨#[]⟩, .string ⟨#[]⟩] [.int .u64 (a : Int), .int .u64 (b : Int), .int .u64 (c : Int), .string p, .string m, .string o]
   (((w.alloc (.cells #[.int .u64 (a : Int), .int .u64 (b : Int), .int .u64 (c : Int), .string p, .string m, .string o] 70)).alloc (.cells #[.int .u64 0, .int .u64 0, .int .u64 0, .string ⟨#[]⟩, .string ⟨#[]⟩, .string ⟨#[]⟩] 70)).alloc (.cells #[.int .u64 (a : Int), .int .u64 (b : Int), .int .u64 (c : Int), .string p, .string m, .string o] 70)) :=
  ⟨(Box.new' _ _ _ _ rfl).below (((Below.refl _ _).alloc (Nat.le_refl _) _).alloc (by simp) _), (Box.new' _ _ _ _ (by simp)).below ((Below.refl _ _).alloc (Nat.le_refl _) _), Box.new' _ _ _ _ (by simp), by go_grown⟩
 generalize World.alloc (World.alloc (World.alloc w _) _) _ = w0 at *
 have M0 := Lib.hid hM
 clear hM
 obtain ⟨qb, hqb⟩ : ∃ b, decide (0 < q.size) = b := ⟨_, rfl⟩
 rw [hqb]
 go_cut [] (fun wx => Hid (S3 w [.int .u64 (a : Int), .int .u64 (b : Int), .int .u64 (c : Int), .string p, .string m, .string o] [.int .u64 0, .int .u64 0, .int .u64 0, .string ⟨#[]⟩, .string ⟨#[]⟩, .string ⟨#[]⟩] [.int .u64 (a : Int), .int .u64 (b : Int), .int .u64 (c : Int), .string p, .string m, .string o] wx))
 case first =>
  cases qb with
  | false =>
   clear hqb
   go_wp2_with fail
   go_meet
   exact M0
  | true =>
   have h : metaOk (bl q) = true := HQ.out.resolve_left (fun e => by have := of_decide_eq_true hqb; rw [← bl_len, e] at this; simp at this)
   have CV := Lib.hid fun W hW => met_ok q (by have := HQS.out; omega) h W hW
   have HW := Lib.hid (HS.out.below M0.out.bel)
   clear h hqb
   go_wp2_with (go_at_call 58; (with_reducible refine (CV.out _ HW.out).mono ?_); rintro e wt ⟨rfl, hbt⟩; have hMt := M0.out.below hbt; have Mt := Lib.hid hMt; clear hMt hbt)
   go_meet
   exact Mt
 clear M0 HQ HQS qb hqb
 have hM1 := hcut.out
 have n3 := hM1.n.cell 4 _ rfl
 have f3 := hM1.n.free 4
 have M1 := Lib.hid hM1
 clear hM1 hcut
 go_upto_region 7 with fail
 have hM2 : S3 w [.int .u64 (a : Int), .int .u64 (b : Int), .int .u64 (c : Int), .string p, .string m, .string o] [.int .u64 0, .int .u64 0, .int .u64 0, .string ⟨#[]⟩, .string ⟨#[]⟩, .string ⟨#[]⟩] [.int .u64 (a : Int), .int .u64 (b : Int), .int .u64 (c : Int), .string p, .string q, .string o] (wc.setCell ⟨w.heap.size + 1 + 1, 4, none⟩ (.string q)) :=
  ⟨M1.out.v.far _ (by simp; omega) _, M1.out.z.far _ (by simp) _, M1.out.n.set 4 (by simp) _, M1.out.bel.setCell (by simp; omega) _⟩
 generalize World.setCell wc _ _ = w2 at *
 have M2 := Lib.hid hM2
 have HV0 := Aside0.mk hM2.v; have HN0 := Aside0.mk hM2.n; have HZ0 := Aside0.mk hM2.z; have HB0 := Aside0.mk hM2.bel; have HP0 := Aside0.mk (HP.out.below hM2.bel)
 have a0 := hM2.v.cell 0 _ rfl; have a1 := hM2.v.cell 1 _ rfl; have a2 := hM2.v.cell 2 _ rfl; have a3 := hM2.v.cell 3 _ rfl; have a4 := hM2.v.cell 4 _ rfl; have a5 := hM2.v.cell 5 _ rfl
 have n0 := hM2.n.cell 0 _ rfl; have n1 := hM2.n.cell 1 _ rfl; have n2 := hM2.n.cell 2 _ rfl; have n3 := hM2.n.cell 3 _ rfl; have n4 := hM2.n.cell 4 _ rfl; have n5 := hM2.n.cell 5 _ rfl
 clear hM2 M1 f3
 go_region_with (first
  | (go_at_call 67; (with_reducible refine (C1.out _).mono ?_); rintro e w1 ⟨rfl, hd1⟩; have hb1 := undrew hd1; clear hd1; have HV1 := Aside0.mk (HV0.out.below hb1); have HN1 := Aside0.mk (HN0.out.below hb1); have HZ1 := Aside0.mk (HZ0.out.below hb1); have HB1 := Aside0.mk (HB0.out.trans (hb1.mono HB0.out.size)); have HP1 := Aside0.mk (HP0.out.below hb1); clear hb1 a0 a1 a2 a3 a4 a5 n0 n1 n2 n3 n4 n5; have n0 := HN1.out.cell 0 _ rfl; have n1 := HN1.out.cell 1 _ rfl; have n2 := HN1.out.cell 2 _ rfl; have n3 := HN1.out.cell 3 _ rfl; have n4 := HN1.out.cell 4 _ rfl; have n5 := HN1.out.cell 5 _ rfl)
  | (go_at_call 32; (with_reducible refine (C2.out _ HP1.out).mono ?_); rintro e w2 ⟨rfl, hb2⟩; have HN2 := Aside0.mk (HN1.out.below hb2); have HZ2 := Aside0.mk (HZ1.out.below hb2); have HB2 := Aside0.mk (HB1.out.trans (hb2.mono HB1.out.size)); clear hb2; have f2 := HN2.out.free; have n5 := HN2.out.cell 5 _ rfl))
 all_goals
  generalize hW3 : World.setCell _ _ _ = w3
  have N3 : Box w3 (w.heap.size + 1 + 1) [.int .u64 (a : Int), .int .u64 (b : Int), .int .u64 (c : Int), .string p, .string q, .string (pf ++ ⟨#[]⟩ ++ st)] := by
   rw [← hW3]
   exact HN2.out.set 5 (by simp) _
  have Z3 : Box w3 (w.heap.size + 1) [.int .u64 0, .int .u64 0, .int .u64 0, .string ⟨#[]⟩, .string ⟨#[]⟩, .string ⟨#[]⟩] := by
   rw [← hW3]
   exact HZ2.out.far _ (by simp) _
  have B3 : Below w.heap.size w w3 := by
   rw [← hW3]
   exact HB2.out.setCell (by simp; omega) _
  clear hW3
  have HZ3 := Aside0.mk Z3
  have HB3 := Aside0.mk B3
  have m0 := N3.cell 0 _ rfl; have m1 := N3.cell 1 _ rfl; have m2 := N3.cell 2 _ rfl; have m3 := N3.cell 3 _ rfl; have m4 := N3.cell 4 _ rfl; have m5 := N3.cell 5 _ rfl
  have g0 := Z3.cell 0 _ rfl; have g1 := Z3.cell 1 _ rfl; have g2 := Z3.cell 2 _ rfl; have g3 := Z3.cell 3 _ rfl; have g4 := Z3.cell 4 _ rfl; have g5 := Z3.cell 5 _ rfl
  have fz := Z3.free; have hz := Z3.lt
  clear N3 Z3 B3
  go_wp2_with fail
  generalize hW4 : World.setCell _ _ _ = w4
  have Z4 : Box w4 (w.heap.size + 1) [.int .u64 (a : Int), .int .u64 (b : Int), .int .u64 (c : Int), .string p, .string q, .string (pf ++ ⟨#[]⟩ ++ st)] := by
   rw [← hW4]
   exact (((((HZ3.out.set 0 (by simp) _).set 1 (by simp) _).set 2 (by simp) _).set 3 (by simp) _).set 4 (by simp) _).set 5 (by simp) _
  have B4 : Below w.heap.size w w4 := by
   have hb := HB3.out
   have := hb.size
   rw [← hW4]
   exact (((((hb.setCell (by simp) _).setCell (by simp) _).setCell (by simp) _).setCell (by simp) _).setCell (by simp) _).setCell (by simp) _
  clear hW4
  have r0 := Z4.cell 0 _ rfl; have r1 := Z4.cell 1 _ rfl; have r2 := Z4.cell 2 _ rfl; have r3 := Z4.cell 3 _ rfl; have r4 := Z4.cell 4 _ rfl; have r5 := Z4.cell 5 _ rfl
  exact bodyPost_ret (v := .tuple #[.agg #[.int .u64 (a : Int), .int .u64 (b : Int), .int .u64 (c : Int), .string p, .string q, .string (pf ++ ⟨#[]⟩ ++ st)], .nilIface]) (by simp [results, Tryz.results38, go_sem, r0, r1, r2, r3, r4, r5]) rfl ⟨rfl, B4⟩

set_option maxHeartbeats 8000000 in
set_option maxRecDepth 100000 in
theorem setNo (a b c : Nat) (p m o q : ByteArray) (hne : bl q ≠ []) (hq : metaOk (bl q) = false) (hqs : q.size ≤ 1000000) (w : World) (hS : Sem w) :
    Calls Tryz.prog 38 #[.agg #[.int .u64 (a : Int), .int .u64 (b : Int), .int .u64 (c : Int), .string p, .string m, .string o], .string q] w fun e w' => ∃ t v, e = .returned (.tuple #[.agg #[.int .u64 (a : Int), .int .u64 (b : Int), .int .u64 (c : Int), .string p, .string m, .string o], .iface t v]) ∧ Below w.heap.size w w' := by
  have CV := Lib.hid fun W hW => met_no q (by omega) hq W hW
  have hqb : decide (0 < q.size) = true := decide_eq_true (by rcases Nat.eq_zero_or_pos q.size with h | h; (exact absurd (List.eq_nil_of_length_eq_zero (by rw [bl_len]; exact h)) hne); exact h)
  have HS := Lib.hid hS
  clear hq hqs hS hne
  go_enter Tryz.func38, Tryz.ntmps38
  go_upto_if 11 with fail
  have hM : S3 w [.int .u64 (a : Int), .int .u64 (b : Int), .int .u64 (c : Int), .string p, .string m, .string o] [.int .u64 0, .int .u64 0, .int .u64 0, .string ⟨#[]⟩, .string ⟨#[]⟩, .string ⟨#[]⟩] [.int .u64 (a : Int), .int .u64 (b : Int), .int .u64 (c : Int), .string p, .string m, .string o]
      (((w.alloc (.cells #[.int .u64 (a : Int), .int .u64 (b : Int), .int .u64 (c : Int), .string p, .string m, .string o] 70)).alloc (.cells #[.int .u64 0, .int .u64 0, .int .u64 0, .string ⟨#[]⟩, .string ⟨#[]⟩, .string ⟨#[]⟩] 70)).alloc (.cells #[.int .u64 (a : Int), .int .u64 (b : Int), .int .u64 (c : Int), .string p, .string m, .string o] 70)) :=
    ⟨(Box.new' _ _ _ _ rfl).below (((Below.refl _ _).alloc (Nat.le_refl _) _).alloc (by simp) _), (Box.new' _ _ _ _ (by simp)).below ((Below.refl _ _).alloc (Nat.le_refl _) _), Box.new' _ _ _ _ (by simp), by go_grown⟩
  generalize World.alloc (World.alloc (World.alloc w _) _) _ = w0 at *
  have M0 := Lib.hid hM
  have HW := Lib.hid (HS.out.below hM.bel)
  clear hM
  clear hqb
  go_upto_region 4 with (go_at_call 58; (with_reducible refine (CV.out _ HW.out).mono ?_); rintro e wt ⟨t1, p1, rfl, hbt⟩; have hMt := M0.out.below hbt; have Mt := Lib.hid hMt; clear hMt hbt)
  have hZ := Mt.out.z; have hN := Mt.out.n
  have m0 := hN.cell 0 _ rfl; have m1 := hN.cell 1 _ rfl; have m2 := hN.cell 2 _ rfl; have m3 := hN.cell 3 _ rfl; have m4 := hN.cell 4 _ rfl; have m5 := hN.cell 5 _ rfl
  have g0 := hZ.cell 0 _ rfl; have g1 := hZ.cell 1 _ rfl; have g2 := hZ.cell 2 _ rfl; have g3 := hZ.cell 3 _ rfl; have g4 := hZ.cell 4 _ rfl; have g5 := hZ.cell 5 _ rfl
  have fz := hZ.free; have hz := hZ.lt
  clear hZ hN
  go_wp2_with fail
  generalize hW4 : World.setCell _ _ _ = w4
  have Z4 : Box w4 (w.heap.size + 1) [.int .u64 (a : Int), .int .u64 (b : Int), .int .u64 (c : Int), .string p, .string m, .string o] := by
    rw [← hW4]
    exact (((((Mt.out.z.set 0 (by simp) _).set 1 (by simp) _).set 2 (by simp) _).set 3 (by simp) _).set 4 (by simp) _).set 5 (by simp) _
  have B4 : Below w.heap.size w w4 := by
    have hb := Mt.out.bel
    have := hb.size
    rw [← hW4]
    exact (((((hb.setCell (by simp) _).setCell (by simp) _).setCell (by simp) _).setCell (by simp) _).setCell (by simp) _).setCell (by simp) _
  clear hW4
  have r0 := Z4.cell 0 _ rfl; have r1 := Z4.cell 1 _ rfl; have r2 := Z4.cell 2 _ rfl; have r3 := Z4.cell 3 _ rfl; have r4 := Z4.cell 4 _ rfl; have r5 := Z4.cell 5 _ rfl
  exact bodyPost_ret (v := .tuple #[.agg #[.int .u64 (a : Int), .int .u64 (b : Int), .int .u64 (c : Int), .string p, .string m, .string o], .iface t1 p1]) (by simp [results, Tryz.results38, go_sem, r0, r1, r2, r3, r4, r5]) rfl ⟨t1, p1, rfl, B4⟩

end Go.Proofs.YtjgedenoaocfjaaGreatDoor.KX.SetMetadata
