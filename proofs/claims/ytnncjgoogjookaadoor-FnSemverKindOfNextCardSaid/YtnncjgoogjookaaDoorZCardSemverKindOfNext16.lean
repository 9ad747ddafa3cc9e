/- The row and the tied card of FnSemverKindOfNext, out of its printed walk and its plain law. For every input that the statement lets in. -/
import Derived.Test.YtnncjgoogjookaaDoorZCardSemverKindOfNext7
import Derived.Test.YtnncjgoogjookaaDoorZCardSemverKindOfNext15
namespace Go.Proofs.YtnncjgoogjookaaDoor.Ascii
end Go.Proofs.YtnncjgoogjookaaDoor.Ascii
namespace Go.Proofs.YtnncjgoogjookaaDoor.Base
end Go.Proofs.YtnncjgoogjookaaDoor.Base
namespace Go.Proofs.YtnncjgoogjookaaDoor.PX
end Go.Proofs.YtnncjgoogjookaaDoor.PX
namespace Go.Proofs.YtnncjgoogjookaaDoor.MetaX

open Go.RowKit Go.Lib Go.Proofs Go.Proofs.YtnncjgoogjookaaDoor.Ascii Go.Proofs.YtnncjgoogjookaaDoor.Base Go.Proofs.YtnncjgoogjookaaDoor.PX

open Go.Proofs.YtnncjgoogjookaaDoorW.PrintWords Go.Proofs.YtnncjgoogjookaaDoorW.PrintLast Go.Proofs.YtnncjgoogjookaaDoorW.PrintMore

def dot : ByteArray := ⟨#[46]⟩

def digits : ByteArray := ⟨#[48, 49, 50, 51, 52, 53, 54, 55, 56, 57]⟩

def allowed : ByteArray := ⟨#[97, 98, 99, 100, 101, 102, 103, 104, 105, 106, 107, 108, 109, 110, 111, 112, 113, 114, 115, 116, 117, 118, 119, 120, 121, 122, 65, 66, 67, 68, 69, 70, 71, 72, 73, 74, 75, 76, 77, 78, 79, 80, 81, 82, 83, 84, 85, 86, 87, 88, 89, 90, 45, 48, 49, 50, 51, 52, 53, 54, 55, 56, 57]⟩

/-- Is a part good as metadata? -/
def metaPart (p : ByteArray) : Bool := !(p.toList == []) && only p allowed

def metaVal (te : TypeId) (pe : Value) (L : List ByteArray) : Value := if L.all metaPart = true then .nilIface else .iface te pe

theorem rd_get (L : List ByteArray) (i : Nat) (h : i < L.length) : rdOf ByteArray.empty L (i : Int) = L[i] := by
  unfold rdOf
  rw [Int.toNat_natCast, List.getD_eq_getElem?_getD, List.getElem?_eq_getElem h]; rfl

theorem all_step (P : ByteArray → Bool) (L : List ByteArray) (i : Nat) (h : i < L.length) : (L.drop i).all P = (P L[i] && (L.drop (i + 1)).all P) := by
  rw [List.drop_eq_getElem_cons h, List.all_cons]

set_option maxHeartbeats 4000000 in
set_option maxRecDepth 100000 in
theorem validateMetadata (k : Nat) (s : ByteArray) (L : List ByteArray) (h : semver_zzSplit.f k s dot = some L) (hL : L.length ≤ 1000000000000) (te : TypeId) (pe : Value) (w : World)
    (hv : w.cell? ⟨6, 0, none⟩ = some (.iface te pe)) (hg : 6 < w.heap.size) :
    Calls Tryd.prog 18 #[.string s] w fun e w' => e = .returned (metaVal te pe L) ∧ Below w.heap.size w w' := by
  have C := Lib.hid (semver_zzSplit.calls k s dot L w h)
  have HV := Aside0.mk hv
  have HG := Aside0.mk hg
  clear h hv hg
  obtain ⟨V, hV⟩ : ∃ V, metaVal te pe L = V := ⟨_, rfl⟩
  have HV0 := Lib.hid hV
  rw [hV]
  clear hV
  go_enter Tryd.func18, Tryd.ntmps18
  go_wp2_with fail
  refine C.out.mono ?_
  rintro e w1 ⟨v1, rfl, ho, hb⟩
  obtain ⟨A1, c1, e1⟩ := Kd.R_slice ho
  subst e1
  have HO := Aside0.mk ho
  have HB := Aside0.mk hb
  clear ho hb
  go_wp2_with fail
  go_loopw [10] (fun v w' => ∃ i : Nat, v = .int .i64 (i : Int) ∧ i ≤ L.length ∧ Aside0 ((L.drop i).all metaPart = L.all metaPart) ∧ Aside0 (Kd.R Kd.string 9 w' w.heap.size (fun _ => True) (.slice A1 L.length c1) L) ∧ Aside0 (Below w.heap.size w w')) (fun v _ => L.length - (intOf v).toNat)
  case atStart => exact ⟨0, rfl, Nat.zero_le _, ⟨by simp⟩, HO, HB⟩
  case round =>
    obtain ⟨i, rfl, hi, HA, HO2, HB2⟩ := hrel
    clear HO HB
    have hv2 : wr.cell? ⟨6, 0, none⟩ = some (.iface te pe) := (HB2.out.cell (p := ⟨6, 0, none⟩) HG.out).trans HV.out
    have hg2 : 6 < wr.heap.size := Nat.lt_of_lt_of_le HG.out HB2.out.size
    by_cases hlt : i < L.length
    · have hst := all_step metaPart L i hlt
      have b0 : decide ((i : Int) < (L.length : Int)) = true := decide_eq_true (by omega)
      have b0' : decide (i < L.length) = true := decide_eq_true hlt
      have p1 : 0 ≤ (i : Int) := by omega
      have q1 : (i : Int) < (L.length : Int) := by omega
      obtain ⟨ad, e1, hx⟩ := Kd.at_string (Kd.R_reads' HO2.out).2.2 (i : Int) p1 q1
      cases e1
      rw [rd_get L i hlt, Int.toNat_natCast] at hx
      generalize L[i] = p at *
      have HS := Lib.hid hst
      clear hst
      by_cases he : p.toList = []
      · have be : (p.toList == []) = true := beq_iff_eq.2 he
        have HV1 : Hid (V = .iface te pe) := Lib.hid (by rw [← HV0.out]; unfold metaVal; rw [← HA.out, HS.out, if_neg]; simp [metaPart, be])
        clear he
        go_wp2
        go_ret
        exact ⟨by rw [HV1.out] <;> rfl, HB2.out⟩
      · have be : (p.toList == []) = false := beq_eq_false_iff_ne.2 he
        cases ho : only p allowed
        · have CO := Lib.hid (fun W => Only.containsOnly p allowed W)
          rw [ho] at CO
          have HV1 : Hid (V = .iface te pe) := Lib.hid (by rw [← HV0.out]; unfold metaVal; rw [← HA.out, HS.out, if_neg]; simp [metaPart, be, ho])
          clear he ho
          go_wp2_with fail
          refine (CO.out _).mono ?_
          rintro e w2 ⟨rfl, hb2⟩
          have hv3 : w2.cell? ⟨6, 0, none⟩ = some (.iface te pe) := (hb2.cell (p := ⟨6, 0, none⟩) hg2).trans hv2
          go_wp2
          go_ret
          exact ⟨by rw [HV1.out] <;> rfl, HB2.out.trans (hb2.mono HB2.out.size)⟩
        · have CO := Lib.hid (fun W => Only.containsOnly p allowed W)
          rw [ho] at CO
          have HA2 : Aside0 ((L.drop (i + 1)).all metaPart = L.all metaPart) := ⟨by rw [← HA.out, HS.out]; simp [metaPart, be, ho]⟩
          clear he ho
          go_wp2_with fail
          refine (CO.out _).mono ?_
          rintro e w2 ⟨rfl, hb2⟩
          have HO3 := Aside0.mk (Kd.R_below HO2.out hb2)
          have HB3 := Aside0.mk (HB2.out.trans (hb2.mono HB2.out.size))
          clear HO2 HB2 HA hb2
          go_wp2
          go_roundw
          case rel => exact ⟨i + 1, by go_num, by omega, HA2, HO3, HB3⟩
          case measure => simp [intOf]; omega
    · have b0 : decide ((i : Int) < (L.length : Int)) = false := decide_eq_false (by omega)
      have b0' : decide (i < L.length) = false := decide_eq_false hlt
      have HV1 : Hid (V = .nilIface) := Lib.hid (by rw [← HV0.out]; unfold metaVal; rw [← HA.out, if_pos]; rw [List.drop_of_length_le (by omega)]; rfl)
      go_wp2
      go_ret
      exact ⟨by rw [HV1.out] <;> rfl, HB2.out⟩

end Go.Proofs.YtnncjgoogjookaaDoor.MetaX
namespace Go.Proofs.YtnncjgoogjookaaDoor.MetaX

open Go.RowKit Go.Lib Go.Proofs Go.Proofs.YtnncjgoogjookaaDoor.Ascii Go.Proofs.YtnncjgoogjookaaDoor.Base Go.Proofs.YtnncjgoogjookaaDoor.PX

open Go.Proofs.YtnncjgoogjookaaDoorW.PrintWords Go.Proofs.YtnncjgoogjookaaDoorW.PrintLast Go.Proofs.YtnncjgoogjookaaDoorW.PrintMore

/-- Two bytes or more, the first of them a zero. -/
def lead (p : ByteArray) : Bool := decide (1 < p.size) && (p.data.toList.headD 0 == 48)

/-- What is wrong with a part: 0 nothing, 1 ErrInvalidPrerelease, 2 ErrSegmentStartsZero. -/
def preKind (p : ByteArray) : Nat := if p.toList = [] then 1 else if only p digits = true then (if lead p = true then 2 else 0) else if only p allowed = true then 0 else 1

def preErr : List ByteArray → Nat
  | [] => 0
  | p :: t => if preKind p = 0 then preErr t else preKind p

def preVal (t1 : TypeId) (p1 : Value) (t2 : TypeId) (p2 : Value) (n : Nat) : Value := if n = 0 then .nilIface else if n = 1 then .iface t1 p1 else .iface t2 p2

theorem preErr_step (L : List ByteArray) (i : Nat) (h : i < L.length) : preErr (L.drop i) = if preKind L[i] = 0 then preErr (L.drop (i + 1)) else preKind L[i] := by
  rw [List.drop_eq_getElem_cons h]; rfl

set_option maxHeartbeats 8000000 in
set_option maxRecDepth 100000 in
theorem validatePrerelease (k : Nat) (s : ByteArray) (L : List ByteArray) (h : semver_zzSplit.f k s dot = some L) (hL : L.length ≤ 1000000000000) (t1 t2 : TypeId) (p1 p2 : Value) (w : World)
  (hv : w.cell? ⟨5, 0, none⟩ = some (.iface t1 p1)) (hg : 5 < w.heap.size)
  (hu : w.cell? ⟨4, 0, none⟩ = some (.iface t2 p2)) (hf : 4 < w.heap.size) :
  Calls Tryd.prog 19 #[.string s] w fun e w' => e = .returned (preVal t1 p1 t2 p2 (preErr L)) ∧ Below w.heap.size w w' := by
 have C := Lib.hid (semver_zzSplit.calls k s dot L w h)
 have HV := Aside0.mk hv
 have HG := Aside0.mk hg
 have HU := Aside0.mk hu
 have HF := Aside0.mk hf
 clear h hv hg hu hf
 obtain ⟨V, hV⟩ : ∃ V, preVal t1 p1 t2 p2 (preErr L) = V := ⟨_, rfl⟩
 have HV0 := Lib.hid hV
 rw [hV]
 clear hV
 go_enter Tryd.func19, Tryd.ntmps19
 go_wp2_with fail
 refine C.out.mono ?_
 rintro e w1 ⟨v1, rfl, ho, hb⟩
 obtain ⟨A1, c1, e1⟩ := Kd.R_slice ho
 subst e1
 have HO := Aside0.mk ho
 have HB := Aside0.mk hb
 clear ho hb
 go_wp2_with fail
 go_loopw [10] (fun v w' => ∃ i : Nat, v = .int .i64 (i : Int) ∧ i ≤ L.length ∧ Aside0 (preErr (L.drop i) = preErr L) ∧ Aside0 (Kd.R Kd.string 9 w' w.heap.size (fun _ => True) (.slice A1 L.length c1) L) ∧ Aside0 (Below w.heap.size w w')) (fun v _ => L.length - (intOf v).toNat)
 case atStart => exact ⟨0, rfl, Nat.zero_le _, ⟨by simp⟩, HO, HB⟩
 case round =>
  obtain ⟨i, rfl, hi, HA, HO2, HB2⟩ := hrel
  clear HO HB
  have hv2 : wr.cell? ⟨5, 0, none⟩ = some (.iface t1 p1) := (HB2.out.cell (p := ⟨5, 0, none⟩) HG.out).trans HV.out
  have hg2 : 5 < wr.heap.size := Nat.lt_of_lt_of_le HG.out HB2.out.size
  have hu2 : wr.cell? ⟨4, 0, none⟩ = some (.iface t2 p2) := (HB2.out.cell (p := ⟨4, 0, none⟩) HF.out).trans HU.out
  have hf2 : 4 < wr.heap.size := Nat.lt_of_lt_of_le HF.out HB2.out.size
  by_cases hlt : i < L.length
  ·
   have hst := preErr_step L i hlt
   have b0 : decide ((i : Int) < (L.length : Int)) = true := decide_eq_true (by omega)
   have b0' : decide (i < L.length) = true := decide_eq_true hlt
   have p1_ : 0 ≤ (i : Int) := by omega
   have q1_ : (i : Int) < (L.length : Int) := by omega
   obtain ⟨ad, e1, hx⟩ := Kd.at_string (Kd.R_reads' HO2.out).2.2 (i : Int) p1_ q1_
   cases e1
   rw [rd_get L i hlt, Int.toNat_natCast] at hx
   generalize L[i] = p at *
   have HS := Lib.hid hst
   clear hst
   by_cases he : p.toList = []
   ·
    have be : (p.toList == []) = true := beq_iff_eq.2 he
    have HV1 : Hid (V = .iface t1 p1) := Lib.hid (by rw [← HV0.out, ← HA.out, HS.out]; simp [preKind, he, preVal])
    clear he
    go_wp2
    go_ret
    exact ⟨by rw [HV1.out] <;> rfl, HB2.out⟩
   ·
    have be : (p.toList == []) = false := beq_eq_false_iff_ne.2 he
    cases hn : only p digits
    ·
     cases ho : only p allowed
     ·
      have CN := Lib.hid (fun W => Only.containsOnly p digits W)
      have CO := Lib.hid (fun W => Only.containsOnly p allowed W)
      rw [hn] at CN
      rw [ho] at CO
      have HV1 : Hid (V = .iface t1 p1) := Lib.hid (by rw [← HV0.out, ← HA.out, HS.out]; simp [preKind, he, preVal, hn, ho])
      clear he hn ho
      go_wp2_with fail
      refine (CN.out _).mono ?_
      rintro e w2 ⟨rfl, hb2⟩
      have hg3 : 5 < w2.heap.size := Nat.lt_of_lt_of_le hg2 hb2.size
      have hv3 : w2.cell? ⟨5, 0, none⟩ = some (.iface t1 p1) := (hb2.cell (p := ⟨5, 0, none⟩) hg2).trans hv2
      go_wp2_with fail
      refine (CO.out _).mono ?_
      rintro e w3 ⟨rfl, hb3⟩
      have hv4 : w3.cell? ⟨5, 0, none⟩ = some (.iface t1 p1) := (hb3.cell (p := ⟨5, 0, none⟩) hg3).trans hv3
      go_wp2
      go_ret
      exact ⟨by rw [HV1.out] <;> rfl, (HB2.out.trans (hb2.mono HB2.out.size)).trans (hb3.mono (Nat.le_trans HB2.out.size hb2.size))⟩
     ·
      have CN := Lib.hid (fun W => Only.containsOnly p digits W)
      have CO := Lib.hid (fun W => Only.containsOnly p allowed W)
      rw [hn] at CN
      rw [ho] at CO
      have HA2 : Aside0 (preErr (L.drop (i + 1)) = preErr L) := ⟨by rw [← HA.out, HS.out]; simp [preKind, he, hn, ho]⟩
      clear he hn ho
      go_wp2_with fail
      refine (CN.out _).mono ?_
      rintro e w2 ⟨rfl, hb2⟩
      have HO3 := Aside0.mk (Kd.R_below HO2.out hb2)
      have HB3 := Aside0.mk (HB2.out.trans (hb2.mono HB2.out.size))
      clear HO2 HB2 HA hb2
      go_wp2_with fail
      refine (CO.out _).mono ?_
      rintro e w3 ⟨rfl, hb3⟩
      have HO4 := Aside0.mk (Kd.R_below HO3.out hb3)
      have HB4 := Aside0.mk (HB3.out.trans (hb3.mono HB3.out.size))
      clear HO3 HB3 hb3
      go_wp2
      go_roundw
      case rel => exact ⟨i + 1, by go_num, by omega, HA2, HO4, HB4⟩
      case measure => simp [intOf]; omega
    ·
     have CN := Lib.hid (fun W => Only.containsOnly p digits W)
     rw [hn] at CN
     cases hl : lead p
     ·
      have HA2 : Aside0 (preErr (L.drop (i + 1)) = preErr L) := ⟨by rw [← HA.out, HS.out]; simp [preKind, he, hn, hl]⟩
      by_cases h1 : 1 < p.size
      ·
       have b1 : decide (1 < (p.size : Int)) = true := decide_eq_true (by omega)
       have b1' : decide (1 < p.size) = true := decide_eq_true h1
       have b2 : (((p.data.toList.headD 0).toNat : Int) == 48) = false := by
        have hx0 : (p.data.toList.headD 0 == 48) = false := by unfold lead at hl; rw [b1', Bool.true_and] at hl; exact hl
        rw [beq_eq_false_iff_ne] at hx0 ⊢
        intro e; apply hx0; apply UInt8.toNat_inj.1
        show _ = 48; omega
       have hh : p.data.toList.headD 0 = p[0] := by
        have : p.data.toList = p[0] :: p.data.toList.drop 1 := by
         have h2 : 0 < p.data.toList.length := by simpa using (by omega : 0 < p.size)
         have := List.drop_eq_getElem_cons h2
         rw [List.drop_zero] at this
         exact this
        rw [this]; rfl
       rw [hh] at b2
       clear he hn hl hh
       go_wp2_with fail
       refine (CN.out _).mono ?_
       rintro e w2 ⟨rfl, hb2⟩
       have HO3 := Aside0.mk (Kd.R_below HO2.out hb2)
       have HB3 := Aside0.mk (HB2.out.trans (hb2.mono HB2.out.size))
       clear HO2 HB2 HA hb2
       go_wp2
       go_roundw
       case rel => exact ⟨i + 1, by go_num, by omega, HA2, HO3, HB3⟩
       case measure => simp [intOf]; omega
      ·
       have b1 : decide (1 < (p.size : Int)) = false := decide_eq_false (by omega)
       have b1' : decide (1 < p.size) = false := decide_eq_false h1
       clear he hn hl h1
       go_wp2_with fail
       refine (CN.out _).mono ?_
       rintro e w2 ⟨rfl, hb2⟩
       have HO3 := Aside0.mk (Kd.R_below HO2.out hb2)
       have HB3 := Aside0.mk (HB2.out.trans (hb2.mono HB2.out.size))
       clear HO2 HB2 HA hb2
       go_wp2
       go_roundw
       case rel => exact ⟨i + 1, by go_num, by omega, HA2, HO3, HB3⟩
       case measure => simp [intOf]; omega
     ·
      have HV1 : Hid (V = .iface t2 p2) := Lib.hid (by rw [← HV0.out, ← HA.out, HS.out]; simp [preKind, he, preVal, hn, hl])
      have h1 : 1 < p.size := by unfold lead at hl; rw [Bool.and_eq_true, decide_eq_true_eq] at hl; exact hl.1
      have b1 : decide (1 < (p.size : Int)) = true := decide_eq_true (by omega)
      have b1' : decide (1 < p.size) = true := decide_eq_true h1
      have b2 : (((p.data.toList.headD 0).toNat : Int) == 48) = true := by
       have hx0 : (p.data.toList.headD 0 == 48) = true := by unfold lead at hl; rw [b1', Bool.true_and] at hl; exact hl
       rw [beq_iff_eq] at hx0 ⊢
       rw [hx0]; rfl
      have hh : p.data.toList.headD 0 = p[0] := by
       have : p.data.toList = p[0] :: p.data.toList.drop 1 := by
        have h2 : 0 < p.data.toList.length := by simpa using (by omega : 0 < p.size)
        have := List.drop_eq_getElem_cons h2
        rw [List.drop_zero] at this
        exact this
       rw [this]; rfl
      rw [hh] at b2
      clear he hn hl hh
      go_wp2_with fail
      refine (CN.out _).mono ?_
      rintro e w2 ⟨rfl, hb2⟩
      have hu3 : w2.cell? ⟨4, 0, none⟩ = some (.iface t2 p2) := (hb2.cell (p := ⟨4, 0, none⟩) hf2).trans hu2
      go_wp2
      go_ret
      exact ⟨by rw [HV1.out] <;> rfl, HB2.out.trans (hb2.mono HB2.out.size)⟩
  ·
   have b0 : decide ((i : Int) < (L.length : Int)) = false := decide_eq_false (by omega)
   have b0' : decide (i < L.length) = false := decide_eq_false hlt
   have HV1 : Hid (V = .nilIface) := Lib.hid (by rw [← HV0.out, ← HA.out, List.drop_of_length_le (by omega)]; rfl)
   go_wp2
   go_ret
   exact ⟨by rw [HV1.out] <;> rfl, HB2.out⟩

end Go.Proofs.YtnncjgoogjookaaDoor.MetaX
