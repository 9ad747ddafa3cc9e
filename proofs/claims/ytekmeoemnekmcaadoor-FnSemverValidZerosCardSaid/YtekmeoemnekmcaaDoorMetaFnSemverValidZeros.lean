/- semver.validateMetadata and validatePrerelease, out of the parts at the dots. For every string whose parts are told. -/
import Derived.Test.YtekmeoemnekmcaaDoorOnly
import Derived.Test.YtekmeoemnekmcaaDoorQFnSemverValidZerosx1
namespace Go.Proofs.YtekmeoemnekmcaaDoor.MetaFnSemverValidZeros
open Go.RowKit Go.Lib Go.Proofs Go.Proofs.YtekmeoemnekmcaaDoor.Ascii Go.Proofs.YtekmeoemnekmcaaDoor.Base Go.Proofs.YtekmeoemnekmcaaDoor.PFnSemverValidZeros
open Go.Proofs.YtekmeoemnekmcaaDoorW.PrintWords Go.Proofs.YtekmeoemnekmcaaDoorW.PrintLast Go.Proofs.YtekmeoemnekmcaaDoorW.PrintMore

def dot : ByteArray := ⟨#[46]⟩
def digits : ByteArray := ⟨#[48, 49, 50, 51, 52, 53, 54, 55, 56, 57]⟩
def allowed : ByteArray := ⟨#[97, 98, 99, 100, 101, 102, 103, 104, 105, 106, 107, 108, 109, 110, 111, 112, 113, 114, 115, 116, 117, 118, 119, 120, 121, 122, 65, 66, 67, 68, 69, 70, 71, 72, 73, 74, 75, 76, 77, 78, 79, 80, 81, 82, 83, 84, 85, 86, 87, 88, 89, 90, 45, 48, 49, 50, 51, 52, 53, 54, 55, 56, 57]⟩
/-- Is a part good as metadata? -/
def metaPart (p : ByteArray) : Bool := !(p.toList == []) && only p allowed
def metaVal (te : TypeId) (pe : Value) (L : List ByteArray) : Value := if L.all metaPart = true then .nilIface else .iface te pe

theorem rd_get (L : List ByteArray) (i : Nat) (h : i < L.length) : rdOf ByteArray.empty L (i : Int) = L[i] := by
  unfold rdOf
  rw [Int.toNat_natCast, List.getD_eq_getElem?_getD, List.getElem?_eq_getElem h]; rfl
theorem all_step (P : ByteArray → Bool) (L : List ByteArray) (i : Nat) (h : i < L.length) : (L.drop i).all P = (P L[i] && (L.drop (i + 1)).all P) := by
  rw [List.drop_eq_getElem_cons h, List.all_cons]

set_option maxHeartbeats 4000000 in
set_option maxRecDepth 100000 in
theorem validateMetadata (k : Nat) (s : ByteArray) (L : List ByteArray) (h : semver_zzSplit.f k s dot = some L) (hL : L.length ≤ 1000000000000) (te : TypeId) (pe : Value) (w : World)
    (hv : w.cell? ⟨6, 0, none⟩ = some (.iface te pe)) (hg : 6 < w.heap.size) :
    Calls Tryd.prog 53 #[.string s] w fun e w' => e = .returned (metaVal te pe L) ∧ Below w.heap.size w w' := by
  have C := Lib.hid (semver_zzSplit.calls k s dot L w h)
  have HV := Aside0.mk hv
  have HG := Aside0.mk hg
  clear h hv hg
  obtain ⟨V, hV⟩ : ∃ V, metaVal te pe L = V := ⟨_, rfl⟩
  have HV0 := Lib.hid hV
  rw [hV]
  clear hV
  go_enter Tryd.func53, Tryd.ntmps53
  go_wp2_with fail
  refine C.out.mono ?_
  rintro e w1 ⟨v1, rfl, ho, hb⟩
  obtain ⟨A1, c1, e1⟩ := Kd.R_slice ho
  subst e1
  have HO := Aside0.mk ho
  have HB := Aside0.mk hb
  clear ho hb
  go_wp2_with fail
  go_loopw [10] (fun v w' => ∃ i : Nat, v = .int .i64 (i : Int) ∧ i ≤ L.length ∧ Aside0 ((L.drop i).all metaPart = L.all metaPart) ∧ Aside0 (Kd.R Kd.string 9 w' w.heap.size (fun _ => True) (.slice A1 L.length c1) L) ∧ Aside0 (Below w.heap.size w w')) (fun v _ => L.length - (intOf v).toNat)
  case atStart => exact ⟨0, rfl, Nat.zero_le _, ⟨by simp⟩, HO, HB⟩
  case round =>
    obtain ⟨i, rfl, hi, HA, HO2, HB2⟩ := hrel
    clear HO HB
    have hv2 : wr.cell? ⟨6, 0, none⟩ = some (.iface te pe) := (HB2.out.cell (p := ⟨6, 0, none⟩) HG.out).trans HV.out
    have hg2 : 6 < wr.heap.size := Nat.lt_of_lt_of_le HG.out HB2.out.size
    by_cases hlt : i < L.length
    · have hst := all_step metaPart L i hlt
      have b0 : decide ((i : Int) < (L.length : Int)) = true := decide_eq_true (by omega)
      have b0' : decide (i < L.length) = true := decide_eq_true hlt
      have p1 : 0 ≤ (i : Int) := by omega
      have q1 : (i : Int) < (L.length : Int) := by omega
      obtain ⟨ad, e1, hx⟩ := Kd.at_string (Kd.R_reads' HO2.out).2.2 (i : Int) p1 q1
      cases e1
      rw [rd_get L i hlt, Int.toNat_natCast] at hx
      generalize L[i] = p at *
      have HS := Lib.hid hst
      clear hst
      by_cases he : p.toList = []
      · have be : (p.toList == []) = true := beq_iff_eq.2 he
        have HV1 : Hid (V = .iface te pe) := Lib.hid (by rw [← HV0.out]; unfold metaVal; rw [← HA.out, HS.out, if_neg]; simp [metaPart, be])
        clear he
        go_wp2
        go_ret
        exact ⟨by rw [HV1.out] <;> rfl, HB2.out⟩
      · have be : (p.toList == []) = false := beq_eq_false_iff_ne.2 he
        cases ho : only p allowed
        · have CO := Lib.hid (fun W => Only.containsOnly p allowed W)
          rw [ho] at CO
          have HV1 : Hid (V = .iface te pe) := Lib.hid (by rw [← HV0.out]; unfold metaVal; rw [← HA.out, HS.out, if_neg]; simp [metaPart, be, ho])
          clear he ho
          go_wp2_with fail
          refine (CO.out _).mono ?_
          rintro e w2 ⟨rfl, hb2⟩
          have hv3 : w2.cell? ⟨6, 0, none⟩ = some (.iface te pe) := (hb2.cell (p := ⟨6, 0, none⟩) hg2).trans hv2
          go_wp2
          go_ret
          exact ⟨by rw [HV1.out] <;> rfl, HB2.out.trans (hb2.mono HB2.out.size)⟩
        · have CO := Lib.hid (fun W => Only.containsOnly p allowed W)
          rw [ho] at CO
          have HA2 : Aside0 ((L.drop (i + 1)).all metaPart = L.all metaPart) := ⟨by rw [← HA.out, HS.out]; simp [metaPart, be, ho]⟩
          clear he ho
          go_wp2_with fail
          refine (CO.out _).mono ?_
          rintro e w2 ⟨rfl, hb2⟩
          have HO3 := Aside0.mk (Kd.R_below HO2.out hb2)
          have HB3 := Aside0.mk (HB2.out.trans (hb2.mono HB2.out.size))
          clear HO2 HB2 HA hb2
          go_wp2
          go_roundw
          case rel => exact ⟨i + 1, by go_num, by omega, HA2, HO3, HB3⟩
          case measure => simp [intOf]; omega
    · have b0 : decide ((i : Int) < (L.length : Int)) = false := decide_eq_false (by omega)
      have b0' : decide (i < L.length) = false := decide_eq_false hlt
      have HV1 : Hid (V = .nilIface) := Lib.hid (by rw [← HV0.out]; unfold metaVal; rw [← HA.out, if_pos]; rw [List.drop_of_length_le (by omega)]; rfl)
      go_wp2
      go_ret
      exact ⟨by rw [HV1.out] <;> rfl, HB2.out⟩
end Go.Proofs.YtekmeoemnekmcaaDoor.MetaFnSemverValidZeros
