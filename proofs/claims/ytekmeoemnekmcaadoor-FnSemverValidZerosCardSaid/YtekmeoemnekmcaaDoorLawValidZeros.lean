/- The statement FnSemverValidZeros: a text of 1 to 65536 bytes is a valid prerelease just if it is valid metadata and no identifier in it is a number with a leading zero. For every text. -/
import Derived.Test.YtekmeoemnekmcaaDoorPreLFnSemverValidZeros
import Derived.Test.YtekmeoemnekmcaaDoorIdentFnSemverValidZeros
namespace Go.Proofs.YtekmeoemnekmcaaDoor.MetaFnSemverValidZeros
open Go.RowKit Go.Lib Go.Proofs Go.Proofs.YtekmeoemnekmcaaDoor.Ascii Go.Proofs.YtekmeoemnekmcaaDoor.Base Go.Proofs.YtekmeoemnekmcaaDoor.L Go.Proofs.YtekmeoemnekmcaaDoor.SplitFnSemverValidZeros Go.Proofs.YtekmeoemnekmcaaDoor.PFnSemverValidZeros
open Go.Proofs.YtekmeoemnekmcaaDoorW.PrintWords Go.Proofs.YtekmeoemnekmcaaDoorW.PrintLast Go.Proofs.YtekmeoemnekmcaaDoorW.PrintMore

theorem ne_nil (s : ByteArray) : (s.toList != ([] : List UInt8)) = !(bl s == []) := by
  rw [ByteArray.toList_eq]; rfl
theorem digits_l0 (s : ByteArray) (hs : s.size ≤ 1000000000) : ∀ (d k i : Nat), s.size - i = d → i ≤ s.size → d < k →
    spec_Digits.l0 k s (i : Int) = some (((bl s).drop i).all isDig && !(bl s == [])) := by
  intro d
  induction d with
  | zero =>
    intro k i hd hi hk
    obtain ⟨k, rfl⟩ : ∃ m, k = m + 1 := ⟨k - 1, by omega⟩
    simp only [spec_Digits.l0]
    rw [if_neg (by omega), List.drop_of_length_le (by rw [bl_len]; omega), ne_nil]
    simp
  | succ d ih =>
    intro k i hd hi hk
    obtain ⟨k, rfl⟩ : ∃ m, k = m + 1 := ⟨k - 1, by omega⟩
    have hlt : i < s.size := by omega
    simp only [spec_Digits.l0]
    rw [if_pos (by omega), if_pos (by omega), bt_bl s i hlt, isDigit_f, Option.bind_some, drop_bl s i hlt, List.all_cons]
    cases isDig _
    · simp
    · rw [w64 (by omega) (by omega), show ((i : Int) + 1) = ((i + 1 : Nat) : Int) by omega, ih k (i + 1) (by omega) (by omega) (by omega)]
      simp
theorem digits_f (s : ByteArray) (hs : s.size ≤ 1000000000) (k : Nat) (hk : s.size < k) : spec_Digits.f k s = some ((bl s).all isDig && !(bl s == [])) := by
  have := digits_l0 s hs s.size k 0 (by omega) (by omega) hk
  rw [List.drop_zero] at this
  exact this
theorem short_one (s : ByteArray) (b o c : Nat) (w : World) (hc : w.cell? ⟨b, o, none⟩ = some (.string s)) (h1 : 1 ≤ c) :
    Calls Tryd.prog 10 #[.slice (some ⟨b, o, none⟩) 1 c] w fun e w' => e = .returned (.bool (decide (s.size ≤ 65536))) ∧ Drawn0 w w' := by
  refine laws_svShort.calls 3 (some ⟨b, o, none⟩) c [s] _ w (Kd.C_of_reads (d := ByteArray.empty) (h1 := fun _ => rfl) ⟨rfl, by simp, fun _ => ⟨_, rfl, fun j hj => ?_⟩⟩) h1 ?_
  · obtain rfl : j = 0 := by simpa using hj
    exact hc
  · have e0 : rdOf ByteArray.empty [s] 0 = s := rfl
    by_cases h : s.size ≤ 65536
    · simp [laws_svShort.f, laws_svShort.l0, e0, h]
      have e1 : ¬ ((s.size : Int) > 65536) := by omega
      have e2 : wrap64 1 = 1 := by unfold wrap64; omega
      simp [e2]; omega
    · have e1 : (65536 : Int) < (s.size : Int) := by omega
      simp [laws_svShort.f, laws_svShort.l0, e0, h, e1]
theorem parts_le (c : UInt8) : ∀ l p, p ∈ splitL c l → p.length ≤ l.length
  | [], p, h => by simp [splitL] at h; subst h; simp
  | x :: xs, p, h => by
    have ih := parts_le c xs
    unfold splitL at h
    split at h
    · rcases List.mem_cons.1 h with rfl | h
      · simp
      · have := ih p h; simp; omega
    · split at h
      · simp at h; subst h; simp
      · rename_i hd tl e
        rw [e] at ih
        rcases List.mem_cons.1 h with rfl | h
        · have := ih hd (by simp); simp; omega
        · have := ih p (by simp [h]); simp; omega
theorem any_step (P : ByteArray → Bool) (L : List ByteArray) (i : Nat) (h : i < L.length) : (L.take (i + 1)).any P = ((L.take i).any P || P L[i]) := by
  rw [List.take_succ_eq_append_getElem h, List.any_append]; simp

set_option maxHeartbeats 4000000 in
set_option maxRecDepth 100000 in
theorem walk_main (s : ByteArray) (hs : s.size ≤ 65536) (hne : ¬ s.toList = []) (t1 t2 t3 : TypeId) (p1 p2 p3 : Value) (w : World)
    (hu : w.cell? ⟨4, 0, none⟩ = some (.iface t2 p2)) (hf : 4 < w.heap.size)
    (hm : w.cell? ⟨6, 0, none⟩ = some (.iface t3 p3)) (hn : 6 < w.heap.size)
    (hv : w.cell? ⟨5, 0, none⟩ = some (.iface t1 p1)) (hg : 5 < w.heap.size) :
    Calls Tryd.prog 4 #[.string s] w fun e w' => e = .returned (.bool true) ∧ Below w.heap.size w w' := by
  have HU := Aside0.mk hu
  have HF := Aside0.mk hf
  have HM := Aside0.mk hm
  have HN := Aside0.mk hn
  have HV := Aside0.mk hv
  have HG := Aside0.mk hg
  clear hu hf hm hn hv hg
  have b1 : decide (2147483647 < (s.size : Int)) = false := decide_eq_false (by omega)
  have b2 : (s.toList == []) = false := beq_eq_false_iff_ne.2 hne
  have C1 := Lib.hid (fun (W : World) b o c hc h1 => short_one s b o c W hc h1)
  rw [decide_eq_true hs] at C1
  have CI := Lib.hid (fun (W : World) => spec_Identifiers.calls (s.size + 1) s _ W (identifiers_f s (by omega) _ (Nat.lt_succ_self _)))
  have CP := Lib.hid (fun (W : World) => implValidPre s (by omega) t1 t2 p1 p2 W)
  have CM := Lib.hid (fun (W : World) => implValidMeta s (by omega) t3 p3 W)
  have CZ := Lib.hid (fun (W : World) => implValidMeta (ofL [48, 48]) (by decide) t3 p3 W)
  rw [show metaOk (bl (ofL [48, 48])) = true from by decide] at CZ
  have HL := Aside0.mk (split_len s (by omega))
  have HP : ∀ q ∈ (splitL 46 (bl s)).map ofL, q.size ≤ s.size := by
    intro q hq
    obtain ⟨p, hp, rfl⟩ := List.mem_map.1 hq
    have := parts_le 46 _ p hp
    rw [bl_len] at this
    rw [size_ofL]; exact this
  have HP' := Aside0.mk HP
  clear HP
  have HF0 : (preOk (bl s) == (metaOk (bl s) && !(((splitL 46 (bl s)).map ofL).any (fun q => zeroP (bl q))))) = true := by
    unfold preOk metaOk
    rw [beq_iff_eq, List.any_map]
    generalize splitL 46 (bl s) = l
    induction l with
    | nil => rfl
    | cons p t ih =>
      rw [List.all_cons, List.all_cons, List.any_cons, ih]
      show _ = (_ && !((zeroP p) || _))
      generalize metaP p = a
      generalize zeroP p = b
      generalize t.all metaP = c
      generalize t.any _ = d
      cases a <;> cases b <;> cases c <;> cases d <;> rfl
  have HFin := Aside0.mk HF0
  clear HF0
  generalize (splitL 46 (bl s)).map ofL = L at *
  generalize preOk (bl s) = po at *
  generalize metaOk (bl s) = mo at *
  clear hne
  go_enter Tryd.func4, Tryd.ntmps4
  go_wp2_with fail
  refine (C1.out _ _ _ _ (by simp [go_sem]) (by omega)).mono ?_
  rintro e w1 ⟨rfl, hd⟩
  have hb1 : Below w.heap.size w w1 := (show Below w.heap.size w _ by go_grown).trans (hd.below.mono (by simp))
  have HB1 := Aside0.mk hb1
  clear hd hb1
  go_wp2_with fail
  refine (CI.out _).mono ?_
  rintro e w2 ⟨v2, rfl, ho, hb⟩
  obtain ⟨A1, c1, e1⟩ := Kd.R_slice ho
  subst e1
  have HO := Aside0.mk (Kd.R_lower ho HB1.out.size)
  have HB := Aside0.mk (HB1.out.trans (hb.mono HB1.out.size))
  clear ho hb HB1
  go_wp2_with fail
  go_loopw [3, 20] (fun z v w' => ∃ i : Nat, v = .int .i64 (i : Int) ∧ i ≤ L.length ∧ z = .bool ((L.take i).any (fun q => zeroP (bl q))) ∧ Aside0 (Kd.R Kd.string 9 w' w.heap.size (fun _ => True) (.slice A1 L.length c1) L) ∧ Aside0 (Below w.heap.size w w')) (fun _ v _ => L.length - (intOf v).toNat)
  case atStart => exact ⟨0, rfl, Nat.zero_le _, rfl, HO, HB⟩
  case round =>
    obtain ⟨i, rfl, hi, rfl, HO2, HB2⟩ := hrel
    clear HO HB
    have hlen := HL.out
    by_cases hlt : i < L.length
    · have hst := any_step (fun q => zeroP (bl q)) L i hlt
      have b0 : decide ((i : Int) < (L.length : Int)) = true := decide_eq_true (by omega)
      have b0' : decide (i < L.length) = true := decide_eq_true hlt
      have p1_ : 0 ≤ (i : Int) := by omega
      have q1_ : (i : Int) < (L.length : Int) := by omega
      obtain ⟨ad, e1, hx⟩ := Kd.at_string (Kd.R_reads' HO2.out).2.2 (i : Int) p1_ q1_
      cases e1
      rw [rd_get L i hlt, Int.toNat_natCast] at hx
      have hpl := HP'.out _ (List.getElem_mem hlt)
      generalize L[i] = p at *
      generalize hz : (L.take i).any (fun q => zeroP (bl q)) = z at *
      clear hz
      have HS := Lib.hid hst
      clear hst
      cases z
      · -- not yet
        have CD := Lib.hid (fun (W : World) => spec_Digits.calls (p.size + 1) p _ W (digits_f p (by omega) _ (Nat.lt_succ_self _)))
        have hzp : zeroP (bl p) = (((bl p).all isDig && !(bl p == [])) && decide (1 < (bl p).length) && ((bl p).headD 0 == 48)) := rfl
        cases hd : ((bl p).all isDig && !(bl p == [])) <;> rw [hd] at CD hzp
        · have HS2 : Hid ((L.take (i + 1)).any (fun q => zeroP (bl q)) = false) := Lib.hid (by rw [HS.out, hzp]; rfl)
          clear hd hzp HS
          go_wp2_with fail
          refine (CD.out _).mono ?_
          rintro e w3 ⟨rfl, ⟨nd, rfl⟩⟩
          go_wp2
          go_roundw
          case rel => exact ⟨i + 1, by go_num, by omega, by rw [HS2.out], ⟨Kd.R_drewN HO2.out _⟩, ⟨dN HB2.out _⟩⟩
          case measure => simp [intOf]; omega
        · have hsz : (bl p).length = p.size := rfl
          rw [hsz] at hzp
          by_cases h1 : 1 < p.size
          · have b3 : decide (1 < (p.size : Int)) = true := decide_eq_true (by omega)
            have b3' : decide (1 < p.size) = true := decide_eq_true h1
            have hh : (bl p).headD 0 = p[0] := by
              have : bl p = p[0] :: (bl p).drop 1 := by
                have h2 : 0 < (bl p).length := by rw [hsz]; omega
                have := List.drop_eq_getElem_cons h2
                rw [List.drop_zero] at this
                exact this
              rw [this]; rfl
            rw [b3', hh, Bool.and_true, Bool.true_and] at hzp
            cases h0 : (p[0] == 48)
            · have b4 : ((p[0].toNat : Int) == 48) = false := by
                rw [beq_eq_false_iff_ne] at h0 ⊢
                intro e; apply h0; apply UInt8.toNat_inj.1
                show _ = 48; omega
              have HS2 : Hid ((L.take (i + 1)).any (fun q => zeroP (bl q)) = false) := Lib.hid (by rw [HS.out, hzp, h0]; rfl)
              clear hd hzp HS hh h0
              go_wp2_with fail
              refine (CD.out _).mono ?_
              rintro e w3 ⟨rfl, ⟨nd, rfl⟩⟩
              go_wp2
              go_roundw
              case rel => exact ⟨i + 1, by go_num, by omega, by rw [HS2.out], ⟨Kd.R_drewN HO2.out _⟩, ⟨dN HB2.out _⟩⟩
              case measure => simp [intOf]; omega
            · have b4 : ((p[0].toNat : Int) == 48) = true := by
                rw [beq_iff_eq] at h0 ⊢
                rw [h0]; rfl
              have HS2 : Hid ((L.take (i + 1)).any (fun q => zeroP (bl q)) = true) := Lib.hid (by rw [HS.out, hzp, h0]; rfl)
              clear hd hzp HS hh h0
              go_wp2_with fail
              refine (CD.out _).mono ?_
              rintro e w3 ⟨rfl, ⟨nd, rfl⟩⟩
              go_wp2
              go_roundw
              case rel => exact ⟨i + 1, by go_num, by omega, by rw [HS2.out], ⟨Kd.R_drewN HO2.out _⟩, ⟨dN HB2.out _⟩⟩
              case measure => simp [intOf]; omega
          · have b3 : decide (1 < (p.size : Int)) = false := decide_eq_false (by omega)
            have b3' : decide (1 < p.size) = false := decide_eq_false h1
            rw [b3', Bool.and_false, Bool.false_and] at hzp
            have HS2 : Hid ((L.take (i + 1)).any (fun q => zeroP (bl q)) = false) := Lib.hid (by rw [HS.out, hzp]; rfl)
            clear hd hzp HS h1
            go_wp2_with fail
            refine (CD.out _).mono ?_
            rintro e w3 ⟨rfl, ⟨nd, rfl⟩⟩
            go_wp2
            go_roundw
            case rel => exact ⟨i + 1, by go_num, by omega, by rw [HS2.out], ⟨Kd.R_drewN HO2.out _⟩, ⟨dN HB2.out _⟩⟩
            case measure => simp [intOf]; omega
      · have HS2 : Hid ((L.take (i + 1)).any (fun q => zeroP (bl q)) = true) := Lib.hid (by rw [HS.out]; rfl)
        clear HS
        go_wp2
        go_roundw
        case rel => exact ⟨i + 1, by go_num, by omega, by rw [HS2.out], HO2, HB2⟩
        case measure => simp [intOf]; omega
    · have b0 : decide ((i : Int) < (L.length : Int)) = false := decide_eq_false (by omega)
      have b0' : decide (i < L.length) = false := decide_eq_false hlt
      have hfin := HFin.out
      rw [List.take_of_length_le (by omega)]
      clear HO2 HL HP' HFin
      generalize L.any (fun q => zeroP (bl q)) = z at *
      have hu1 := Lib.hid ((HB2.out.cell (p := ⟨4, 0, none⟩) HF.out).trans HU.out)
      have hv1 := Lib.hid ((HB2.out.cell (p := ⟨5, 0, none⟩) HG.out).trans HV.out)
      have HFz := Lib.hid hfin
      clear hfin
      cases mo <;> cases z <;> cases po <;> (have hfin := HFz.out) <;> first | (exact absurd hfin (by decide)) | skip
      all_goals
        clear hfin HFz
        go_wp2_with fail
        refine (CP.out _ hv1.out (Nat.lt_of_lt_of_le HG.out HB2.out.size) hu1.out (Nat.lt_of_lt_of_le HF.out HB2.out.size)).mono ?_
        rintro e w3 ⟨rfl, hb3⟩
        have HB3 := Aside0.mk (HB2.out.trans (hb3.mono HB2.out.size))
        clear hb3
        have hm1 := Lib.hid ((HB3.out.cell (p := ⟨6, 0, none⟩) HN.out).trans HM.out)
        go_wp2_with fail
        refine (CM.out _ hm1.out (Nat.lt_of_lt_of_le HN.out HB3.out.size)).mono ?_
        rintro e w4 ⟨rfl, hb4⟩
        have HB4 := Aside0.mk (HB3.out.trans (hb4.mono HB3.out.size))
        clear hb4
        have hm2 := Lib.hid ((HB4.out.cell (p := ⟨6, 0, none⟩) HN.out).trans HM.out)
        go_wp2_with fail
        refine (CZ.out _ hm2.out (Nat.lt_of_lt_of_le HN.out HB4.out.size)).mono ?_
        rintro e w5 ⟨rfl, hb5⟩
        go_wp2_with fail
        go_ret
        exact ⟨rfl, HB4.out.trans (hb5.mono HB4.out.size)⟩

set_option maxHeartbeats 2000000 in
set_option maxRecDepth 100000 in
theorem walk (s : ByteArray) (ws : s.size ≤ 140737488351232) (t2 : TypeId) (p2 : Value) (t3 : TypeId) (p3 : Value) (t1 : TypeId) (p1 : Value) (w : World)
    (hu : w.cell? ⟨4, 0, none⟩ = some (.iface t2 p2)) (hf : 4 < w.heap.size)
    (hm : w.cell? ⟨6, 0, none⟩ = some (.iface t3 p3)) (hn : 6 < w.heap.size)
    (hv : w.cell? ⟨5, 0, none⟩ = some (.iface t1 p1)) (hg : 5 < w.heap.size) :
    Calls Tryd.prog 4 #[.string s] w fun e w' => e = .returned (.bool true) ∧ Below w.heap.size w w' := by
  by_cases h1 : 2147483647 < s.size
  · have b1 : decide (2147483647 < (s.size : Int)) = true := decide_eq_true (by omega)
    clear hu hf hm hn hv hg
    go_enter Tryd.func4, Tryd.ntmps4
    go_wp2
    go_ret
    exact ⟨rfl, Below.refl _ _⟩
  · have b1 : decide (2147483647 < (s.size : Int)) = false := decide_eq_false (by omega)
    by_cases he : s.toList = []
    · have b2 : (s.toList == []) = true := beq_iff_eq.2 he
      clear he hu hf hm hn hv hg
      go_enter Tryd.func4, Tryd.ntmps4
      go_wp2
      go_ret
      exact ⟨rfl, Below.refl _ _⟩
    · by_cases hs : s.size ≤ 65536
      · exact walk_main s hs he t1 t2 t3 p1 p2 p3 w hu hf hm hn hv hg
      · have b2 : (s.toList == []) = false := beq_eq_false_iff_ne.2 he
        have C1 := Lib.hid (fun (W : World) b o c hc h1 => short_one s b o c W hc h1)
        rw [decide_eq_false hs] at C1
        clear he hu hf hm hn hv hg
        go_enter Tryd.func4, Tryd.ntmps4
        go_wp2_with fail
        refine (C1.out _ _ _ _ (by simp [go_sem]) (by omega)).mono ?_
        rintro e w1 ⟨rfl, hd⟩
        have hb1 : Below w.heap.size w w1 := (show Below w.heap.size w _ by go_grown).trans (hd.below.mono (by simp))
        clear hd
        go_wp2_with fail
        go_ret
        exact ⟨rfl, hb1⟩
end Go.Proofs.YtekmeoemnekmcaaDoor.MetaFnSemverValidZeros
