/- The row and the tied card of FnSemverApart, out of its printed walk and its plain law. For every input that the statement lets in. -/
import Derived.Test.YtllkoadcpobdaaaDoorZCardSemverApart16
import Derived.Test.YtllkoadcpobdaaaDoorZCardSemverApart18
namespace Go.Proofs.YtllkoadcpobdaaaDoor.Base
end Go.Proofs.YtllkoadcpobdaaaDoor.Base
namespace Go.Proofs.YtllkoadcpobdaaaDoor.Bt
end Go.Proofs.YtllkoadcpobdaaaDoor.Bt
namespace Go.Proofs.YtllkoadcpobdaaaDoor.L
end Go.Proofs.YtllkoadcpobdaaaDoor.L
namespace Go.Proofs.YtllkoadcpobdaaaDoor.PX
end Go.Proofs.YtllkoadcpobdaaaDoor.PX
namespace Go.Proofs.YtllkoadcpobdaaaDoor.Parse
end Go.Proofs.YtllkoadcpobdaaaDoor.Parse
namespace Go.Proofs.YtllkoadcpobdaaaDoor.Part
end Go.Proofs.YtllkoadcpobdaaaDoor.Part
namespace Go.Proofs.YtllkoadcpobdaaaDoor.KX

open Go.RowKit Go.Lib Go.Proofs Go.Proofs.YtllkoadcpobdaaaDoor.Base Go.Proofs.YtllkoadcpobdaaaDoor.L Go.Proofs.YtllkoadcpobdaaaDoor.Bt Go.Proofs.YtllkoadcpobdaaaDoor.Parse Go.Proofs.YtllkoadcpobdaaaDoor.Part Go.Proofs.YtllkoadcpobdaaaDoor.PX

open Go.Proofs.YtllkoadcpobdaaaDoorW.PrintWords Go.Proofs.YtllkoadcpobdaaaDoorW.PrintLast Go.Proofs.YtllkoadcpobdaaaDoorW.PrintMore

/-- Two lists of identifiers compared; one that is missing is empty. -/
def cpl : List (List UInt8) → List (List UInt8) → Int
  | [], [] => 0
  | a :: x, [] => if cpp a [] = 0 then cpl x [] else cpp a []
  | [], b :: y => if cpp [] b = 0 then cpl [] y else cpp [] b
  | a :: x, b :: y => if cpp a b = 0 then cpl x y else cpp a b
termination_by x y => x.length + y.length

theorem getD_in (x : List (List UInt8)) (i : Nat) (h : i < x.length) : x.getD i [] = x[i] := by
  rw [List.getD_eq_getElem?_getD, List.getElem?_eq_getElem h]; rfl

theorem getD_out (x : List (List UInt8)) (i : Nat) (h : x.length ≤ i) : x.getD i [] = [] := by
  rw [List.getD_eq_getElem?_getD, List.getElem?_eq_none h]; rfl

theorem cpl_step (x y : List (List UInt8)) (i : Nat) (h : i < x.length ∨ i < y.length) :
    cpl (x.drop i) (y.drop i) = if cpp (x.getD i []) (y.getD i []) = 0 then cpl (x.drop (i + 1)) (y.drop (i + 1)) else cpp (x.getD i []) (y.getD i []) := by
  by_cases hx : i < x.length
  · by_cases hy : i < y.length
    · rw [List.drop_eq_getElem_cons hx, List.drop_eq_getElem_cons hy, cpl, getD_in x i hx, getD_in y i hy]
    · rw [List.drop_eq_getElem_cons hx, List.drop_of_length_le (by omega : y.length ≤ i), cpl, getD_in x i hx, getD_out y i (by omega), List.drop_of_length_le (by omega : y.length ≤ i + 1)]
  · have hy : i < y.length := by omega
    rw [List.drop_eq_getElem_cons hy, List.drop_of_length_le (by omega : x.length ≤ i), cpl, getD_in y i hy, getD_out x i (by omega), List.drop_of_length_le (by omega : x.length ≤ i + 1)]

/-- Two prereleases, neither of them empty. -/
def preC (a b : List UInt8) : Int := cpl (splitL 46 a) (splitL 46 b)

theorem rd_getD (x : List (List UInt8)) (i : Nat) (h : i < x.length) : rdOf ByteArray.empty (x.map ofL) (i : Int) = ofL (x.getD i []) := by
  rw [rd_map x i h, getD_in x i h]

set_option maxHeartbeats 8000000 in
set_option maxRecDepth 100000 in
theorem comparePre (a b : ByteArray) (ha : a.size ≤ 2147483647) (hb : b.size ≤ 2147483647) (w : World) (hw : Std w) :
  Calls Tryd.prog 108 #[.string a, .string b] w fun e w' => e = .returned (.int .i64 (preC (bl a) (bl b))) ∧ Below w.heap.size w w' := by
 have C1 := Lib.hid (fun W => semver_zzSplit.calls (a.size + 2) a (ofL [46]) _ W (zzSplit_f a 46 ha _ (Nat.le_refl _)))
 have C2 := Lib.hid (fun W => semver_zzSplit.calls (b.size + 2) b (ofL [46]) _ W (zzSplit_f b 46 hb _ (Nat.le_refl _)))
 have hx1 : (splitL 46 (bl a)).length ≤ 2147483648 := by have := splitL_len 46 (bl a); rw [bl_len] at this; omega
 have hy1 : (splitL 46 (bl b)).length ≤ 2147483648 := by have := splitL_len 46 (bl b); rw [bl_len] at this; omega
 have hpx : ∀ p ∈ splitL 46 (bl a), p.length ≤ 2147483647 := fun p hp => by have := parts_le 46 _ p hp; rw [bl_len] at this; omega
 have hpy : ∀ p ∈ splitL 46 (bl b), p.length ≤ 2147483647 := fun p hp => by have := parts_le 46 _ p hp; rw [bl_len] at this; omega
 obtain ⟨V, hV⟩ : ∃ V, preC (bl a) (bl b) = V := ⟨_, rfl⟩
 have HV := Lib.hid (show cpl (splitL 46 (bl a)) (splitL 46 (bl b)) = V from hV)
 rw [hV]
 clear hV
 have HW := Aside0.mk hw
 have HPX := Aside0.mk hpx
 have HPY := Aside0.mk hpy
 clear hw hpx hpy
 generalize splitL 46 (bl a) = x at *
 generalize splitL 46 (bl b) = y at *
 go_enter Tryd.func108, Tryd.ntmps108
 go_wp2_with fail
 refine (C1.out _).mono ?_
 rintro e w1 ⟨v1, rfl, ho1, hb1⟩
 obtain ⟨A1, c1, e1⟩ := Kd.R_slice ho1
 subst e1
 have HO1 := Aside0.mk ho1
 have HB1 := Aside0.mk hb1
 clear ho1 hb1
 go_wp2_with fail
 refine (C2.out _).mono ?_
 rintro e w2 ⟨v2, rfl, ho2, hb2⟩
 obtain ⟨A2, c2, e2⟩ := Kd.R_slice ho2
 subst e2
 have HO2 := Aside0.mk (Kd.R_lower ho2 HB1.out.size)
 have HO1' := Aside0.mk (Kd.R_below HO1.out hb2)
 have HB2 := Aside0.mk (HB1.out.trans (hb2.mono HB1.out.size))
 clear ho2 hb2 HO1 HB1
 simp only [List.length_map] at HO1' HO2 ⊢
 have lx : (x.length : Int) ≤ 2147483648 := by omega
 have ly : (y.length : Int) ≤ 2147483648 := by omega
 by_cases hgt : x.length < y.length
 ·
  have g0 : decide ((x.length : Int) < (y.length : Int)) = true := decide_eq_true (by omega)
  have g0' : decide (x.length < y.length) = true := decide_eq_true hgt
  go_wp2_with fail
  go_loopw [10] (fun v w' => ∃ i : Nat, v = .int .i64 (i : Int) ∧ i ≤ y.length ∧ Aside0 (cpl (x.drop i) (y.drop i) = V) ∧ Aside0 (Kd.R Kd.string 9 w' w.heap.size (fun _ => True) (.slice A1 x.length c1) (x.map ofL)) ∧ Aside0 (Kd.R Kd.string 9 w' w.heap.size (fun _ => True) (.slice A2 y.length c2) (y.map ofL)) ∧ Aside0 (Below w.heap.size w w')) (fun v _ => y.length - (Go.RowKit.intOf v).toNat)
  case atStart => exact ⟨0, rfl, Nat.zero_le _, ⟨HV.out⟩, HO1', HO2, HB2⟩
  case round =>
   obtain ⟨i, rfl, hi, HA, HO3, HO4, HB3⟩ := hrel
   clear HO1' HO2 HB2
   have p0 : 0 ≤ (i : Int) := by omega
   by_cases hlt : i < y.length
   ·
    by_cases hl2 : i < x.length
    ·
     have ddx : decide ((i : Int) < (x.length : Int)) = true := decide_eq_true (by omega)
     have ddx' : decide (i < x.length) = true := decide_eq_true (by omega)
     have qx : (i : Int) < (x.length : Int) := by omega
     have kx := (Kd.R_reads' HO3.out).2.2
     rw [List.length_map] at kx
     obtain ⟨adx, ex, hx⟩ := Kd.at_string kx (i : Int) p0 qx
     clear kx
     cases ex
     rw [rd_getD x i (by omega), Int.toNat_natCast] at hx
     have ddy : decide ((i : Int) < (y.length : Int)) = true := decide_eq_true (by omega)
     have ddy' : decide (i < y.length) = true := decide_eq_true (by omega)
     have qy : (i : Int) < (y.length : Int) := by omega
     have ky := (Kd.R_reads' HO4.out).2.2
     rw [List.length_map] at ky
     obtain ⟨ady, ey, hy⟩ := Kd.at_string ky (i : Int) p0 qy
     clear ky
     cases ey
     rw [rd_getD y i (by omega), Int.toNat_natCast] at hy
     have hst := cpl_step x y i (by omega)
     have sx : (ofL (x.getD i [])).size ≤ 2147483647 := by rw [getD_in x i (by omega), size_ofL]; exact HPX.out _ (List.getElem_mem _)
     rw [← bl_ofL (x.getD i [])] at hst
     generalize ofL (x.getD i []) = X at *
     have sy : (ofL (y.getD i [])).size ≤ 2147483647 := by rw [getD_in y i (by omega), size_ofL]; exact HPY.out _ (List.getElem_mem _)
     rw [← bl_ofL (y.getD i [])] at hst
     generalize ofL (y.getD i []) = Y at *
     have CP := Lib.hid (fun W => Go.Proofs.YtllkoadcpobdaaaDoor.Part.part X Y sx sy W)
     have CP' : Hid (∀ W, Std W → Calls Tryd.prog 122 #[.string X, .string Y] W fun e w' => e = .returned (.int .i64 (cpp (bl X) (bl Y))) ∧ Below W.heap.size W w') := CP
     clear CP
     generalize cpp (bl X) (bl Y) = r at *
     have HS := Lib.hid hst
     clear hst
     have HW3 := HW.out.below HB3.out
     have HW3' := Aside0.mk HW3
     clear HW3
     by_cases h0 : r = 0
     ·
      have b0 : (r != 0) = false := by rw [bne_eq_false_iff_eq]; exact h0
      have HN : Aside0 (cpl (x.drop (i + 1)) (y.drop (i + 1)) = V) := ⟨by rw [← HA.out, HS.out, if_pos h0]⟩
      clear h0
      go_wp2_with fail
      refine (CP'.out _ HW3'.out).mono ?_
      rintro e w4 ⟨rfl, hb4⟩
      have HO5 := Aside0.mk (Kd.R_below HO3.out hb4)
      have HO6 := Aside0.mk (Kd.R_below HO4.out hb4)
      have HB4 := Aside0.mk (HB3.out.trans (hb4.mono HB3.out.size))
      clear HO3 HO4 HB3 hb4 HA
      go_wp2_with fail
      go_roundw
      case rel => exact ⟨i + 1, by go_num, by omega, HN, HO5, HO6, HB4⟩
      case measure => simp [Go.RowKit.intOf]; omega
     ·
      have b0 : (r != 0) = true := bne_iff_ne.2 h0
      have HN : Hid (V = r) := Lib.hid (by rw [← HA.out, HS.out, if_neg h0])
      clear h0
      go_wp2_with fail
      refine (CP'.out _ HW3'.out).mono ?_
      rintro e w4 ⟨rfl, hb4⟩
      go_wp2_with fail
      go_ret
      exact ⟨by rw [HN.out] <;> rfl, HB3.out.trans (hb4.mono HB3.out.size)⟩
    ·
     have ddx : decide ((i : Int) < (x.length : Int)) = false := decide_eq_false (by omega)
     have ddx' : decide (i < x.length) = false := decide_eq_false (by omega)
     have nx : x.getD i [] = [] := getD_out x i (by omega)
     have ddy : decide ((i : Int) < (y.length : Int)) = true := decide_eq_true (by omega)
     have ddy' : decide (i < y.length) = true := decide_eq_true (by omega)
     have qy : (i : Int) < (y.length : Int) := by omega
     have ky := (Kd.R_reads' HO4.out).2.2
     rw [List.length_map] at ky
     obtain ⟨ady, ey, hy⟩ := Kd.at_string ky (i : Int) p0 qy
     clear ky
     cases ey
     rw [rd_getD y i (by omega), Int.toNat_natCast] at hy
     have hst := cpl_step x y i (by omega)
     rw [nx] at hst
     clear nx
     have sy : (ofL (y.getD i [])).size ≤ 2147483647 := by rw [getD_in y i (by omega), size_ofL]; exact HPY.out _ (List.getElem_mem _)
     rw [← bl_ofL (y.getD i [])] at hst
     generalize ofL (y.getD i []) = Y at *
     have CP := Lib.hid (fun W => Go.Proofs.YtllkoadcpobdaaaDoor.Part.part ⟨#[]⟩ Y (by decide) sy W)
     have CP' : Hid (∀ W, Std W → Calls Tryd.prog 122 #[.string ⟨#[]⟩, .string Y] W fun e w' => e = .returned (.int .i64 (cpp ([]) (bl Y))) ∧ Below W.heap.size W w') := CP
     clear CP
     generalize cpp ([]) (bl Y) = r at *
     have HS := Lib.hid hst
     clear hst
     have HW3 := HW.out.below HB3.out
     have HW3' := Aside0.mk HW3
     clear HW3
     by_cases h0 : r = 0
     ·
      have b0 : (r != 0) = false := by rw [bne_eq_false_iff_eq]; exact h0
      have HN : Aside0 (cpl (x.drop (i + 1)) (y.drop (i + 1)) = V) := ⟨by rw [← HA.out, HS.out, if_pos h0]⟩
      clear h0
      go_wp2_with fail
      refine (CP'.out _ HW3'.out).mono ?_
      rintro e w4 ⟨rfl, hb4⟩
      have HO5 := Aside0.mk (Kd.R_below HO3.out hb4)
      have HO6 := Aside0.mk (Kd.R_below HO4.out hb4)
      have HB4 := Aside0.mk (HB3.out.trans (hb4.mono HB3.out.size))
      clear HO3 HO4 HB3 hb4 HA
      go_wp2_with fail
      go_roundw
      case rel => exact ⟨i + 1, by go_num, by omega, HN, HO5, HO6, HB4⟩
      case measure => simp [Go.RowKit.intOf]; omega
     ·
      have b0 : (r != 0) = true := bne_iff_ne.2 h0
      have HN : Hid (V = r) := Lib.hid (by rw [← HA.out, HS.out, if_neg h0])
      clear h0
      go_wp2_with fail
      refine (CP'.out _ HW3'.out).mono ?_
      rintro e w4 ⟨rfl, hb4⟩
      go_wp2_with fail
      go_ret
      exact ⟨by rw [HN.out] <;> rfl, HB3.out.trans (hb4.mono HB3.out.size)⟩
   ·
    have b0 : decide ((i : Int) < (y.length : Int)) = false := decide_eq_false (by omega)
    have b0' : decide (i < y.length) = false := decide_eq_false hlt
    have HN : Hid (V = 0) := Lib.hid (by rw [← HA.out, List.drop_of_length_le (by omega : x.length ≤ i), List.drop_of_length_le (by omega : y.length ≤ i), cpl])
    go_wp2_with fail
    go_ret
    exact ⟨by rw [HN.out] <;> rfl, HB3.out⟩
 ·
  have g0 : decide ((x.length : Int) < (y.length : Int)) = false := decide_eq_false (by omega)
  have g0' : decide (x.length < y.length) = false := decide_eq_false hgt
  go_wp2_with fail
  go_loopw [10] (fun v w' => ∃ i : Nat, v = .int .i64 (i : Int) ∧ i ≤ x.length ∧ Aside0 (cpl (x.drop i) (y.drop i) = V) ∧ Aside0 (Kd.R Kd.string 9 w' w.heap.size (fun _ => True) (.slice A1 x.length c1) (x.map ofL)) ∧ Aside0 (Kd.R Kd.string 9 w' w.heap.size (fun _ => True) (.slice A2 y.length c2) (y.map ofL)) ∧ Aside0 (Below w.heap.size w w')) (fun v _ => x.length - (Go.RowKit.intOf v).toNat)
  case atStart => exact ⟨0, rfl, Nat.zero_le _, ⟨HV.out⟩, HO1', HO2, HB2⟩
  case round =>
   obtain ⟨i, rfl, hi, HA, HO3, HO4, HB3⟩ := hrel
   clear HO1' HO2 HB2
   have p0 : 0 ≤ (i : Int) := by omega
   by_cases hlt : i < x.length
   ·
    by_cases hl2 : i < y.length
    ·
     have ddx : decide ((i : Int) < (x.length : Int)) = true := decide_eq_true (by omega)
     have ddx' : decide (i < x.length) = true := decide_eq_true (by omega)
     have qx : (i : Int) < (x.length : Int) := by omega
     have kx := (Kd.R_reads' HO3.out).2.2
     rw [List.length_map] at kx
     obtain ⟨adx, ex, hx⟩ := Kd.at_string kx (i : Int) p0 qx
     clear kx
     cases ex
     rw [rd_getD x i (by omega), Int.toNat_natCast] at hx
     have ddy : decide ((i : Int) < (y.length : Int)) = true := decide_eq_true (by omega)
     have ddy' : decide (i < y.length) = true := decide_eq_true (by omega)
     have qy : (i : Int) < (y.length : Int) := by omega
     have ky := (Kd.R_reads' HO4.out).2.2
     rw [List.length_map] at ky
     obtain ⟨ady, ey, hy⟩ := Kd.at_string ky (i : Int) p0 qy
     clear ky
     cases ey
     rw [rd_getD y i (by omega), Int.toNat_natCast] at hy
     have hst := cpl_step x y i (by omega)
     have sx : (ofL (x.getD i [])).size ≤ 2147483647 := by rw [getD_in x i (by omega), size_ofL]; exact HPX.out _ (List.getElem_mem _)
     rw [← bl_ofL (x.getD i [])] at hst
     generalize ofL (x.getD i []) = X at *
     have sy : (ofL (y.getD i [])).size ≤ 2147483647 := by rw [getD_in y i (by omega), size_ofL]; exact HPY.out _ (List.getElem_mem _)
     rw [← bl_ofL (y.getD i [])] at hst
     generalize ofL (y.getD i []) = Y at *
     have CP := Lib.hid (fun W => Go.Proofs.YtllkoadcpobdaaaDoor.Part.part X Y sx sy W)
     have CP' : Hid (∀ W, Std W → Calls Tryd.prog 122 #[.string X, .string Y] W fun e w' => e = .returned (.int .i64 (cpp (bl X) (bl Y))) ∧ Below W.heap.size W w') := CP
     clear CP
     generalize cpp (bl X) (bl Y) = r at *
     have HS := Lib.hid hst
     clear hst
     have HW3 := HW.out.below HB3.out
     have HW3' := Aside0.mk HW3
     clear HW3
     by_cases h0 : r = 0
     ·
      have b0 : (r != 0) = false := by rw [bne_eq_false_iff_eq]; exact h0
      have HN : Aside0 (cpl (x.drop (i + 1)) (y.drop (i + 1)) = V) := ⟨by rw [← HA.out, HS.out, if_pos h0]⟩
      clear h0
      go_wp2_with fail
      refine (CP'.out _ HW3'.out).mono ?_
      rintro e w4 ⟨rfl, hb4⟩
      have HO5 := Aside0.mk (Kd.R_below HO3.out hb4)
      have HO6 := Aside0.mk (Kd.R_below HO4.out hb4)
      have HB4 := Aside0.mk (HB3.out.trans (hb4.mono HB3.out.size))
      clear HO3 HO4 HB3 hb4 HA
      go_wp2_with fail
      go_roundw
      case rel => exact ⟨i + 1, by go_num, by omega, HN, HO5, HO6, HB4⟩
      case measure => simp [Go.RowKit.intOf]; omega
     ·
      have b0 : (r != 0) = true := bne_iff_ne.2 h0
      have HN : Hid (V = r) := Lib.hid (by rw [← HA.out, HS.out, if_neg h0])
      clear h0
      go_wp2_with fail
      refine (CP'.out _ HW3'.out).mono ?_
      rintro e w4 ⟨rfl, hb4⟩
      go_wp2_with fail
      go_ret
      exact ⟨by rw [HN.out] <;> rfl, HB3.out.trans (hb4.mono HB3.out.size)⟩
    ·
     have ddx : decide ((i : Int) < (x.length : Int)) = true := decide_eq_true (by omega)
     have ddx' : decide (i < x.length) = true := decide_eq_true (by omega)
     have qx : (i : Int) < (x.length : Int) := by omega
     have kx := (Kd.R_reads' HO3.out).2.2
     rw [List.length_map] at kx
     obtain ⟨adx, ex, hx⟩ := Kd.at_string kx (i : Int) p0 qx
     clear kx
     cases ex
     rw [rd_getD x i (by omega), Int.toNat_natCast] at hx
     have ddy : decide ((i : Int) < (y.length : Int)) = false := decide_eq_false (by omega)
     have ddy' : decide (i < y.length) = false := decide_eq_false (by omega)
     have ny : y.getD i [] = [] := getD_out y i (by omega)
     have hst := cpl_step x y i (by omega)
     have sx : (ofL (x.getD i [])).size ≤ 2147483647 := by rw [getD_in x i (by omega), size_ofL]; exact HPX.out _ (List.getElem_mem _)
     rw [← bl_ofL (x.getD i [])] at hst
     generalize ofL (x.getD i []) = X at *
     rw [ny] at hst
     clear ny
     have CP := Lib.hid (fun W => Go.Proofs.YtllkoadcpobdaaaDoor.Part.part X ⟨#[]⟩ sx (by decide) W)
     have CP' : Hid (∀ W, Std W → Calls Tryd.prog 122 #[.string X, .string ⟨#[]⟩] W fun e w' => e = .returned (.int .i64 (cpp (bl X) ([]))) ∧ Below W.heap.size W w') := CP
     clear CP
     generalize cpp (bl X) ([]) = r at *
     have HS := Lib.hid hst
     clear hst
     have HW3 := HW.out.below HB3.out
     have HW3' := Aside0.mk HW3
     clear HW3
     by_cases h0 : r = 0
     ·
      have b0 : (r != 0) = false := by rw [bne_eq_false_iff_eq]; exact h0
      have HN : Aside0 (cpl (x.drop (i + 1)) (y.drop (i + 1)) = V) := ⟨by rw [← HA.out, HS.out, if_pos h0]⟩
      clear h0
      go_wp2_with fail
      refine (CP'.out _ HW3'.out).mono ?_
      rintro e w4 ⟨rfl, hb4⟩
      have HO5 := Aside0.mk (Kd.R_below HO3.out hb4)
      have HO6 := Aside0.mk (Kd.R_below HO4.out hb4)
      have HB4 := Aside0.mk (HB3.out.trans (hb4.mono HB3.out.size))
      clear HO3 HO4 HB3 hb4 HA
      go_wp2_with fail
      go_roundw
      case rel => exact ⟨i + 1, by go_num, by omega, HN, HO5, HO6, HB4⟩
      case measure => simp [Go.RowKit.intOf]; omega
     ·
      have b0 : (r != 0) = true := bne_iff_ne.2 h0
      have HN : Hid (V = r) := Lib.hid (by rw [← HA.out, HS.out, if_neg h0])
      clear h0
      go_wp2_with fail
      refine (CP'.out _ HW3'.out).mono ?_
      rintro e w4 ⟨rfl, hb4⟩
      go_wp2_with fail
      go_ret
      exact ⟨by rw [HN.out] <;> rfl, HB3.out.trans (hb4.mono HB3.out.size)⟩
   ·
    have b0 : decide ((i : Int) < (x.length : Int)) = false := decide_eq_false (by omega)
    have b0' : decide (i < x.length) = false := decide_eq_false hlt
    have HN : Hid (V = 0) := Lib.hid (by rw [← HA.out, List.drop_of_length_le (by omega : x.length ≤ i), List.drop_of_length_le (by omega : y.length ≤ i), cpl])
    go_wp2_with fail
    go_ret
    exact ⟨by rw [HN.out] <;> rfl, HB3.out⟩

end Go.Proofs.YtllkoadcpobdaaaDoor.KX
