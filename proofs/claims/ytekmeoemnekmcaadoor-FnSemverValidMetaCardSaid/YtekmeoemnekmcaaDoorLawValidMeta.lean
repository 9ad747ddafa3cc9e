/- The statement FnSemverValidMeta: a text of 1 to 65536 bytes is taken as metadata just if clause 10 lets it be such. For every text. -/
import Derived.Test.YtekmeoemnekmcaaDoorDoorMetaFnSemverValidMeta
import Derived.Test.YtekmeoemnekmcaaDoorVIdentFnSemverValidMeta
import Derived.BigQuiet
import Derived.Deep.QuietTactic
namespace Go.Proofs.YtekmeoemnekmcaaDoor.MetaFnSemverValidMeta
open Go.RowKit Go.Lib Go.Proofs Go.Proofs.YtekmeoemnekmcaaDoor.Ascii Go.Proofs.YtekmeoemnekmcaaDoor.Base Go.Proofs.YtekmeoemnekmcaaDoor.L Go.Proofs.YtekmeoemnekmcaaDoor.SplitFnSemverValidMeta Go.Proofs.YtekmeoemnekmcaaDoor.PFnSemverValidMeta
open Go.Proofs.YtekmeoemnekmcaaDoorW.PrintWords Go.Proofs.YtekmeoemnekmcaaDoorW.PrintLast Go.Proofs.YtekmeoemnekmcaaDoorW.PrintMore

theorem rd_map (l : List (List UInt8)) (i : Nat) (h : i < l.length) : rdOf ByteArray.empty (l.map ofL) (i : Int) = ofL l[i] := by
  rw [rd_get (l.map ofL) i (by rw [List.length_map]; exact h), List.getElem_map]

theorem specMeta_l0 (l : List (List UInt8)) (B : Nat) (hB : B ≤ 1000000000) (hl : l.length ≤ 1000000001) (hp : ∀ p ∈ l, p.length ≤ B) : ∀ (d k i : Nat), l.length - i = d → i ≤ l.length → B + d < k →
    spec_ValidMeta.l0 k (l.map ofL) ((l.map ofL).length : Int) (i : Int) = some ((l.drop i).all metaP) := by
  intro d
  induction d with
  | zero =>
    intro k i hd hi hk
    obtain ⟨k, rfl⟩ : ∃ m, k = m + 1 := ⟨k - 1, by omega⟩
    simp only [spec_ValidMeta.l0, List.length_map]
    rw [if_neg (by omega), List.drop_of_length_le (by omega)]
    rfl
  | succ d ih =>
    intro k i hd hi hk
    obtain ⟨k, rfl⟩ : ∃ m, k = m + 1 := ⟨k - 1, by omega⟩
    have hlt : i < l.length := by omega
    have hq := hp _ (List.getElem_mem hlt)
    have ih2 := ih k (i + 1) (by omega) (by omega) (by omega)
    simp only [spec_ValidMeta.l0, List.length_map] at ih2 ⊢
    rw [if_pos (by omega), if_pos (by omega), if_pos (by omega), rd_map l i hlt, validIdent_f (ofL l[i]) (by rw [size_ofL]; omega) k (by rw [size_ofL]; omega), Option.bind_some, bl_ofL]
    rw [List.drop_eq_getElem_cons hlt, List.all_cons]
    cases metaP l[i]
    · simp
    · rw [if_pos rfl, w64 (by omega) (by omega), show ((i : Int) + 1) = ((i + 1 : Nat) : Int) by omega, ih2]
      simp

theorem parts_le (c : UInt8) : ∀ l p, p ∈ splitL c l → p.length ≤ l.length
  | [], p, h => by simp [splitL] at h; subst h; simp
  | x :: xs, p, h => by
    have ih := parts_le c xs
    unfold splitL at h
    split at h
    · rcases List.mem_cons.1 h with rfl | h
      · simp
      · have := ih p h; simp; omega
    · split at h
      · simp at h; subst h; simp
      · rename_i hd tl e
        rw [e] at ih
        rcases List.mem_cons.1 h with rfl | h
        · have := ih hd (by simp); simp; omega
        · have := ih p (by simp [h]); simp; omega

theorem specMeta_f (s : ByteArray) (hs : s.size ≤ 100000000) : ∃ k, spec_ValidMeta.f k s = some (metaOk (bl s)) := by
  refine ⟨s.size + (splitL 46 (bl s)).length + 1, ?_⟩
  have hlen := splitL_len 46 (bl s)
  rw [bl_len] at hlen
  unfold spec_ValidMeta.f
  rw [identifiers_f s (by omega) _ (by omega), Option.bind_some]
  have := specMeta_l0 (splitL 46 (bl s)) s.size (by omega) (by omega) (fun p hp => by have := parts_le 46 _ p hp; rw [bl_len] at this; exact this) (splitL 46 (bl s)).length (s.size + (splitL 46 (bl s)).length + 1) 0 (by omega) (by omega) (by omega)
  rw [List.drop_zero] at this
  exact this

theorem short_one (s : ByteArray) (b o c : Nat) (w : World) (hc : w.cell? ⟨b, o, none⟩ = some (.string s)) (h1 : 1 ≤ c) :
    Calls Tryd.prog 10 #[.slice (some ⟨b, o, none⟩) 1 c] w fun e w' => e = .returned (.bool (decide (s.size ≤ 65536))) ∧ Drawn0 w w' := by
  refine laws_svShort.calls 3 (some ⟨b, o, none⟩) c [s] _ w (Kd.C_of_reads (d := ByteArray.empty) (h1 := fun _ => rfl) ⟨rfl, by simp, fun _ => ⟨_, rfl, fun j hj => ?_⟩⟩) h1 ?_
  · obtain rfl : j = 0 := by simpa using hj
    exact hc
  · have e0 : rdOf ByteArray.empty [s] 0 = s := rfl
    by_cases h : s.size ≤ 65536
    · simp [laws_svShort.f, laws_svShort.l0, e0, h]
      have e1 : ¬ ((s.size : Int) > 65536) := by omega
      have e2 : wrap64 1 = 1 := by unfold wrap64; omega
      simp [e2]; omega
    · have e1 : (65536 : Int) < (s.size : Int) := by omega
      simp [laws_svShort.f, laws_svShort.l0, e0, h, e1]

set_option maxHeartbeats 2000000 in
set_option maxRecDepth 100000 in
theorem walk (s : ByteArray) (ws : s.size ≤ 140737488351232) (te : TypeId) (pe : Value) (w : World)
    (hv : w.cell? ⟨6, 0, none⟩ = some (.iface te pe)) (hg : 6 < w.heap.size) :
    Calls Tryd.prog 3 #[.string s] w fun e w' => e = .returned (.bool true) ∧ Below w.heap.size w w' := by
  have HV := Lib.hid hv
  have HG := Lib.hid hg
  clear hv hg
  by_cases h1 : 2147483647 < s.size
  · have b1 : decide (2147483647 < (s.size : Int)) = true := decide_eq_true (by omega)
    go_enter Tryd.func3, Tryd.ntmps3
    go_wp2
    go_ret
    exact ⟨rfl, Below.refl _ _⟩
  · have b1 : decide (2147483647 < (s.size : Int)) = false := decide_eq_false (by omega)
    by_cases he : s.toList = []
    · have b2 : (s.toList == []) = true := beq_iff_eq.2 he
      clear he
      go_enter Tryd.func3, Tryd.ntmps3
      go_wp2
      go_ret
      exact ⟨rfl, Below.refl _ _⟩
    · have b2 : (s.toList == []) = false := beq_eq_false_iff_ne.2 he
      clear he
      by_cases hs : s.size ≤ 65536
      · have C1 := Lib.hid (fun (W : World) b o c hc h1 => short_one s b o c W hc h1)
        rw [decide_eq_true hs] at C1
        obtain ⟨k, hk⟩ := specMeta_f s (by omega)
        have C2 := Lib.hid (fun W => implValidMeta s (by omega) te pe W)
        have C3 := Lib.hid (fun W => spec_ValidMeta.calls k s _ W hk)
        generalize metaOk (bl s) = r at *
        have br : (r == r) = true := beq_self_eq_true _
        clear hk
        go_enter Tryd.func3, Tryd.ntmps3
        go_wp2_with fail
        refine (C1.out _ _ _ _ (by simp [go_sem]) (by omega)).mono ?_
        rintro e w1 ⟨rfl, hd⟩
        have hb1 : Below w.heap.size w w1 := (show Below w.heap.size w _ by go_grown).trans (hd.below.mono (by simp))
        clear hd
        have hv1 := Lib.hid ((hb1.cell (p := ⟨6, 0, none⟩) HG.out).trans HV.out)
        go_wp2_with fail
        refine (C2.out _ hv1.out (Nat.lt_of_lt_of_le HG.out hb1.size)).mono ?_
        rintro e w2 ⟨rfl, hb2⟩
        have hb2' := hb1.trans (hb2.mono hb1.size)
        clear hb1 hb2
        go_wp2_with fail
        refine (C3.out _).mono ?_
        rintro e w3 ⟨rfl, hb3⟩
        go_wp2_with fail
        go_ret
        exact ⟨rfl, hb2'.trans (hb3.mono hb2'.size)⟩
      · have C1 := Lib.hid (fun (W : World) b o c hc h1 => short_one s b o c W hc h1)
        rw [decide_eq_false hs] at C1
        go_enter Tryd.func3, Tryd.ntmps3
        go_wp2_with fail
        refine (C1.out _ _ _ _ (by simp [go_sem]) (by omega)).mono ?_
        rintro e w1 ⟨rfl, hd⟩
        have hb1 : Below w.heap.size w w1 := (show Below w.heap.size w _ by go_grown).trans (hd.below.mono (by simp))
        clear hd
        go_wp2_with fail
        go_ret
        exact ⟨rfl, hb1⟩
end Go.Proofs.YtekmeoemnekmcaaDoor.MetaFnSemverValidMeta
