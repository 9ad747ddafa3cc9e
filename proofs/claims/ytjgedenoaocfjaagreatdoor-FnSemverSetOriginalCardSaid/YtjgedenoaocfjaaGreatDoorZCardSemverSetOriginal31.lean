/- The row and the tied card of FnSemverSetOriginal, out of its printed walk and its plain law. For every input that the statement lets in. -/
import Derived.Test.YtjgedenoaocfjaaGreatDoorZCardSemverSetOriginal0
import Derived.Test.YtjgedenoaocfjaaGreatDoorZCardSemverSetOriginal30
import Derived.Test.YtjgedenoaocfjaaGreatDoorProg
import Derived.Lib.Hide
import Derived.LoopTactic
import Derived.Deep.Cut
import Derived.RegionTactic
import Derived.Deep.QuietTactic
namespace Go.Proofs.YtjgedenoaocfjaaGreatDoor.Base
end Go.Proofs.YtjgedenoaocfjaaGreatDoor.Base
namespace Go.Proofs.YtjgedenoaocfjaaGreatDoor.Rx
end Go.Proofs.YtjgedenoaocfjaaGreatDoor.Rx
namespace Go.Proofs.YtjgedenoaocfjaaGreatDoor.Rxw

open Go Go.RowKit Go.Lib Go.Proofs Go.Proofs.YtjgedenoaocfjaaGreatDoor.Base Go.Proofs.YtjgedenoaocfjaaGreatDoor.Rx

/-- It returns some place, or -1, as V says. -/
def PosR (V : Bool) (w : World) (e : Ending) (w' : World) : Prop := ∃ k : Int, e = .returned (.int .i64 k) ∧ (k != -1) = V ∧ w = w'

def Cells (w : World) (rb : Nat) (l : List Int) : Prop := ∀ j x, l[j]? = some x → w.cell? ⟨rb, j, none⟩ = some (.int .i32 x)

theorem Cells.at_ {w : World} {rb : Nat} {l : List Int} (h : Cells w rb l) (j : Nat) (hj : j < l.length) : w.cell? ⟨rb, j, none⟩ = some (.int .i32 (l.getD j 0)) := by
  refine h j _ ?_
  rw [List.getD_eq_getElem?_getD, List.getElem?_eq_getElem hj]; rfl

set_option maxHeartbeats 4000000 in
set_option maxRecDepth 100000 in
theorem runePos1 (ib off rb c : Nat) (l : List Int) (r : Int) (V : Bool) (w : World) (hi : w.cell? ⟨ib, off + 3, none⟩ = some (.slice (some ⟨rb, 0, none⟩) 2 c)) (hl : Cells w rb l)
    (hn : l.length = 2) (hV : V = true ↔ inR l r 0 1) :
    Calls Tryz.prog 124 #[.pointer (some ⟨ib, off, none⟩), .int .i32 r] w (PosR V w) := by
  have c0 := hl.at_ 0 (by omega)
  have c1 := hl.at_ 1 (by omega)
  have hv : V = (decide (l.getD 0 0 ≤ r) && decide (r ≤ l.getD 1 0)) := by
    rw [Bool.eq_iff_iff, hV, Bool.and_eq_true, decide_eq_true_iff, decide_eq_true_iff]
    constructor
    · rintro ⟨k, _, h2, h3, h4⟩
      have : k = 0 := by omega
      subst this
      exact ⟨h3, h4⟩
    · rintro ⟨h3, h4⟩
      exact ⟨0, Nat.le_refl _, by omega, h3, h4⟩
  clear hl hn hV
  generalize l.getD 0 0 = x at *
  generalize l.getD 1 0 = y at *
  subst hv
  by_cases h1 : x ≤ r
  · by_cases h2 : r ≤ y
    · have g1 : decide (x ≤ r) = true := decide_eq_true h1
      have g2 : decide (r ≤ y) = true := decide_eq_true h2
      clear h1 h2
      rw [g1, g2]
      go_enter Tryz.func124, Tryz.ntmps124
      go_wp2_with fail
      go_ret
      exact ⟨_, rfl, rfl, rfl⟩
    · have g1 : decide (x ≤ r) = true := decide_eq_true h1
      have g2 : decide (r ≤ y) = false := decide_eq_false h2
      clear h1 h2
      rw [g1, g2]
      go_enter Tryz.func124, Tryz.ntmps124
      go_wp2_with fail
      go_ret
      exact ⟨_, rfl, rfl, rfl⟩
  · have g1 : decide (x ≤ r) = false := decide_eq_false h1
    clear h1
    rw [g1]
    go_enter Tryz.func124, Tryz.ntmps124
    go_wp2_with fail
    go_ret
    exact ⟨_, rfl, rfl, rfl⟩

set_option maxHeartbeats 4000000 in
set_option maxRecDepth 100000 in
theorem runePosL (ib off rb c n : Nat) (l : List Int) (r : Int) (V : Bool) (w : World) (hi : w.cell? ⟨ib, off + 3, none⟩ = some (.slice (some ⟨rb, 0, none⟩) (2 * n) c)) (hl : Cells w rb l)
  (hn : l.length = 2 * n) (h0 : n = 2 ∨ n = 3 ∨ n = 4) (hs : Srt l) (hV : V = true ↔ inR l r 0 n) :
  Calls Tryz.prog 124 #[.pointer (some ⟨ib, off, none⟩), .int .i32 r] w (PosR V w) := by
 have HL := Lib.hid hl; have HS := Lib.hid hs; have HV := Lib.hid hV; have HN := Lib.hid hn
 clear hl hs hV hn
 rcases h0 with rfl | rfl | rfl
 ·
  go_enter Tryz.func124, Tryz.ntmps124
  go_wp2_with fail
  go_loopw [7] (fun j w' => ∃ k m : Nat, j = .int .i64 m ∧ m = 2 * k ∧ k ≤ 2 ∧ Hid (V = true ↔ inR l r k 2) ∧ w' = w) (fun j _ => (8 - Go.RowKit.intOf j).toNat)
  case atStart => exact ⟨0, 0, rfl, rfl, Nat.zero_le _, HV, rfl⟩
  case round =>
   obtain ⟨k, m, rfl, hm, hk, HR, rfl⟩ := hrel
   by_cases hlt : k < 2
   ·
    have hl1 := HN.out
    have c0 := HL.out.at_ m (by omega)
    have c1 := HL.out.at_ (m + 1) (by omega)
    have HT := Lib.hid (fun (h : r < l.getD m 0) => (inR_down (a := k) (b := 2) (m := k) HS.out (by omega) (by omega) (by rw [← hm]; exact h)))
    have HU := Lib.hid (fun (h : l.getD (m + 1) 0 < r) => (inR_up (a := k) (b := 2) (m := k) HS.out (by omega) (by omega) (by rw [← hm]; exact h)))
    have HA := Lib.hid (fun (h : l.getD m 0 ≤ r) (h2 : r ≤ l.getD (m + 1) 0) => (inR_at (a := k) (b := 2) (m := k) (by omega) hlt (by rw [← hm]; exact h) (by rw [← hm]; exact h2)))
    have hb1 : (m : Int) < 4 := by omega
    have hb2 : (m : Int) + 1 < 4 := by omega
    have hb3 : (0 : Int) ≤ (m : Int) := Int.natCast_nonneg m
    have HM := Lib.hid hm
    have HK := Lib.hid hlt
    clear hl1 hm hlt hk
    generalize l.getD m 0 = x at *
    generalize l.getD (m + 1) 0 = y at *
    by_cases h1 : r < x
    ·
     have g1 : decide (r < x) = true := decide_eq_true h1
     have hv : V = false := by
      cases V with
      | false => rfl
      | true => exact absurd ((HT.out h1).1 (HR.out.1 rfl)) inR_none
     clear h1
     go_wp2_with fail
     go_ret
     exact ⟨_, rfl, by rw [hv]; rfl, rfl⟩
    ·
     by_cases h2 : r ≤ y
     ·
      have g1 : decide (r < x) = false := decide_eq_false h1
      have g2 : decide (r ≤ y) = true := decide_eq_true h2
      have hv : V = true := HR.out.2 (HA.out (by omega) h2)
      have HV2 := Lib.hid hv
      clear h1 h2 hv
      go_wp2_with fail
      go_ret
      refine ⟨_, rfl, ?_, rfl⟩
      rw [HV2.out, bne_iff_ne]
      omega
     ·
      have g1 : decide (r < x) = false := decide_eq_false h1
      have g2 : decide (r ≤ y) = false := decide_eq_false h2
      have HR2 := Lib.hid (HR.out.trans (HU.out (by omega)))
      clear h1 h2
      go_wp2_with fail
      go_roundw
      case rel => exact ⟨k + 1, m + 2, by go_num, by have := HM.out; omega, HK.out, HR2, trivial⟩
      case measure => simp [Go.RowKit.intOf]; omega
   ·
    have hk2 : k = 2 := by omega
    subst hk2
    have hv : V = false := by
     cases V with
     | false => rfl
     | true => exact absurd (HR.out.1 rfl) inR_none
    have HV2 := Lib.hid hv
    have hm2 : m = 4 := hm
    clear hlt hk hv hm
    subst hm2
    go_wp2_with fail
    go_ret
    exact ⟨_, rfl, by rw [HV2.out]; rfl, rfl⟩
 ·
  go_enter Tryz.func124, Tryz.ntmps124
  go_wp2_with fail
  go_loopw [7] (fun j w' => ∃ k m : Nat, j = .int .i64 m ∧ m = 2 * k ∧ k ≤ 3 ∧ Hid (V = true ↔ inR l r k 3) ∧ w' = w) (fun j _ => (8 - Go.RowKit.intOf j).toNat)
  case atStart => exact ⟨0, 0, rfl, rfl, Nat.zero_le _, HV, rfl⟩
  case round =>
   obtain ⟨k, m, rfl, hm, hk, HR, rfl⟩ := hrel
   by_cases hlt : k < 3
   ·
    have hl1 := HN.out
    have c0 := HL.out.at_ m (by omega)
    have c1 := HL.out.at_ (m + 1) (by omega)
    have HT := Lib.hid (fun (h : r < l.getD m 0) => (inR_down (a := k) (b := 3) (m := k) HS.out (by omega) (by omega) (by rw [← hm]; exact h)))
    have HU := Lib.hid (fun (h : l.getD (m + 1) 0 < r) => (inR_up (a := k) (b := 3) (m := k) HS.out (by omega) (by omega) (by rw [← hm]; exact h)))
    have HA := Lib.hid (fun (h : l.getD m 0 ≤ r) (h2 : r ≤ l.getD (m + 1) 0) => (inR_at (a := k) (b := 3) (m := k) (by omega) hlt (by rw [← hm]; exact h) (by rw [← hm]; exact h2)))
    have hb1 : (m : Int) < 6 := by omega
    have hb2 : (m : Int) + 1 < 6 := by omega
    have hb3 : (0 : Int) ≤ (m : Int) := Int.natCast_nonneg m
    have HM := Lib.hid hm
    have HK := Lib.hid hlt
    clear hl1 hm hlt hk
    generalize l.getD m 0 = x at *
    generalize l.getD (m + 1) 0 = y at *
    by_cases h1 : r < x
    ·
     have g1 : decide (r < x) = true := decide_eq_true h1
     have hv : V = false := by
      cases V with
      | false => rfl
      | true => exact absurd ((HT.out h1).1 (HR.out.1 rfl)) inR_none
     clear h1
     go_wp2_with fail
     go_ret
     exact ⟨_, rfl, by rw [hv]; rfl, rfl⟩
    ·
     by_cases h2 : r ≤ y
     ·
      have g1 : decide (r < x) = false := decide_eq_false h1
      have g2 : decide (r ≤ y) = true := decide_eq_true h2
      have hv : V = true := HR.out.2 (HA.out (by omega) h2)
      have HV2 := Lib.hid hv
      clear h1 h2 hv
      go_wp2_with fail
      go_ret
      refine ⟨_, rfl, ?_, rfl⟩
      rw [HV2.out, bne_iff_ne]
      omega
     ·
      have g1 : decide (r < x) = false := decide_eq_false h1
      have g2 : decide (r ≤ y) = false := decide_eq_false h2
      have HR2 := Lib.hid (HR.out.trans (HU.out (by omega)))
      clear h1 h2
      go_wp2_with fail
      go_roundw
      case rel => exact ⟨k + 1, m + 2, by go_num, by have := HM.out; omega, HK.out, HR2, trivial⟩
      case measure => simp [Go.RowKit.intOf]; omega
   ·
    have hk2 : k = 3 := by omega
    subst hk2
    have hv : V = false := by
     cases V with
     | false => rfl
     | true => exact absurd (HR.out.1 rfl) inR_none
    have HV2 := Lib.hid hv
    have hm2 : m = 6 := hm
    clear hlt hk hv hm
    subst hm2
    go_wp2_with fail
    go_ret
    exact ⟨_, rfl, by rw [HV2.out]; rfl, rfl⟩
 ·
  go_enter Tryz.func124, Tryz.ntmps124
  go_wp2_with fail
  go_loopw [7] (fun j w' => ∃ k m : Nat, j = .int .i64 m ∧ m = 2 * k ∧ k ≤ 4 ∧ Hid (V = true ↔ inR l r k 4) ∧ w' = w) (fun j _ => (8 - Go.RowKit.intOf j).toNat)
  case atStart => exact ⟨0, 0, rfl, rfl, Nat.zero_le _, HV, rfl⟩
  case round =>
   obtain ⟨k, m, rfl, hm, hk, HR, rfl⟩ := hrel
   by_cases hlt : k < 4
   ·
    have hl1 := HN.out
    have c0 := HL.out.at_ m (by omega)
    have c1 := HL.out.at_ (m + 1) (by omega)
    have HT := Lib.hid (fun (h : r < l.getD m 0) => (inR_down (a := k) (b := 4) (m := k) HS.out (by omega) (by omega) (by rw [← hm]; exact h)))
    have HU := Lib.hid (fun (h : l.getD (m + 1) 0 < r) => (inR_up (a := k) (b := 4) (m := k) HS.out (by omega) (by omega) (by rw [← hm]; exact h)))
    have HA := Lib.hid (fun (h : l.getD m 0 ≤ r) (h2 : r ≤ l.getD (m + 1) 0) => (inR_at (a := k) (b := 4) (m := k) (by omega) hlt (by rw [← hm]; exact h) (by rw [← hm]; exact h2)))
    have hb1 : (m : Int) < 8 := by omega
    have hb2 : (m : Int) + 1 < 8 := by omega
    have hb3 : (0 : Int) ≤ (m : Int) := Int.natCast_nonneg m
    have HM := Lib.hid hm
    have HK := Lib.hid hlt
    clear hl1 hm hlt hk
    generalize l.getD m 0 = x at *
    generalize l.getD (m + 1) 0 = y at *
    by_cases h1 : r < x
    ·
     have g1 : decide (r < x) = true := decide_eq_true h1
     have hv : V = false := by
      cases V with
      | false => rfl
      | true => exact absurd ((HT.out h1).1 (HR.out.1 rfl)) inR_none
     clear h1
     go_wp2_with fail
     go_ret
     exact ⟨_, rfl, by rw [hv]; rfl, rfl⟩
    ·
     by_cases h2 : r ≤ y
     ·
      have g1 : decide (r < x) = false := decide_eq_false h1
      have g2 : decide (r ≤ y) = true := decide_eq_true h2
      have hv : V = true := HR.out.2 (HA.out (by omega) h2)
      have HV2 := Lib.hid hv
      clear h1 h2 hv
      go_wp2_with fail
      go_ret
      refine ⟨_, rfl, ?_, rfl⟩
      rw [HV2.out, bne_iff_ne]
      omega
     ·
      have g1 : decide (r < x) = false := decide_eq_false h1
      have g2 : decide (r ≤ y) = false := decide_eq_false h2
      have HR2 := Lib.hid (HR.out.trans (HU.out (by omega)))
      clear h1 h2
      go_wp2_with fail
      go_roundw
      case rel => exact ⟨k + 1, m + 2, by go_num, by have := HM.out; omega, HK.out, HR2, trivial⟩
      case measure => simp [Go.RowKit.intOf]; omega
   ·
    have hk2 : k = 4 := by omega
    subst hk2
    have hv : V = false := by
     cases V with
     | false => rfl
     | true => exact absurd (HR.out.1 rfl) inR_none
    have HV2 := Lib.hid hv
    have hm2 : m = 8 := hm
    clear hlt hk hv hm
    subst hm2
    go_wp2_with fail
    go_ret
    exact ⟨_, rfl, by rw [HV2.out]; rfl, rfl⟩

/-- MatchRunePos at a class of up to four sorted pairs. -/
theorem runePos (ib off rb c n : Nat) (l : List Int) (r : Int) (V : Bool) (w : World) (hi : w.cell? ⟨ib, off + 3, none⟩ = some (.slice (some ⟨rb, 0, none⟩) (2 * n) c)) (hl : Cells w rb l)
    (hn : l.length = 2 * n) (h0 : 0 < n) (h4 : n ≤ 4) (hs : Srt l) (hV : V = true ↔ inR l r 0 n) :
    Calls Tryz.prog 124 #[.pointer (some ⟨ib, off, none⟩), .int .i32 r] w (PosR V w) := by
  by_cases h1 : n = 1
  · subst h1; exact runePos1 ib off rb c l r V w hi hl hn hV
  · exact runePosL ib off rb c n l r V w hi hl hn (by omega) hs hV

set_option maxHeartbeats 1000000 in
theorem matchRune (ib off rb c n : Nat) (l : List Int) (r : Int) (V : Bool) (w : World) (hi : w.cell? ⟨ib, off + 3, none⟩ = some (.slice (some ⟨rb, 0, none⟩) (2 * n) c)) (hl : Cells w rb l)
    (hn : l.length = 2 * n) (h0 : 0 < n) (h4 : n ≤ 4) (hs : Srt l) (hV : V = true ↔ inR l r 0 n) :
    Calls Tryz.prog 120 #[.pointer (some ⟨ib, off, none⟩), .int .i32 r] w fun e w' => e = .returned (.bool V) ∧ w = w' := by
  have C := Lib.hid (runePos ib off rb c n l r V w hi hl hn h0 h4 hs hV)
  clear hi hl hn h0 h4 hs hV
  go_enter Tryz.func120, Tryz.ntmps120
  go_wp2_with (go_at_call 124; refine C.out.mono ?_; rintro e w' ⟨k, rfl, hk, rfl⟩; have HK := Lib.hid hk; clear hk)
  go_ret
  exact ⟨by simp; exact HK.out, rfl⟩

end Go.Proofs.YtjgedenoaocfjaaGreatDoor.Rxw
namespace Go.Proofs.YtjgedenoaocfjaaGreatDoor.Rxw

open Go Go.RowKit Go.Lib Go.Proofs Go.Proofs.YtjgedenoaocfjaaGreatDoor.Base Go.Proofs.YtjgedenoaocfjaaGreatDoor.Rx

/-- The program P lies in memory: the expression, its program, its instructions. -/
structure PR (w : World) (re pr ib : Nat) (P : List Ins) (cN : Nat) : Prop where
  prog : w.cell? ⟨re, 1, none⟩ = some (.pointer (some ⟨pr, 0, none⟩))
  longest : w.cell? ⟨re, 15, none⟩ = some (.bool false)
  insts : w.cell? ⟨pr, 0, none⟩ = some (.slice (some ⟨ib, 0, none⟩) P.length cN)
  op : ∀ pc i, P[pc]? = some i → w.cell? ⟨ib, pc * 4, none⟩ = some (.int .u8 i.op)
  out : ∀ pc i, P[pc]? = some i → w.cell? ⟨ib, pc * 4 + 1, none⟩ = some (.int .u32 i.out)
  arg : ∀ pc i, P[pc]? = some i → w.cell? ⟨ib, pc * 4 + 2, none⟩ = some (.int .u32 i.arg)
  cls : ∀ pc i, P[pc]? = some i → i.op = 7 ∨ i.op = 8 → ∃ rb c, rb < w.heap.size ∧ w.cell? ⟨ib, pc * 4 + 3, none⟩ = some (.slice (some ⟨rb, 0, none⟩) i.cls.length c) ∧ Cells w rb i.cls
  lre : re < w.heap.size
  lpr : pr < w.heap.size
  lib : ib < w.heap.size

theorem PR.below {w w' : World} {re pr ib : Nat} {P : List Ins} {cN B : Nat} (h : PR w re pr ib P cN) (hB : w.heap.size ≤ B) (hb : Below B w w') : PR w' re pr ib P cN where
  prog := (hb.cell (p := ⟨re, 1, none⟩) (Nat.lt_of_lt_of_le h.lre hB)).trans h.prog
  longest := (hb.cell (p := ⟨re, 15, none⟩) (Nat.lt_of_lt_of_le h.lre hB)).trans h.longest
  insts := (hb.cell (p := ⟨pr, 0, none⟩) (Nat.lt_of_lt_of_le h.lpr hB)).trans h.insts
  op := fun pc i hi => (hb.cell (p := ⟨ib, pc * 4, none⟩) (Nat.lt_of_lt_of_le h.lib hB)).trans (h.op pc i hi)
  out := fun pc i hi => (hb.cell (p := ⟨ib, pc * 4 + 1, none⟩) (Nat.lt_of_lt_of_le h.lib hB)).trans (h.out pc i hi)
  arg := fun pc i hi => (hb.cell (p := ⟨ib, pc * 4 + 2, none⟩) (Nat.lt_of_lt_of_le h.lib hB)).trans (h.arg pc i hi)
  cls := fun pc i hi ho => by
    obtain ⟨rb, c, h1, h2, h3⟩ := h.cls pc i hi ho
    exact ⟨rb, c, Nat.lt_of_lt_of_le h1 hb.size, (hb.cell (p := ⟨ib, pc * 4 + 3, none⟩) (Nat.lt_of_lt_of_le h.lib hB)).trans h2, fun j x hx => (hb.cell (p := ⟨rb, j, none⟩) (Nat.lt_of_lt_of_le h1 hB)).trans (h3 j x hx)⟩
  lre := Nat.lt_of_lt_of_le h.lre hb.size
  lpr := Nat.lt_of_lt_of_le h.lpr hb.size
  lib := Nat.lt_of_lt_of_le h.lib hb.size

/-- What does not turn in a state: its blocks, how long they are, the text. -/
structure Sh where
  b : Nat
  C : Nat
  D : Nat
  V : Nat
  nv : Nat
  cv : Nat
  L : Nat
  fin : Nat
  s : ByteArray

def jcell (j : Job) : List Value := [.int .u32 j.1, .bool j.2.1, .int .i64 j.2.2]

def jcells (J : List Job) : List Value := J.reverse.flatMap jcell

theorem jcells_len (J : List Job) : (jcells J).length = J.length * 3 := by
  unfold jcells
  induction J with
  | nil => rfl
  | cons j J ih => rw [List.reverse_cons, List.flatMap_append, List.length_append, ih]; simp [jcell]; omega

theorem jcells_cons (j : Job) (J : List Job) : jcells (j :: J) = jcells J ++ jcell j := by
  unfold jcells
  rw [List.reverse_cons, List.flatMap_append]
  simp

/-- What is marked. -/
def Vf (ws : List Nat) (n : Nat) : Bool := (ws.getD (n / 32) 0).testBit (n % 32)

def bitCells (h : Sh) (jv : Value) : List Value := [.int .i64 h.fin, .slice (some ⟨h.C, 0, none⟩) h.L h.L, .slice (some ⟨h.D, 0, none⟩) h.L h.L, jv, .slice (some ⟨h.V, 0, none⟩) h.nv h.cv, .string h.s]

structure BS (w : World) (B : Nat) (h : Sh) (jv : Value) (J : List Job) (ws : List Nat) (c d : List Int) : Prop where
  bit : Row w h.b 168 (bitCells h jv)
  cap : Row w h.C 3 (c.map fun x => .int .i64 x)
  mat : Row w h.D 3 (d.map fun x => .int .i64 x)
  vis : Row w h.V 118 (ws.map fun (x : Nat) => .int .u32 (x : Int))
  job : w.ownsRow B 182 3 jv J.length (jcells J)
  lc : c.length = h.L
  ld : d.length = h.L
  cd : h.C ≠ h.D
  wl : h.nv ≤ ws.length
  small : ∀ x ∈ ws, x < 4294967296
  gb : B ≤ h.b
  gC : B ≤ h.C
  gD : B ≤ h.D
  gV : B ≤ h.V

theorem row_ne {w : World} {g g' : Nat} {e e' : TypeId} {xs ys : List Value} (h : Row w g e xs) (h' : Row w g' e' ys) (hne : e ≠ e') : g ≠ g' := by
  rintro rfl
  unfold Row at h h'
  rw [h] at h'
  simp at h'
  exact hne h'.2

theorem own_ne {w : World} {g : Nat} {e e' : TypeId} {xs ys : List Value} {B sz n : Nat} {v : Value} (h : Row w g e xs) (ho : w.ownsRow B e' sz v n ys) (hne : e ≠ e') : v.ownBlock ≠ some g := by
  intro hb
  rcases ho.2 with ⟨rfl, _⟩ | ⟨g', cap, cur, rfl, _, hc, _⟩
  · simp [Value.ownBlock] at hb
  · simp [Value.ownBlock] at hb
    subst hb
    unfold Row at h
    rw [h] at hc
    simp at hc
    exact hne hc.2

theorem own_far {w : World} {e : TypeId} {ys : List Value} {B sz n : Nat} {v : Value} (ho : w.ownsRow B e sz v n ys) (p : Addr) (hp : v.ownBlock ≠ some p.block) (y : Value) : (w.setCell p y).ownsRow B e sz v n ys := by
  refine ⟨ho.1, ?_⟩
  rcases ho.2 with h | ⟨g', cap, cur, rfl, h1, h2, h3⟩
  · exact .inl h
  · refine .inr ⟨g', cap, cur, rfl, h1, ?_, h3⟩
    rw [Below.heap_setCell w p y g' (by intro h; apply hp; simp [Value.ownBlock, h])]
    exact h2

theorem own_pop {w : World} {B : Nat} {v : Value} {j : Job} {J : List Job} (ho : w.ownsRow B 182 3 v (j :: J).length (jcells (j :: J))) :
    ∃ g cap, v = .slice (some ⟨g, 0, none⟩) (J.length + 1) cap ∧ J.length + 1 ≤ cap ∧ w.ownsRow B 182 3 (.slice (some ⟨g, 0, none⟩) J.length cap) J.length (jcells J) ∧
      w.cell? ⟨g, J.length * 3, none⟩ = some (.int .u32 j.1) ∧ w.cell? ⟨g, J.length * 3 + 1, none⟩ = some (.bool j.2.1) ∧ w.cell? ⟨g, J.length * 3 + 2, none⟩ = some (.int .i64 j.2.2) := by
  have hcells := fun g (hg : v.ownBlock = some g) => ho.cells hg
  rcases ho.2 with ⟨_, h⟩ | ⟨g, cap, cur, rfl, h1, h2, h3, h4, h5, h6⟩
  · simp at h
  · have hl := jcells_len J
    have hat : ∀ k u, (jcell j)[k]? = some u → w.cell? ⟨g, J.length * 3 + k, none⟩ = some u := by
      intro k u hu
      have := hcells g rfl (J.length * 3 + k) u (by rw [jcells_cons, List.getElem?_append_right (by omega), hl, Nat.add_sub_cancel_left]; exact hu)
      have e : (⟨g, 0, none⟩ : Addr).add (J.length * 3 + k) = ⟨g, J.length * 3 + k, none⟩ := by
        unfold Addr.add
        split
        · rename_i h0; simp at h0; rw [h0.1, h0.2]
        · simp
      rwa [e] at this
    refine ⟨g, cap, rfl, by simpa using h3, ⟨hl, .inr ⟨g, cap, cur, rfl, h1, h2, by simp at h3; omega, h4, h5, ?_⟩⟩, hat 0 _ rfl, hat 1 _ rfl, hat 2 _ rfl⟩
    rw [jcells_cons] at h6
    have h7 := congrArg (List.take (J.length * 3)) h6
    rw [List.take_take, ← hl, List.take_left, hl, Nat.min_eq_left (by simp; omega)] at h7
    exact h7

theorem BS.lt {w : World} {B : Nat} {h : Sh} {jv : Value} {J ws c d} (H : BS w B h jv J ws c d) : h.b < w.heap.size ∧ h.C < w.heap.size ∧ h.D < w.heap.size ∧ h.V < w.heap.size := ⟨H.bit.lt, H.cap.lt, H.mat.lt, H.vis.lt⟩

/-- Behind a store of the slice of jobs: an append to it ahead. -/
theorem BS.pushed {w w1 : World} {B : Nat} {h : Sh} {jv jv' : Value} {j : Job} {J ws c d} (H : BS w B h jv J ws c d) (hg : w.grownBy w1 jv.ownBlock) (ho : w1.ownsRow B 182 3 jv' (J.length + 1) (jcells J ++ jcell j)) :
    BS (w1.setCell ⟨h.b, 3, none⟩ jv') B h jv' (j :: J) ws c d := by
  have nb := own_ne H.bit H.job (by decide)
  have nC := own_ne H.cap H.job (by decide)
  have nD := own_ne H.mat H.job (by decide)
  have nV := own_ne H.vis H.job (by decide)
  have b1 := H.bit.grown hg (Ne.symm nb)
  have C1 := H.cap.grown hg (Ne.symm nC)
  have D1 := H.mat.grown hg (Ne.symm nD)
  have V1 := H.vis.grown hg (Ne.symm nV)
  refine ⟨?_, C1.far _ (row_ne C1 b1 (by decide)) _, D1.far _ (row_ne D1 b1 (by decide)) _, V1.far _ (row_ne V1 b1 (by decide)) _, ?_, H.lc, H.ld, H.cd, H.wl, H.small, H.gb, H.gC, H.gD, H.gV⟩
  · exact b1.set 3 (by simp [bitCells]) jv'
  · rw [jcells_cons]
    exact own_far ho _ (own_ne b1 ho (by decide)) _

/-- Behind a pop. -/
theorem BS.popped {w : World} {B : Nat} {h : Sh} {jv jv' : Value} {j : Job} {J ws c d} (H : BS w B h jv (j :: J) ws c d) (ho : w.ownsRow B 182 3 jv' J.length (jcells J)) :
    BS (w.setCell ⟨h.b, 3, none⟩ jv') B h jv' J ws c d := by
  refine ⟨H.bit.set 3 (by simp [bitCells]) jv', H.cap.far _ (row_ne H.cap H.bit (by decide)) _, H.mat.far _ (row_ne H.mat H.bit (by decide)) _, H.vis.far _ (row_ne H.vis H.bit (by decide)) _, own_far ho _ (own_ne H.bit ho (by decide)) _, H.lc, H.ld, H.cd, H.wl, H.small, H.gb, H.gC, H.gD, H.gV⟩

theorem map_set' {α : Type} (f : α → Value) (l : List α) (k : Nat) (x : α) : (l.map f).set k (f x) = (l.set k x).map f := by
  apply List.ext_getElem?
  intro i
  rw [List.getElem?_map, List.getElem?_set, List.getElem?_set, List.length_map, List.getElem?_map]
  split
  · split <;> rfl
  · rfl

/-- Behind a mark. -/
theorem BS.marked {w : World} {B : Nat} {h : Sh} {jv : Value} {J ws c d} (H : BS w B h jv J ws c d) (q z : Nat) (hq : q < ws.length) (hz : z < 4294967296) :
    BS (w.setCell ⟨h.V, q, none⟩ (.int .u32 (z : Int))) B h jv J (ws.set q z) c d := by
  refine ⟨H.bit.far _ (row_ne H.bit H.vis (by decide)) _, H.cap.far _ (row_ne H.cap H.vis (by decide)) _, H.mat.far _ (row_ne H.mat H.vis (by decide)) _, ?_, own_far H.job _ (own_ne H.vis H.job (by decide)) _, H.lc, H.ld, H.cd, by rw [List.length_set]; exact H.wl, ?_, H.gb, H.gC, H.gD, H.gV⟩
  · have := H.vis.set q (by rw [List.length_map]; exact hq) (.int .u32 (z : Int))
    rw [map_set' (fun (x : Nat) => Value.int .u32 (x : Int))] at this
    exact this
  · intro x hx
    rcases List.mem_or_eq_of_mem_set hx with h | h
    · exact H.small x h
    · rw [h]; exact hz

/-- Behind a capture. -/
theorem BS.capped {w : World} {B : Nat} {h : Sh} {jv : Value} {J ws c d} (H : BS w B h jv J ws c d) (k : Nat) (hk : k < c.length) (x : Int) :
    BS (w.setCell ⟨h.C, k, none⟩ (.int .i64 x)) B h jv J ws (c.set k x) d := by
  refine ⟨H.bit.far _ (row_ne H.bit H.cap (by decide)) _, ?_, H.mat.far _ (fun e => H.cd e.symm) _, H.vis.far _ (row_ne H.vis H.cap (by decide)) _, own_far H.job _ (own_ne H.cap H.job (by decide)) _, by rw [List.length_set]; exact H.lc, H.ld, H.cd, H.wl, H.small, H.gb, H.gC, H.gD, H.gV⟩
  have := H.cap.set k (by rw [List.length_map]; exact hk) (.int .i64 x)
  rw [map_set' (fun (x : Int) => Value.int .i64 x)] at this
  exact this

theorem BS.drew {w : World} {B : Nat} {h : Sh} {jv : Value} {J ws c d} (H : BS w B h jv J ws c d) : BS w.drew B h jv J ws c d := ⟨H.bit, H.cap, H.mat, H.vis, H.job, H.lc, H.ld, H.cd, H.wl, H.small, H.gb, H.gC, H.gD, H.gV⟩

theorem BS.drewN {w : World} {B : Nat} {h : Sh} {jv : Value} {J ws c d} (H : BS w B h jv J ws c d) (n : Nat) : BS (w.drewN n) B h jv J ws c d := ⟨H.bit, H.cap, H.mat, H.vis, H.job, H.lc, H.ld, H.cd, H.wl, H.small, H.gb, H.gC, H.gD, H.gV⟩

theorem BS.heap {w W : World} {B : Nat} {h : Sh} {jv : Value} {J ws c d} (H : BS w B h jv J ws c d) (e : W.heap = w.heap) : BS W B h jv J ws c d := by
  obtain ⟨h1, h2, h3, h4, h5, h6⟩ := H
  unfold Row World.ownsRow at *
  rw [← e] at h1 h2 h3 h4 h5
  exact ⟨h1, h2, h3, h4, h5, by assumption, by assumption, by assumption, by assumption, by assumption, by assumption, by assumption, by assumption, by assumption⟩

theorem PR.heap {w W : World} {re pr ib : Nat} {P : List Ins} {cN : Nat} (h : PR w re pr ib P cN) (e : W.heap = w.heap) : PR W re pr ib P cN := by
  have hc : ∀ a, W.cell? a = w.cell? a := fun a => by simp [World.cell?, e]
  refine ⟨by rw [hc]; exact h.prog, by rw [hc]; exact h.longest, by rw [hc]; exact h.insts, fun pc i hi => by rw [hc]; exact h.op pc i hi, fun pc i hi => by rw [hc]; exact h.out pc i hi, fun pc i hi => by rw [hc]; exact h.arg pc i hi, fun pc i hi ho => ?_, by rw [e]; exact h.lre, by rw [e]; exact h.lpr, by rw [e]; exact h.lib⟩
  obtain ⟨rb, c, h1, h2, h3⟩ := h.cls pc i hi ho
  exact ⟨rb, c, by rw [e]; exact h1, by rw [hc]; exact h2, fun j x hx => by rw [hc]; exact h3 j x hx⟩

end Go.Proofs.YtjgedenoaocfjaaGreatDoor.Rxw
namespace Go.Proofs.YtjgedenoaocfjaaGreatDoor.Rxw

open Go Go.RowKit Go.Lib Go.Proofs Go.Proofs.YtjgedenoaocfjaaGreatDoor.Base Go.Proofs.YtjgedenoaocfjaaGreatDoor.Rx

abbrev nilS : Value := .slice none 0 0

theorem newState (w : World) : Calls Tryz.prog 109 #[] w fun e w' =>
    e = .returned (.pointer (some ⟨w.heap.size, 0, none⟩)) ∧ w' = w.alloc (.cells #[.int .i64 0, nilS, nilS, nilS, nilS, .string ⟨#[]⟩] 168) := by
  go_enter Tryz.func109, Tryz.ntmps109
  go_wp2_with fail
  go_ret
  exact ⟨rfl, rfl⟩

theorem newStr (w : World) (b : Nat) (s s0 : ByteArray) (hc : w.cell? ⟨b, 5, none⟩ = some (.string s0)) (hf : w.frozen? ⟨b, 5, none⟩ = false) :
    Calls Tryz.prog 117 #[.pointer (some ⟨b, 5, none⟩), .string s] w fun e w' =>
    e = .returned (.iface 191 (.pointer (some ⟨b, 5, none⟩))) ∧ w' = w.setCell ⟨b, 5, none⟩ (.string s) := by
  go_enter Tryz.func117, Tryz.ntmps117
  go_wp2_with fail
  go_ret
  exact ⟨rfl, rfl⟩

theorem initStr (w : World) (b : Nat) (s s0 : ByteArray) (x y : Value) (hc : w.cell? ⟨b, 5, none⟩ = some (.string s0)) (hf : w.frozen? ⟨b, 5, none⟩ = false) :
    Calls Tryz.prog 110 #[.pointer (some ⟨b, 5, none⟩), x, y, .string s] w fun e w' =>
    e = .returned (.tuple #[.iface 191 (.pointer (some ⟨b, 5, none⟩)), .int .i64 s.size]) ∧ w' = w.setCell ⟨b, 5, none⟩ (.string s) := by
  have C := Lib.hid (newStr w b s s0 hc hf)
  clear hc hf
  go_enter Tryz.func110, Tryz.ntmps110
  go_wp2_with (go_at_call 117; (with_reducible refine C.out.mono ?_); rintro e w' ⟨rfl, rfl⟩)
  go_ret2
  exact ⟨rfl, rfl⟩

theorem clearStr (w : World) (b : Nat) (s0 : ByteArray) (hc : w.cell? ⟨b, 5, none⟩ = some (.string s0)) (hf : w.frozen? ⟨b, 5, none⟩ = false) :
    Calls Tryz.prog 122 #[.pointer (some ⟨b, 5, none⟩)] w fun e w' => e = .returned (.tuple #[]) ∧ w' = w.setCell ⟨b, 5, none⟩ (.string ⟨#[]⟩) := by
  go_enter Tryz.func122, Tryz.ntmps122
  go_wp2_with fail
  go_end0
  exact ⟨rfl, rfl⟩

theorem freeState (w : World) (b : Nat) (s0 : ByteArray) (hc : w.cell? ⟨b, 5, none⟩ = some (.string s0)) (hf : w.frozen? ⟨b, 5, none⟩ = false) :
    Calls Tryz.prog 113 #[.pointer (some ⟨b, 0, none⟩)] w fun e w' => e = .returned (.tuple #[]) ∧ w' = w.setCell ⟨b, 5, none⟩ (.string ⟨#[]⟩) := by
  have C := Lib.hid (clearStr w b s0 hc hf)
  clear hc hf
  go_enter Tryz.func113, Tryz.ntmps113
  go_wp2_with (go_at_call 122; (with_reducible refine C.out.mono ?_); rintro e w' ⟨rfl, rfl⟩)
  go_end0
  exact ⟨rfl, rfl⟩

end Go.Proofs.YtjgedenoaocfjaaGreatDoor.Rxw
