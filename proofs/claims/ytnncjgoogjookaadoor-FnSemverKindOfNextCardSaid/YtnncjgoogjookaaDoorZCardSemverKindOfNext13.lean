/- The row and the tied card of FnSemverKindOfNext, out of its printed walk and its plain law. For every input that the statement lets in. -/
import Derived.Test.YtnncjgoogjookaaDoorProg
import Derived.Shelf.GgClosure.StringsIndexFunc
import Derived.WalkKit
import Derived.KernelRfl
import Derived.Lib.OthersKept
import Derived.Deep.LoopGhost
import Derived.Lib.Hide
namespace Go.Proofs.YtnncjgoogjookaaDoor.RuneSem

open Go.RowKit Go.Lib Go.Proofs

set_option maxHeartbeats 2000000 in
set_option maxRecDepth 1000000 in
theorem indexRune (s : ByteArray) (r : Nat) (hr : r < 55296) (w : World) :
    Calls Tryd.prog 36 #[.string s, .int .i32 (r : Int)] w fun e w' => e = .returned (.int .i64 (Lib.idxFunc (fun c => decide (c = r)) true s)) ∧ Below w.heap.size w w' := by
  have b1 : decide ((r : Int) < 0) = false := decide_eq_false (by omega)
  have b2 : decide (1114111 < (r : Int)) = false := decide_eq_false (by omega)
  have b3 : decide (55296 ≤ (r : Int)) = false := decide_eq_false (by omega)
  have b4 : ((r : Int) != 65533) = true := bne_iff_ne.2 (by omega)
  go_enter Tryd.func36, Tryd.ntmps36
  go_wp2
  go_loopg [] s.size (fun gf wx => ∃ pos : Nat, wx.heap[w.heap.size]? = some (.stringIter s pos) ∧ Below w.heap.size w wx ∧ Lib.idxFuncFrom (fun c => decide (c = r)) true s gf pos = Lib.idxFunc (fun c => decide (c = r)) true s ∧ s.size ≤ pos + gf)
  case atStart => exact ⟨0, World.iter_heap w s 0, (Below.refl _ w).alloc (Nat.le_refl _) _, rfl, by omega⟩
  case round =>
    obtain ⟨pos, hit, hbw, hleft, hfu⟩ := hrel
    by_cases hps : pos < s.size
    · obtain ⟨g', rfl⟩ : ∃ g', gk = g' + 1 := ⟨gk - 1, by omega⟩
      have hnx : ∀ ty, (Instr.next (.pointer (some ⟨w.heap.size, 0, none⟩)) true ty).run Tryd.prog wr = _ := fun ty => Lib.run_next_any_at wr w.heap.size s pos ty hit hps
      have hwd := Lib.width_pos s pos
      obtain ⟨R, hR⟩ : ∃ R, (Utf8.decode s pos).1 = R := ⟨_, rfl⟩
      obtain ⟨K, hK⟩ : ∃ K, (Utf8.decode s pos).2 = K := ⟨_, rfl⟩
      simp only [Lib.idxFuncFrom, hps, if_true, hR, hK] at hleft
      rw [hR, hK] at hnx
      rw [hK] at hwd
      clear hR hK
      have hit2 := Lib.iterAt_heap wr w.heap.size s pos (pos + K) hit
      have hbw2 := Lib.below_iterAt hbw (k := w.heap.size) (Nat.le_refl _) s (pos + K)
      obtain ⟨W, hWd⟩ : ∃ W, wr.iterAt w.heap.size s (pos + K) = W := ⟨_, rfl⟩
      rw [hWd] at hnx hit2 hbw2
      clear hWd
      by_cases e : R = r
      · subst e
        have HL := Lib.hid hleft; clear hleft
        go_wp2
        go_ret
        have hl := HL.out
        simp only [decide_true, if_true] at hl
        exact ⟨by rw [← hl] <;> rfl, hbw2⟩
      · have hb : ((R : Int) == (r : Int)) = false := beq_eq_false_iff_ne.2 (by omega)
        simp only [e, decide_false, Bool.false_eq_true, if_false] at hleft
        have HL := Lib.hid hleft; clear hleft
        go_wp2
        go_roundg g'
        case measure => omega
        case rel => exact ⟨pos + K, hit2, hbw2, HL.out, by omega⟩
    · have hnx : ∀ ty, (Instr.next (.pointer (some ⟨w.heap.size, 0, none⟩)) true ty).run Tryd.prog wr = _ := fun ty => Lib.run_next_end_at wr w.heap.size s pos ty hit hps
      rw [Lib.idxFuncFrom_end _ true s gk pos hps] at hleft
      have HL := Lib.hid hleft; clear hleft
      go_wp2
      go_ret
      exact ⟨by rw [← HL.out] <;> rfl, hbw⟩

set_option maxHeartbeats 2000000 in
set_option maxRecDepth 1000000 in
theorem indexRune_high (s : ByteArray) (r : Nat) (hr : 57343 < r) (hr2 : r ≤ 1114111) (w : World) :
    Calls Tryd.prog 36 #[.string s, .int .i32 (r : Int)] w fun e w' => e = .returned (.int .i64 (Lib.idxFunc (fun c => decide (c = r)) true s)) ∧ Below w.heap.size w w' := by
  have b1 : decide ((r : Int) < 0) = false := decide_eq_false (by omega)
  have b2 : decide (1114111 < (r : Int)) = false := decide_eq_false (by omega)
  have b3 : decide (55296 ≤ (r : Int)) = true := decide_eq_true (by omega)
  have b5 : decide ((r : Int) ≤ 57343) = false := decide_eq_false (by omega)
  by_cases q : r = 65533
  · have b4 : ((r : Int) != 65533) = false := by rw [bne_eq_false_iff_eq]; omega
    clear q
    go_enter Tryd.func36, Tryd.ntmps36
    go_wp2
    go_loopg [] s.size (fun gf wx => ∃ pos : Nat, wx.heap[w.heap.size]? = some (.stringIter s pos) ∧ Below w.heap.size w wx ∧ Lib.idxFuncFrom (fun c => decide (c = r)) true s gf pos = Lib.idxFunc (fun c => decide (c = r)) true s ∧ s.size ≤ pos + gf)
    case atStart => exact ⟨0, World.iter_heap w s 0, (Below.refl _ w).alloc (Nat.le_refl _) _, rfl, by omega⟩
    case round =>
      obtain ⟨pos, hit, hbw, hleft, hfu⟩ := hrel
      by_cases hps : pos < s.size
      · obtain ⟨g', rfl⟩ : ∃ g', gk = g' + 1 := ⟨gk - 1, by omega⟩
        have hnx : ∀ ty, (Instr.next (.pointer (some ⟨w.heap.size, 0, none⟩)) true ty).run Tryd.prog wr = _ := fun ty => Lib.run_next_any_at wr w.heap.size s pos ty hit hps
        have hwd := Lib.width_pos s pos
        obtain ⟨R, hR⟩ : ∃ R, (Utf8.decode s pos).1 = R := ⟨_, rfl⟩
        obtain ⟨K, hK⟩ : ∃ K, (Utf8.decode s pos).2 = K := ⟨_, rfl⟩
        simp only [Lib.idxFuncFrom, hps, if_true, hR, hK] at hleft
        rw [hR, hK] at hnx
        rw [hK] at hwd
        clear hR hK
        have hit2 := Lib.iterAt_heap wr w.heap.size s pos (pos + K) hit
        have hbw2 := Lib.below_iterAt hbw (k := w.heap.size) (Nat.le_refl _) s (pos + K)
        obtain ⟨W, hWd⟩ : ∃ W, wr.iterAt w.heap.size s (pos + K) = W := ⟨_, rfl⟩
        rw [hWd] at hnx hit2 hbw2
        clear hWd
        by_cases e : R = r
        · subst e
          have HL := Lib.hid hleft; clear hleft
          go_wp2
          go_ret
          have hl := HL.out
          simp only [decide_true, if_true] at hl
          exact ⟨by rw [← hl] <;> rfl, hbw2⟩
        · have hb : ((R : Int) == (r : Int)) = false := beq_eq_false_iff_ne.2 (by omega)
          simp only [e, decide_false, Bool.false_eq_true, if_false] at hleft
          have HL := Lib.hid hleft; clear hleft
          go_wp2
          go_roundg g'
          case measure => omega
          case rel => exact ⟨pos + K, hit2, hbw2, HL.out, by omega⟩
      · have hnx : ∀ ty, (Instr.next (.pointer (some ⟨w.heap.size, 0, none⟩)) true ty).run Tryd.prog wr = _ := fun ty => Lib.run_next_end_at wr w.heap.size s pos ty hit hps
        rw [Lib.idxFuncFrom_end _ true s gk pos hps] at hleft
        have HL := Lib.hid hleft; clear hleft
        go_wp2
        go_ret
        exact ⟨by rw [← HL.out] <;> rfl, hbw⟩
  · have b4 : ((r : Int) != 65533) = true := bne_iff_ne.2 (by omega)
    clear q
    go_enter Tryd.func36, Tryd.ntmps36
    go_wp2
    go_loopg [] s.size (fun gf wx => ∃ pos : Nat, wx.heap[w.heap.size]? = some (.stringIter s pos) ∧ Below w.heap.size w wx ∧ Lib.idxFuncFrom (fun c => decide (c = r)) true s gf pos = Lib.idxFunc (fun c => decide (c = r)) true s ∧ s.size ≤ pos + gf)
    case atStart => exact ⟨0, World.iter_heap w s 0, (Below.refl _ w).alloc (Nat.le_refl _) _, rfl, by omega⟩
    case round =>
      obtain ⟨pos, hit, hbw, hleft, hfu⟩ := hrel
      by_cases hps : pos < s.size
      · obtain ⟨g', rfl⟩ : ∃ g', gk = g' + 1 := ⟨gk - 1, by omega⟩
        have hnx : ∀ ty, (Instr.next (.pointer (some ⟨w.heap.size, 0, none⟩)) true ty).run Tryd.prog wr = _ := fun ty => Lib.run_next_any_at wr w.heap.size s pos ty hit hps
        have hwd := Lib.width_pos s pos
        obtain ⟨R, hR⟩ : ∃ R, (Utf8.decode s pos).1 = R := ⟨_, rfl⟩
        obtain ⟨K, hK⟩ : ∃ K, (Utf8.decode s pos).2 = K := ⟨_, rfl⟩
        simp only [Lib.idxFuncFrom, hps, if_true, hR, hK] at hleft
        rw [hR, hK] at hnx
        rw [hK] at hwd
        clear hR hK
        have hit2 := Lib.iterAt_heap wr w.heap.size s pos (pos + K) hit
        have hbw2 := Lib.below_iterAt hbw (k := w.heap.size) (Nat.le_refl _) s (pos + K)
        obtain ⟨W, hWd⟩ : ∃ W, wr.iterAt w.heap.size s (pos + K) = W := ⟨_, rfl⟩
        rw [hWd] at hnx hit2 hbw2
        clear hWd
        by_cases e : R = r
        · subst e
          have HL := Lib.hid hleft; clear hleft
          go_wp2
          go_ret
          have hl := HL.out
          simp only [decide_true, if_true] at hl
          exact ⟨by rw [← hl] <;> rfl, hbw2⟩
        · have hb : ((R : Int) == (r : Int)) = false := beq_eq_false_iff_ne.2 (by omega)
          simp only [e, decide_false, Bool.false_eq_true, if_false] at hleft
          have HL := Lib.hid hleft; clear hleft
          go_wp2
          go_roundg g'
          case measure => omega
          case rel => exact ⟨pos + K, hit2, hbw2, HL.out, by omega⟩
      · have hnx : ∀ ty, (Instr.next (.pointer (some ⟨w.heap.size, 0, none⟩)) true ty).run Tryd.prog wr = _ := fun ty => Lib.run_next_end_at wr w.heap.size s pos ty hit hps
        rw [Lib.idxFuncFrom_end _ true s gk pos hps] at hleft
        have HL := Lib.hid hleft; clear hleft
        go_wp2
        go_ret
        exact ⟨by rw [← HL.out] <;> rfl, hbw⟩

set_option maxHeartbeats 2000000 in
theorem indexRune_mid (s : ByteArray) (r : Nat) (hr : 55296 ≤ r) (hr2 : r ≤ 57343) (w : World) :
    Calls Tryd.prog 36 #[.string s, .int .i32 (r : Int)] w fun e w' => e = .returned (.int .i64 (-1)) ∧ Below w.heap.size w w' := by
  have b1 : decide ((r : Int) < 0) = false := decide_eq_false (by omega)
  have b2 : decide (1114111 < (r : Int)) = false := decide_eq_false (by omega)
  have b3 : decide (55296 ≤ (r : Int)) = true := decide_eq_true (by omega)
  have b5 : decide ((r : Int) ≤ 57343) = true := decide_eq_true (by omega)
  have b4 : ((r : Int) != 65533) = true := bne_iff_ne.2 (by omega)
  go_enter Tryd.func36, Tryd.ntmps36
  go_wp2
  go_ret
  exact ⟨rfl, Below.refl _ _⟩

/-- Is r one of the string's runes, as the code asks it? -/
def has (s : ByteArray) (x : Nat) : Bool := if 55296 ≤ x ∧ x ≤ 57343 then false else decide (0 ≤ Lib.idxFunc (fun c => decide (c = x)) true s)

set_option maxHeartbeats 1000000 in
theorem containsRune (s : ByteArray) (r : Nat) (hr : r < 55296) (w : World) :
    Calls Tryd.prog 29 #[.string s, .int .i32 (r : Int)] w fun e w' => e = .returned (.bool (decide (0 ≤ Lib.idxFunc (fun c => decide (c = r)) true s))) ∧ Below w.heap.size w w' := by
  go_enter Tryd.func29, Tryd.ntmps29
  go_wp2_with (go_at_call 36; refine (indexRune s r hr _).mono ?_; rintro e w' ⟨rfl, hb⟩)
  go_ret
  exact ⟨rfl, hb⟩

set_option maxHeartbeats 1000000 in
theorem containsRune_any (s : ByteArray) (r : Nat) (hr : r ≤ 1114111) (w : World) :
    Calls Tryd.prog 29 #[.string s, .int .i32 (r : Int)] w fun e w' => e = .returned (.bool (has s r)) ∧ Below w.heap.size w w' := by
  by_cases h1 : r < 55296
  · unfold has; rw [if_neg (by omega)]; exact containsRune s r h1 w
  · by_cases h2 : r ≤ 57343
    · unfold has; rw [if_pos (by omega)]
      go_enter Tryd.func29, Tryd.ntmps29
      go_wp2_with (go_at_call 36; refine (indexRune_mid s r (by omega) h2 _).mono ?_; rintro e w' ⟨rfl, hb⟩)
      go_ret
      exact ⟨rfl, hb⟩
    · unfold has; rw [if_neg (by omega)]
      go_enter Tryd.func29, Tryd.ntmps29
      go_wp2_with (go_at_call 36; refine (indexRune_high s r (by omega) hr _).mono ?_; rintro e w' ⟨rfl, hb⟩)
      go_ret
      exact ⟨rfl, hb⟩

end Go.Proofs.YtnncjgoogjookaaDoor.RuneSem
