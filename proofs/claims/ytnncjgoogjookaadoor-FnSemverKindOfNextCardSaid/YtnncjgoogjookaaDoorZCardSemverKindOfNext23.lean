/- The row and the tied card of FnSemverKindOfNext, out of its printed walk and its plain law. For every input that the statement lets in. -/
import Derived.Test.YtnncjgoogjookaaDoorZCardSemverKindOfNext3
import Derived.Test.YtnncjgoogjookaaDoorZCardSemverKindOfNext7
import Derived.Test.YtnncjgoogjookaaDoorZCardSemverKindOfNext12
import Derived.Test.YtnncjgoogjookaaDoorZCardSemverKindOfNext22
import Derived.Stop.LaidErr
namespace Go.Proofs.YtnncjgoogjookaaDoor.Base
end Go.Proofs.YtnncjgoogjookaaDoor.Base
namespace Go.Proofs.YtnncjgoogjookaaDoor.Bt
end Go.Proofs.YtnncjgoogjookaaDoor.Bt
namespace Go.Proofs.YtnncjgoogjookaaDoor.KX
end Go.Proofs.YtnncjgoogjookaaDoor.KX
namespace Go.Proofs.YtnncjgoogjookaaDoor.L
end Go.Proofs.YtnncjgoogjookaaDoor.L
namespace Go.Proofs.YtnncjgoogjookaaDoor.MetaX
end Go.Proofs.YtnncjgoogjookaaDoor.MetaX
namespace Go.Proofs.YtnncjgoogjookaaDoor.Num
end Go.Proofs.YtnncjgoogjookaaDoor.Num
namespace Go.Proofs.YtnncjgoogjookaaDoor.PX
end Go.Proofs.YtnncjgoogjookaaDoor.PX
namespace Go.Proofs.YtnncjgoogjookaaDoor.Parse
end Go.Proofs.YtnncjgoogjookaaDoor.Parse
namespace Go.Proofs.YtnncjgoogjookaaDoor.Rxw
end Go.Proofs.YtnncjgoogjookaaDoor.Rxw
namespace Go.Proofs.YtnncjgoogjookaaDoor.Rxw

open Go Go.RowKit Go.Lib Go.Sort Go.Proofs Go.Proofs.YtnncjgoogjookaaDoor Go.Proofs.YtnncjgoogjookaaDoor.Base Go.Proofs.YtnncjgoogjookaaDoor.L Go.Proofs.YtnncjgoogjookaaDoor.Parse

/-- The errors lie there, each in a block of its own. -/
structure KinA (ad : Nat → Addr) (w : World) : Prop where
  c : ∀ k, k ≤ 10 → w.cell? ⟨errG k, 0, none⟩ = some (.iface 85 (.pointer (some (ad k))))
  lt : ∀ k, k ≤ 10 → errG k < w.heap.size
  row : ∀ k, k ≤ 10 → ∃ c t, w.heap[(ad k).block]? = some (.cells c t (0, 0))
  ne : ∀ j k, j ≤ 10 → k ≤ 10 → j ≠ k → ad j ≠ ad k

theorem KinA.below {ad} {w w' : World} (h : KinA ad w) (hb : Below w.heap.size w w') : KinA ad w' :=
  ⟨fun k hk => (hb.cell (p := ⟨errG k, 0, none⟩) (h.lt k hk)).trans (h.c k hk), fun k hk => Nat.lt_of_lt_of_le (h.lt k hk) hb.size,
   fun k hk => by obtain ⟨c, t, hr⟩ := h.row k hk; exact ⟨c, t, (hb.block _ (Array.getElem?_eq_some_iff.1 hr).1).trans hr⟩, h.ne⟩

theorem errG_min (k : Nat) : errG k = errG (min k 10) := by
  by_cases h : k ≤ 10
  · rw [Nat.min_eq_left h]
  · rw [Nat.min_eq_right (by omega)]
    obtain ⟨j, rfl⟩ : ∃ j, k = j + 11 := ⟨k - 11, by omega⟩
    rfl

def peOf (ad : Nat → Addr) (k : Nat) : Value := .pointer (some (ad (min k 10)))

theorem KinA.errs {ad} {w : World} (h : KinA ad w) : Errs (fun _ => 85) (peOf ad) w :=
  ⟨fun k => by rw [errG_min]; exact h.c _ (Nat.min_le_right ..), fun k => by rw [errG_min]; exact h.lt _ (Nat.min_le_right ..)⟩

theorem KinA.other {ad} {w : World} (h : KinA ad w) (j k : Nat) (hj : j ≤ 10) (hk : k ≤ 10) (hne : j ≠ k) :
    Calls Tryd.prog 22 #[.iface 85 (.pointer (some (ad j))), .iface 85 (.pointer (some (ad k)))] w fun e w' => e = .returned (.bool false) ∧ w' = w := by
  obtain ⟨c, t, hr⟩ := h.row j hj
  obtain ⟨c', t', hr'⟩ := h.row k hk
  exact Is.is_other _ _ _ _ _ _ w (h.ne j k hj hk hne) hr hr'

theorem KinA.num {ad} {w : World} (h : KinA ad w) {B : Nat} {t : TypeId} {y : Value} (hn : NumE (fun _ => 85) (peOf ad) B w t y) : ∃ N, t = 66 ∧ y = .pointer (some ⟨N, 0, none⟩) ∧ ∀ k, k ≤ 10 → k ≠ 7 → k ≠ 8 →
    Calls Tryd.prog 22 #[.iface 66 (.pointer (some ⟨N, 0, none⟩)), .iface 85 (.pointer (some (ad k)))] w fun e w' => e = .returned (.bool false) ∧ w' = w := by
  obtain ⟨rfl, N, q, u, j, _, rfl, hc, hj⟩ := hn
  refine ⟨N, rfl, rfl, fun k hk h7 h8 => ?_⟩
  obtain ⟨c', t', hr'⟩ := h.row k hk
  have hj10 : j ≤ 10 := by omega
  obtain ⟨c, t, hr⟩ := h.row j hj10
  have h1 : w.cell? ⟨N, 2, none⟩ = some (.iface 85 (.pointer (some (ad j)))) := by
    have : peOf ad j = .pointer (some (ad j)) := by unfold peOf; rw [Nat.min_eq_left hj10]
    rw [← this]
    simp [World.cell?, hc]
  exact Is.is_num_other N _ _ _ _ _ _ w h1 (h.ne j k hj10 hk (by omega)) hr hr'

set_option maxHeartbeats 4000000 in
set_option maxRecDepth 100000 in
theorem kind0 {ad} {w : World} (h : KinA ad w) : Calls Tryd.prog 8 #[.iface 85 (.pointer (some (ad 0)))] w fun e w' => e = .returned (.int .i64 1) ∧ w' = w := by
  have s0 := Lib.hid (Is.is_same (ad 0) w)
  have d0 := h.c 0 (by decide)
  have d1 := h.c 1 (by decide)
  have d3 := h.c 3 (by decide)
  have d4 := h.c 4 (by decide)
  have d6 := h.c 6 (by decide)
  have d5 := h.c 5 (by decide)
  have d2 := h.c 2 (by decide)
  have d9 := h.c 9 (by decide)
  have d10 := h.c 10 (by decide)
  have e1 : errG 0 = 0 := rfl
  simp only [errG] at d0 d1 d3 d4 d6 d5 d2 d9 d10
  clear h e1
  go_enter Tryd.func8, Tryd.ntmps8
  go_wp2_with (first
    | (go_at_call 22; (with_reducible refine (s0.out).mono ?_); rintro e w' ⟨rfl, rfl⟩))
  go_ret
  exact ⟨rfl, rfl⟩

set_option maxHeartbeats 4000000 in
set_option maxRecDepth 100000 in
theorem kind1 {ad} {w : World} (h : KinA ad w) : Calls Tryd.prog 8 #[.iface 85 (.pointer (some (ad 1)))] w fun e w' => e = .returned (.int .i64 2) ∧ w' = w := by
  have o0 := Lib.hid (h.other 1 0 (by decide) (by decide) (by decide))
  have s1 := Lib.hid (Is.is_same (ad 1) w)
  have d0 := h.c 0 (by decide)
  have d1 := h.c 1 (by decide)
  have d3 := h.c 3 (by decide)
  have d4 := h.c 4 (by decide)
  have d6 := h.c 6 (by decide)
  have d5 := h.c 5 (by decide)
  have d2 := h.c 2 (by decide)
  have d9 := h.c 9 (by decide)
  have d10 := h.c 10 (by decide)
  have e1 : errG 0 = 0 := rfl
  simp only [errG] at d0 d1 d3 d4 d6 d5 d2 d9 d10
  clear h e1
  go_enter Tryd.func8, Tryd.ntmps8
  go_wp2_with (first
    | (go_at_call 22; (with_reducible refine (o0.out).mono ?_); rintro e w' ⟨rfl, rfl⟩)
    | (go_at_call 22; (with_reducible refine (s1.out).mono ?_); rintro e w' ⟨rfl, rfl⟩))
  go_ret
  exact ⟨rfl, rfl⟩

set_option maxHeartbeats 4000000 in
set_option maxRecDepth 100000 in
theorem kind2 {ad} {w : World} (h : KinA ad w) : Calls Tryd.prog 8 #[.iface 85 (.pointer (some (ad 2)))] w fun e w' => e = .returned (.int .i64 7) ∧ w' = w := by
  have o0 := Lib.hid (h.other 2 0 (by decide) (by decide) (by decide))
  have o1 := Lib.hid (h.other 2 1 (by decide) (by decide) (by decide))
  have o3 := Lib.hid (h.other 2 3 (by decide) (by decide) (by decide))
  have o4 := Lib.hid (h.other 2 4 (by decide) (by decide) (by decide))
  have o6 := Lib.hid (h.other 2 6 (by decide) (by decide) (by decide))
  have o5 := Lib.hid (h.other 2 5 (by decide) (by decide) (by decide))
  have s2 := Lib.hid (Is.is_same (ad 2) w)
  have d0 := h.c 0 (by decide)
  have d1 := h.c 1 (by decide)
  have d3 := h.c 3 (by decide)
  have d4 := h.c 4 (by decide)
  have d6 := h.c 6 (by decide)
  have d5 := h.c 5 (by decide)
  have d2 := h.c 2 (by decide)
  have d9 := h.c 9 (by decide)
  have d10 := h.c 10 (by decide)
  have e1 : errG 0 = 0 := rfl
  simp only [errG] at d0 d1 d3 d4 d6 d5 d2 d9 d10
  clear h e1
  go_enter Tryd.func8, Tryd.ntmps8
  go_wp2_with (first
    | (go_at_call 22; (with_reducible refine (o0.out).mono ?_); rintro e w' ⟨rfl, rfl⟩)
    | (go_at_call 22; (with_reducible refine (o1.out).mono ?_); rintro e w' ⟨rfl, rfl⟩)
    | (go_at_call 22; (with_reducible refine (o3.out).mono ?_); rintro e w' ⟨rfl, rfl⟩)
    | (go_at_call 22; (with_reducible refine (o4.out).mono ?_); rintro e w' ⟨rfl, rfl⟩)
    | (go_at_call 22; (with_reducible refine (o6.out).mono ?_); rintro e w' ⟨rfl, rfl⟩)
    | (go_at_call 22; (with_reducible refine (o5.out).mono ?_); rintro e w' ⟨rfl, rfl⟩)
    | (go_at_call 22; (with_reducible refine (s2.out).mono ?_); rintro e w' ⟨rfl, rfl⟩))
  go_ret
  exact ⟨rfl, rfl⟩

set_option maxHeartbeats 4000000 in
set_option maxRecDepth 100000 in
theorem kind3 {ad} {w : World} (h : KinA ad w) : Calls Tryd.prog 8 #[.iface 85 (.pointer (some (ad 3)))] w fun e w' => e = .returned (.int .i64 3) ∧ w' = w := by
  have o0 := Lib.hid (h.other 3 0 (by decide) (by decide) (by decide))
  have o1 := Lib.hid (h.other 3 1 (by decide) (by decide) (by decide))
  have s3 := Lib.hid (Is.is_same (ad 3) w)
  have d0 := h.c 0 (by decide)
  have d1 := h.c 1 (by decide)
  have d3 := h.c 3 (by decide)
  have d4 := h.c 4 (by decide)
  have d6 := h.c 6 (by decide)
  have d5 := h.c 5 (by decide)
  have d2 := h.c 2 (by decide)
  have d9 := h.c 9 (by decide)
  have d10 := h.c 10 (by decide)
  have e1 : errG 0 = 0 := rfl
  simp only [errG] at d0 d1 d3 d4 d6 d5 d2 d9 d10
  clear h e1
  go_enter Tryd.func8, Tryd.ntmps8
  go_wp2_with (first
    | (go_at_call 22; (with_reducible refine (o0.out).mono ?_); rintro e w' ⟨rfl, rfl⟩)
    | (go_at_call 22; (with_reducible refine (o1.out).mono ?_); rintro e w' ⟨rfl, rfl⟩)
    | (go_at_call 22; (with_reducible refine (s3.out).mono ?_); rintro e w' ⟨rfl, rfl⟩))
  go_ret
  exact ⟨rfl, rfl⟩

set_option maxHeartbeats 4000000 in
set_option maxRecDepth 100000 in
theorem kind4 {ad} {w : World} (h : KinA ad w) : Calls Tryd.prog 8 #[.iface 85 (.pointer (some (ad 4)))] w fun e w' => e = .returned (.int .i64 4) ∧ w' = w := by
  have o0 := Lib.hid (h.other 4 0 (by decide) (by decide) (by decide))
  have o1 := Lib.hid (h.other 4 1 (by decide) (by decide) (by decide))
  have o3 := Lib.hid (h.other 4 3 (by decide) (by decide) (by decide))
  have s4 := Lib.hid (Is.is_same (ad 4) w)
  have d0 := h.c 0 (by decide)
  have d1 := h.c 1 (by decide)
  have d3 := h.c 3 (by decide)
  have d4 := h.c 4 (by decide)
  have d6 := h.c 6 (by decide)
  have d5 := h.c 5 (by decide)
  have d2 := h.c 2 (by decide)
  have d9 := h.c 9 (by decide)
  have d10 := h.c 10 (by decide)
  have e1 : errG 0 = 0 := rfl
  simp only [errG] at d0 d1 d3 d4 d6 d5 d2 d9 d10
  clear h e1
  go_enter Tryd.func8, Tryd.ntmps8
  go_wp2_with (first
    | (go_at_call 22; (with_reducible refine (o0.out).mono ?_); rintro e w' ⟨rfl, rfl⟩)
    | (go_at_call 22; (with_reducible refine (o1.out).mono ?_); rintro e w' ⟨rfl, rfl⟩)
    | (go_at_call 22; (with_reducible refine (o3.out).mono ?_); rintro e w' ⟨rfl, rfl⟩)
    | (go_at_call 22; (with_reducible refine (s4.out).mono ?_); rintro e w' ⟨rfl, rfl⟩))
  go_ret
  exact ⟨rfl, rfl⟩

set_option maxHeartbeats 4000000 in
set_option maxRecDepth 100000 in
theorem kind5 {ad} {w : World} (h : KinA ad w) : Calls Tryd.prog 8 #[.iface 85 (.pointer (some (ad 5)))] w fun e w' => e = .returned (.int .i64 6) ∧ w' = w := by
  have o0 := Lib.hid (h.other 5 0 (by decide) (by decide) (by decide))
  have o1 := Lib.hid (h.other 5 1 (by decide) (by decide) (by decide))
  have o3 := Lib.hid (h.other 5 3 (by decide) (by decide) (by decide))
  have o4 := Lib.hid (h.other 5 4 (by decide) (by decide) (by decide))
  have o6 := Lib.hid (h.other 5 6 (by decide) (by decide) (by decide))
  have s5 := Lib.hid (Is.is_same (ad 5) w)
  have d0 := h.c 0 (by decide)
  have d1 := h.c 1 (by decide)
  have d3 := h.c 3 (by decide)
  have d4 := h.c 4 (by decide)
  have d6 := h.c 6 (by decide)
  have d5 := h.c 5 (by decide)
  have d2 := h.c 2 (by decide)
  have d9 := h.c 9 (by decide)
  have d10 := h.c 10 (by decide)
  have e1 : errG 0 = 0 := rfl
  simp only [errG] at d0 d1 d3 d4 d6 d5 d2 d9 d10
  clear h e1
  go_enter Tryd.func8, Tryd.ntmps8
  go_wp2_with (first
    | (go_at_call 22; (with_reducible refine (o0.out).mono ?_); rintro e w' ⟨rfl, rfl⟩)
    | (go_at_call 22; (with_reducible refine (o1.out).mono ?_); rintro e w' ⟨rfl, rfl⟩)
    | (go_at_call 22; (with_reducible refine (o3.out).mono ?_); rintro e w' ⟨rfl, rfl⟩)
    | (go_at_call 22; (with_reducible refine (o4.out).mono ?_); rintro e w' ⟨rfl, rfl⟩)
    | (go_at_call 22; (with_reducible refine (o6.out).mono ?_); rintro e w' ⟨rfl, rfl⟩)
    | (go_at_call 22; (with_reducible refine (s5.out).mono ?_); rintro e w' ⟨rfl, rfl⟩))
  go_ret
  exact ⟨rfl, rfl⟩

set_option maxHeartbeats 4000000 in
set_option maxRecDepth 100000 in
theorem kind6 {ad} {w : World} (h : KinA ad w) : Calls Tryd.prog 8 #[.iface 85 (.pointer (some (ad 6)))] w fun e w' => e = .returned (.int .i64 5) ∧ w' = w := by
  have o0 := Lib.hid (h.other 6 0 (by decide) (by decide) (by decide))
  have o1 := Lib.hid (h.other 6 1 (by decide) (by decide) (by decide))
  have o3 := Lib.hid (h.other 6 3 (by decide) (by decide) (by decide))
  have o4 := Lib.hid (h.other 6 4 (by decide) (by decide) (by decide))
  have s6 := Lib.hid (Is.is_same (ad 6) w)
  have d0 := h.c 0 (by decide)
  have d1 := h.c 1 (by decide)
  have d3 := h.c 3 (by decide)
  have d4 := h.c 4 (by decide)
  have d6 := h.c 6 (by decide)
  have d5 := h.c 5 (by decide)
  have d2 := h.c 2 (by decide)
  have d9 := h.c 9 (by decide)
  have d10 := h.c 10 (by decide)
  have e1 : errG 0 = 0 := rfl
  simp only [errG] at d0 d1 d3 d4 d6 d5 d2 d9 d10
  clear h e1
  go_enter Tryd.func8, Tryd.ntmps8
  go_wp2_with (first
    | (go_at_call 22; (with_reducible refine (o0.out).mono ?_); rintro e w' ⟨rfl, rfl⟩)
    | (go_at_call 22; (with_reducible refine (o1.out).mono ?_); rintro e w' ⟨rfl, rfl⟩)
    | (go_at_call 22; (with_reducible refine (o3.out).mono ?_); rintro e w' ⟨rfl, rfl⟩)
    | (go_at_call 22; (with_reducible refine (o4.out).mono ?_); rintro e w' ⟨rfl, rfl⟩)
    | (go_at_call 22; (with_reducible refine (s6.out).mono ?_); rintro e w' ⟨rfl, rfl⟩))
  go_ret
  exact ⟨rfl, rfl⟩

set_option maxHeartbeats 4000000 in
set_option maxRecDepth 100000 in
theorem kindNum {ad} {w : World} (h : KinA ad w) {B : Nat} {t : TypeId} {y : Value} (hn : NumE (fun _ => 85) (peOf ad) B w t y) : Calls Tryd.prog 8 #[.iface t y] w fun e w' => e = .returned (.int .i64 10) ∧ w' = w := by
  obtain ⟨N, rfl, rfl, hN⟩ := h.num hn
  clear hn
  have o0 := Lib.hid (hN 0 (by decide) (by decide) (by decide))
  have o1 := Lib.hid (hN 1 (by decide) (by decide) (by decide))
  have o3 := Lib.hid (hN 3 (by decide) (by decide) (by decide))
  have o4 := Lib.hid (hN 4 (by decide) (by decide) (by decide))
  have o6 := Lib.hid (hN 6 (by decide) (by decide) (by decide))
  have o5 := Lib.hid (hN 5 (by decide) (by decide) (by decide))
  have o2 := Lib.hid (hN 2 (by decide) (by decide) (by decide))
  have o9 := Lib.hid (hN 9 (by decide) (by decide) (by decide))
  have o10 := Lib.hid (hN 10 (by decide) (by decide) (by decide))
  clear hN
  have d0 := h.c 0 (by decide)
  have d1 := h.c 1 (by decide)
  have d3 := h.c 3 (by decide)
  have d4 := h.c 4 (by decide)
  have d6 := h.c 6 (by decide)
  have d5 := h.c 5 (by decide)
  have d2 := h.c 2 (by decide)
  have d9 := h.c 9 (by decide)
  have d10 := h.c 10 (by decide)
  have e1 : errG 0 = 0 := rfl
  simp only [errG] at d0 d1 d3 d4 d6 d5 d2 d9 d10
  clear h e1
  go_enter Tryd.func8, Tryd.ntmps8
  go_wp2_with (first
    | (go_at_call 22; (with_reducible refine (o0.out).mono ?_); rintro e w' ⟨rfl, rfl⟩)
    | (go_at_call 22; (with_reducible refine (o1.out).mono ?_); rintro e w' ⟨rfl, rfl⟩)
    | (go_at_call 22; (with_reducible refine (o3.out).mono ?_); rintro e w' ⟨rfl, rfl⟩)
    | (go_at_call 22; (with_reducible refine (o4.out).mono ?_); rintro e w' ⟨rfl, rfl⟩)
    | (go_at_call 22; (with_reducible refine (o6.out).mono ?_); rintro e w' ⟨rfl, rfl⟩)
    | (go_at_call 22; (with_reducible refine (o5.out).mono ?_); rintro e w' ⟨rfl, rfl⟩)
    | (go_at_call 22; (with_reducible refine (o2.out).mono ?_); rintro e w' ⟨rfl, rfl⟩)
    | (go_at_call 22; (with_reducible refine (o9.out).mono ?_); rintro e w' ⟨rfl, rfl⟩)
    | (go_at_call 22; (with_reducible refine (o10.out).mono ?_); rintro e w' ⟨rfl, rfl⟩))
  go_ret
  exact ⟨rfl, rfl⟩

set_option maxHeartbeats 4000000 in
set_option maxRecDepth 100000 in
theorem kindNil {ad} {w : World} (h : KinA ad w) : Calls Tryd.prog 8 #[.nilIface] w fun e w' => e = .returned (.int .i64 0) ∧ w' = w := by
  have d0 := h.c 0 (by decide)
  have d1 := h.c 1 (by decide)
  have d3 := h.c 3 (by decide)
  have d4 := h.c 4 (by decide)
  have d6 := h.c 6 (by decide)
  have d5 := h.c 5 (by decide)
  have d2 := h.c 2 (by decide)
  have d9 := h.c 9 (by decide)
  have d10 := h.c 10 (by decide)
  have e1 : errG 0 = 0 := rfl
  simp only [errG] at d0 d1 d3 d4 d6 d5 d2 d9 d10
  clear h e1
  go_enter Tryd.func8, Tryd.ntmps8
  go_wp2_with fail
  go_ret
  exact ⟨rfl, rfl⟩

/-- What is told of what is wrong. -/
def kindN : Nat → Int
  | 0 => 1
  | 1 => 2
  | 2 => 7
  | 3 => 3
  | 4 => 4
  | 5 => 6
  | 6 => 5
  | _ => 10

def kindV : VerX → Int
  | .ok _ => 0
  | .error k => kindN k

theorem kindE {ad} {w : World} (h : KinA ad w) (k : Nat) (hk : k < 7) : Calls Tryd.prog 8 #[.iface 85 (peOf ad k)] w fun e w' => e = .returned (.int .i64 (kindN k)) ∧ w' = w := by
  have : k = 0 ∨ k = 1 ∨ k = 2 ∨ k = 3 ∨ k = 4 ∨ k = 5 ∨ k = 6 := by omega
  rcases this with rfl | rfl | rfl | rfl | rfl | rfl | rfl
  · exact kind0 h
  · exact kind1 h
  · exact kind2 h
  · exact kind3 h
  · exact kind4 h
  · exact kind5 h
  · exact kind6 h

theorem part_code (p : List UInt8) : partK p ≤ 8 := by
  unfold partK
  split
  · decide
  · split <;> decide

theorem strict_code {l : List UInt8} {k : Nat} (h : strictL l = .error k) : k ≤ 7 := by
  have hp : ∀ p m a b c r, parseK a b c p m = .error r → r = 7 := by
    intro p m a b c r h
    unfold parseK at h
    split at h
    · cases h; rfl
    · split at h
      · cases h; rfl
      · split at h
        · cases h; rfl
        · cases h
  have hn : ∀ a b c p m r, numK a b c p m = .error r → r ≤ 8 ∧ r ≠ 8 := by
    intro a b c p m r h
    unfold numK at h
    have pa := part_code a; have pb := part_code b; have pc := part_code c
    split at h
    · rename_i q; cases h; exact ⟨pa, q⟩
    · split at h
      · rename_i q; cases h; exact ⟨pb, q⟩
      · split at h
        · rename_i q; cases h; exact ⟨pc, q⟩
        · rw [hp _ _ _ _ _ _ h]; decide
  unfold strictL at h
  split at h
  · cases h; decide
  · split at h
    · cases h; decide
    · unfold partsK at h
      split at h
      · unfold tailK at h
        split at h
        · cases h; decide
        · unfold preK at h
          split at h
          · cases h; unfold preCode; split <;> decide
          · have := hn _ _ _ _ _ _ h; omega
      · cases h; decide

set_option maxHeartbeats 4000000 in
set_option maxRecDepth 100000 in
theorem strictKind (s : ByteArray) (hs : s.size ≤ 2147483647) (ad : Nat → Addr) (w : World) (h : KinA ad w) (hStd : Std w) :
    Calls Tryd.prog 4 #[.string s] w fun e w' => e = .returned (.int .i64 (kindV (strictL (bl s)))) ∧ Below w.heap.size w w' := by
  have hS := strictW s hs _ _ w h.errs hStd
  cases hr : strictL (bl s) with
  | ok r =>
    obtain ⟨a, b, c, p, m⟩ := r
    rw [hr] at hS
    have CS := Lib.hid hS; have H := Lib.hid h
    clear hS h hStd hr
    go_enter Tryd.func4, Tryd.ntmps4
    go_wp2_with (first
      | (go_at_call 7; (with_reducible refine (CS.out).mono ?_); rintro e w1 ⟨g, rfl, hv, hg, hb1⟩; have CK := Lib.hid (kindNil (H.out.below hb1)); have HB := Lib.hid hb1; clear hv hg hb1)
      | (go_at_call 8; (with_reducible refine (CK.out).mono ?_); rintro e w2 ⟨rfl, rfl⟩))
    go_ret
    exact ⟨rfl, HB.out⟩
  | error k =>
    rw [hr] at hS
    by_cases hk : k < 7
    · have CS := Lib.hid hS; have H := Lib.hid h
      clear hS h hStd hr
      go_enter Tryd.func4, Tryd.ntmps4
      go_wp2_with (first
        | (go_at_call 7; (with_reducible refine (CS.out).mono ?_); rintro e w1 ⟨t, y, rfl, hty, _, hb1⟩; obtain ⟨rfl, rfl⟩ := hty hk; have CK := Lib.hid (kindE (H.out.below hb1) k hk); have HB := Lib.hid hb1; clear hty hb1)
        | (go_at_call 8; (with_reducible refine (CK.out).mono ?_); rintro e w2 ⟨rfl, rfl⟩))
      go_ret
      exact ⟨rfl, HB.out⟩
    · obtain rfl : k = 7 := by have := strict_code hr; omega
      have CS := Lib.hid hS; have H := Lib.hid h
      clear hS h hStd hr
      go_enter Tryd.func4, Tryd.ntmps4
      go_wp2_with (first
        | (go_at_call 7; (with_reducible refine (CS.out).mono ?_); rintro e w1 ⟨t, y, rfl, _, hty, hb1⟩; have CK := Lib.hid (kindNum (H.out.below hb1) (hty rfl)); have HB := Lib.hid hb1; clear hty hb1)
        | (go_at_call 8; (with_reducible refine (CK.out).mono ?_); rintro e w2 ⟨rfl, rfl⟩))
      go_ret
      exact ⟨rfl, HB.out⟩

end Go.Proofs.YtnncjgoogjookaaDoor.Rxw
namespace Go.Proofs.YtnncjgoogjookaaDoor.Rxw

open Go Go.RowKit Go.Lib Go.Sort Go.Proofs Go.Proofs.YtnncjgoogjookaaDoor Go.Proofs.YtnncjgoogjookaaDoor.Base Go.Proofs.YtnncjgoogjookaaDoor.L Go.Proofs.YtnncjgoogjookaaDoor.Parse Go.Proofs.YtnncjgoogjookaaDoor.KX Go.Proofs.YtnncjgoogjookaaDoor.Num Go.Proofs.YtnncjgoogjookaaDoor.PX Go.Proofs.YtnncjgoogjookaaDoor.MetaX

theorem cutF_L (c : UInt8) (l : List UInt8) : cutF c l = cutL c l := rfl

theorem split_cut {l a r1 b c : List UInt8} {one two : Bool} (h1 : cutL 46 l = (a, r1, one)) (h2 : cutL 46 r1 = (b, c, two)) : splitNL 46 2 l = if one = true then (if two = true then [a, b, c] else [a, r1]) else [l] := by
  unfold cutL at h1 h2
  cases e : fst 46 l with
  | none =>
    rw [e] at h1
    cases h1
    unfold splitNL
    rw [e]
    rfl
  | some j =>
    rw [e] at h1
    simp only [Prod.mk.injEq] at h1
    obtain ⟨rfl, rfl, rfl⟩ := h1
    unfold splitNL
    rw [e]
    dsimp only
    rw [if_pos rfl]
    cases e2 : fst 46 (l.drop (j + 1)) with
    | none =>
      rw [e2] at h2
      cases h2
      unfold splitNL
      rw [e2]
      rfl
    | some i =>
      rw [e2] at h2
      simp only [Prod.mk.injEq] at h2
      obtain ⟨rfl, rfl, rfl⟩ := h2
      unfold splitNL
      rw [e2]
      rfl

theorem kind_part (p : List UInt8) : (nkL p = 0 ∧ partK p = 8) ∨ (nkL p ≠ 0 ∧ partK p ≠ 8 ∧ kindN (partK p) = nkL p) := by
  have : partK p = 3 ∨ partK p = 4 ∨ partK p = 8 := by
    unfold partK
    split
    · exact .inl rfl
    · split
      · exact .inr (.inl rfl)
      · exact .inr (.inr rfl)
  unfold nkL
  rcases this with e | e | e
  · rw [e]; exact .inr ⟨by decide, by decide, rfl⟩
  · rw [e]; exact .inr ⟨by decide, by decide, rfl⟩
  · rw [e]; exact .inl ⟨rfl, rfl⟩

theorem numX_some (p : List UInt8) : (numX (ofL p)).2 = (num p).isSome := by
  unfold numX
  rw [bl_ofL]
  cases num p <;> rfl

theorem nums_kind (a b n p m : List UInt8) : numsV (fun x => nkL (bl x)) (fun x => (numX x).2) [ofL a, ofL b, ofL n] = kindV (numK a b n p m) := by
  rcases kind_part a with ⟨ha, ka⟩ | ⟨ha, ka, ea⟩
  · rcases kind_part b with ⟨hb, kb⟩ | ⟨hb, kb, eb⟩
    · rcases kind_part n with ⟨hn, kn⟩ | ⟨hn, kn, en⟩
      · have hN : numK a b n p m = parseK a b n p m := by unfold numK; rw [if_neg (fun h => h ka), if_neg (fun h => h kb), if_neg (fun h => h kn)]
        rw [hN]
        unfold numsV parseK
        simp only [List.find?, bl_ofL, List.all_cons, List.all_nil, numX_some, ha, hb, hn]
        cases num a <;> cases num b <;> cases num n <;> rfl
      · have hN : numK a b n p m = .error (partK n) := by unfold numK; rw [if_neg (fun h => h ka), if_neg (fun h => h kb), if_pos kn]
        have e : (nkL n != 0) = true := bne_iff_ne.2 hn
        rw [hN]
        unfold numsV
        simp only [List.find?, bl_ofL, ha, hb, e]
        exact en.symm
    · have hN : numK a b n p m = .error (partK b) := by unfold numK; rw [if_neg (fun h => h ka), if_pos kb]
      have e : (nkL b != 0) = true := bne_iff_ne.2 hb
      rw [hN]
      unfold numsV
      simp only [List.find?, bl_ofL, ha, e]
      exact eb.symm
  · have hN : numK a b n p m = .error (partK a) := by unfold numK; rw [if_pos ka]
    have e : (nkL a != 0) = true := bne_iff_ne.2 ha
    rw [hN]
    unfold numsV
    simp only [List.find?, bl_ofL, e]
    exact ea.symm

theorem pre_kind (p : List UInt8) : (preOk p = true ∧ pkL (splitL 46 p) = 0) ∨ (preOk p = false ∧ pkL (splitL 46 p) = kindN (preCode p) ∧ kindN (preCode p) ≠ 0) := by
  have hz := preErr_zero (splitL 46 p)
  change _ = preOk p at hz
  rw [pkL_err, ← hz]
  unfold preCode
  by_cases h0 : preErr ((splitL 46 p).map ofL) = 0
  · rw [h0]; exact .inl ⟨rfl, rfl⟩
  · right
    rw [if_neg h0]
    refine ⟨beq_eq_false_iff_ne.2 h0, ?_⟩
    split
    · exact ⟨rfl, by decide⟩
    · exact ⟨rfl, by decide⟩

theorem kind_eq {l a r1 b c rest m n p : List UInt8} {one two plus hy : Bool} (h1 : cutL 46 l = (a, r1, one)) (h2 : cutL 46 r1 = (b, c, two)) (h3 : cutL 43 c = (rest, m, plus)) (h4 : cutL 45 rest = (n, p, hy)) :
    skV (l == []) (decide (256 < l.length)) (one && two) plus (metaOk m) hy (pkL (splitL 46 p)) (numsV (fun x => nkL (bl x)) (fun x => (numX x).2) [ofL a, ofL b, ofL n]) = kindV (strictL l) := by
  rw [nums_kind a b n p m]
  unfold strictL skV
  by_cases e0 : l = []
  · subst e0; rfl
  rw [if_neg e0, beq_eq_false_iff_ne.2 e0]
  by_cases e1 : 256 < l.length
  · rw [if_pos e1, decide_eq_true e1]; rfl
  rw [if_neg e1, decide_eq_false e1, split_cut h1 h2]
  cases one with
  | false => rfl
  | true =>
  cases two with
  | false => rfl
  | true =>
  have e2 : preK a b m (cutF 45 rest) = if hy = true ∧ preOk p = false then .error (preCode p) else numK a b n p m := by rw [cutF_L, h4]; rfl
  have e4 : tailK a b (cutF 43 c) = if plus = true ∧ metaOk m = false then .error 5 else preK a b m (cutF 45 rest) := by rw [cutF_L, h3]; rfl
  have hpre : (if (hy && (pkL (splitL 46 p) != 0)) = true then pkL (splitL 46 p) else kindV (numK a b n p m)) = kindV (preK a b m (cutF 45 rest)) := by
    rw [e2]
    rcases pre_kind p with ⟨h, e⟩ | ⟨h, e, e'⟩
    · rw [if_neg (show ¬ (hy = true ∧ preOk p = false) from fun q => by rw [h] at q; cases q.2), e, if_neg (show ¬ ((hy && ((0 : Int) != 0)) = true) from by cases hy <;> decide)]
    · cases hy with
      | false => rw [if_neg (show ¬ ((false && (pkL (splitL 46 p) != 0)) = true) from fun q => by cases q), if_neg (show ¬ (false = true ∧ preOk p = false) from fun q => by cases q.1)]
      | true =>
        have e3 : (pkL (splitL 46 p) != 0) = true := bne_iff_ne.2 (by rw [e]; exact e')
        rw [if_pos (show (true && (pkL (splitL 46 p) != 0)) = true from by rw [e3]; rfl), if_pos (show true = true ∧ preOk p = false from ⟨rfl, h⟩), e]; rfl
  show (if (plus && !metaOk m) = true then 6 else if (hy && (pkL (splitL 46 p) != 0)) = true then pkL (splitL 46 p) else kindV (numK a b n p m)) = kindV (tailK a b (cutF 43 c))
  rw [hpre, e4]
  cases plus with
  | false => rfl
  | true => cases metaOk m <;> rfl

end Go.Proofs.YtnncjgoogjookaaDoor.Rxw

namespace Go.Proofs.YtnncjgoogjookaaDoor.PX

open Go Go.RowKit Go.Lib Go.Sort Go.Proofs Go.Proofs.YtnncjgoogjookaaDoor Go.Proofs.YtnncjgoogjookaaDoor.Base Go.Proofs.YtnncjgoogjookaaDoor.L Go.Proofs.YtnncjgoogjookaaDoor.Parse Go.Proofs.YtnncjgoogjookaaDoor.KX Go.Proofs.YtnncjgoogjookaaDoor.Num Go.Proofs.YtnncjgoogjookaaDoor.Rxw

def spec_StrictKind.f (a0 : ByteArray) : Option Int := if a0.size ≤ 2147483647 then some (kindV (strictL (bl a0))) else none

theorem spec_StrictKind.calls (a0 : ByteArray) (r : Int) (w : World) (h : spec_StrictKind.f a0 = some r) :
    Calls Tryd.prog 5 #[.string a0] w fun e w' => e = .returned (.int .i64 r) ∧ Below w.heap.size w w' := by
  unfold spec_StrictKind.f at h
  split at h
  · rename_i hs
    cases h
    obtain ⟨a, r1, one, h1⟩ : ∃ a r1 one, cutL 46 (bl a0) = (a, r1, one) := ⟨_, _, _, rfl⟩
    obtain ⟨b, c, two, h2⟩ : ∃ b c two, cutL 46 r1 = (b, c, two) := ⟨_, _, _, rfl⟩
    obtain ⟨rest, m, plus, h3⟩ : ∃ rest m plus, cutL 43 c = (rest, m, plus) := ⟨_, _, _, rfl⟩
    obtain ⟨n, p, hy, h4⟩ : ∃ n p hy, cutL 45 rest = (n, p, hy) := ⟨_, _, _, rfl⟩
    have l0 := bl_len a0
    have l1 := cutL_len 46 (bl a0); rw [h1] at l1
    have l2 := cutL_len 46 r1; rw [h2] at l2
    have l3 := cutL_len 43 c; rw [h3] at l3
    have l4 := cutL_len 45 rest; rw [h4] at l4
    dsimp only at l1 l2 l3 l4
    have K : a0.size ≤ 2147483647 := hs
    have z : ∀ x : List UInt8, x.length ≤ a0.size → (ofL x).size ≤ 2147483647 ∧ 3 * (ofL x).size + 10 < 4 * a0.size + 100 := fun x hx => by rw [size_ofL]; omega
    have c1 : spec_cutAt.f (4 * a0.size + 100) a0 46 = some (ofL a, ofL r1, one) := by
      have := cutAt_f a0 46 K (4 * a0.size + 100) (by omega)
      rw [h1] at this; exact this
    have cc : ∀ (x : List UInt8) (d : UInt8), x.length ≤ a0.size → spec_cutAt.f (4 * a0.size + 100) (ofL x) (d.toNat : Int) = some (let r := cutL d x; (ofL r.1, ofL r.2.1, r.2.2)) := fun x d hx => by
      have := cutAt_f (ofL x) d (z x hx).1 (4 * a0.size + 100) (by have := (z x hx).2; omega)
      rw [bl_ofL] at this; exact this
    have c2 : spec_cutAt.f (4 * a0.size + 100) (ofL r1) 46 = some (ofL b, ofL c, two) := by have := cc r1 46 (by omega); rw [h2] at this; exact this
    have c3 : spec_cutAt.f (4 * a0.size + 100) (ofL c) 43 = some (ofL rest, ofL m, plus) := by have := cc c 43 (by omega); rw [h3] at this; exact this
    have c4 : spec_cutAt.f (4 * a0.size + 100) (ofL rest) 45 = some (ofL n, ofL p, hy) := by have := cc rest 45 (by omega); rw [h4] at this; exact this
    have c5 : spec_ValidMeta.f (4 * a0.size + 100) (ofL m) = some (metaOk m) := by
      have := validMeta_f (ofL m) (z m (by omega)).1 (4 * a0.size + 100) (by have := (z m (by omega)).2; omega)
      rw [bl_ofL] at this; exact this
    have c6 : spec_PreKind.f (4 * a0.size + 100) (ofL p) = some (pkL (splitL 46 p)) := by
      have := preKind_f (ofL p) (z p (by omega)).1 (4 * a0.size + 100) (z p (by omega)).2
      rw [bl_ofL] at this; exact this
    have zz : ∀ x ∈ [ofL a, ofL b, ofL n], x.size ≤ a0.size := fun x hx => by
      simp at hx
      rcases hx with rfl | rfl | rfl
      · rw [size_ofL]; omega
      · rw [size_ofL]; omega
      · rw [size_ofL]; omega
    have key := specKindW (4 * a0.size + 100) a0 (ofL a) (ofL b) (ofL c) (ofL r1) (ofL rest) (ofL m) (ofL n) (ofL p) one two plus hy (metaOk m) (bl a0 == []) (decide (256 < (bl a0).length)) (pkL (splitL 46 p))
      (fun x => nkL (bl x)) (fun x => (numX x).1) (fun x => (numX x).2) c1 c2 (by rw [Bt.toList_bl]) (by rw [l0]; exact decide_eq_decide.2 (by omega)) c3 c4 c5 c6
      (fun x hx => numberKind_f x (by have := zz x hx; omega) _ (by have := zz x hx; omega)) (fun x hx => number_f x (by have := zz x hx; omega) _ (by have := zz x hx; omega)) w
    rw [kind_eq h1 h2 h3 h4] at key
    exact key
  · cases h

end Go.Proofs.YtnncjgoogjookaaDoor.PX
namespace Go.Proofs.YtnncjgoogjookaaDoor

/-- The errors of versions and numbers lie there, each in a block of its own. -/
def Kin (w : Go.World) : Prop := ∃ ad, Rxw.KinA ad w

theorem Kin.below {w w' : Go.World} (h : Kin w) (hb : Go.RowKit.Below w.heap.size w w') : Kin w' := by
  obtain ⟨ad, h⟩ := h
  exact ⟨ad, h.below hb⟩

end Go.Proofs.YtnncjgoogjookaaDoor

namespace Go

/-- A laid error of errors.New: its cell, its text, and its block's row. -/
theorem laidRowYtnncjgoogjookaaDoor {P : Program} {n nm : String} {text : List UInt8} {r : List (String × DataW Unit)} {W : World} {g : Nat} {ti tp te ts : TypeId} {ms : Array (String × TypeId)} {f : Field}
    (h : laidMet P ((n, .iface nm (.ptr (.agg [.lit (.string text)]))) :: r) W)
    (hg : P.globalNamed n = some g) (ht : (P.globals[g]?).map (·.type) = some ti) (hi : P.underlying ti = some (.interface ms)) (hrow : ∀ u, P.typeName? 3 u = some nm → u = tp)
    (hp : P.underlying tp = some (.pointer te)) (he : P.underlying te = some (.struct #[f])) (hft : f.type = ts) (hfo : f.offset = 0) (hs : P.underlying ts = some .string) (hc : P.cellsOf te = 1) (hcs : P.cellsOf ts = 1) :
    ∃ (a : Addr) (s : ByteArray), W.var? P n = some #[.iface tp (.pointer (some a))] ∧ W.cell? a = some (.string s) ∧ s.data.toList = text ∧ ∃ c t, W.heap[a.block]? = some (.cells c t (0, 0)) := by
  obtain ⟨ps, ⟨g0, t0, cs0, f0, p0, q0, hg0, ht0, hv0, hd0, _, e0⟩, _, hrows⟩ := h
  obtain rfl := Option.some.inj (hg.symm.trans hg0)
  obtain rfl := Option.some.inj (ht.symm.trans ht0)
  subst e0
  obtain ⟨l0⟩ := cs0
  have ok0 : ∀ u v, l0 = [.iface u v] → Value.okWide P W .any 0 u v := fun u v e => by
    subst e
    exact (hrows g 0 (by simp [MemPlace.row])).2 u v (by simpa using World.var?_cell hg0 hv0 0)
  obtain ⟨a0, s0, rfl, hc0, hs0, _, rfl⟩ := errorString_of_trod hi hrow hp he hft hfo hs hc hcs hd0 ok0
  obtain ⟨c0, t0, hb0⟩ := (hrows a0.block a0.off (by simp [MemPlace.row])).1
  exact ⟨a0, s0, hv0, hc0, hs0, c0, t0, hb0⟩

end Go

namespace Go.Proofs.YtnncjgoogjookaaDoor.Rxw

open Go Go.RowKit Go.Lib Go.Proofs Go.Proofs.YtnncjgoogjookaaDoor Go.Proofs.YtnncjgoogjookaaDoor.Base

/-- The errors' texts. -/
def errT : Nat → List UInt8
  | 0 => [118, 101, 114, 115, 105, 111, 110, 32, 115, 116, 114, 105, 110, 103, 32, 101, 109, 112, 116, 121]
  | 1 => [118, 101, 114, 115, 105, 111, 110, 32, 115, 116, 114, 105, 110, 103, 32, 105, 115, 32, 116, 111, 111, 32, 108, 111, 110, 103, 32, 40, 109, 97, 120, 32, 50, 53, 54, 32, 98, 121, 116, 101, 115, 41]
  | 2 => [105, 110, 118, 97, 108, 105, 100, 32, 115, 101, 109, 97, 110, 116, 105, 99, 32, 118, 101, 114, 115, 105, 111, 110]
  | 3 => [105, 110, 118, 97, 108, 105, 100, 32, 99, 104, 97, 114, 97, 99, 116, 101, 114, 115, 32, 105, 110, 32, 118, 101, 114, 115, 105, 111, 110]
  | 4 => [118, 101, 114, 115, 105, 111, 110, 32, 115, 101, 103, 109, 101, 110, 116, 32, 115, 116, 97, 114, 116, 115, 32, 119, 105, 116, 104, 32, 48]
  | 5 => [105, 110, 118, 97, 108, 105, 100, 32, 109, 101, 116, 97, 100, 97, 116, 97, 32, 115, 116, 114, 105, 110, 103]
  | 6 => [105, 110, 118, 97, 108, 105, 100, 32, 112, 114, 101, 114, 101, 108, 101, 97, 115, 101, 32, 115, 116, 114, 105, 110, 103]
  | 7 => [105, 110, 118, 97, 108, 105, 100, 32, 115, 121, 110, 116, 97, 120]
  | 8 => [118, 97, 108, 117, 101, 32, 111, 117, 116, 32, 111, 102, 32, 114, 97, 110, 103, 101]
  | 9 => [99, 111, 110, 115, 116, 114, 97, 105, 110, 116, 32, 115, 116, 114, 105, 110, 103, 32, 105, 115, 32, 116, 111, 111, 32, 108, 111, 110, 103, 32, 40, 109, 97, 120, 32, 53, 49, 50, 32, 98, 121, 116, 101, 115, 41]
  | _ => [116, 111, 111, 32, 109, 97, 110, 121, 32, 99, 111, 110, 115, 116, 114, 97, 105, 110, 116, 32, 103, 114, 111, 117, 112, 115, 32, 40, 109, 97, 120, 32, 51, 50, 41]

def KinAt (w : World) (k : Nat) (a : Addr) : Prop := ∃ s : ByteArray, w.cell? ⟨errG k, 0, none⟩ = some (.iface 85 (.pointer (some a))) ∧ errG k < w.heap.size ∧ w.cell? a = some (.string s) ∧ s.data.toList = errT k ∧ ∃ c t, w.heap[a.block]? = some (.cells c t (0, 0))

theorem errT_inj : ∀ j, j < 11 → ∀ k, k < 11 → errT j = errT k → j = k := by decide +kernel

theorem kin_of {w : World} (h0 : ∃ a, KinAt w 0 a) (h1 : ∃ a, KinAt w 1 a) (h2 : ∃ a, KinAt w 2 a) (h3 : ∃ a, KinAt w 3 a) (h4 : ∃ a, KinAt w 4 a) (h5 : ∃ a, KinAt w 5 a) (h6 : ∃ a, KinAt w 6 a) (h7 : ∃ a, KinAt w 7 a) (h8 : ∃ a, KinAt w 8 a) (h9 : ∃ a, KinAt w 9 a) (h10 : ∃ a, KinAt w 10 a) : Kin w := by
  have h : ∀ k, k ≤ 10 → ∃ a, KinAt w k a := fun k hk => by
    have : k = 0 ∨ k = 1 ∨ k = 2 ∨ k = 3 ∨ k = 4 ∨ k = 5 ∨ k = 6 ∨ k = 7 ∨ k = 8 ∨ k = 9 ∨ k = 10 := by omega
    rcases this with rfl | rfl | rfl | rfl | rfl | rfl | rfl | rfl | rfl | rfl | rfl
    all_goals assumption
  obtain ⟨ad, had⟩ : ∃ ad : Nat → Addr, ∀ k, k ≤ 10 → KinAt w k (ad k) := ⟨fun k => if hk : k ≤ 10 then Classical.choose (h k hk) else ⟨0, 0, none⟩, fun k hk => by
    show KinAt w k (if hk : k ≤ 10 then Classical.choose (h k hk) else ⟨0, 0, none⟩)
    rw [dif_pos hk]
    exact Classical.choose_spec (h k hk)⟩
  refine ⟨ad, fun k hk => ?_, fun k hk => ?_, fun k hk => ?_, fun j k hj hk hne e => ?_⟩
  · obtain ⟨s, h1, _⟩ := had k hk; exact h1
  · obtain ⟨s, _, h2, _⟩ := had k hk; exact h2
  · obtain ⟨s, _, _, _, _, h5⟩ := had k hk; exact h5
  · obtain ⟨s, _, _, c1, t1, _⟩ := had j hj
    obtain ⟨s', _, _, c2, t2, _⟩ := had k hk
    rw [e, c2] at c1
    cases c1
    exact hne (errT_inj j (by omega) k (by omega) (t1.symm.trans t2))

end Go.Proofs.YtnncjgoogjookaaDoor.Rxw

namespace Go.Proofs.YtnncjgoogjookaaDoor.PX

open Go Go.RowKit Go.Lib Go.Sort Go.Proofs Go.Proofs.YtnncjgoogjookaaDoor Go.Proofs.YtnncjgoogjookaaDoor.Base Go.Proofs.YtnncjgoogjookaaDoor.L Go.Proofs.YtnncjgoogjookaaDoor.Parse Go.Proofs.YtnncjgoogjookaaDoor.Rxw

def impl_StrictKind.f (a0 : ByteArray) : Option Int := if a0.size ≤ 2147483647 then some (kindV (strictL (bl a0))) else none

theorem impl_StrictKind.calls (a0 : ByteArray) (r : Int) (w : World) (hKin : Kin w) (hStd : Std w) (h : impl_StrictKind.f a0 = some r) :
    Calls Tryd.prog 4 #[.string a0] w fun e w' => e = .returned (.int .i64 r) ∧ Below w.heap.size w w' := by
  unfold impl_StrictKind.f at h
  split at h
  · rename_i hs
    cases h
    obtain ⟨ad, hA⟩ := hKin
    exact strictKind a0 hs ad w hA hStd
  · cases h

end Go.Proofs.YtnncjgoogjookaaDoor.PX
namespace Go.Proofs.YtnncjgoogjookaaDoor.PX

open Go.RowKit Go.Proofs.YtnncjgoogjookaaDoorW.PrintWords Go.Proofs.YtnncjgoogjookaaDoorW.PrintLast Go.Proofs.YtnncjgoogjookaaDoorW.PrintMore

attribute [local go_sem] max2_int min2_int max_two min_two max_three min_three max_four min_four   -- for this text's walks alone

set_option linter.unusedVariables false

set_option linter.unusedSimpArgs false

mutual
def laws_FnSemverKindOfNext.j0 : Nat → ByteArray → ByteArray → Bool → Option (Bool)
  | 0, _, _, _ => none
  | k + 1, x0, x1, x14 => if x14 = true then (some true) else ((impl_StrictKind.f x0).bind fun t114 => (if t114 = 6 then (laws_FnSemverKindOfNext.l0 k x0 x1 0 0) else ((spec_StrictKind.f x0).bind fun t115 => (some (t115 != 6)))))
def laws_FnSemverKindOfNext.l0 : Nat → ByteArray → ByteArray → Int → Int → Option (Bool)
  | 0, _, _, _, _ => none
  | k + 1, x0, x1, x5, x6 => if x5 < (x0.size : Int) then (if x6 < 2 then (laws_FnSemverKindOfNext.j2 k x0 x1 x5 x6 true) else (if 0 ≤ x5 then (laws_FnSemverKindOfNext.j2 k x0 x1 x5 x6 ((bt x0 x5) != 43)) else (none))) else (laws_FnSemverKindOfNext.j2 k x0 x1 x5 x6 false)
def laws_FnSemverKindOfNext.j2 : Nat → ByteArray → ByteArray → Int → Int → Bool → Option (Bool)
  | 0, _, _, _, _, _ => none
  | k + 1, x0, x1, x5, x6, x34 => if x34 = true then (if 0 ≤ x5 then (if x5 < (x0.size : Int) then (if (bt x0 x5) = 46 then (laws_FnSemverKindOfNext.l0 k x0 x1 (wrap64 (x5 + 1)) (wrap64 (x6 + 1))) else (laws_FnSemverKindOfNext.l0 k x0 x1 (wrap64 (x5 + 1)) x6)) else (none)) else (none)) else (if x1.toList = ([] : List UInt8) then (laws_FnSemverKindOfNext.j3 k x0 x1 x5 true) else ((spec_ValidMeta.f k x1).bind fun t116 => (if t116 = true then (laws_FnSemverKindOfNext.j3 k x0 x1 x5 (decide ((wrap64 ((wrap64 (x5 + 1)) + (x1.size : Int))) > 256))) else (laws_FnSemverKindOfNext.j3 k x0 x1 x5 true))))
def laws_FnSemverKindOfNext.j3 : Nat → ByteArray → ByteArray → Int → Bool → Option (Bool)
  | 0, _, _, _, _ => none
  | k + 1, x0, x1, x5, x57 => if x57 = true then (some true) else (if 0 ≤ x5 then (if x5 ≤ (x0.size : Int) then (if (x0.extract 0 (x5 : Int).toNat).size + 1 ≤ 9223372036854775807 then (if ((x0.extract 0 (x5 : Int).toNat) ++ (⟨#[43]⟩ : ByteArray)).size + x1.size ≤ 9223372036854775807 then ((impl_StrictKind.f (((x0.extract 0 (x5 : Int).toNat) ++ (⟨#[43]⟩ : ByteArray)) ++ x1)).bind fun t117 => ((impl_StrictKind.f (x0.extract 0 (x5 : Int).toNat)).bind fun t118 => (if t117 = t118 then ((impl_StrictKind.f (x0.extract 0 (x5 : Int).toNat)).bind fun t119 => ((spec_StrictKind.f (x0.extract 0 (x5 : Int).toNat)).bind fun t120 => (some (t119 == t120)))) else (some false)))) else (none)) else (none)) else (none)) else (none))
end

def laws_FnSemverKindOfNext.f (k : Nat) (a0 : ByteArray) (a1 : ByteArray) : Option (Bool) := if (a0.size : Int) > 2147483647 then (laws_FnSemverKindOfNext.j0 k a0 a1 true) else (laws_FnSemverKindOfNext.j0 k a0 a1 (decide ((a1.size : Int) > 2147483647)))

def laws_FnSemverKindOfNext.T13 : Bool × List (List Nat × List Nat) := (true, [([], []), ([], []), ([0, 1], [0, 1]), ([2], [2]), ([], []), ([3, 4], [3, 4]), ([5], [5]), ([], []), ([], []), ([7, 8], [7, 8]), ([9, 6], [9]), ([6, 10], [6, 10]), ([11, 10], [11]), ([12], [12]), ([12], [12]), ([13, 14, 12], [12, 13, 14]), ([15, 12, 12], [12, 15]), ([12], [12]), ([12], [12]), ([17, 18, 12], [12, 17, 18]), ([19, 16, 12], [12, 19]), ([16, 20, 12], [12, 16, 20]), ([12, 21], [12, 21]), ([22, 20, 0, 1, 2, 3, 4, 5, 6, 7, 8, 9, 10, 11, 12, 13, 14, 15, 16, 17, 18, 19, 20, 21, 22], [22])])

def laws_FnSemverKindOfNext.B13 : List Nat := [0, 0, 3, 7, 0, 31, 63, 0, 0, 384, 1023, 2047, 4095, 8191, 8191, 32767, 65535, 8191, 8191, 401407, 1048575, 2097151, 4194303, 8388607]

theorem laws_FnSemverKindOfNext.tab13 : rtab .any (opsOf Tryd.f3 13) = laws_FnSemverKindOfNext.T13 := by kernel_rfl

theorem laws_FnSemverKindOfNext.bits13 : waitsOk laws_FnSemverKindOfNext.T13.2 laws_FnSemverKindOfNext.B13 = true := by kernel_rfl

set_option maxHeartbeats 80000000 in
set_option maxRecDepth 100000 in
theorem laws_FnSemverKindOfNext.calls (k : Nat) (a0 : ByteArray) (a1 : ByteArray) (r : Bool) (w : World) (hKin : Kin w) (hStd : Std w) (h : laws_FnSemverKindOfNext.f k a0 a1 = some r) :
  Calls Tryd.prog 3 #[.string a0, .string a1] w fun e w' => e = .returned (.bool r) ∧ Below w.heap.size w w' := by
 have HKin := Aside0.mk hKin
 clear hKin
 have HStd := Aside0.mk hStd
 clear hStd
 have HB := Aside0.mk (Below.refl w.heap.size w)
 have H : (if (a0.size : Int) > 2147483647 then (laws_FnSemverKindOfNext.j0 k a0 a1 true) else (laws_FnSemverKindOfNext.j0 k a0 a1 (decide ((a1.size : Int) > 2147483647)))) = some r := h
 clear h
 have HC3 := Aside0.mk H
 clear H
 go_enter Tryd.func3, Tryd.ntmps3
 go_upto_region 1 with (fail)
 go_cut [14] (fun v14 wc => ∃ (kq : Nat) (x14_2 : Bool), v14 = .bool x14_2 ∧ Aside0 (laws_FnSemverKindOfNext.j0 kq a0 a1 x14_2 = some r) ∧ Aside0 (kq ≤ k) ∧ Aside0 (Below w.heap.size w wc))
 case first =>
  have H := HC3.out
  clear HC3
  by_cases c4 : (a0.size : Int) > 2147483647
  ·
   rw [if_pos c4] at H
   have c4b0 : decide (2147483647 < (a0.size : Int)) = true := decide_eq_true c4
   have c4b1 : decide (2147483647 < a0.size) = true := decide_eq_true (by omega)
   clear c4
   (first | rw [c4b0] | (simp only [i64_w, i32_w]; rw [c4b0]) | skip)
   have H' := Aside0.mk H
   clear H
   go_wp2
   go_meet
   case rel => exact ⟨_, (true), (by first | rfl | (simp; done) | (simp [*]; done)), H', ⟨by first | omega | exact Nat.le_refl _⟩, ⟨by repeat (first | (with_reducible first | exact HB.out | apply below_alloc | apply pw_below_drewN | apply below_drew1) | exact HB.out)⟩⟩
  ·
   rw [if_neg c4] at H
   have c4b0 : decide (2147483647 < (a0.size : Int)) = false := decide_eq_false c4
   have c4b1 : decide (2147483647 < a0.size) = false := decide_eq_false (by omega)
   clear c4
   (first | rw [c4b0] | (simp only [i64_w, i32_w]; rw [c4b0]) | skip)
   have H' := Aside0.mk H
   clear H
   go_wp2
   go_meet
   case rel => exact ⟨_, (decide ((a1.size : Int) > 2147483647)), (by first | rfl | (simp; done) | (simp [*]; done)), H', ⟨by first | omega | exact Nat.le_refl _⟩, ⟨by repeat (first | (with_reducible first | exact HB.out | apply below_alloc | apply pw_below_drewN | apply below_drew1) | exact HB.out)⟩⟩
 case rest =>
  clear HC3
  try clear p2
  try clear c3
  try clear c4
  try clear c4b0
  try clear c4b1
  obtain ⟨kq, x14_2, rfl, HA, HJ2, HB⟩ := hcut
  cases kq with
  | zero => exact absurd HA.out (by simp [laws_FnSemverKindOfNext.j0])
  | succ kj2 =>
   have H := HA.out
   clear HA
   simp only [laws_FnSemverKindOfNext.j0] at H
   by_cases c5 : x14_2 = true
   ·
    subst c5
    have H1 : (some true) = some r := by rw [if_pos rfl] at H; exact H
    clear H
    have H := H1
    clear H1
    obtain rfl := Option.some.inj H
    go_wp2
    go_ret
    exact ⟨by first | rfl | (simp [errW_none, errW_some] <;> rfl) | (simp [*, errW_none, errW_some] <;> rfl) | (simp [bneNil]; done), by repeat (first | (with_reducible first | exact HB.out | apply below_alloc | apply pw_below_drewN | apply below_drew1) | exact HB.out)⟩
   ·
    replace c5 := Bool.eq_false_iff.mpr c5
    subst c5
    have H1 : ((impl_StrictKind.f a0).bind fun t114 => (if t114 = 6 then (laws_FnSemverKindOfNext.l0 kj2 a0 a1 0 0) else ((spec_StrictKind.f a0).bind fun t115 => (some (t115 != 6))))) = some r := by rw [if_neg (show ¬ (false = true) by decide)] at H; exact H
    clear H
    have H := H1
    clear H1
    replace H := Option.bind_eq_some_iff.mp H
    obtain ⟨t114, A60, H⟩ := H
    replace H : (if t114 = 6 then (laws_FnSemverKindOfNext.l0 kj2 a0 a1 0 0) else ((spec_StrictKind.f a0).bind fun t115 => (some (t115 != 6)))) = some r := H
    have A6 := Aside0.mk A60
    clear A60
    by_cases c7 : t114 = 6
    ·
     rw [if_pos c7] at H
     have c7b0 : (t114 == 6) = true := beq_iff_eq.mpr c7
     have c7b1 : (t114 != 6) = false := bne_eq_false_iff_eq.mpr c7
     clear c7
     have H' := Aside0.mk H
     clear H
     go_wp2_with (first | ((with_reducible refine gate_callee (f := 4) rfl ?_); refine goesL_ (some 16) rfl rfl Tryd.func4 (by kernel_rfl) rfl #[.string a0] rfl (by (try simp only [List.map_toArray, List.map_cons, List.map_nil]); first | done | rfl | (simp only [List.length_drop, List.length_take]; rfl)) ?_; (with_reducible refine (impl_StrictKind.calls a0 t114 _ ?side1 ?side2 A6.out).mono ?_); (case side1 => exact HKin.out.below (by repeat (first | (with_reducible first | exact HB.out | apply below_alloc | apply pw_below_drewN | apply below_drew1) | exact HB.out))); (case side2 => exact HStd.out.below (by repeat (first | (with_reducible first | exact HB.out | apply below_alloc | apply pw_below_drewN | apply below_drew1) | exact HB.out))); rintro e w8 ⟨rfl, hb⟩; refine ⟨_, rfl, ?_⟩; have n0_ := Aside0.mk (below_step (by repeat (first | (with_reducible first | exact HB.out | apply below_alloc | apply pw_below_drewN | apply below_drew1) | exact HB.out)) hb); clear HB; have HB := n0_; clear n0_; (try clear hb); (try clear hb2); (try clear hk); (try clear hi)))
     go_loopg [5, 6] kj2 (fun kq v5 v6 w' => ∃ (x5_2 : Int) (x6_2 : Int), v5 = .int .i64 x5_2 ∧ v6 = .int .i64 x6_2 ∧ Aside0 (laws_FnSemverKindOfNext.l0 kq a0 a1 x5_2 x6_2 = some r) ∧ Aside0 (kq ≤ kj2) ∧ Aside0 (Below w.heap.size w w'))
     case atStart => exact ⟨(0), (0), (by first | rfl | (simp; done) | (simp [*]; done)), (by first | rfl | (simp; done) | (simp [*]; done)), H', ⟨Nat.le_refl _⟩, ⟨by repeat (first | (with_reducible first | exact HB.out | apply below_alloc | apply pw_below_drewN | apply below_drew1) | exact HB.out)⟩⟩
     case round =>
      clear H'
      try clear p2
      try clear c3
      try clear c4
      try clear c4b0
      try clear c4b1
      try clear c5
      try clear c7
      try clear c7b0
      try clear c7b1
      try clear p2
      obtain ⟨x5_2, x6_2, rfl, rfl, HA, HK2, HB⟩ := hrel
      cases gk with
      | zero => exact absurd HA.out (by simp [laws_FnSemverKindOfNext.l0])
      | succ k2 =>
       have H := HA.out
       clear HA
       simp only [laws_FnSemverKindOfNext.l0] at H
       have HC9 := Aside0.mk H
       clear H
       go_upto_region 7 with (fail)
       go_cut [34] (fun v34 wc => ∃ (kq : Nat) (x34_8 : Bool), v34 = .bool x34_8 ∧ Aside0 (laws_FnSemverKindOfNext.j2 kq a0 a1 x5_2 x6_2 x34_8 = some r) ∧ Aside0 (kq ≤ k2) ∧ Aside0 (Below w.heap.size w wc))
       case first =>
        have H := HC9.out
        clear HC9
        by_cases c10 : x5_2 < (a0.size : Int)
        ·
         rw [if_pos c10] at H
         have c10b0 : decide (x5_2 < (a0.size : Int)) = true := decide_eq_true c10
         clear c10
         (first | rw [c10b0] | (simp only [i64_w, i32_w]; rw [c10b0]) | skip)
         by_cases c11 : x6_2 < 2
         ·
          rw [if_pos c11] at H
          have c11b0 : decide (x6_2 < 2) = true := decide_eq_true c11
          clear c11
          have H' := Aside0.mk H
          clear H
          go_wp2
          go_meet
          case rel => exact ⟨_, (true), (by first | rfl | (simp; done) | (simp [*]; done)), H', ⟨by have := HJ2.out; have := HK2.out; first | omega | exact Nat.le_refl _⟩, ⟨by repeat (first | (with_reducible first | exact HB.out | apply below_alloc | apply pw_below_drewN | apply below_drew1) | exact HB.out)⟩⟩
         ·
          rw [if_neg c11] at H
          have c11b0 : decide (x6_2 < 2) = false := decide_eq_false c11
          clear c11
          by_cases c12 : 0 ≤ x5_2
          ·
           rw [if_pos c12] at H
           have c12b0 : decide (0 ≤ x5_2) = true := decide_eq_true c12
           clear c12
           have H' := Aside0.mk H
           clear H
           have p13 : 0 ≤ (x5_2 : Int) := of_decide_eq_true (by first | (with_reducible assumption) | assumption)
           have q13 : x5_2 < (a0.size : Int) := of_decide_eq_true (by first | (with_reducible assumption) | assumption)
           have hx13 := bt_at a0 x5_2
           replace p13 := eq_true p13
           replace q13 := eq_true q13
           go_wp2
           go_meet
           case rel => exact ⟨_, (((bt a0 x5_2) != 43)), (by first | rfl | (simp; done) | (simp [*]; done)), H', ⟨by have := HJ2.out; have := HK2.out; first | omega | exact Nat.le_refl _⟩, ⟨by repeat (first | (with_reducible first | exact HB.out | apply below_alloc | apply pw_below_drewN | apply below_drew1) | exact HB.out)⟩⟩
          ·
           rw [if_neg c12] at H
           exact absurd H (by simp)
        ·
         rw [if_neg c10] at H
         have c10b0 : decide (x5_2 < (a0.size : Int)) = false := decide_eq_false c10
         clear c10
         (first | rw [c10b0] | (simp only [i64_w, i32_w]; rw [c10b0]) | skip)
         have H' := Aside0.mk H
         clear H
         go_wp2
         go_meet
         case rel => exact ⟨_, (false), (by first | rfl | (simp; done) | (simp [*]; done)), H', ⟨by have := HJ2.out; have := HK2.out; first | omega | exact Nat.le_refl _⟩, ⟨by repeat (first | (with_reducible first | exact HB.out | apply below_alloc | apply pw_below_drewN | apply below_drew1) | exact HB.out)⟩⟩
       case rest =>
        clear HC9
        try clear c1
        try clear p1
        try clear q1
        try clear hx1
        try clear p2
        try clear c3
        try clear c4
        try clear c4b0
        try clear c4b1
        try clear c5
        try clear c7
        try clear c7b0
        try clear c7b1
        try clear c10
        try clear c10b0
        try clear c11
        try clear c11b0
        try clear c12
        try clear c12b0
        try clear p13
        try clear q13
        try clear hx13
        try clear p13
        try clear p2
        try clear q13
        obtain ⟨kq, x34_8, rfl, HA, HJ8, HB⟩ := hcut
        cases kq with
        | zero => exact absurd HA.out (by simp [laws_FnSemverKindOfNext.j2])
        | succ kj8 =>
         have H := HA.out
         clear HA
         simp only [laws_FnSemverKindOfNext.j2] at H
         by_cases c14 : x34_8 = true
         ·
          subst c14
          have H1 : (if 0 ≤ x5_2 then (if x5_2 < (a0.size : Int) then (if (bt a0 x5_2) = 46 then (laws_FnSemverKindOfNext.l0 kj8 a0 a1 (wrap64 (x5_2 + 1)) (wrap64 (x6_2 + 1))) else (laws_FnSemverKindOfNext.l0 kj8 a0 a1 (wrap64 (x5_2 + 1)) x6_2)) else (none)) else (none)) = some r := by rw [if_pos rfl] at H; exact H
          clear H
          have H := H1
          clear H1
          by_cases c15 : 0 ≤ x5_2
          ·
           rw [if_pos c15] at H
           have c15b0 : decide (0 ≤ x5_2) = true := decide_eq_true c15
           clear c15
           by_cases c16 : x5_2 < (a0.size : Int)
           ·
            rw [if_pos c16] at H
            have c16b0 : decide (x5_2 < (a0.size : Int)) = true := decide_eq_true c16
            clear c16
            by_cases c18 : (bt a0 x5_2) = 46
            ·
             rw [if_pos c18] at H
             have c18b0 : ((bt a0 x5_2) == 46) = true := beq_iff_eq.mpr c18
             have c18b1 : ((bt a0 x5_2) != 46) = false := bne_eq_false_iff_eq.mpr c18
             clear c18
             have H' := Aside0.mk H
             clear H
             have p17 : 0 ≤ (x5_2 : Int) := of_decide_eq_true (by first | (with_reducible assumption) | assumption)
             have q17 : x5_2 < (a0.size : Int) := of_decide_eq_true (by first | (with_reducible assumption) | assumption)
             have hx17 := bt_at a0 x5_2
             replace p17 := eq_true p17
             replace q17 := eq_true q17
             go_wp2
             go_roundg kj8
             case measure => have := HJ2.out; have := HK2.out; have := HJ8.out; omega
             case rel => exact ⟨(wrap64 (x5_2 + 1)), (wrap64 (x6_2 + 1)), (by first | rfl | (simp; done) | (simp [*]; done)), (by first | rfl | (simp; done) | (simp [*]; done)), H', ⟨by have := HJ2.out; have := HK2.out; have := HJ8.out; omega⟩, ⟨by repeat (first | (with_reducible first | exact HB.out | apply below_alloc | apply pw_below_drewN | apply below_drew1) | exact HB.out)⟩⟩
            ·
             rw [if_neg c18] at H
             have c18b0 : ((bt a0 x5_2) == 46) = false := beq_eq_false_iff_ne.mpr c18
             have c18b1 : ((bt a0 x5_2) != 46) = true := bne_iff_ne.mpr c18
             have H' := Aside0.mk H
             clear H
             have p17 : 0 ≤ (x5_2 : Int) := of_decide_eq_true (by first | (with_reducible assumption) | assumption)
             have q17 : x5_2 < (a0.size : Int) := of_decide_eq_true (by first | (with_reducible assumption) | assumption)
             have hx17 := bt_at a0 x5_2
             replace p17 := eq_true p17
             replace q17 := eq_true q17
             go_wp2
             go_roundg kj8
             case measure => have := HJ2.out; have := HK2.out; have := HJ8.out; omega
             case rel => exact ⟨(wrap64 (x5_2 + 1)), (x6_2), (by first | rfl | (simp; done) | (simp [*]; done)), (by first | rfl | (simp; done) | (simp [*]; done)), H', ⟨by have := HJ2.out; have := HK2.out; have := HJ8.out; omega⟩, ⟨by repeat (first | (with_reducible first | exact HB.out | apply below_alloc | apply pw_below_drewN | apply below_drew1) | exact HB.out)⟩⟩
           ·
            rw [if_neg c16] at H
            exact absurd H (by simp)
          ·
           rw [if_neg c15] at H
           exact absurd H (by simp)
         ·
          replace c14 := Bool.eq_false_iff.mpr c14
          subst c14
          have H1 : (if a1.toList = ([] : List UInt8) then (laws_FnSemverKindOfNext.j3 kj8 a0 a1 x5_2 true) else ((spec_ValidMeta.f kj8 a1).bind fun t116 => (if t116 = true then (laws_FnSemverKindOfNext.j3 kj8 a0 a1 x5_2 (decide ((wrap64 ((wrap64 (x5_2 + 1)) + (a1.size : Int))) > 256))) else (laws_FnSemverKindOfNext.j3 kj8 a0 a1 x5_2 true)))) = some r := by rw [if_neg (show ¬ (false = true) by decide)] at H; exact H
          clear H
          have H := H1
          clear H1
          have HC19 := Aside0.mk H
          clear H
          go_upto_region 11 with (fail)
          go_cut [57] (fun v57 wc => ∃ (kq : Nat) (x57_18 : Bool), v57 = .bool x57_18 ∧ Aside0 (laws_FnSemverKindOfNext.j3 kq a0 a1 x5_2 x57_18 = some r) ∧ Aside0 (kq ≤ kj8) ∧ Aside0 (Below w.heap.size w wc))
          case first =>
           have H := HC19.out
           clear HC19
           by_cases c20 : a1.toList = ([] : List UInt8)
           ·
            rw [if_pos c20] at H
            have c20b0 : (a1.toList == ([] : List UInt8)) = true := beq_iff_eq.mpr c20
            have c20b1 : (a1.toList != ([] : List UInt8)) = false := bne_eq_false_iff_eq.mpr c20
            clear c20
            (first | rw [c20b0] | (simp only [i64_w, i32_w]; rw [c20b0]) | skip)
            have H' := Aside0.mk H
            clear H
            go_wp2
            go_meet
            case rel => exact ⟨_, (true), (by first | rfl | (simp; done) | (simp [*]; done)), H', ⟨by have := HJ2.out; have := HK2.out; have := HJ8.out; first | omega | exact Nat.le_refl _⟩, ⟨by repeat (first | (with_reducible first | exact HB.out | apply below_alloc | apply pw_below_drewN | apply below_drew1) | exact HB.out)⟩⟩
           ·
            rw [if_neg c20] at H
            have c20b0 : (a1.toList == ([] : List UInt8)) = false := beq_eq_false_iff_ne.mpr c20
            have c20b1 : (a1.toList != ([] : List UInt8)) = true := bne_iff_ne.mpr c20
            (first | rw [c20b0] | (simp only [i64_w, i32_w]; rw [c20b0]) | skip)
            replace H := Option.bind_eq_some_iff.mp H
            obtain ⟨t116, A210, H⟩ := H
            replace H : (if t116 = true then (laws_FnSemverKindOfNext.j3 kj8 a0 a1 x5_2 (decide ((wrap64 ((wrap64 (x5_2 + 1)) + (a1.size : Int))) > 256))) else (laws_FnSemverKindOfNext.j3 kj8 a0 a1 x5_2 true)) = some r := H
            have A21 := Aside0.mk A210
            clear A210
            by_cases c22 : t116 = true
            ·
             subst c22
             have H1 : (laws_FnSemverKindOfNext.j3 kj8 a0 a1 x5_2 (decide ((wrap64 ((wrap64 (x5_2 + 1)) + (a1.size : Int))) > 256))) = some r := by rw [if_pos rfl] at H; exact H
             clear H
             have H := H1
             clear H1
             have H' := Aside0.mk H
             clear H
             go_wp2_with (first | (go_at_call 6; (with_reducible refine (spec_ValidMeta.calls kj8 a1 true _ A21.out).mono ?_); rintro e w23 ⟨rfl, hb⟩; have n0_ := Aside0.mk (below_step (by repeat (first | (with_reducible first | exact HB.out | apply below_alloc | apply pw_below_drewN | apply below_drew1) | exact HB.out)) hb); clear HB; have HB := n0_; clear n0_; (try clear hb); (try clear hb2); (try clear hk); (try clear hi)))
             go_meet
             case rel => exact ⟨_, (decide ((wrap64 ((wrap64 (x5_2 + 1)) + (a1.size : Int))) > 256)), (by first | rfl | (simp; done) | (simp [*]; done)), H', ⟨by have := HJ2.out; have := HK2.out; have := HJ8.out; first | omega | exact Nat.le_refl _⟩, ⟨by repeat (first | (with_reducible first | exact HB.out | apply below_alloc | apply pw_below_drewN | apply below_drew1) | exact HB.out)⟩⟩
            ·
             replace c22 := Bool.eq_false_iff.mpr c22
             subst c22
             have H1 : (laws_FnSemverKindOfNext.j3 kj8 a0 a1 x5_2 true) = some r := by rw [if_neg (show ¬ (false = true) by decide)] at H; exact H
             clear H
             have H := H1
             clear H1
             have H' := Aside0.mk H
             clear H
             go_wp2_with (first | (go_at_call 6; (with_reducible refine (spec_ValidMeta.calls kj8 a1 false _ A21.out).mono ?_); rintro e w24 ⟨rfl, hb⟩; have n0_ := Aside0.mk (below_step (by repeat (first | (with_reducible first | exact HB.out | apply below_alloc | apply pw_below_drewN | apply below_drew1) | exact HB.out)) hb); clear HB; have HB := n0_; clear n0_; (try clear hb); (try clear hb2); (try clear hk); (try clear hi)))
             go_meet
             case rel => exact ⟨_, (true), (by first | rfl | (simp; done) | (simp [*]; done)), H', ⟨by have := HJ2.out; have := HK2.out; have := HJ8.out; first | omega | exact Nat.le_refl _⟩, ⟨by repeat (first | (with_reducible first | exact HB.out | apply below_alloc | apply pw_below_drewN | apply below_drew1) | exact HB.out)⟩⟩
          case rest =>
           clear HC19
           try clear c1
           try clear p1
           try clear q1
           try clear hx1
           try clear c2
           try clear p2
           try clear c3
           try clear c4
           try clear c4b0
           try clear c4b1
           try clear c5
           try clear p6
           try clear c7
           try clear c7b0
           try clear c7b1
           try clear c10
           try clear c10b0
           try clear c11
           try clear c11b0
           try clear c12
           try clear c12b0
           try clear p13
           try clear q13
           try clear hx13
           try clear c14
           try clear c15
           try clear c15b0
           try clear c16
           try clear c16b0
           try clear p17
           try clear q17
           try clear hx17
           try clear c18
           try clear c18b0
           try clear c18b1
           try clear c20
           try clear c20b0
           try clear c20b1
           try clear c22
           try clear p1
           try clear p13
           try clear p17
           try clear p2
           try clear q1
           try clear q13
           try clear q17
           obtain ⟨kq, x57_18, rfl, HA, HJ18, HB⟩ := hcut
           cases kq with
           | zero => exact absurd HA.out (by simp [laws_FnSemverKindOfNext.j3])
           | succ kj18 =>
            have H := HA.out
            clear HA
            simp only [laws_FnSemverKindOfNext.j3] at H
            by_cases c25 : x57_18 = true
            ·
             subst c25
             have H1 : (some true) = some r := by rw [if_pos rfl] at H; exact H
             clear H
             have H := H1
             clear H1
             obtain rfl := Option.some.inj H
             go_wp2
             go_ret
             exact ⟨by first | rfl | (simp [errW_none, errW_some] <;> rfl) | (simp [*, errW_none, errW_some] <;> rfl) | (simp [bneNil]; done), by repeat (first | (with_reducible first | exact HB.out | apply below_alloc | apply pw_below_drewN | apply below_drew1) | exact HB.out)⟩
            ·
             replace c25 := Bool.eq_false_iff.mpr c25
             subst c25
             have H1 : (if 0 ≤ x5_2 then (if x5_2 ≤ (a0.size : Int) then (if (a0.extract 0 (x5_2 : Int).toNat).size + 1 ≤ 9223372036854775807 then (if ((a0.extract 0 (x5_2 : Int).toNat) ++ (⟨#[43]⟩ : ByteArray)).size + a1.size ≤ 9223372036854775807 then ((impl_StrictKind.f (((a0.extract 0 (x5_2 : Int).toNat) ++ (⟨#[43]⟩ : ByteArray)) ++ a1)).bind fun t117 => ((impl_StrictKind.f (a0.extract 0 (x5_2 : Int).toNat)).bind fun t118 => (if t117 = t118 then ((impl_StrictKind.f (a0.extract 0 (x5_2 : Int).toNat)).bind fun t119 => ((spec_StrictKind.f (a0.extract 0 (x5_2 : Int).toNat)).bind fun t120 => (some (t119 == t120)))) else (some false)))) else (none)) else (none)) else (none)) else (none)) = some r := by rw [if_neg (show ¬ (false = true) by decide)] at H; exact H
             clear H
             have H := H1
             clear H1
             by_cases c26 : 0 ≤ x5_2
             ·
              rw [if_pos c26] at H
              have c26b0 := eq_true c26
              have c26b1 : decide (0 ≤ x5_2) = true := decide_eq_true c26
              clear c26
              by_cases c27 : x5_2 ≤ (a0.size : Int)
              ·
               rw [if_pos c27] at H
               have c27b0 := eq_true c27
               have c27b1 : decide (x5_2 ≤ (a0.size : Int)) = true := decide_eq_true c27
               clear c27
               by_cases c28 : (a0.extract 0 (x5_2 : Int).toNat).size + 1 ≤ 9223372036854775807
               ·
                rw [if_pos c28] at H
                have c28b0 := eq_true c28
                have c28b1 : decide ((a0.extract 0 (x5_2 : Int).toNat).size + 1 ≤ 9223372036854775807) = true := decide_eq_true c28
                try have c28b2 : (9223372036854775807 < (a0.extract 0 (x5_2 : Int).toNat).size + 1) = False := eq_false (Nat.not_lt.2 c28)
                try have c28b2x := c28b2
                try simp only [ByteArray.size_extract, Int.toNat_natCast, Nat.min_self] at c28b2x
                try have c28b2y := c28b2
                try simp only [ByteArray.size_append, szL1, szL2, szL3, ByteArray.size_extract, Int.toNat_natCast, Nat.min_self, Nat.sub_zero] at c28b2y
                try rw [Nat.min_eq_left (by first | omega | (have q_ := of_eq_true c27b0; omega) | (have q_ := of_eq_true c26b0; omega) | (have q_ := of_eq_true c25b0; omega) | (have q_ := of_eq_true c24b0; omega))] at c28b2y
                by_cases c29 : ((a0.extract 0 (x5_2 : Int).toNat) ++ (⟨#[43]⟩ : ByteArray)).size + a1.size ≤ 9223372036854775807
                ·
                 rw [if_pos c29] at H
                 have c29b0 := eq_true c29
                 have c29b1 : decide (((a0.extract 0 (x5_2 : Int).toNat) ++ (⟨#[43]⟩ : ByteArray)).size + a1.size ≤ 9223372036854775807) = true := decide_eq_true c29
                 try have c29b2 : (9223372036854775807 < ((a0.extract 0 (x5_2 : Int).toNat) ++ (⟨#[43]⟩ : ByteArray)).size + a1.size) = False := eq_false (Nat.not_lt.2 c29)
                 try have c29b2x := c29b2
                 try simp only [ByteArray.size_extract, Int.toNat_natCast, Nat.min_self] at c29b2x
                 try have c29b2y := c29b2
                 try simp only [ByteArray.size_append, szL1, szL2, szL3, ByteArray.size_extract, Int.toNat_natCast, Nat.min_self, Nat.sub_zero] at c29b2y
                 try rw [Nat.min_eq_left (by first | omega | (have q_ := of_eq_true c28b0; omega) | (have q_ := of_eq_true c27b0; omega) | (have q_ := of_eq_true c26b0; omega) | (have q_ := of_eq_true c25b0; omega))] at c29b2y
                 try have c29b2n := c29b2
                 try simp only [ByteArray.size_append, szL1, szL2, szL3] at c29b2n
                 replace H := Option.bind_eq_some_iff.mp H
                 obtain ⟨t117, A300, H⟩ := H
                 replace H : ((impl_StrictKind.f (a0.extract 0 (x5_2 : Int).toNat)).bind fun t118 => (if t117 = t118 then ((impl_StrictKind.f (a0.extract 0 (x5_2 : Int).toNat)).bind fun t119 => ((spec_StrictKind.f (a0.extract 0 (x5_2 : Int).toNat)).bind fun t120 => (some (t119 == t120)))) else (some false))) = some r := H
                 have A30 := Aside0.mk A300
                 clear A300
                 have c31b0 := eq_true (of_decide_eq_true (by first | (with_reducible assumption) | assumption) : 0 ≤ x5_2)
                 have c32b0 := eq_true (of_decide_eq_true (by first | (with_reducible assumption) | assumption) : x5_2 ≤ (a0.size : Int))
                 replace H := Option.bind_eq_some_iff.mp H
                 obtain ⟨t118, A330, H⟩ := H
                 replace H : (if t117 = t118 then ((impl_StrictKind.f (a0.extract 0 (x5_2 : Int).toNat)).bind fun t119 => ((spec_StrictKind.f (a0.extract 0 (x5_2 : Int).toNat)).bind fun t120 => (some (t119 == t120)))) else (some false)) = some r := H
                 have A33 := Aside0.mk A330
                 clear A330
                 by_cases c34 : t117 = t118
                 ·
                  rw [if_pos c34] at H
                  have c34b0 : (t117 == t118) = true := beq_iff_eq.mpr c34
                  have c34b1 : (t117 != t118) = false := bne_eq_false_iff_eq.mpr c34
                  clear c34
                  have c35b0 := eq_true (of_decide_eq_true (by first | (with_reducible assumption) | assumption) : 0 ≤ x5_2)
                  have c36b0 := eq_true (of_decide_eq_true (by first | (with_reducible assumption) | assumption) : x5_2 ≤ (a0.size : Int))
                  replace H := Option.bind_eq_some_iff.mp H
                  obtain ⟨t119, A370, H⟩ := H
                  replace H : ((spec_StrictKind.f (a0.extract 0 (x5_2 : Int).toNat)).bind fun t120 => (some (t119 == t120))) = some r := H
                  have A37 := Aside0.mk A370
                  clear A370
                  have c38b0 := eq_true (of_decide_eq_true (by first | (with_reducible assumption) | assumption) : 0 ≤ x5_2)
                  have c39b0 := eq_true (of_decide_eq_true (by first | (with_reducible assumption) | assumption) : x5_2 ≤ (a0.size : Int))
                  replace H := Option.bind_eq_some_iff.mp H
                  obtain ⟨t120, A400, H⟩ := H
                  replace H : (some (t119 == t120)) = some r := H
                  have A40 := Aside0.mk A400
                  clear A400
                  obtain rfl := Option.some.inj H
                  try go_wp2
                  have n0_ := Aside0.mk (below_drew1 HB.out)
                  clear HB
                  have HB := n0_
                  clear n0_
                  refine start_ (n := 24) (S := fun w' => True) (ds := []) #[false, false, false, false, false, false, false, false, false, false, false, false, false, false, false, false, false, false, false, false, false, false, false, false] (by kernel_rfl) rfl rfl trivial (fun hHeld => ?_); refine with_tabW laws_FnSemverKindOfNext.tab13 laws_FnSemverKindOfNext.bits13 (fun HT_ HW_ => ?_)
                  generalize wc.drew = w41 at HB hHeld ⊢
                  refine pure_ (i := 0) (N := some 58) (v := ?_) (a' := ?_) #[true, false, false, false, false, false, false, false, false, false, false, false, false, false, false, false, false, false, false, false, false, false, false, false] rfl rfl (any_of HT_.out (by kernel_rfl)) (fun _ _ _ h => h) (Or.inl ⟨by rfl, ?_⟩) ?_ ?_
                  rotate_left
                  ·
                   intro w'
                   go_simp
                   with_reducible rfl
                  rotate_left
                  ·
                   simp only [Act.put, List.setIfInBounds_toArray, List.set_cons_zero, List.set_cons_succ, i64_w, i32_w]
                   rfl
                  refine pure_ (i := 1) (N := some 59) (v := ?_) (a' := ?_) #[true, true, false, false, false, false, false, false, false, false, false, false, false, false, false, false, false, false, false, false, false, false, false, false] rfl rfl (any_of HT_.out (by kernel_rfl)) (fun _ _ _ h => h) (Or.inl ⟨by rfl, ?_⟩) ?_ ?_
                  rotate_left
                  ·
                   intro w'
                   go_simp
                   with_reducible rfl
                  rotate_left
                  ·
                   simp only [Act.put, List.setIfInBounds_toArray, List.set_cons_zero, List.set_cons_succ, i64_w, i32_w]
                   rfl
                  refine pure_ (i := 2) (N := some 60) (v := ?_) (a' := ?_) #[true, true, true, false, false, false, false, false, false, false, false, false, false, false, false, false, false, false, false, false, false, false, false, false] rfl rfl (any_of HT_.out (by kernel_rfl)) (fun _ _ _ h => h) (Or.inl ⟨by rfl, ?_⟩) ?_ ?_
                  rotate_left
                  ·
                   intro w'
                   go_simp
                   with_reducible rfl
                  rotate_left
                  ·
                   simp only [Act.put, List.setIfInBounds_toArray, List.set_cons_zero, List.set_cons_succ, i64_w, i32_w]
                   rfl
                  refine pure_ (i := 3) (N := some 61) (v := ?_) (a' := ?_) #[true, true, true, true, false, false, false, false, false, false, false, false, false, false, false, false, false, false, false, false, false, false, false, false] rfl rfl (any_of HT_.out (by kernel_rfl)) (fun _ _ _ h => h) (Or.inl ⟨by rfl, ?_⟩) ?_ ?_
                  rotate_left
                  ·
                   intro w'
                   go_simp
                   with_reducible rfl
                  rotate_left
                  ·
                   simp only [Act.put, List.setIfInBounds_toArray, List.set_cons_zero, List.set_cons_succ, i64_w, i32_w]
                   rfl
                  refine pure_ (i := 4) (N := some 62) (v := ?_) (a' := ?_) #[true, true, true, true, true, false, false, false, false, false, false, false, false, false, false, false, false, false, false, false, false, false, false, false] rfl rfl (any_of HT_.out (by kernel_rfl)) (fun _ _ _ h => h) (Or.inl ⟨by rfl, ?_⟩) ?_ ?_
                  rotate_left
                  ·
                   intro w'
                   go_simp
                   with_reducible rfl
                  rotate_left
                  ·
                   simp only [Act.put, List.setIfInBounds_toArray, List.set_cons_zero, List.set_cons_succ, i64_w, i32_w]
                   rfl
                  refine pure_ (i := 5) (N := some 63) (v := ?_) (a' := ?_) #[true, true, true, true, true, true, false, false, false, false, false, false, false, false, false, false, false, false, false, false, false, false, false, false] rfl rfl (any_of HT_.out (by kernel_rfl)) (fun _ _ _ h => h) (Or.inl ⟨by rfl, ?_⟩) ?_ ?_
                  rotate_left
                  ·
                   intro w'
                   go_simp
                   with_reducible rfl
                  rotate_left
                  ·
                   simp only [Act.put, List.setIfInBounds_toArray, List.set_cons_zero, List.set_cons_succ, i64_w, i32_w]
                   rfl
                  refine pure_ (i := 7) (N := some 65) (v := ?_) (a' := ?_) #[true, true, true, true, true, true, false, true, false, false, false, false, false, false, false, false, false, false, false, false, false, false, false, false] rfl rfl (any_of HT_.out (by kernel_rfl)) (fun _ _ _ h => h) (Or.inl ⟨by rfl, ?_⟩) ?_ ?_
                  rotate_left
                  ·
                   intro w'
                   go_simp
                   with_reducible rfl
                  rotate_left
                  ·
                   simp only [Act.put, List.setIfInBounds_toArray, List.set_cons_zero, List.set_cons_succ, i64_w, i32_w]
                   rfl
                  refine pure_ (i := 8) (N := some 66) (v := ?_) (a' := ?_) #[true, true, true, true, true, true, false, true, true, false, false, false, false, false, false, false, false, false, false, false, false, false, false, false] rfl rfl (any_of HT_.out (by kernel_rfl)) (fun _ _ _ h => h) (Or.inl ⟨by rfl, ?_⟩) ?_ ?_
                  rotate_left
                  ·
                   intro w'
                   go_simp
                   with_reducible rfl
                  rotate_left
                  ·
                   simp only [Act.put, List.setIfInBounds_toArray, List.set_cons_zero, List.set_cons_succ, i64_w, i32_w]
                   rfl
                  refine pure_ (i := 9) (N := some 67) (v := ?_) (a' := ?_) #[true, true, true, true, true, true, false, true, true, true, false, false, false, false, false, false, false, false, false, false, false, false, false, false] rfl rfl (any_of HT_.out (by kernel_rfl)) (fun _ _ _ h => h) (Or.inl ⟨by rfl, ?_⟩) ?_ ?_
                  rotate_left
                  ·
                   intro w'
                   go_simp
                   with_reducible rfl
                  rotate_left
                  ·
                   simp only [Act.put, List.setIfInBounds_toArray, List.set_cons_zero, List.set_cons_succ, i64_w, i32_w]
                   rfl
                  refine one_ (i := 6) (N := some 64) #[true, true, true, true, true, true, true, true, true, true, false, false, false, false, false, false, false, false, false, false, false, false, false, false] rfl rfl (one_of HT_.out (by kernel_rfl)) (by decide) (fun K hK => ?_)
                  refine goes_ Tryd.func4 (by kernel_rfl) rfl #[.string (((a0.extract 0 (x5_2 : Int).toNat) ++ (⟨#[43]⟩ : ByteArray)) ++ a1)] (by rfl) rfl rfl (by (try simp only [List.map_toArray, List.map_cons, List.map_nil]); first | done | rfl | (simp only [List.length_drop, List.length_take]; rfl)) ?_
                  with_reducible refine (impl_StrictKind.calls (((a0.extract 0 (x5_2 : Int).toNat) ++ (⟨#[43]⟩ : ByteArray)) ++ a1) t117 _ ?side1 ?side2 A30.out).mono ?_
                  (case side1 => exact HKin.out.below (by repeat (first | (with_reducible first | exact HB.out | apply below_alloc | apply pw_below_drewN | apply below_drew1) | exact HB.out)))
                  (case side2 => exact HStd.out.below (by repeat (first | (with_reducible first | exact HB.out | apply below_alloc | apply pw_below_drewN | apply below_drew1) | exact HB.out)))
                  rintro e w42 ⟨rfl, hb⟩
                  refine ⟨_, rfl, ?_⟩
                  have n0_ := Aside0.mk (below_step (by repeat (first | (with_reducible first | exact HB.out | apply below_alloc | apply pw_below_drewN | apply below_drew1) | exact HB.out)) hb)
                  clear HB
                  have HB := n0_
                  clear n0_
                  (try clear hb)
                  (try clear hb2)
                  (try clear hk)
                  (try clear hi)
                  refine hK.out _ _ trivial (fun hHeld => ?_)
                  clear hK K
                  refine norm_ (a' := ?_) ?_ ?_
                  rotate_left
                  ·
                   show Act.put _ (some 64) _ = _
                   simp only [Act.put, List.setIfInBounds_toArray, List.set_cons_zero, List.set_cons_succ, i64_w, i32_w]
                   rfl
                  refine one_ (i := 10) (N := some 68) #[true, true, true, true, true, true, true, true, true, true, true, false, false, false, false, false, false, false, false, false, false, false, false, false] rfl rfl (one_of HT_.out (by kernel_rfl)) (by decide) (fun K hK => ?_)
                  refine goes_ Tryd.func4 (by kernel_rfl) rfl #[.string (a0.extract 0 (x5_2 : Int).toNat)] (by rfl) rfl rfl (by (try simp only [List.map_toArray, List.map_cons, List.map_nil]); first | done | rfl | (simp only [List.length_drop, List.length_take]; rfl)) ?_
                  with_reducible refine (impl_StrictKind.calls (a0.extract 0 (x5_2 : Int).toNat) t118 _ ?side1 ?side2 A33.out).mono ?_
                  (case side1 => exact HKin.out.below (by repeat (first | (with_reducible first | exact HB.out | apply below_alloc | apply pw_below_drewN | apply below_drew1) | exact HB.out)))
                  (case side2 => exact HStd.out.below (by repeat (first | (with_reducible first | exact HB.out | apply below_alloc | apply pw_below_drewN | apply below_drew1) | exact HB.out)))
                  rintro e w43 ⟨rfl, hb⟩
                  refine ⟨_, rfl, ?_⟩
                  have n0_ := Aside0.mk (below_step (by repeat (first | (with_reducible first | exact HB.out | apply below_alloc | apply pw_below_drewN | apply below_drew1) | exact HB.out)) hb)
                  clear HB
                  have HB := n0_
                  clear n0_
                  (try clear hb)
                  (try clear hb2)
                  (try clear hk)
                  (try clear hi)
                  refine hK.out _ _ trivial (fun hHeld => ?_)
                  clear hK K
                  refine norm_ (a' := ?_) ?_ ?_
                  rotate_left
                  ·
                   show Act.put _ (some 68) _ = _
                   simp only [Act.put, List.setIfInBounds_toArray, List.set_cons_zero, List.set_cons_succ, i64_w, i32_w]
                   rfl
                  refine pure_ (i := 11) (N := some 69) (v := ?_) (a' := ?_) #[true, true, true, true, true, true, true, true, true, true, true, true, false, false, false, false, false, false, false, false, false, false, false, false] rfl rfl (any_of HT_.out (by kernel_rfl)) (fun _ _ _ h => h) (Or.inl ⟨by rfl, ?_⟩) ?_ ?_
                  rotate_left
                  ·
                   intro w'
                   go_simp
                   with_reducible rfl
                  rotate_left
                  ·
                   simp only [Act.put, List.setIfInBounds_toArray, List.set_cons_zero, List.set_cons_succ, i64_w, i32_w]
                   rfl
                  refine pure_ (i := 12) (N := some 70) (v := ?_) (a' := ?_) #[true, true, true, true, true, true, true, true, true, true, true, true, true, false, false, false, false, false, false, false, false, false, false, false] rfl rfl (any_of HT_.out (by kernel_rfl)) (fun _ _ _ h => h) (Or.inl ⟨by rfl, ?_⟩) ?_ ?_
                  rotate_left
                  ·
                   intro w'
                   go_simp
                   with_reducible rfl
                  rotate_left
                  ·
                   simp only [Act.put, List.setIfInBounds_toArray, List.set_cons_zero, List.set_cons_succ, i64_w, i32_w]
                   rfl
                  refine pure_ (i := 13) (N := some 71) (v := ?_) (a' := ?_) #[true, true, true, true, true, true, true, true, true, true, true, true, true, true, false, false, false, false, false, false, false, false, false, false] rfl rfl (any_of HT_.out (by kernel_rfl)) (fun _ _ _ h => h) (Or.inl ⟨by rfl, ?_⟩) ?_ ?_
                  rotate_left
                  ·
                   intro w'
                   go_simp
                   with_reducible rfl
                  rotate_left
                  ·
                   simp only [Act.put, List.setIfInBounds_toArray, List.set_cons_zero, List.set_cons_succ, i64_w, i32_w]
                   rfl
                  refine pure_ (i := 14) (N := some 72) (v := ?_) (a' := ?_) #[true, true, true, true, true, true, true, true, true, true, true, true, true, true, true, false, false, false, false, false, false, false, false, false] rfl rfl (any_of HT_.out (by kernel_rfl)) (fun _ _ _ h => h) (Or.inl ⟨by rfl, ?_⟩) ?_ ?_
                  rotate_left
                  ·
                   intro w'
                   go_simp
                   with_reducible rfl
                  rotate_left
                  ·
                   simp only [Act.put, List.setIfInBounds_toArray, List.set_cons_zero, List.set_cons_succ, i64_w, i32_w]
                   rfl
                  refine pure_ (i := 15) (N := some 73) (v := ?_) (a' := ?_) #[true, true, true, true, true, true, true, true, true, true, true, true, true, true, true, true, false, false, false, false, false, false, false, false] rfl rfl (any_of HT_.out (by kernel_rfl)) (fun _ _ _ h => h) (Or.inl ⟨by rfl, ?_⟩) ?_ ?_
                  rotate_left
                  ·
                   intro w'
                   go_simp
                   with_reducible rfl
                  rotate_left
                  ·
                   simp only [Act.put, List.setIfInBounds_toArray, List.set_cons_zero, List.set_cons_succ, i64_w, i32_w]
                   rfl
                  refine pure_ (i := 17) (N := some 75) (v := ?_) (a' := ?_) #[true, true, true, true, true, true, true, true, true, true, true, true, true, true, true, true, false, true, false, false, false, false, false, false] rfl rfl (any_of HT_.out (by kernel_rfl)) (fun _ _ _ h => h) (Or.inl ⟨by rfl, ?_⟩) ?_ ?_
                  rotate_left
                  ·
                   intro w'
                   go_simp
                   with_reducible rfl
                  rotate_left
                  ·
                   simp only [Act.put, List.setIfInBounds_toArray, List.set_cons_zero, List.set_cons_succ, i64_w, i32_w]
                   rfl
                  refine pure_ (i := 18) (N := some 76) (v := ?_) (a' := ?_) #[true, true, true, true, true, true, true, true, true, true, true, true, true, true, true, true, false, true, true, false, false, false, false, false] rfl rfl (any_of HT_.out (by kernel_rfl)) (fun _ _ _ h => h) (Or.inl ⟨by rfl, ?_⟩) ?_ ?_
                  rotate_left
                  ·
                   intro w'
                   go_simp
                   with_reducible rfl
                  rotate_left
                  ·
                   simp only [Act.put, List.setIfInBounds_toArray, List.set_cons_zero, List.set_cons_succ, i64_w, i32_w]
                   rfl
                  refine pure_ (i := 19) (N := some 77) (v := ?_) (a' := ?_) #[true, true, true, true, true, true, true, true, true, true, true, true, true, true, true, true, false, true, true, true, false, false, false, false] rfl rfl (any_of HT_.out (by kernel_rfl)) (fun _ _ _ h => h) (Or.inl ⟨by rfl, ?_⟩) ?_ ?_
                  rotate_left
                  ·
                   intro w'
                   go_simp
                   with_reducible rfl
                  rotate_left
                  ·
                   simp only [Act.put, List.setIfInBounds_toArray, List.set_cons_zero, List.set_cons_succ, i64_w, i32_w]
                   rfl
                  refine one_ (i := 16) (N := some 74) #[true, true, true, true, true, true, true, true, true, true, true, true, true, true, true, true, true, true, true, true, false, false, false, false] rfl rfl (one_of HT_.out (by kernel_rfl)) (by decide) (fun K hK => ?_)
                  refine goes_ Tryd.func4 (by kernel_rfl) rfl #[.string (a0.extract 0 (x5_2 : Int).toNat)] (by rfl) rfl rfl (by (try simp only [List.map_toArray, List.map_cons, List.map_nil]); first | done | rfl | (simp only [List.length_drop, List.length_take]; rfl)) ?_
                  with_reducible refine (impl_StrictKind.calls (a0.extract 0 (x5_2 : Int).toNat) t119 _ ?side1 ?side2 A37.out).mono ?_
                  (case side1 => exact HKin.out.below (by repeat (first | (with_reducible first | exact HB.out | apply below_alloc | apply pw_below_drewN | apply below_drew1) | exact HB.out)))
                  (case side2 => exact HStd.out.below (by repeat (first | (with_reducible first | exact HB.out | apply below_alloc | apply pw_below_drewN | apply below_drew1) | exact HB.out)))
                  rintro e w44 ⟨rfl, hb⟩
                  refine ⟨_, rfl, ?_⟩
                  have n0_ := Aside0.mk (below_step (by repeat (first | (with_reducible first | exact HB.out | apply below_alloc | apply pw_below_drewN | apply below_drew1) | exact HB.out)) hb)
                  clear HB
                  have HB := n0_
                  clear n0_
                  (try clear hb)
                  (try clear hb2)
                  (try clear hk)
                  (try clear hi)
                  refine hK.out _ _ trivial (fun hHeld => ?_)
                  clear hK K
                  refine norm_ (a' := ?_) ?_ ?_
                  rotate_left
                  ·
                   show Act.put _ (some 74) _ = _
                   simp only [Act.put, List.setIfInBounds_toArray, List.set_cons_zero, List.set_cons_succ, i64_w, i32_w]
                   rfl
                  refine one_ (i := 20) (N := some 78) #[true, true, true, true, true, true, true, true, true, true, true, true, true, true, true, true, true, true, true, true, true, false, false, false] rfl rfl (one_of HT_.out (by kernel_rfl)) (by decide) (fun K hK => ?_)
                  refine goes_ Tryd.func5 (by kernel_rfl) rfl #[.string (a0.extract 0 (x5_2 : Int).toNat)] (by rfl) rfl rfl (by (try simp only [List.map_toArray, List.map_cons, List.map_nil]); first | done | rfl | (simp only [List.length_drop, List.length_take]; rfl)) ?_
                  with_reducible refine (spec_StrictKind.calls (a0.extract 0 (x5_2 : Int).toNat) t120 _ A40.out).mono ?_
                  rintro e w45 ⟨rfl, hb⟩
                  refine ⟨_, rfl, ?_⟩
                  have n0_ := Aside0.mk (below_step (by repeat (first | (with_reducible first | exact HB.out | apply below_alloc | apply pw_below_drewN | apply below_drew1) | exact HB.out)) hb)
                  clear HB
                  have HB := n0_
                  clear n0_
                  (try clear hb)
                  (try clear hb2)
                  (try clear hk)
                  (try clear hi)
                  refine hK.out _ _ trivial (fun hHeld => ?_)
                  clear hK K
                  refine norm_ (a' := ?_) ?_ ?_
                  rotate_left
                  ·
                   show Act.put _ (some 78) _ = _
                   simp only [Act.put, List.setIfInBounds_toArray, List.set_cons_zero, List.set_cons_succ, i64_w, i32_w]
                   rfl
                  refine pure_ (i := 21) (N := some 79) (v := ?_) (a' := ?_) #[true, true, true, true, true, true, true, true, true, true, true, true, true, true, true, true, true, true, true, true, true, true, false, false] rfl rfl (any_of HT_.out (by kernel_rfl)) (fun _ _ _ h => h) (Or.inl ⟨by rfl, ?_⟩) ?_ ?_
                  rotate_left
                  ·
                   intro w'
                   go_simp
                   with_reducible rfl
                  rotate_left
                  ·
                   simp only [Act.put, List.setIfInBounds_toArray, List.set_cons_zero, List.set_cons_succ, i64_w, i32_w]
                   rfl
                  refine pure_ (i := 22) (N := some 80) (v := ?_) (a' := ?_) #[true, true, true, true, true, true, true, true, true, true, true, true, true, true, true, true, true, true, true, true, true, true, true, false] rfl rfl (any_of HT_.out (by kernel_rfl)) (fun _ _ _ h => h) (Or.inl ⟨by rfl, ?_⟩) ?_ ?_
                  rotate_left
                  ·
                   intro w'
                   go_simp
                   with_reducible rfl
                  rotate_left
                  ·
                   simp only [Act.put, List.setIfInBounds_toArray, List.set_cons_zero, List.set_cons_succ, i64_w, i32_w]
                   rfl
                  refine pure_ (i := 23) (N := some 4) (v := ?_) (a' := ?_) #[true, true, true, true, true, true, true, true, true, true, true, true, true, true, true, true, true, true, true, true, true, true, true, true] rfl rfl (any_of HT_.out (by kernel_rfl)) (fun _ _ _ h => h) (Or.inl ⟨by rfl, ?_⟩) ?_ ?_
                  rotate_left
                  ·
                   intro w'
                   go_simp
                   with_reducible rfl
                  rotate_left
                  ·
                   simp only [Act.put, List.setIfInBounds_toArray, List.set_cons_zero, List.set_cons_succ, i64_w, i32_w]
                   rfl
                  refine done_ (done_of HT_.out (by kernel_rfl)) ?_
                  try go_wp2
                  go_ret
                  exact ⟨by first | rfl | (simp [errW_none, errW_some] <;> rfl) | (simp [*, errW_none, errW_some] <;> rfl) | (simp [bneNil]; done), by repeat (first | (with_reducible first | exact HB.out | apply below_alloc | apply pw_below_drewN | apply below_drew1) | exact HB.out)⟩
                 ·
                  rw [if_neg c34] at H
                  have c34b0 : (t117 == t118) = false := beq_eq_false_iff_ne.mpr c34
                  have c34b1 : (t117 != t118) = true := bne_iff_ne.mpr c34
                  obtain rfl := Option.some.inj H
                  try go_wp2
                  have n0_ := Aside0.mk (below_drew1 HB.out)
                  clear HB
                  have HB := n0_
                  clear n0_
                  refine start_ (n := 24) (S := fun w' => True) (ds := []) #[false, false, false, false, false, false, false, false, false, false, false, false, false, false, false, false, false, false, false, false, false, false, false, false] (by kernel_rfl) rfl rfl trivial (fun hHeld => ?_); refine with_tabW laws_FnSemverKindOfNext.tab13 laws_FnSemverKindOfNext.bits13 (fun HT_ HW_ => ?_)
                  generalize wc.drew = w46 at HB hHeld ⊢
                  refine pure_ (i := 0) (N := some 58) (v := ?_) (a' := ?_) #[true, false, false, false, false, false, false, false, false, false, false, false, false, false, false, false, false, false, false, false, false, false, false, false] rfl rfl (any_of HT_.out (by kernel_rfl)) (fun _ _ _ h => h) (Or.inl ⟨by rfl, ?_⟩) ?_ ?_
                  rotate_left
                  ·
                   intro w'
                   go_simp
                   with_reducible rfl
                  rotate_left
                  ·
                   simp only [Act.put, List.setIfInBounds_toArray, List.set_cons_zero, List.set_cons_succ, i64_w, i32_w]
                   rfl
                  refine pure_ (i := 1) (N := some 59) (v := ?_) (a' := ?_) #[true, true, false, false, false, false, false, false, false, false, false, false, false, false, false, false, false, false, false, false, false, false, false, false] rfl rfl (any_of HT_.out (by kernel_rfl)) (fun _ _ _ h => h) (Or.inl ⟨by rfl, ?_⟩) ?_ ?_
                  rotate_left
                  ·
                   intro w'
                   go_simp
                   with_reducible rfl
                  rotate_left
                  ·
                   simp only [Act.put, List.setIfInBounds_toArray, List.set_cons_zero, List.set_cons_succ, i64_w, i32_w]
                   rfl
                  refine pure_ (i := 2) (N := some 60) (v := ?_) (a' := ?_) #[true, true, true, false, false, false, false, false, false, false, false, false, false, false, false, false, false, false, false, false, false, false, false, false] rfl rfl (any_of HT_.out (by kernel_rfl)) (fun _ _ _ h => h) (Or.inl ⟨by rfl, ?_⟩) ?_ ?_
                  rotate_left
                  ·
                   intro w'
                   go_simp
                   with_reducible rfl
                  rotate_left
                  ·
                   simp only [Act.put, List.setIfInBounds_toArray, List.set_cons_zero, List.set_cons_succ, i64_w, i32_w]
                   rfl
                  refine pure_ (i := 3) (N := some 61) (v := ?_) (a' := ?_) #[true, true, true, true, false, false, false, false, false, false, false, false, false, false, false, false, false, false, false, false, false, false, false, false] rfl rfl (any_of HT_.out (by kernel_rfl)) (fun _ _ _ h => h) (Or.inl ⟨by rfl, ?_⟩) ?_ ?_
                  rotate_left
                  ·
                   intro w'
                   go_simp
                   with_reducible rfl
                  rotate_left
                  ·
                   simp only [Act.put, List.setIfInBounds_toArray, List.set_cons_zero, List.set_cons_succ, i64_w, i32_w]
                   rfl
                  refine pure_ (i := 4) (N := some 62) (v := ?_) (a' := ?_) #[true, true, true, true, true, false, false, false, false, false, false, false, false, false, false, false, false, false, false, false, false, false, false, false] rfl rfl (any_of HT_.out (by kernel_rfl)) (fun _ _ _ h => h) (Or.inl ⟨by rfl, ?_⟩) ?_ ?_
                  rotate_left
                  ·
                   intro w'
                   go_simp
                   with_reducible rfl
                  rotate_left
                  ·
                   simp only [Act.put, List.setIfInBounds_toArray, List.set_cons_zero, List.set_cons_succ, i64_w, i32_w]
                   rfl
                  refine pure_ (i := 5) (N := some 63) (v := ?_) (a' := ?_) #[true, true, true, true, true, true, false, false, false, false, false, false, false, false, false, false, false, false, false, false, false, false, false, false] rfl rfl (any_of HT_.out (by kernel_rfl)) (fun _ _ _ h => h) (Or.inl ⟨by rfl, ?_⟩) ?_ ?_
                  rotate_left
                  ·
                   intro w'
                   go_simp
                   with_reducible rfl
                  rotate_left
                  ·
                   simp only [Act.put, List.setIfInBounds_toArray, List.set_cons_zero, List.set_cons_succ, i64_w, i32_w]
                   rfl
                  refine pure_ (i := 7) (N := some 65) (v := ?_) (a' := ?_) #[true, true, true, true, true, true, false, true, false, false, false, false, false, false, false, false, false, false, false, false, false, false, false, false] rfl rfl (any_of HT_.out (by kernel_rfl)) (fun _ _ _ h => h) (Or.inl ⟨by rfl, ?_⟩) ?_ ?_
                  rotate_left
                  ·
                   intro w'
                   go_simp
                   with_reducible rfl
                  rotate_left
                  ·
                   simp only [Act.put, List.setIfInBounds_toArray, List.set_cons_zero, List.set_cons_succ, i64_w, i32_w]
                   rfl
                  refine pure_ (i := 8) (N := some 66) (v := ?_) (a' := ?_) #[true, true, true, true, true, true, false, true, true, false, false, false, false, false, false, false, false, false, false, false, false, false, false, false] rfl rfl (any_of HT_.out (by kernel_rfl)) (fun _ _ _ h => h) (Or.inl ⟨by rfl, ?_⟩) ?_ ?_
                  rotate_left
                  ·
                   intro w'
                   go_simp
                   with_reducible rfl
                  rotate_left
                  ·
                   simp only [Act.put, List.setIfInBounds_toArray, List.set_cons_zero, List.set_cons_succ, i64_w, i32_w]
                   rfl
                  refine pure_ (i := 9) (N := some 67) (v := ?_) (a' := ?_) #[true, true, true, true, true, true, false, true, true, true, false, false, false, false, false, false, false, false, false, false, false, false, false, false] rfl rfl (any_of HT_.out (by kernel_rfl)) (fun _ _ _ h => h) (Or.inl ⟨by rfl, ?_⟩) ?_ ?_
                  rotate_left
                  ·
                   intro w'
                   go_simp
                   with_reducible rfl
                  rotate_left
                  ·
                   simp only [Act.put, List.setIfInBounds_toArray, List.set_cons_zero, List.set_cons_succ, i64_w, i32_w]
                   rfl
                  refine one_ (i := 6) (N := some 64) #[true, true, true, true, true, true, true, true, true, true, false, false, false, false, false, false, false, false, false, false, false, false, false, false] rfl rfl (one_of HT_.out (by kernel_rfl)) (by decide) (fun K hK => ?_)
                  refine goes_ Tryd.func4 (by kernel_rfl) rfl #[.string (((a0.extract 0 (x5_2 : Int).toNat) ++ (⟨#[43]⟩ : ByteArray)) ++ a1)] (by rfl) rfl rfl (by (try simp only [List.map_toArray, List.map_cons, List.map_nil]); first | done | rfl | (simp only [List.length_drop, List.length_take]; rfl)) ?_
                  with_reducible refine (impl_StrictKind.calls (((a0.extract 0 (x5_2 : Int).toNat) ++ (⟨#[43]⟩ : ByteArray)) ++ a1) t117 _ ?side1 ?side2 A30.out).mono ?_
                  (case side1 => exact HKin.out.below (by repeat (first | (with_reducible first | exact HB.out | apply below_alloc | apply pw_below_drewN | apply below_drew1) | exact HB.out)))
                  (case side2 => exact HStd.out.below (by repeat (first | (with_reducible first | exact HB.out | apply below_alloc | apply pw_below_drewN | apply below_drew1) | exact HB.out)))
                  rintro e w47 ⟨rfl, hb⟩
                  refine ⟨_, rfl, ?_⟩
                  have n0_ := Aside0.mk (below_step (by repeat (first | (with_reducible first | exact HB.out | apply below_alloc | apply pw_below_drewN | apply below_drew1) | exact HB.out)) hb)
                  clear HB
                  have HB := n0_
                  clear n0_
                  (try clear hb)
                  (try clear hb2)
                  (try clear hk)
                  (try clear hi)
                  refine hK.out _ _ trivial (fun hHeld => ?_)
                  clear hK K
                  refine norm_ (a' := ?_) ?_ ?_
                  rotate_left
                  ·
                   show Act.put _ (some 64) _ = _
                   simp only [Act.put, List.setIfInBounds_toArray, List.set_cons_zero, List.set_cons_succ, i64_w, i32_w]
                   rfl
                  refine one_ (i := 10) (N := some 68) #[true, true, true, true, true, true, true, true, true, true, true, false, false, false, false, false, false, false, false, false, false, false, false, false] rfl rfl (one_of HT_.out (by kernel_rfl)) (by decide) (fun K hK => ?_)
                  refine goes_ Tryd.func4 (by kernel_rfl) rfl #[.string (a0.extract 0 (x5_2 : Int).toNat)] (by rfl) rfl rfl (by (try simp only [List.map_toArray, List.map_cons, List.map_nil]); first | done | rfl | (simp only [List.length_drop, List.length_take]; rfl)) ?_
                  with_reducible refine (impl_StrictKind.calls (a0.extract 0 (x5_2 : Int).toNat) t118 _ ?side1 ?side2 A33.out).mono ?_
                  (case side1 => exact HKin.out.below (by repeat (first | (with_reducible first | exact HB.out | apply below_alloc | apply pw_below_drewN | apply below_drew1) | exact HB.out)))
                  (case side2 => exact HStd.out.below (by repeat (first | (with_reducible first | exact HB.out | apply below_alloc | apply pw_below_drewN | apply below_drew1) | exact HB.out)))
                  rintro e w48 ⟨rfl, hb⟩
                  refine ⟨_, rfl, ?_⟩
                  have n0_ := Aside0.mk (below_step (by repeat (first | (with_reducible first | exact HB.out | apply below_alloc | apply pw_below_drewN | apply below_drew1) | exact HB.out)) hb)
                  clear HB
                  have HB := n0_
                  clear n0_
                  (try clear hb)
                  (try clear hb2)
                  (try clear hk)
                  (try clear hi)
                  refine hK.out _ _ trivial (fun hHeld => ?_)
                  clear hK K
                  refine norm_ (a' := ?_) ?_ ?_
                  rotate_left
                  ·
                   show Act.put _ (some 68) _ = _
                   simp only [Act.put, List.setIfInBounds_toArray, List.set_cons_zero, List.set_cons_succ, i64_w, i32_w]
                   rfl
                  refine pure_ (i := 11) (N := some 69) (v := ?_) (a' := ?_) #[true, true, true, true, true, true, true, true, true, true, true, true, false, false, false, false, false, false, false, false, false, false, false, false] rfl rfl (any_of HT_.out (by kernel_rfl)) (fun _ _ _ h => h) (Or.inl ⟨by rfl, ?_⟩) ?_ ?_
                  rotate_left
                  ·
                   intro w'
                   go_simp
                   with_reducible rfl
                  rotate_left
                  ·
                   simp only [Act.put, List.setIfInBounds_toArray, List.set_cons_zero, List.set_cons_succ, i64_w, i32_w]
                   rfl
                  refine pure_ (i := 12) (N := some 70) (v := ?_) (a' := ?_) #[true, true, true, true, true, true, true, true, true, true, true, true, true, false, false, false, false, false, false, false, false, false, false, false] rfl rfl (any_of HT_.out (by kernel_rfl)) (fun _ _ _ h => h) (Or.inl ⟨by rfl, ?_⟩) ?_ ?_
                  rotate_left
                  ·
                   intro w'
                   go_simp
                   with_reducible rfl
                  rotate_left
                  ·
                   simp only [Act.put, List.setIfInBounds_toArray, List.set_cons_zero, List.set_cons_succ, i64_w, i32_w]
                   rfl
                  refine pure_ (i := 13) (N := some 71) (v := undef) (a' := ?_) #[true, true, true, true, true, true, true, true, true, true, true, true, true, true, false, false, false, false, false, false, false, false, false, false] rfl rfl (any_of HT_.out (by kernel_rfl)) (fun _ _ _ h => h) (Or.inr ⟨by rfl, rfl⟩) ?_ ?_
                  rotate_left
                  ·
                   simp only [Act.put, List.setIfInBounds_toArray, List.set_cons_zero, List.set_cons_succ, i64_w, i32_w]
                   rfl
                  refine pure_ (i := 14) (N := some 72) (v := undef) (a' := ?_) #[true, true, true, true, true, true, true, true, true, true, true, true, true, true, true, false, false, false, false, false, false, false, false, false] rfl rfl (any_of HT_.out (by kernel_rfl)) (fun _ _ _ h => h) (Or.inr ⟨by rfl, rfl⟩) ?_ ?_
                  rotate_left
                  ·
                   simp only [Act.put, List.setIfInBounds_toArray, List.set_cons_zero, List.set_cons_succ, i64_w, i32_w]
                   rfl
                  refine pure_ (i := 15) (N := some 73) (v := undef) (a' := ?_) #[true, true, true, true, true, true, true, true, true, true, true, true, true, true, true, true, false, false, false, false, false, false, false, false] rfl rfl (any_of HT_.out (by kernel_rfl)) (fun _ _ _ h => h) (Or.inr ⟨by rfl, rfl⟩) ?_ ?_
                  rotate_left
                  ·
                   simp only [Act.put, List.setIfInBounds_toArray, List.set_cons_zero, List.set_cons_succ, i64_w, i32_w]
                   rfl
                  refine pure_ (i := 16) (N := some 74) (v := undef) (a' := ?_) #[true, true, true, true, true, true, true, true, true, true, true, true, true, true, true, true, true, false, false, false, false, false, false, false] rfl rfl (any_of HT_.out (by kernel_rfl)) (fun _ _ _ h => h) (Or.inr ⟨by rfl, rfl⟩) ?_ ?_
                  rotate_left
                  ·
                   simp only [Act.put, List.setIfInBounds_toArray, List.set_cons_zero, List.set_cons_succ, i64_w, i32_w]
                   rfl
                  refine pure_ (i := 17) (N := some 75) (v := undef) (a' := ?_) #[true, true, true, true, true, true, true, true, true, true, true, true, true, true, true, true, true, true, false, false, false, false, false, false] rfl rfl (any_of HT_.out (by kernel_rfl)) (fun _ _ _ h => h) (Or.inr ⟨by rfl, rfl⟩) ?_ ?_
                  rotate_left
                  ·
                   simp only [Act.put, List.setIfInBounds_toArray, List.set_cons_zero, List.set_cons_succ, i64_w, i32_w]
                   rfl
                  refine pure_ (i := 18) (N := some 76) (v := undef) (a' := ?_) #[true, true, true, true, true, true, true, true, true, true, true, true, true, true, true, true, true, true, true, false, false, false, false, false] rfl rfl (any_of HT_.out (by kernel_rfl)) (fun _ _ _ h => h) (Or.inr ⟨by rfl, rfl⟩) ?_ ?_
                  rotate_left
                  ·
                   simp only [Act.put, List.setIfInBounds_toArray, List.set_cons_zero, List.set_cons_succ, i64_w, i32_w]
                   rfl
                  refine pure_ (i := 19) (N := some 77) (v := undef) (a' := ?_) #[true, true, true, true, true, true, true, true, true, true, true, true, true, true, true, true, true, true, true, true, false, false, false, false] rfl rfl (any_of HT_.out (by kernel_rfl)) (fun _ _ _ h => h) (Or.inr ⟨by rfl, rfl⟩) ?_ ?_
                  rotate_left
                  ·
                   simp only [Act.put, List.setIfInBounds_toArray, List.set_cons_zero, List.set_cons_succ, i64_w, i32_w]
                   rfl
                  refine pure_ (i := 20) (N := some 78) (v := undef) (a' := ?_) #[true, true, true, true, true, true, true, true, true, true, true, true, true, true, true, true, true, true, true, true, true, false, false, false] rfl rfl (any_of HT_.out (by kernel_rfl)) (fun _ _ _ h => h) (Or.inr ⟨by rfl, rfl⟩) ?_ ?_
                  rotate_left
                  ·
                   simp only [Act.put, List.setIfInBounds_toArray, List.set_cons_zero, List.set_cons_succ, i64_w, i32_w]
                   rfl
                  refine pure_ (i := 21) (N := some 79) (v := undef) (a' := ?_) #[true, true, true, true, true, true, true, true, true, true, true, true, true, true, true, true, true, true, true, true, true, true, false, false] rfl rfl (any_of HT_.out (by kernel_rfl)) (fun _ _ _ h => h) (Or.inr ⟨by rfl, rfl⟩) ?_ ?_
                  rotate_left
                  ·
                   simp only [Act.put, List.setIfInBounds_toArray, List.set_cons_zero, List.set_cons_succ, i64_w, i32_w]
                   rfl
                  refine pure_ (i := 22) (N := some 80) (v := ?_) (a' := ?_) #[true, true, true, true, true, true, true, true, true, true, true, true, true, true, true, true, true, true, true, true, true, true, true, false] rfl rfl (any_of HT_.out (by kernel_rfl)) (fun _ _ _ h => h) (Or.inl ⟨by rfl, ?_⟩) ?_ ?_
                  rotate_left
                  ·
                   intro w'
                   go_simp
                   with_reducible rfl
                  rotate_left
                  ·
                   simp only [Act.put, List.setIfInBounds_toArray, List.set_cons_zero, List.set_cons_succ, i64_w, i32_w]
                   rfl
                  refine pure_ (i := 23) (N := some 4) (v := ?_) (a' := ?_) #[true, true, true, true, true, true, true, true, true, true, true, true, true, true, true, true, true, true, true, true, true, true, true, true] rfl rfl (any_of HT_.out (by kernel_rfl)) (fun _ _ _ h => h) (Or.inl ⟨by rfl, ?_⟩) ?_ ?_
                  rotate_left
                  ·
                   intro w'
                   go_simp
                   with_reducible rfl
                  rotate_left
                  ·
                   simp only [Act.put, List.setIfInBounds_toArray, List.set_cons_zero, List.set_cons_succ, i64_w, i32_w]
                   rfl
                  refine done_ (done_of HT_.out (by kernel_rfl)) ?_
                  try go_wp2
                  go_ret
                  exact ⟨by first | rfl | (simp [errW_none, errW_some] <;> rfl) | (simp [*, errW_none, errW_some] <;> rfl) | (simp [bneNil]; done), by repeat (first | (with_reducible first | exact HB.out | apply below_alloc | apply pw_below_drewN | apply below_drew1) | exact HB.out)⟩
                ·
                 rw [if_neg c29] at H
                 exact absurd H (by simp)
               ·
                rw [if_neg c28] at H
                exact absurd H (by simp)
              ·
               rw [if_neg c27] at H
               exact absurd H (by simp)
             ·
              rw [if_neg c26] at H
              exact absurd H (by simp)
    ·
     rw [if_neg c7] at H
     have c7b0 : (t114 == 6) = false := beq_eq_false_iff_ne.mpr c7
     have c7b1 : (t114 != 6) = true := bne_iff_ne.mpr c7
     replace H := Option.bind_eq_some_iff.mp H
     obtain ⟨t115, A490, H⟩ := H
     replace H : (some (t115 != 6)) = some r := H
     have A49 := Aside0.mk A490
     clear A490
     obtain rfl := Option.some.inj H
     go_wp2_with (first | ((with_reducible refine gate_callee (f := 4) rfl ?_); refine goesL_ (some 16) rfl rfl Tryd.func4 (by kernel_rfl) rfl #[.string a0] rfl (by (try simp only [List.map_toArray, List.map_cons, List.map_nil]); first | done | rfl | (simp only [List.length_drop, List.length_take]; rfl)) ?_; (with_reducible refine (impl_StrictKind.calls a0 t114 _ ?side1 ?side2 A6.out).mono ?_); (case side1 => exact HKin.out.below (by repeat (first | (with_reducible first | exact HB.out | apply below_alloc | apply pw_below_drewN | apply below_drew1) | exact HB.out))); (case side2 => exact HStd.out.below (by repeat (first | (with_reducible first | exact HB.out | apply below_alloc | apply pw_below_drewN | apply below_drew1) | exact HB.out))); rintro e w50 ⟨rfl, hb⟩; refine ⟨_, rfl, ?_⟩; have n0_ := Aside0.mk (below_step (by repeat (first | (with_reducible first | exact HB.out | apply below_alloc | apply pw_below_drewN | apply below_drew1) | exact HB.out)) hb); clear HB; have HB := n0_; clear n0_; (try clear hb); (try clear hb2); (try clear hk); (try clear hi)) | ((with_reducible refine gate_callee (f := 5) rfl ?_); refine goesL_ (some 19) rfl rfl Tryd.func5 (by kernel_rfl) rfl #[.string a0] rfl (by (try simp only [List.map_toArray, List.map_cons, List.map_nil]); first | done | rfl | (simp only [List.length_drop, List.length_take]; rfl)) ?_; (with_reducible refine (spec_StrictKind.calls a0 t115 _ A49.out).mono ?_); rintro e w51 ⟨rfl, hb⟩; refine ⟨_, rfl, ?_⟩; have n0_ := Aside0.mk (below_step (by repeat (first | (with_reducible first | exact HB.out | apply below_alloc | apply pw_below_drewN | apply below_drew1) | exact HB.out)) hb); clear HB; have HB := n0_; clear n0_; (try clear hb); (try clear hb2); (try clear hk); (try clear hi)))
     go_ret
     exact ⟨by first | rfl | (simp [errW_none, errW_some] <;> rfl) | (simp [*, errW_none, errW_some] <;> rfl) | (simp [bneNil]; done), by repeat (first | (with_reducible first | exact HB.out | apply below_alloc | apply pw_below_drewN | apply below_drew1) | exact HB.out)⟩

end Go.Proofs.YtnncjgoogjookaaDoor.PX
namespace Go.Proofs.YtnncjgoogjookaaDoor.PX

open Go Go.RowKit Go.Lib Go.Proofs Go.Proofs.YtnncjgoogjookaaDoor Go.Proofs.YtnncjgoogjookaaDoor.L Go.Proofs.YtnncjgoogjookaaDoor.Bt Go.Proofs.YtnncjgoogjookaaDoor.KX Go.Proofs.YtnncjgoogjookaaDoor.Rxw Go.Proofs.YtnncjgoogjookaaDoor.Parse Go.Proofs.YtnncjgoogjookaaDoor.Num

open Go.Proofs.YtnncjgoogjookaaDoorW.PrintWords Go.Proofs.YtnncjgoogjookaaDoorW.PrintLast Go.Proofs.YtnncjgoogjookaaDoorW.PrintMore

/-- Where the law's loop stops: at the first plus behind two dots. -/
def atL : Nat → List UInt8 → Nat
  | _, [] => 0
  | d, x :: t => if d < 2 ∨ x ≠ 43 then atL (if x = 46 then d + 1 else d) t + 1 else 0

theorem atL_cons (d : Nat) (x : UInt8) (t : List UInt8) : atL d (x :: t) = if d < 2 ∨ x ≠ 43 then atL (if x = 46 then d + 1 else d) t + 1 else 0 := rfl

theorem atL_le : ∀ (d : Nat) (l : List UInt8), atL d l ≤ l.length
  | _, [] => Nat.le_refl _
  | d, x :: t => by
    rw [atL_cons]
    split
    · have := atL_le (if x = 46 then d + 1 else d) t; simp; omega
    · exact Nat.zero_le _

theorem atL_a : ∀ (a r : List UInt8) (d : Nat), d < 2 → (∀ x ∈ a, x ≠ 46) → atL d (a ++ 46 :: r) = a.length + 1 + atL (d + 1) r
  | [], r, d, hd, _ => by
    show atL d (46 :: r) = _
    rw [atL_cons, if_pos (.inl hd), if_pos rfl]; simp; omega
  | x :: t, r, d, hd, h => by
    show atL d (x :: (t ++ 46 :: r)) = _
    rw [atL_cons, if_pos (.inl hd), if_neg (h x (List.mem_cons_self ..)), atL_a t r d hd (fun y hy => h y (List.mem_cons_of_mem _ hy))]
    simp; omega

theorem atL_c : ∀ (c r : List UInt8) (d : Nat), 2 ≤ d → (∀ x ∈ c, x ≠ 43) → atL d (c ++ 43 :: r) = c.length
  | [], r, d, hd, _ => by
    show atL d (43 :: r) = _
    rw [atL_cons, if_neg (fun h => h.elim (fun h => by omega) (fun h => h rfl))]; rfl
  | x :: t, r, d, hd, h => by
    show atL d (x :: (t ++ 43 :: r)) = _
    rw [atL_cons, if_pos (.inr (h x (List.mem_cons_self ..))), atL_c t r _ (by split <;> omega) (fun y hy => h y (List.mem_cons_of_mem _ hy))]
    simp

theorem j2_false (k : Nat) (x0 x1 : ByteArray) (i d : Int) : laws_FnSemverKindOfNext.j2 k x0 x1 i d false = laws_FnSemverKindOfNext.j2 k x0 x1 i 0 false := by
  cases k with
  | zero => simp only [laws_FnSemverKindOfNext.j2]
  | succ k => simp only [laws_FnSemverKindOfNext.j2, Bool.false_eq_true, ↓reduceIte]

theorem loop_at (x0 x1 : ByteArray) (hs : x0.size ≤ 256) (R : Option Bool) (B : Nat) (hR : ∀ k, B ≤ k → laws_FnSemverKindOfNext.j2 k x0 x1 (atL 0 (bl x0) : Nat) 0 false = R) :
    ∀ (n k i d : Nat), x0.size - i = n → i ≤ x0.size → d ≤ i → B + 2 * n + 2 ≤ k → i + atL d ((bl x0).drop i) = atL 0 (bl x0) → laws_FnSemverKindOfNext.l0 k x0 x1 (i : Int) (d : Int) = R := by
  intro n
  induction n with
  | zero =>
    intro k i d hn hi hd hk ha
    obtain ⟨k, rfl⟩ : ∃ m, k = m + 1 := ⟨k - 1, by omega⟩
    have e : (bl x0).drop i = [] := List.drop_of_length_le (by rw [bl_len]; omega)
    rw [e] at ha
    simp only [laws_FnSemverKindOfNext.l0]
    rw [if_neg (by omega), j2_false]
    have : i = atL 0 (bl x0) := ha
    rw [this]
    exact hR k (by omega)
  | succ n ih =>
    intro k i d hn hi hd hk ha
    obtain ⟨k, rfl⟩ : ∃ m, k = m + 2 := ⟨k - 2, by omega⟩
    have hlt : i < (bl x0).length := by rw [bl_len]; omega
    have h0 : bt x0 ((i : Nat) : Int) = _ := bt_bl x0 i (by omega)
    rw [List.drop_eq_getElem_cons hlt] at ha
    generalize (bl x0)[i]'hlt = x at *
    have step : (d < 2 ∨ x ≠ 43) → laws_FnSemverKindOfNext.j2 (k + 1) x0 x1 (i : Int) (d : Int) true = R := by
      intro hc
      rw [atL_cons, if_pos hc] at ha
      simp only [laws_FnSemverKindOfNext.j2]
      rw [if_pos trivial, if_pos (by omega), if_pos (by omega), h0]
      by_cases hx : x = 46
      · rw [if_pos (by rw [hx]; rfl), w64 (by omega) (by omega), w64 (by omega) (by omega), show ((i : Int) + 1) = ((i + 1 : Nat) : Int) by omega, show ((d : Int) + 1) = ((d + 1 : Nat) : Int) by omega]
        rw [if_pos hx] at ha
        exact ih k (i + 1) (d + 1) (by omega) (by omega) (by omega) (by omega) (by omega)
      · rw [if_neg (fun e => hx (UInt8.toNat_inj.1 (by show x.toNat = 46; omega))), w64 (by omega) (by omega), show ((i : Int) + 1) = ((i + 1 : Nat) : Int) by omega]
        rw [if_neg hx] at ha
        exact ih k (i + 1) d (by omega) (by omega) (by omega) (by omega) (by omega)
    simp only [laws_FnSemverKindOfNext.l0]
    rw [if_pos (by omega)]
    by_cases hd2 : d < 2
    · rw [if_pos (by omega)]
      exact step (.inl hd2)
    · rw [if_neg (by omega), if_pos (by omega), h0]
      by_cases hx : x = 43
      · have hb : ((x.toNat : Int) != 43) = false := by rw [hx]; rfl
        rw [hb, j2_false]
        rw [atL_cons, if_neg (fun h => h.elim hd2 (fun h => h hx))] at ha
        have : i = atL 0 (bl x0) := by omega
        rw [this]
        exact hR (k + 1) (by omega)
      · have hb : ((x.toNat : Int) != 43) = true := bne_iff_ne.2 (fun e => hx (UInt8.toNat_inj.1 (by show x.toNat = 43; omega)))
        rw [hb]
        exact step (.inr hx)

theorem fst_no {c : UInt8} : ∀ {l : List UInt8}, (∀ x ∈ l, x ≠ c) → fst c l = none := by
  intro l h
  cases e : fst c l with
  | none => rfl
  | some j =>
    obtain ⟨h1, h2, h3⟩ := fst_some c l j e
    exact absurd rfl (h c (by rw [h2]; simp))

theorem fst_at {c : UInt8} {u v : List UInt8} (h : ∀ x ∈ u, x ≠ c) : fst c (u ++ c :: v) = some u.length := by
  cases e : fst c (u ++ c :: v) with
  | none => exact absurd rfl (fst_none c _ e c (by simp))
  | some j =>
    obtain ⟨h1, h2, h3⟩ := fst_some c _ j e
    rcases Nat.lt_trichotomy j u.length with hj | hj | hj
    · have h4 : (u ++ c :: v)[j]? = some c := by
        rw [h2, List.getElem?_append_right (by rw [List.length_take]; omega), List.length_take, Nat.min_eq_left (by omega), Nat.sub_self]; rfl
      rw [List.getElem?_append_left hj, List.getElem?_eq_getElem hj] at h4
      exact absurd (Option.some.inj h4) (h _ (List.getElem_mem hj))
    · rw [hj]
    · exact absurd rfl (h3 c (by
        rw [List.take_append, List.mem_append]
        right
        obtain ⟨q, hq⟩ : ∃ q, j - u.length = q + 1 := ⟨j - u.length - 1, by omega⟩
        rw [hq, List.take_succ_cons]
        exact List.mem_cons_self ..))

theorem cutL_no {c : UInt8} {l : List UInt8} (h : ∀ x ∈ l, x ≠ c) : cutL c l = (l, [], false) := by unfold cutL; rw [fst_no h]

theorem cutL_at {c : UInt8} {u v : List UInt8} (h : ∀ x ∈ u, x ≠ c) : cutL c (u ++ c :: v) = (u, v, true) := by
  unfold cutL
  rw [fst_at h]
  simp

theorem cutL_inv {c : UInt8} {l u v : List UInt8} {f : Bool} (h : cutL c l = (u, v, f)) : (f = false ∧ u = l ∧ v = [] ∧ ∀ x ∈ l, x ≠ c) ∨ (f = true ∧ l = u ++ c :: v ∧ ∀ x ∈ u, x ≠ c) := by
  unfold cutL at h
  cases e : fst c l with
  | none => rw [e] at h; cases h; exact .inl ⟨rfl, rfl, rfl, fst_none c l e⟩
  | some j =>
    rw [e] at h
    cases h
    obtain ⟨h1, h2, h3⟩ := fst_some c l j e
    exact .inr ⟨rfl, h2, h3⟩

theorem nkL_ne (p : List UInt8) : nkL p ≠ 6 := by
  unfold nkL partK
  split
  · decide
  · split
    · decide
    · split <;> decide

theorem nums_ne (a b n : ByteArray) : numsV (fun x => nkL (bl x)) (fun x => (numX x).2) [a, b, n] ≠ 6 := by
  unfold numsV
  split
  · exact nkL_ne _
  · split <;> decide

theorem pk_ne (L : List (List UInt8)) : pkL L ≠ 6 := by
  rw [pkL_err]
  split
  · decide
  · split <;> decide

/-- A text that is wrong in its metadata: three parts, the last with a plus sign. -/
theorem meta_wrong {l : List UInt8} (h : kindV (strictL l) = 6) : ∃ a b c g, l = a ++ 46 :: (b ++ 46 :: (c ++ 43 :: g)) ∧ (∀ x ∈ a, x ≠ 46) ∧ (∀ x ∈ b, x ≠ 46) ∧ (∀ x ∈ c, x ≠ 43) ∧ l.length ≤ 256 := by
  obtain ⟨a, r1, one, h1⟩ : ∃ a r1 one, cutL 46 l = (a, r1, one) := ⟨_, _, _, rfl⟩
  obtain ⟨b, c, two, h2⟩ : ∃ b c two, cutL 46 r1 = (b, c, two) := ⟨_, _, _, rfl⟩
  obtain ⟨rest, m, plus, h3⟩ : ∃ rest m plus, cutL 43 c = (rest, m, plus) := ⟨_, _, _, rfl⟩
  obtain ⟨n, p, hy, h4⟩ : ∃ n p hy, cutL 45 rest = (n, p, hy) := ⟨_, _, _, rfl⟩
  rw [← kind_eq h1 h2 h3 h4] at h
  have q1 := nums_ne (ofL a) (ofL b) (ofL n)
  have q2 := pk_ne (splitL 46 p)
  generalize numsV (fun x => nkL (bl x)) (fun x => (numX x).2) [ofL a, ofL b, ofL n] = N at *
  generalize pkL (splitL 46 p) = P at *
  unfold skV at h
  by_cases e0 : (l == []) = true
  · rw [if_pos e0] at h; exact absurd h (by decide)
  rw [if_neg e0] at h
  by_cases e1 : 256 < l.length
  · rw [if_pos (decide_eq_true e1)] at h; exact absurd h (by decide)
  rw [if_neg (by simpa using e1)] at h
  cases one with
  | false => exact absurd h (by simp)
  | true =>
  cases two with
  | false => exact absurd h (by simp)
  | true =>
  cases plus with
  | false =>
    exfalso
    simp at h
    split at h
    · exact q2 h
    · exact q1 h
  | true =>
  rcases cutL_inv h1 with ⟨e, _⟩ | ⟨_, hl, na⟩
  · cases e
  rcases cutL_inv h2 with ⟨e, _⟩ | ⟨_, hr, nb⟩
  · cases e
  rcases cutL_inv h3 with ⟨e, _⟩ | ⟨_, hc, nc⟩
  · cases e
  exact ⟨a, b, rest, m, by rw [hl, hr, hc], na, nb, nc, by omega⟩

/-- Of three parts that are not wrong in their metadata the kind does not hang on the metadata. -/
theorem kind_same {a b c g : List UInt8} (ha : ∀ x ∈ a, x ≠ 46) (hb : ∀ x ∈ b, x ≠ 46) (hc : ∀ x ∈ c, x ≠ 43) (hg : metaOk g = true) (hl : (a ++ 46 :: (b ++ 46 :: (c ++ 43 :: g))).length ≤ 256) :
    kindV (strictL (a ++ 46 :: (b ++ 46 :: (c ++ 43 :: g)))) = kindV (strictL (a ++ 46 :: (b ++ 46 :: c))) := by
  obtain ⟨n, p, hy, h4⟩ : ∃ n p hy, cutL 45 c = (n, p, hy) := ⟨_, _, _, rfl⟩
  have L := kind_eq (cutL_at ha) (cutL_at hb) (cutL_at (v := g) hc) h4
  have R := kind_eq (l := a ++ 46 :: (b ++ 46 :: c)) (cutL_at ha) (cutL_at hb) (cutL_no hc) h4
  rw [← L, ← R, hg]
  have n1 : (a ++ 46 :: (b ++ 46 :: (c ++ 43 :: g)) == []) = false := beq_eq_false_iff_ne.2 (by simp)
  have n2 : (a ++ 46 :: (b ++ 46 :: c) == []) = false := beq_eq_false_iff_ne.2 (by simp)
  rw [n1, n2, decide_eq_false (by omega), decide_eq_false (by simp at hl ⊢; omega)]
  rfl

theorem pure_KindOfNext (a0 a1 : ByteArray) : ∃ k, laws_FnSemverKindOfNext.f k a0 a1 = some true := by
  obtain ⟨K, hK⟩ : ∃ K : Nat, 300000 + 3 * a1.size ≤ K := ⟨_, Nat.le_refl _⟩
  refine ⟨K + 1, ?_⟩
  have j0t : laws_FnSemverKindOfNext.j0 (K + 1) a0 a1 true = some true := by simp only [laws_FnSemverKindOfNext.j0]; rw [if_pos trivial]
  unfold laws_FnSemverKindOfNext.f
  by_cases s0 : (a0.size : Int) > 2147483647
  · rw [if_pos s0]; exact j0t
  rw [if_neg s0]
  by_cases s1 : (a1.size : Int) > 2147483647
  · rw [decide_eq_true s1]; exact j0t
  rw [decide_eq_false s1]
  simp only [laws_FnSemverKindOfNext.j0]
  have fI : ∀ x : ByteArray, x.size ≤ 2147483647 → impl_StrictKind.f x = some (kindV (strictL (bl x))) := fun x hx => by unfold impl_StrictKind.f; rw [if_pos hx]
  have fS : ∀ x : ByteArray, x.size ≤ 2147483647 → spec_StrictKind.f x = some (kindV (strictL (bl x))) := fun x hx => by unfold spec_StrictKind.f; rw [if_pos hx]
  rw [if_neg (by decide), fI a0 (by omega), Option.bind_some]
  by_cases h6 : kindV (strictL (bl a0)) = 6
  · rw [if_pos h6]
    obtain ⟨a, b, c, g, hl, ha, hb, hc, hz⟩ := meta_wrong h6
    have hsz := bl_len a0
    have hat : atL 0 (bl a0) = (a ++ 46 :: (b ++ 46 :: c)).length := by
      rw [hl, atL_a a _ 0 (by omega) ha, atL_a b _ 1 (by omega) hb, atL_c c g 2 (by omega) hc]
      simp; omega
    have htake : (bl a0).take (atL 0 (bl a0)) = a ++ 46 :: (b ++ 46 :: c) := by
      rw [hat, hl]
      have : a ++ 46 :: (b ++ 46 :: (c ++ 43 :: g)) = (a ++ 46 :: (b ++ 46 :: c)) ++ 43 :: g := by simp
      rw [this, List.take_left]
    have hle := atL_le 0 (bl a0)
    refine loop_at a0 a1 (by omega) (some true) (200000 + 3 * a1.size) ?_ a0.size K 0 0 (by omega) (Nat.zero_le _) (Nat.le_refl _) (by omega) (by simp)
    intro k hk
    obtain ⟨k, rfl⟩ : ∃ m, k = m + 2 := ⟨k - 2, by omega⟩
    generalize atL 0 (bl a0) = t at *
    have j3t : laws_FnSemverKindOfNext.j3 (k + 1) a0 a1 (t : Int) true = some true := by simp only [laws_FnSemverKindOfNext.j3]; rw [if_pos trivial]
    simp only [laws_FnSemverKindOfNext.j2]
    rw [if_neg (by decide), Bt.toList_bl]
    by_cases e1 : bl a1 = []
    · rw [if_pos e1]; exact j3t
    rw [if_neg e1]
    rw [validMeta_f a1 (by omega) (k + 1) (by omega), Option.bind_some]
    cases hm : metaOk (bl a1) with
    | false => rw [if_neg (by decide)]; exact j3t
    | true =>
      have w1 : wrap64 ((t : Int) + 1) = t + 1 := w64 (by omega) (by omega)
      rw [if_pos rfl, w1, w64 (by omega) (by omega)]
      by_cases h256 : (t : Int) + 1 + (a1.size : Int) > 256
      · rw [decide_eq_true h256]; exact j3t
      · rw [decide_eq_false h256]
        simp only [laws_FnSemverKindOfNext.j3]
        have ex : a0.extract 0 t = ofL (a ++ 46 :: (b ++ 46 :: c)) := by rw [extract_head, htake]
        rw [if_neg (by decide), if_pos (by omega), if_pos (by omega), Int.toNat_natCast, ex]
        have e43 : (⟨#[43]⟩ : ByteArray) = ofL [43] := rfl
        have hj : ofL (a ++ 46 :: (b ++ 46 :: c)) ++ (⟨#[43]⟩ : ByteArray) ++ a1 = ofL (a ++ 46 :: (b ++ 46 :: (c ++ 43 :: bl a1))) := bl_inj (by simp [bl, ofL])
        have hs2 : (ofL (a ++ 46 :: (b ++ 46 :: c)) ++ (⟨#[43]⟩ : ByteArray)).size = t + 1 := by rw [ByteArray.size_append, size_ofL, ← hat]; rfl
        have hl2 : (a ++ 46 :: (b ++ 46 :: (c ++ 43 :: bl a1))).length ≤ 256 := by
          have := bl_len a1
          simp at hat ⊢; omega
        rw [if_pos (by rw [size_ofL]; omega), if_pos (by rw [hs2]; omega), hj, fI _ (by rw [size_ofL]; omega), Option.bind_some, bl_ofL, fI _ (by rw [size_ofL]; omega), Option.bind_some, bl_ofL, kind_same ha hb hc hm hl2, if_pos rfl, Option.bind_some,
          fS _ (by rw [size_ofL]; omega), Option.bind_some, bl_ofL, beq_self_eq_true]
  · rw [if_neg h6, fS a0 (by omega), Option.bind_some, bne_iff_ne.2 h6]

end Go.Proofs.YtnncjgoogjookaaDoor.PX
