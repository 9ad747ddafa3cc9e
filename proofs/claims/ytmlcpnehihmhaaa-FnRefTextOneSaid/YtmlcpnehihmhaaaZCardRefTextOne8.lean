/- The row of FnRefTextOne, out of its printed walk and its plain law. For every input that the statement lets in. -/
import Derived.Test.YtmlcpnehihmhaaaZCardRefTextOne1
import Derived.Test.YtmlcpnehihmhaaaZCardRefTextOne4
import Derived.Test.YtmlcpnehihmhaaaZCardRefTextOne7
import Derived.Deep.RegionWith
import Derived.RegionTactic
import Derived.Deep.RegionHeld3
import Derived.Deep.QuietTactic
import Derived.BigQuiet
namespace Go.Proofs.Ytmlcpnehihmhaaa.Base
end Go.Proofs.Ytmlcpnehihmhaaa.Base
namespace Go.Proofs.Ytmlcpnehihmhaaa.Gr
end Go.Proofs.Ytmlcpnehihmhaaa.Gr
namespace Go.Proofs.Ytmlcpnehihmhaaa.Gr

open Go Go.RowKit Go.Lib Go.Sort Go.Proofs Go.Proofs.Ytmlcpnehihmhaaa Go.Proofs.Ytmlcpnehihmhaaa.Base

open Go.Proofs.YtmlcpnehihmhaaaW.PrintWords Go.Proofs.YtmlcpnehihmhaaaW.PrintLast Go.Proofs.YtmlcpnehihmhaaaW.PrintMore

attribute [local go_sem] setCell_drewN alloc_drewN

set_option linter.unusedVariables false

def nameT (d p : ByteArray) : ByteArray := if d.toList = [] then p else (d ++ ⟨#[47]⟩) ++ p

abbrev repo (d p : ByteArray) : Value := .agg #[.string d, .string p]

set_option maxHeartbeats 2000000 in
theorem nameW (d p : ByteArray) (hd : d.size ≤ 1099511627776) (hp : p.size ≤ 1099511627776) (w : World) :
    Calls Try.prog 64 #[repo d p] w fun e w' => e = .returned (.string (nameT d p)) ∧ Below w.heap.size w w' := by
  unfold nameT
  by_cases h : d.toList = []
  · rw [if_pos h]
    go_enter Try.func64, Try.ntmps64
    go_wp2
    go_ret
    exact ⟨rfl, by go_grown⟩
  · rw [if_neg h]
    have h1 : (d.toList = []) = False := eq_false h
    have h1' : d.toList.isEmpty = false := by cases q : d.toList with | nil => exact absurd q h | cons a b => rfl
    have h2 : (9223372036854775807 < d.size + 1) = False := eq_false (by omega)
    have h3 : (9223372036854775807 < d.size + 1 + p.size) = False := eq_false (by omega)
    clear h
    go_enter Try.func64, Try.ntmps64
    go_wp2
    go_ret
    exact ⟨rfl, by go_grown⟩

set_option maxHeartbeats 2000000 in
theorem repoTextW (d p : ByteArray) (hd : d.size ≤ 1099511627776) (hp : p.size ≤ 1099511627776) (w : World) :
    Calls Try.prog 65 #[repo d p] w fun e w' => e = .returned (.string (nameT d p)) ∧ Below w.heap.size w w' := by
  have C := Lib.hid (fun W => nameW d p hd hp W)
  clear hd hp
  go_enter Try.func65, Try.ntmps65
  go_wp2_with (go_at_call 64; (with_reducible refine (C.out _).mono ?_); rintro e w1 ⟨rfl, hb⟩)
  go_ret
  exact ⟨rfl, ((Below.refl _ w).alloc (Nat.le_refl _) _).trans (hb.mono (by simp))⟩

theorem digW (g : ByteArray) (w : World) : Calls Try.prog 67 #[.string g] w fun e w' => e = .returned (.string g) ∧ w = w' := by
  go_enter Try.func67, Try.ntmps67
  go_wp2
  go_ret
  exact ⟨rfl, rfl⟩

set_option maxHeartbeats 2000000 in
theorem canonW (d p g : ByteArray) (hd : d.size ≤ 1099511627776) (hp : p.size ≤ 1099511627776) (hg : g.size ≤ 1099511627776) (w : World) :
    Calls Try.prog 70 #[.agg #[.iface 45 (repo d p), .string g]] w fun e w' => e = .returned (.string ((nameT d p ++ ⟨#[64]⟩) ++ g)) ∧ Below w.heap.size w w' := by
  have C := Lib.hid (fun W => nameW d p hd hp W)
  have D := Lib.hid (fun W => digW g W)
  have hn : (nameT d p).size ≤ 2199023255553 := by
    unfold nameT; split
    · omega
    · rw [ByteArray.size_append, ByteArray.size_append]; show d.size + 1 + p.size ≤ _; omega
  have h2 : (9223372036854775807 < (nameT d p).size + 1) = False := eq_false (by omega)
  have h3 : (9223372036854775807 < (nameT d p).size + 1 + g.size) = False := eq_false (by omega)
  generalize nameT d p = n at *
  clear hd hp
  go_enter Try.func70, Try.ntmps70
  go_wp2_with fail
  generalize hW0 : World.alloc w _ = w0
  have v0 : At w0 w.heap.size [.iface 45 (repo d p), .string g] := by
    rw [← hW0]; exact At.new _ _ _ _ rfl
  have b0 : Below w.heap.size w w0 := by
    rw [← hW0]; go_grown
  have HV0 := Aside0.mk v0
  have HB0 := Aside0.mk b0
  clear v0 b0 hW0
  go_region_held3 (fun W' => W'.cell? ⟨w.heap.size, 0, none⟩ = some (.iface 45 (repo d p)) ∧ W'.cell? ⟨w.heap.size, 1, none⟩ = some (.string g)) (first | (with_reducible exact HV0.out.two) | (with_reducible exact HV1.out.two) | (with_reducible exact HV0.out.drew.two) | (with_reducible exact HV1.out.drew.two) | (trace_state; go_keep)) (first
    | (go_at_call 64; (with_reducible refine (C.out _).mono ?_); rintro e w1 ⟨rfl, hd1⟩; have hb1 := undrew hd1; clear hd1; have HV1 := Aside0.mk (HV0.out.below hb1); have HB1 := Aside0.mk (HB0.out.trans (hb1.mono HB0.out.size)); clear hb1)
    | (go_at_call 67; (with_reducible refine (D.out _).mono ?_); rintro e w1 ⟨rfl, rfl⟩))
  all_goals
    go_wp2_with fail
    go_ret
    exact ⟨rfl, HB1.out⟩

set_option maxHeartbeats 2000000 in
theorem taggedReferenceW (d p t : ByteArray) (hd : d.size ≤ 1099511627776) (hp : p.size ≤ 1099511627776) (ht : t.size ≤ 1099511627776) (w : World) :
    Calls Try.prog 71 #[.agg #[.iface 45 (repo d p), .string t]] w fun e w' => e = .returned (.string ((nameT d p ++ ⟨#[58]⟩) ++ t)) ∧ Below w.heap.size w w' := by
  have C := Lib.hid (fun W => nameW d p hd hp W)
  
  have hn : (nameT d p).size ≤ 2199023255553 := by
    unfold nameT; split
    · omega
    · rw [ByteArray.size_append, ByteArray.size_append]; show d.size + 1 + p.size ≤ _; omega
  have h0_ : (9223372036854775807 < (nameT d p).size + 1) = False := eq_false (by omega)
  have h1_ : (9223372036854775807 < (nameT d p).size + 1 + t.size) = False := eq_false (by omega)
  generalize nameT d p = n at *
  clear hd hp
  go_enter Try.func71, Try.ntmps71
  go_wp2_with fail
  generalize hW0 : World.alloc w _ = w0
  have v0 : At w0 w.heap.size [.iface 45 (repo d p), .string t] := by
    rw [← hW0]; exact At.new _ _ _ _ rfl
  have b0 : Below w.heap.size w w0 := by
    rw [← hW0]; go_grown
  have HV0 := Aside0.mk v0
  have HB0 := Aside0.mk b0
  clear v0 b0 hW0
  go_region_held3 (fun W' => W'.cell? ⟨w.heap.size, 0, none⟩ = some (.iface 45 (repo d p)) ∧ W'.cell? ⟨w.heap.size, 1, none⟩ = some (.string t)) (first | (with_reducible exact HV0.out.two) | (with_reducible exact HV1.out.two) | (with_reducible exact HV0.out.drew.two) | (with_reducible exact HV1.out.drew.two) | (trace_state; go_keep)) (first
    | (go_at_call 64; (with_reducible refine (C.out _).mono ?_); rintro e w1 ⟨rfl, hd1⟩; have hb1 := undrew hd1; clear hd1; have HV1 := Aside0.mk (HV0.out.below hb1); have HB1 := Aside0.mk (HB0.out.trans (hb1.mono HB0.out.size)); clear hb1)
    | fail)
  all_goals
    go_wp2_with fail
    go_ret
    exact ⟨rfl, HB1.out⟩

set_option maxHeartbeats 2000000 in
theorem referenceW (d p t g : ByteArray) (hd : d.size ≤ 1099511627776) (hp : p.size ≤ 1099511627776) (ht : t.size ≤ 1099511627776) (hg : g.size ≤ 1099511627776) (w : World) :
    Calls Try.prog 68 #[.agg #[.iface 45 (repo d p), .string t, .string g]] w fun e w' => e = .returned (.string ((((nameT d p ++ ⟨#[58]⟩) ++ t) ++ ⟨#[64]⟩) ++ g)) ∧ Below w.heap.size w w' := by
  have C := Lib.hid (fun W => nameW d p hd hp W)
  have D := Lib.hid (fun W => digW g W)
  have hn : (nameT d p).size ≤ 2199023255553 := by
    unfold nameT; split
    · omega
    · rw [ByteArray.size_append, ByteArray.size_append]; show d.size + 1 + p.size ≤ _; omega
  have h0_ : (9223372036854775807 < (nameT d p).size + 1) = False := eq_false (by omega)
  have h1_ : (9223372036854775807 < (nameT d p).size + 1 + t.size) = False := eq_false (by omega)
  have h2_ : (9223372036854775807 < (nameT d p).size + 1 + t.size + 1) = False := eq_false (by omega)
  have h3_ : (9223372036854775807 < (nameT d p).size + 1 + t.size + 1 + g.size) = False := eq_false (by omega)
  generalize nameT d p = n at *
  clear hd hp
  go_enter Try.func68, Try.ntmps68
  go_wp2_with fail
  generalize hW0 : World.alloc w _ = w0
  have v0 : At w0 w.heap.size [.iface 45 (repo d p), .string t, .string g] := by
    rw [← hW0]; exact At.new _ _ _ _ rfl
  have b0 : Below w.heap.size w w0 := by
    rw [← hW0]; go_grown
  have HV0 := Aside0.mk v0
  have HB0 := Aside0.mk b0
  clear v0 b0 hW0
  go_region_held3 (fun W' => W'.cell? ⟨w.heap.size, 0, none⟩ = some (.iface 45 (repo d p)) ∧ W'.cell? ⟨w.heap.size, 1, none⟩ = some (.string t) ∧ W'.cell? ⟨w.heap.size, 2, none⟩ = some (.string g)) (first | (with_reducible exact HV0.out.three) | (with_reducible exact HV1.out.three) | (with_reducible exact HV0.out.drew.three) | (with_reducible exact HV1.out.drew.three) | (trace_state; go_keep)) (first
    | (go_at_call 64; (with_reducible refine (C.out _).mono ?_); rintro e w1 ⟨rfl, hd1⟩; have hb1 := undrew hd1; clear hd1; have HV1 := Aside0.mk (HV0.out.below hb1); have HB1 := Aside0.mk (HB0.out.trans (hb1.mono HB0.out.size)); clear hb1)
    | (go_at_call 67; (with_reducible refine (D.out _).mono ?_); rintro e w1 ⟨rfl, rfl⟩))
  all_goals
    go_wp2_with fail
    go_ret
    exact ⟨rfl, HB1.out⟩

/-- The reference of four parts with a path. -/
def bestV (d p t g : ByteArray) : Value := if t.toList = [] then (if g.toList = [] then .iface 45 (repo d p) else .iface 59 (.agg #[.iface 45 (repo d p), .string g]))
  else (if g.toList = [] then .iface 61 (.agg #[.iface 45 (repo d p), .string t]) else .iface 50 (.agg #[.iface 45 (repo d p), .string t, .string g]))

def textR (d p t g : ByteArray) : ByteArray := if t.toList = [] then (if g.toList = [] then nameT d p else (nameT d p ++ ⟨#[64]⟩) ++ g) else (if g.toList = [] then (nameT d p ++ ⟨#[58]⟩) ++ t else (((nameT d p ++ ⟨#[58]⟩) ++ t) ++ ⟨#[64]⟩) ++ g)

theorem isE {l : List UInt8} (h : ¬ l = []) : (l = []) = False ∧ l.isEmpty = false ∧ (!l.isEmpty) = true := by
  cases l with
  | nil => exact absurd rfl h
  | cons a b => exact ⟨eq_false h, rfl, rfl⟩

theorem nameT_ne (d p : ByteArray) (h : ¬ p.toList = []) : ¬ (nameT d p).toList = [] := by
  unfold nameT
  split
  · exact h
  · intro q
    apply h
    rw [ByteArray.toList_eq] at q ⊢
    have : p.size = 0 := by
      have q2 := congrArg List.length q
      have : (d ++ ⟨#[47]⟩ ++ p).size = 0 := q2
      rw [ByteArray.size_append] at this
      omega
    exact List.length_eq_zero_iff.1 this

set_option maxHeartbeats 4000000 in
theorem bestW (d p t g : ByteArray) (hd : d.size ≤ 1099511627776) (hp : p.size ≤ 1099511627776) (hne : ¬ p.toList = []) (w : World) :
    Calls Try.prog 26 #[.agg #[.iface 45 (repo d p), .string t, .string g]] w fun e w' => e = .returned (bestV d p t g) ∧ Below w.heap.size w w' := by
  have C := Lib.hid (fun W => nameW d p hd hp W)
  obtain ⟨n1, n2, n3⟩ := isE (nameT_ne d p hne)
  generalize nameT d p = n at *
  obtain ⟨V, hV⟩ : ∃ V, bestV d p t g = V := ⟨_, rfl⟩
  rw [hV]
  unfold bestV at hV
  clear hd hp hne
  by_cases ht : t.toList = []
  · rw [if_pos ht] at hV
    by_cases hg : g.toList = []
    · rw [if_pos hg] at hV
      have H := Lib.hid hV
      clear hV
      go_enter Try.func26, Try.ntmps26
      go_wp2_with (go_at_call 64; (with_reducible refine (C.out _).mono ?_); rintro e w1 ⟨rfl, hb⟩; obtain ⟨hc, hf⟩ := bcell hb; have hz := hb.size; simp at hz)
      go_ret
      exact ⟨by rw [← H.out]; rfl, ((Below.refl _ w).alloc (Nat.le_refl _) _).trans (hb.mono (by simp))⟩
    · rw [if_neg hg] at hV
      have H := Lib.hid hV
      obtain ⟨g1, g2, g3⟩ := isE hg
      clear hV hg
      go_enter Try.func26, Try.ntmps26
      go_wp2_with (go_at_call 64; (with_reducible refine (C.out _).mono ?_); rintro e w1 ⟨rfl, hb⟩; obtain ⟨hc, hf⟩ := bcell hb; have hz := hb.size; simp at hz)
      go_ret
      exact ⟨by rw [← H.out]; rfl, ((Below.refl _ w).alloc (Nat.le_refl _) _).trans (hb.mono (by simp))⟩
  · rw [if_neg ht] at hV
    obtain ⟨t1, t2, t3⟩ := isE ht
    clear ht
    by_cases hg : g.toList = []
    · rw [if_pos hg] at hV
      have H := Lib.hid hV
      clear hV
      go_enter Try.func26, Try.ntmps26
      go_wp2_with (go_at_call 64; (with_reducible refine (C.out _).mono ?_); rintro e w1 ⟨rfl, hb⟩; obtain ⟨hc, hf⟩ := bcell hb; have hz := hb.size; simp at hz)
      go_ret
      exact ⟨by rw [← H.out]; rfl, ((Below.refl _ w).alloc (Nat.le_refl _) _).trans (hb.mono (by simp))⟩
    · rw [if_neg hg] at hV
      have H := Lib.hid hV
      obtain ⟨g1, g2, g3⟩ := isE hg
      clear hV hg
      go_enter Try.func26, Try.ntmps26
      go_wp2_with (go_at_call 64; (with_reducible refine (C.out _).mono ?_); rintro e w1 ⟨rfl, hb⟩; obtain ⟨hc, hf⟩ := bcell hb; have hz := hb.size; simp at hz)
      go_ret
      exact ⟨by rw [← H.out]; rfl, ((Below.refl _ w).alloc (Nat.le_refl _) _).trans (hb.mono (by simp))⟩

set_option maxHeartbeats 2000000 in
theorem zzRefW (d p t g : ByteArray) (hd : d.size ≤ 1099511627776) (hp : p.size ≤ 1099511627776) (hne : ¬ p.toList = []) (w : World) :
    Calls Try.prog 15 #[.string d, .string p, .string t, .string g] w fun e w' => e = .returned (bestV d p t g) ∧ Below w.heap.size w w' := by
  have C := Lib.hid (fun W => bestW d p t g hd hp hne W)
  generalize bestV d p t g = V at *
  clear hd hp hne
  go_enter Try.func15, Try.ntmps15
  go_wp2_with (go_at_call 26; (with_reducible refine (C.out _).mono ?_); rintro e w1 ⟨rfl, hb⟩)
  go_ret
  exact ⟨rfl, hb⟩

set_option maxHeartbeats 2000000 in
theorem refW (d p t g : ByteArray) (hd : d.size ≤ 1099511627776) (hp : p.size ≤ 1099511627776) (hne : ¬ p.toList = []) (w : World) :
    Calls Try.prog 9 #[.agg #[.string d, .string p, .string t, .string g]] w fun e w' => e = .returned (bestV d p t g) ∧ Below w.heap.size w w' := by
  have C := Lib.hid (fun W => zzRefW d p t g hd hp hne W)
  generalize bestV d p t g = V at *
  clear hd hp hne
  go_enter Try.func9, Try.ntmps9
  go_wp2_with (go_at_call 15; (with_reducible refine (C.out _).mono ?_); rintro e w1 ⟨rfl, hb⟩)
  go_ret
  exact ⟨rfl, ((Below.refl _ w).alloc (Nat.le_refl _) _).trans (hb.mono (by simp))⟩

set_option maxHeartbeats 4000000 in
theorem textW (d p t g : ByteArray) (hd : d.size ≤ 1099511627776) (hp : p.size ≤ 1099511627776) (ht : t.size ≤ 1099511627776) (hg : g.size ≤ 1099511627776) (hne : ¬ p.toList = []) (w : World) :
    Calls Try.prog 6 #[.agg #[.string d, .string p, .string t, .string g]] w fun e w' => e = .returned (.string (textR d p t g)) ∧ Below w.heap.size w w' := by
  have C := Lib.hid (fun W => refW d p t g hd hp hne W)
  have D1 := Lib.hid (fun W => repoTextW d p hd hp W)
  have D2 := Lib.hid (fun W => canonW d p g hd hp hg W)
  have D3 := Lib.hid (fun W => taggedReferenceW d p t hd hp ht W)
  have D4 := Lib.hid (fun W => referenceW d p t g hd hp ht hg W)
  unfold textR
  unfold bestV at C
  clear hd hp ht hg hne
  by_cases ht : t.toList = []
  · rw [if_pos ht]
    by_cases hg : g.toList = []
    · rw [if_pos hg]
      simp only [if_pos ht, if_pos hg] at C
      clear ht hg D2 D3 D4
      generalize nameT d p = n at *
      go_enter Try.func6, Try.ntmps6
      go_wp2_with (first
        | (go_at_call 9; (with_reducible refine (C.out _).mono ?_); rintro e w1 ⟨rfl, hb⟩)
        | (go_at_call 65; (with_reducible refine (D1.out _).mono ?_); rintro e w2 ⟨rfl, hb2⟩))
      go_ret
      exact ⟨rfl, (((Below.refl _ w).alloc (Nat.le_refl _) _).trans (hb.mono (by simp))).trans (hb2.mono (by have := hb.size; simp at this; omega))⟩
    · rw [if_neg hg]
      simp only [if_pos ht, if_neg hg] at C
      clear ht hg D1 D3 D4
      generalize nameT d p = n at *
      go_enter Try.func6, Try.ntmps6
      go_wp2_with (first
        | (go_at_call 9; (with_reducible refine (C.out _).mono ?_); rintro e w1 ⟨rfl, hb⟩)
        | (go_at_call 70; (with_reducible refine (D2.out _).mono ?_); rintro e w2 ⟨rfl, hb2⟩))
      go_ret
      exact ⟨rfl, (((Below.refl _ w).alloc (Nat.le_refl _) _).trans (hb.mono (by simp))).trans (hb2.mono (by have := hb.size; simp at this; omega))⟩
  · rw [if_neg ht]
    by_cases hg : g.toList = []
    · rw [if_pos hg]
      simp only [if_neg ht, if_pos hg] at C
      clear ht hg D1 D2 D4
      generalize nameT d p = n at *
      go_enter Try.func6, Try.ntmps6
      go_wp2_with (first
        | (go_at_call 9; (with_reducible refine (C.out _).mono ?_); rintro e w1 ⟨rfl, hb⟩)
        | (go_at_call 71; (with_reducible refine (D3.out _).mono ?_); rintro e w2 ⟨rfl, hb2⟩))
      go_ret
      exact ⟨rfl, (((Below.refl _ w).alloc (Nat.le_refl _) _).trans (hb.mono (by simp))).trans (hb2.mono (by have := hb.size; simp at this; omega))⟩
    · rw [if_neg hg]
      simp only [if_neg ht, if_neg hg] at C
      clear ht hg D1 D2 D3
      generalize nameT d p = n at *
      go_enter Try.func6, Try.ntmps6
      go_wp2_with (first
        | (go_at_call 9; (with_reducible refine (C.out _).mono ?_); rintro e w1 ⟨rfl, hb⟩)
        | (go_at_call 68; (with_reducible refine (D4.out _).mono ?_); rintro e w2 ⟨rfl, hb2⟩))
      go_ret
      exact ⟨rfl, (((Below.refl _ w).alloc (Nat.le_refl _) _).trans (hb.mono (by simp))).trans (hb2.mono (by have := hb.size; simp at this; omega))⟩

end Go.Proofs.Ytmlcpnehihmhaaa.Gr
namespace Go.Proofs.Ytmlcpnehihmhaaa.PX

open Go Go.Proofs Go.RowKit Go.Lib Go.Proofs.Ytmlcpnehihmhaaa.Gr

def impl_RefText.f (a0_0 a0_1 a0_2 a0_3 : ByteArray) : Option ByteArray := if ((a0_0.size ≤ 1099511627776 ∧ a0_1.size ≤ 1099511627776) ∧ (a0_2.size ≤ 1099511627776 ∧ a0_3.size ≤ 1099511627776)) ∧ ¬ a0_1.toList = [] then some (textR a0_0 a0_1 a0_2 a0_3) else none

theorem impl_RefText.calls (a0_0 a0_1 a0_2 a0_3 : ByteArray) (r : ByteArray) (w : World) (h : impl_RefText.f a0_0 a0_1 a0_2 a0_3 = some r) :
    Calls Try.prog 6 #[.agg #[.string a0_0, .string a0_1, .string a0_2, .string a0_3]] w fun e w' => e = .returned (.string r) ∧ Below w.heap.size w w' := by
  unfold impl_RefText.f at h
  split at h
  · rename_i hs
    cases h
    exact textW a0_0 a0_1 a0_2 a0_3 hs.1.1.1 hs.1.1.2 hs.1.2.1 hs.1.2.2 hs.2 w
  · cases h

end Go.Proofs.Ytmlcpnehihmhaaa.PX
