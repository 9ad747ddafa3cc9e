/- The row and the tied card of FnSemverTermsNamed, out of its printed walk and its plain law. For every input that the statement lets in. -/
import Derived.Test.YtllkoadcpobdaaaDoorZCardSemverTermsNamed9
import Derived.Test.YtllkoadcpobdaaaDoorZCardSemverTermsNamed15
import Derived.Test.YtllkoadcpobdaaaDoorZCardSemverTermsNamed26
import Derived.Test.YtllkoadcpobdaaaDoorZCardSemverTermsNamed27
import Derived.Test.YtllkoadcpobdaaaDoorZCardSemverTermsNamed28
import Derived.Deep.RegionWith
import Derived.RegionTactic
import Derived.Deep.RegionHeld3
namespace Go.Proofs.YtllkoadcpobdaaaDoor.Base
end Go.Proofs.YtllkoadcpobdaaaDoor.Base
namespace Go.Proofs.YtllkoadcpobdaaaDoor.Bt
end Go.Proofs.YtllkoadcpobdaaaDoor.Bt
namespace Go.Proofs.YtllkoadcpobdaaaDoor.L
end Go.Proofs.YtllkoadcpobdaaaDoor.L
namespace Go.Proofs.YtllkoadcpobdaaaDoor.PX
end Go.Proofs.YtllkoadcpobdaaaDoor.PX
namespace Go.Proofs.YtllkoadcpobdaaaDoor.Parse
end Go.Proofs.YtllkoadcpobdaaaDoor.Parse
namespace Go.Proofs.YtllkoadcpobdaaaDoor.KX

open Go Go.RowKit Go.Lib Go.Sort Go.Proofs Go.Proofs.YtllkoadcpobdaaaDoor Go.Proofs.YtllkoadcpobdaaaDoor.Base Go.Proofs.YtllkoadcpobdaaaDoor.L Go.Proofs.YtllkoadcpobdaaaDoor.Bt Go.Proofs.YtllkoadcpobdaaaDoor.Parse Go.Proofs.YtllkoadcpobdaaaDoor.PX

open Go.Proofs.YtllkoadcpobdaaaDoorW.PrintWords Go.Proofs.YtllkoadcpobdaaaDoorW.PrintLast Go.Proofs.YtllkoadcpobdaaaDoorW.PrintMore

attribute [local go_sem] setCell_drewN alloc_drewN

set_option linter.unusedVariables false

/-- A list of one list, that lies in a block of one cell. -/
theorem C_one {w : World} {b : Nat} {A : Option Addr} {c : Nat} {l : List S24} (hl : Kd.C k24 w A l.length l) (hc : l.length ≤ c) (h : w.cell? ⟨b, 0, none⟩ = some (.slice A l.length c)) : Kd.C (Kd.slice 24 k24) w (some ⟨b, 0, none⟩) 1 [l] := by
  refine ⟨rfl, by decide, fun _ => ⟨_, rfl, fun j p hj => ?_⟩⟩
  match j, hj with
  | 0, hj =>
    cases hj
    refine ⟨[.slice A l.length c], rfl, ⟨A, c, rfl, hc, hl⟩, fun i u hi => ?_⟩
    match i, hi with
    | 0, hi => cases hi; exact h
    | n + 1, hi => simp at hi
  | n + 1, hj => simp at hj

/-- The cells of a term. -/
def cellsT (x : S24) : List Value := [.int .i64 x.f0, .int .i64 x.f1, .int .u64 x.f2, .int .u64 x.f3, .int .u64 x.f4, .string x.f5]

theorem C_two {w : World} {b : Nat} {x y : S24} (h : At w b (cellsT x ++ cellsT y)) : Kd.C k24 w (some ⟨b, 0, none⟩) 2 [x, y] := by
  refine ⟨rfl, by decide, fun _ => ⟨_, rfl, fun j p hj => ?_⟩⟩
  have e : ∀ m i, (⟨b, 0, none⟩ : Addr).add (m * (k24).sz + i) = ⟨b, m * 6 + i, none⟩ := by
    intro m i
    show (⟨b, 0, none⟩ : Addr).add (m * 6 + i) = _
    unfold Addr.add
    split
    · rename_i h; rw [h]
    · rw [Nat.zero_add]
  match j, hj with
  | 0, hj =>
    cases hj
    refine ⟨cellsT x, rfl, k24_mk w x, fun i u hi => ?_⟩
    rw [e, Nat.zero_mul, Nat.zero_add]
    refine h.cell i u ?_
    rw [List.getElem?_append_left (List.getElem?_eq_some_iff.1 hi).1]
    exact hi
  | 1, hj =>
    cases hj
    refine ⟨cellsT y, rfl, k24_mk w y, fun i u hi => ?_⟩
    rw [e, Nat.one_mul]
    refine h.cell (6 + i) u ?_
    rw [List.getElem?_append_right (by simp [cellsT])]
    simpa [cellsT] using hi
  | n + 2, hj => simp at hj

theorem cell_of {W W' : World} {a : Addr} (h : W'.heap[a.block]? = W.heap[a.block]?) : W'.cell? a = W.cell? a := by
  unfold World.cell?
  rw [h]

/-- A list of terms that is read, as it is handed on. -/
theorem V_of {W : World} {A : Option Addr} {l : List S24} {c base : Nat} (h : Kd.C k24 W A l.length l) (hc : l.length ≤ c) : Kd.V k24 24 W base (fun _ => True) (.slice A l.length c) l := by
  refine ⟨A, c, rfl, hc, fun W' hW => ?_⟩
  obtain ⟨h1, h2, h3⟩ := h
  refine ⟨h1, h2, fun h0 => ?_⟩
  obtain ⟨ad, e, hr⟩ := h3 h0
  refine ⟨ad, e, fun j p hj => ?_⟩
  obtain ⟨cs, hl, hK, hcell⟩ := hr j p hj
  refine ⟨cs, hl, ?_, fun i u hi => ?_⟩
  · obtain rfl := k24_open hK
    exact k24_mk W' p
  · have hq := hcell i u hi
    rw [cell_of (hW _ trivial (World.block_lt_of_cell? W _ hq))]
    exact hq

/-- The three questions' answers. -/
theorem ask_f (l : List S24) (x y z : Nat) (q r : ByteArray) (h1 : okRB l = true) (h2 : l.any hasP = true) (h3 : q.size ≤ 65536) (h4 : gPre (bl q) = true) :
    (∀ pre, impl_TermsHold.f [l] x y z q r pre = some (l.all (oneB (vOf x y z q r) true))) ∧ impl_TermsHold.f [[(⟨4, 3, x, y, z, q⟩ : S24), (⟨4, 3, 0, 0, 0, ⟨#[48]⟩⟩ : S24)]] x y z q r false = some true := by
  have k2 : okV (x : Int) y z q := by unfold okV; omega
  have o1 : okLB [l] = true := by
    unfold okLB
    simp only [List.all_cons, List.all_nil, Bool.and_true]
    rw [h1]
    rfl
  have t1 := okTB_mk 4 3 x y z q (by decide) (by decide) (by omega)
  have t2 := okTB_mk 4 3 0 0 0 ⟨#[48]⟩ (by decide) (by decide) (by decide)
  have e2 : okLB [[(⟨4, 3, x, y, z, q⟩ : S24), (⟨4, 3, 0, 0, 0, ⟨#[48]⟩⟩ : S24)]] = true := by
    unfold okLB okRB
    simp only [List.all_cons, List.all_nil, Bool.and_true]
    rw [t1]
    exact t2
  unfold impl_TermsHold.f
  refine ⟨fun pre => ?_, ?_⟩
  · rw [if_pos ⟨o1, k2⟩]
    congr 1
    unfold holdsB
    rw [List.any_cons, List.any_nil, Bool.or_false, h2, Bool.or_true]
  · rw [if_pos ⟨e2, k2⟩]
    congr 1
    unfold holdsB
    rw [List.any_cons, List.any_nil, Bool.or_false, List.all_cons, List.all_cons, List.all_nil, Bool.and_true]
    have e3 : ([(⟨4, 3, x, y, z, q⟩ : S24), (⟨4, 3, 0, 0, 0, ⟨#[48]⟩⟩ : S24)]).any hasP = true := by
      rw [List.any_cons, List.any_cons]
      show (_ || (true || _)) = true
      simp
    have li : ∀ (v n : Ver) (gv : Int) (mD d pD : Bool), termI 4 v n mD d pD true = decide (0 ≤ verC v n) := by
      intro v n gv mD d pD
      unfold termI
      rw [if_neg (by decide), if_neg (by decide), if_neg (by decide), if_neg (by decide), if_pos rfl, least_l v n gv _ _ _ true rfl]
      unfold compB
      rw [if_neg (by decide), if_neg (by decide), if_neg (by decide), if_neg (by decide), if_pos rfl]
    rw [e3, Bool.or_true]
    have e4 : oneB (vOf x y z q r) true (⟨4, 3, x, y, z, q⟩ : S24) = true := by
      show termI 4 _ _ _ _ _ true = _
      rw [li _ _ 3, decide_eq_true_eq]
      have := verC_self (vOf x y z q r) (verT (⟨4, 3, x, y, z, q⟩ : S24)) rfl rfl rfl rfl
      omega
    have e5 : oneB (vOf x y z q r) true (⟨4, 3, 0, 0, 0, ⟨#[48]⟩⟩ : S24) = true := by
      show termI 4 _ _ _ _ _ true = _
      rw [li _ _ 3, decide_eq_true_eq, ge_zero _ h4 _ rfl]
      show 0 ≤ numC 3 x y z 0 0 0
      unfold numC segC
      repeat' split
      all_goals omega
    rw [e4, e5]
    rfl

theorem ask_one (l : List S24) (A : Option Addr) (c : Nat) (x y z : Nat) (q r : ByteArray) (R pre : Bool) (hq : impl_TermsHold.f [l] x y z q r pre = some R) (hc : l.length ≤ c) (W : World) (b : Nat) (h1 : W.cell? ⟨b, 0, none⟩ = some (.slice A l.length c)) (h2 : Kd.C k24 W A l.length l) (h3 : Std W) :
    Calls Tryd.prog 37 #[.slice (some ⟨b, 0, none⟩) 1 1, .agg #[.int .u64 (x : Int), .int .u64 (y : Int), .int .u64 (z : Int), .string q, .string r], .bool pre] W fun e w' => e = .returned (.bool R) ∧ Below W.heap.size W w' :=
  impl_TermsHold.calls (some ⟨b, 0, none⟩) 1 [l] x y z q r pre R W (C_one h2 hc h1) (Nat.le_refl 1) h3 hq

def Tru (w : World) (e : Ending) (w' : World) : Prop := e = .returned (.bool true) ∧ Below w.heap.size w w'

set_option maxHeartbeats 16000000 in
set_option maxRecDepth 100000 in
theorem named_walk (l : List S24) (A : Option Addr) (c : Nat) (x y z : Nat) (q r : ByteArray) (hc : l.length ≤ c) (hn : ∀ x ∈ l, 0 ≤ x.f2 ∧ 0 ≤ x.f3 ∧ 0 ≤ x.f4) (w : World) (hC : Kd.C k24 w A l.length l) (hS : Std w) :
  Calls Tryd.prog 8 #[.slice A l.length c, .agg #[.int .u64 (x : Int), .int .u64 (y : Int), .int .u64 (z : Int), .string q, .string r]] w (Tru w) := by
 have HC := Aside0.mk hC; have HS := Aside0.mk hS; have HL := Aside0.mk hc; have HNn := Aside0.mk hn
 clear hC hS hc hn
 have C1 := Lib.hid (fun W h1 h2 => laws_zzFits12.calls (l.length + 1) A c l _ W h1 h2 (fits12_f l _ (by omega)))
 have C2 := Lib.hid (fun W => fits14 x y z q r W)
 cases f1 : (decide (l.length ≤ 2147483647) && fitsB l) with
 | false =>
  rw [f1] at C1
  clear C2 HNn f1
  go_enter Tryd.func8, Tryd.ntmps8
  go_wp2_with fail
  refine (C1.out _ (Kd.C_below HC.out (by go_grown)) HL.out).mono ?_
  rintro e w1 ⟨rfl, hb⟩
  have HB := Aside0.mk ((show Below w.heap.size w _ by go_grown).trans (hb.mono (by simp)))
  clear hb
  go_wp2_with fail
  go_ret
  exact ⟨rfl, HB.out⟩
 | true =>
  rw [f1] at C1
  rw [Bool.and_eq_true, decide_eq_true_eq] at f1
  obtain ⟨hl, hf⟩ := f1
  cases f2 : (decide (q.size ≤ 2147483647) && decide (r.size ≤ 2147483647)) with
  | false =>
   rw [f2] at C2
   clear HNn f2
   have HF := Aside0.mk hf
   clear hf hl
   go_enter Tryd.func8, Tryd.ntmps8
   go_wp2_with fail
   generalize hW0 : World.alloc w _ = w0
   have t0 : At w0 w.heap.size [.int .u64 (x : Int), .int .u64 (y : Int), .int .u64 (z : Int), .string q, .string r] := by
    rw [← hW0]; exact At.new _ _ _ _ rfl
   have b0 : Below w.heap.size w w0 := by rw [← hW0]; go_grown
   have HT := Aside0.mk t0; have HB := Aside0.mk b0
   clear t0 b0 hW0
   refine (C1.out _ (Kd.C_below HC.out HB.out) HL.out).mono ?_
   rintro e w1 ⟨rfl, hb⟩
   have HT1 := Aside0.mk (HT.out.below hb); have HB1 := Aside0.mk (HB.out.trans (hb.mono HB.out.size))
   clear hb HT HB
   obtain ⟨v0, v1, v2, v3, v4⟩ := HT1.out.five
   go_wp2_with fail
   refine (C2.out _).mono ?_
   rintro e w2 ⟨rfl, hb⟩
   have HB2 := Aside0.mk (HB1.out.trans (hb.mono HB1.out.size))
   clear hb HB1 HT1 v0 v1 v2 v3 v4
   go_wp2_with fail
   go_ret
   exact ⟨rfl, HB2.out⟩
  | true =>
   rw [f2] at C2
   clear f2
   obtain ⟨t, ht, hg⟩ := scList_f l hl hf (2 * szs l + l.length + 41) (by omega)
   have C3 := Lib.hid (fun W h => laws_scList.calls _ (fun _ => True) A c l t W h ht)
   have C4 := Lib.hid (fun W b h0 h1 h2 h3 h4 => svGood_one x y z q r b 1 W (by decide) h0 h1 h2 h3 h4)
   have C5 := Lib.hid (fun W h1 h2 => spec_HasPre.calls _ A c l _ W h1 h2 (hasPre_f l hl (l.length + 1) (by omega)))
   have C6 := Lib.hid (fun W => laws_stTerm.calls 4 x y z q r 3 4 3 x y z q W (by simp [laws_stTerm.f]))
   have HG := Lib.hid (show t = true → l.all goodR = true ∧ 0 < l.length ∧ l.length ≤ 24 from hg)
   have HF := Aside0.mk hf; have HLn := Aside0.mk hl
   clear hf hl hg ht
   go_enter Tryd.func8, Tryd.ntmps8
   go_wp2_with fail
   generalize hW0 : World.alloc w _ = w0
   have t0 : At w0 w.heap.size [.int .u64 (x : Int), .int .u64 (y : Int), .int .u64 (z : Int), .string q, .string r] := by
    rw [← hW0]; exact At.new _ _ _ _ rfl
   have b0 : Below w.heap.size w w0 := by rw [← hW0]; go_grown
   have HT := Aside0.mk t0; have HB := Aside0.mk b0
   clear t0 b0 hW0
   refine (C1.out _ (Kd.C_below HC.out HB.out) HL.out).mono ?_
   rintro e w1 ⟨rfl, hb⟩
   have HT1 := Aside0.mk (HT.out.below hb); have HB1 := Aside0.mk (HB.out.trans (hb.mono HB.out.size))
   clear hb HT HB
   obtain ⟨v0, v1, v2, v3, v4⟩ := HT1.out.five
   go_wp2_with fail
   refine (C2.out _).mono ?_
   rintro e w2 ⟨rfl, hb⟩
   have HT2 := Aside0.mk (HT1.out.below hb); have HB2 := Aside0.mk (HB1.out.trans (hb.mono HB1.out.size))
   clear hb HB1 HT1 v0 v1 v2 v3 v4
   go_wp2_with fail
   refine (C3.out _ (V_of (Kd.C_below HC.out HB2.out) HL.out)).mono ?_
   rintro e w3 ⟨rfl, hb⟩
   have HT3 := Aside0.mk (HT2.out.below hb); have HB3 := Aside0.mk (HB2.out.trans (hb.mono HB2.out.size))
   clear hb HB2 HT2
   obtain ⟨v0, v1, v2, v3, v4⟩ := HT3.out.five
   cases t with
   | false =>
    go_wp2_with fail
    go_ret
    exact ⟨rfl, HB3.out⟩
   | true =>
    obtain ⟨g1, g2, g3⟩ : l.all goodR = true ∧ 0 < l.length ∧ l.length ≤ 24 := HG.out (by simp)
    have HG1 := Lib.hid g1
    clear g1
    go_wp2_with fail
    generalize hWa : World.alloc w3 _ = wa
    have ta : At wa w3.heap.size [.int .u64 (x : Int), .int .u64 (y : Int), .int .u64 (z : Int), .string q, .string r] := by
     rw [← hWa]; exact At.new _ _ _ _ rfl
    have ba : Below w3.heap.size w3 wa := by rw [← hWa]; go_grown
    clear hWa v0 v1 v2 v3 v4
    obtain ⟨a0, a1, a2, a3, a4⟩ := ta.five
    refine (C4.out wa w3.heap.size a0 a1 a2 a3 a4).mono ?_
    rintro e w4 ⟨rfl, hb⟩
    have bb := ba.trans (hb.mono ba.size)
    have HT4 := Aside0.mk (HT3.out.below bb); have HB4 := Aside0.mk (HB3.out.trans (bb.mono HB3.out.size))
    clear a0 a1 a2 a3 a4 ta ba hb bb HT3 HB3
    cases hs : goodS ⟨x, y, z, q, r⟩ with
    | false =>
     go_wp2_with fail
     go_ret
     exact ⟨rfl, HB4.out⟩
    | true =>
     have HG2 := Lib.hid (good_parts hs)
     clear hs
     go_wp2_with fail
     refine (C5.out _ (Kd.C_below HC.out HB4.out) HL.out).mono ?_
     rintro e w5 ⟨rfl, hb⟩
     have HT5 := Aside0.mk (HT4.out.below hb); have HB5 := Aside0.mk (HB4.out.trans (hb.mono HB4.out.size))
     clear hb HB4 HT4
     cases hp : l.any hasP with
     | false =>
      go_wp2_with fail
      go_ret
      exact ⟨rfl, HB5.out⟩
     | true =>
      have HQ := Lib.hid (ask_f l x y z q r (okR_of l HF.out HG1.out g2 (by omega) HNn.out) hp HG2.out.1 HG2.out.2.2)
      clear hp HG2
      obtain ⟨v0, v1, v2, v3, v4⟩ := HT5.out.five
      go_wp2_with fail
      refine (C6.out _).mono ?_
      rintro e w6 ⟨rfl, hb⟩
      have HT6 := Aside0.mk (HT5.out.below hb); have HB6 := Aside0.mk (HB5.out.trans (hb.mono HB5.out.size))
      clear hb HB5 HT5 v0 v1 v2 v3 v4
      go_wp2_with fail
      generalize hWs : World.alloc w6 _ = ws
      have ts : At ws w6.heap.size (cellsT (⟨4, 3, x, y, z, q⟩ : S24) ++ cellsT (⟨4, 3, 0, 0, 0, ⟨#[48]⟩⟩ : S24)) := by
       rw [← hWs]; exact At.new _ _ _ _ rfl
      have bs : Below w6.heap.size w6 ws := by rw [← hWs]; go_grown
      clear hWs
      have HV := Aside0.mk (HT6.out.below bs); have HT := Aside0.mk ts; have HB := Aside0.mk (HB6.out.trans (bs.mono HB6.out.size)); have HBS := Aside0.mk (Below.refl ws.heap.size ws)
      clear ts bs HB6 HT6
      have TA := Lib.hid (fun W b pre h1 h2 h3 => ask_one l A c x y z q r _ pre (HQ.out.1 pre) HL.out W b h1 h2 h3)
      have TB := Lib.hid (fun W b h1 (h2 : At W w6.heap.size (cellsT (⟨4, 3, x, y, z, q⟩ : S24) ++ cellsT (⟨4, 3, 0, 0, 0, ⟨#[48]⟩⟩ : S24))) h3 => ask_one [(⟨4, 3, x, y, z, q⟩ : S24), (⟨4, 3, 0, 0, 0, ⟨#[48]⟩⟩ : S24)] (some ⟨w6.heap.size, 0, none⟩) 2 x y z q r true false HQ.out.2 (Nat.le_refl 2) W b h1 (C_two h2) h3)
      generalize l.all (oneB (vOf x y z q r) true) = R at *
      go_region_held3 (fun W' => W'.cell? ⟨w.heap.size, 0, none⟩ = some (.int .u64 (x : Int)) ∧ W'.cell? ⟨w.heap.size, 1, none⟩ = some (.int .u64 (y : Int)) ∧ W'.cell? ⟨w.heap.size, 2, none⟩ = some (.int .u64 (z : Int)) ∧ W'.cell? ⟨w.heap.size, 3, none⟩ = some (.string q) ∧ W'.cell? ⟨w.heap.size, 4, none⟩ = some (.string r))
       (exact (HV.out.below (by repeat (first | (with_reducible first | exact HBS.out | apply below_alloc | apply pw_below_drewN | apply below_drew1) | exact HBS.out))).five) (first
       | (go_at_call 37; (with_reducible refine (TA.out _ _ false ?c1 ?c2 ?c3).mono ?_); (case c1 => (first | (simp [go_sem]; done))); (case c2 => exact Kd.C_below HC.out (by repeat (first | (with_reducible first | exact HB.out | apply below_alloc | apply pw_below_drewN | apply below_drew1) | exact HB.out))); (case c3 => exact HS.out.below (by repeat (first | (with_reducible first | exact HB.out | apply below_alloc | apply pw_below_drewN | apply below_drew1) | exact HB.out))); rintro e w9 ⟨rfl, hb⟩; have hcA := (bcell hb).1; have n0 := Aside0.mk (below_step (by repeat (first | (with_reducible first | exact HB.out | apply below_alloc | apply pw_below_drewN | apply below_drew1) | exact HB.out)) hb); have n1 := Aside0.mk (below_step (by repeat (first | (with_reducible first | exact HBS.out | apply below_alloc | apply pw_below_drewN | apply below_drew1) | exact HBS.out)) hb); clear hb HB HBS; have HB := n0; have HBS := n1; clear n0 n1)
       | (go_at_call 37; (with_reducible refine (TA.out _ _ true ?c1 ?c2 ?c3).mono ?_); (case c1 => (first | (simp [go_sem]; done) | (simp [go_sem, hcA]; done))); (case c2 => exact Kd.C_below HC.out (by repeat (first | (with_reducible first | exact HB.out | apply below_alloc | apply pw_below_drewN | apply below_drew1) | exact HB.out))); (case c3 => exact HS.out.below (by repeat (first | (with_reducible first | exact HB.out | apply below_alloc | apply pw_below_drewN | apply below_drew1) | exact HB.out))); rintro e w9 ⟨rfl, hb⟩; have hcB := (bcell hb).1; have n0 := Aside0.mk (below_step (by repeat (first | (with_reducible first | exact HB.out | apply below_alloc | apply pw_below_drewN | apply below_drew1) | exact HB.out)) hb); have n1 := Aside0.mk (below_step (by repeat (first | (with_reducible first | exact HBS.out | apply below_alloc | apply pw_below_drewN | apply below_drew1) | exact HBS.out)) hb); clear hb HB HBS; have HB := n0; have HBS := n1; clear n0 n1)
       | (go_at_call 37; (with_reducible refine (TB.out _ _ ?c1 ?c2 ?c3).mono ?_); (case c1 => (first | (simp [go_sem]; done) | (simp [go_sem, hcB]; done) | (simp [go_sem, hcA, hcB]; done))); (case c2 => exact (HT.out.below (by repeat (first | (with_reducible first | exact HBS.out | apply below_alloc | apply pw_below_drewN | apply below_drew1) | exact HBS.out)))); (case c3 => exact HS.out.below (by repeat (first | (with_reducible first | exact HB.out | apply below_alloc | apply pw_below_drewN | apply below_drew1) | exact HB.out))); rintro e w9 ⟨rfl, hb⟩; have n0 := Aside0.mk (below_step (by repeat (first | (with_reducible first | exact HB.out | apply below_alloc | apply pw_below_drewN | apply below_drew1) | exact HB.out)) hb); have n1 := Aside0.mk (below_step (by repeat (first | (with_reducible first | exact HBS.out | apply below_alloc | apply pw_below_drewN | apply below_drew1) | exact HBS.out)) hb); clear hb HB HBS; have HB := n0; have HBS := n1; clear n0 n1))
      all_goals (try go_wp2_with fail)
      all_goals (go_ret; exact ⟨rfl, (by repeat (first | (with_reducible first | exact HB.out | apply below_alloc | apply pw_below_drewN | apply below_drew1) | exact HB.out))⟩)

end Go.Proofs.YtllkoadcpobdaaaDoor.KX
