/- The row and the tied card of FnSemverApart, out of its printed walk and its plain law. For every input that the statement lets in. -/
import Derived.Test.YtllkoadcpobdaaaDoorZCardSemverApart3
import Derived.Test.YtllkoadcpobdaaaDoorZCardSemverApart7
import Derived.Test.YtllkoadcpobdaaaDoorZCardSemverApart8
import Derived.Test.YtllkoadcpobdaaaDoorZCardSemverApart10
import Derived.Test.YtllkoadcpobdaaaDoorZCardSemverApart20
import Derived.Test.YtllkoadcpobdaaaDoorZCardSemverApart24
import Derived.LoopTactic
import Derived.Deep.RegionWith
import Derived.RegionTactic
import Derived.Deep.RegionHeld3
namespace Go.Proofs.YtllkoadcpobdaaaDoor.Base
end Go.Proofs.YtllkoadcpobdaaaDoor.Base
namespace Go.Proofs.YtllkoadcpobdaaaDoor.Bt
end Go.Proofs.YtllkoadcpobdaaaDoor.Bt
namespace Go.Proofs.YtllkoadcpobdaaaDoor.KX
end Go.Proofs.YtllkoadcpobdaaaDoor.KX
namespace Go.Proofs.YtllkoadcpobdaaaDoor.L
end Go.Proofs.YtllkoadcpobdaaaDoor.L
namespace Go.Proofs.YtllkoadcpobdaaaDoor.PX
end Go.Proofs.YtllkoadcpobdaaaDoor.PX
namespace Go.Proofs.YtllkoadcpobdaaaDoor.Parse
end Go.Proofs.YtllkoadcpobdaaaDoor.Parse
namespace Go.Proofs.YtllkoadcpobdaaaDoor.KX

open Go.RowKit Go.Lib Go.Sort Go.Proofs Go.Proofs.YtllkoadcpobdaaaDoor Go.Proofs.YtllkoadcpobdaaaDoor.Base Go.Proofs.YtllkoadcpobdaaaDoor.L Go.Proofs.YtllkoadcpobdaaaDoor.Bt Go.Proofs.YtllkoadcpobdaaaDoor.Parse Go.Proofs.YtllkoadcpobdaaaDoor.PX

open Go.Proofs.YtllkoadcpobdaaaDoorW.PrintWords Go.Proofs.YtllkoadcpobdaaaDoorW.PrintLast Go.Proofs.YtllkoadcpobdaaaDoorW.PrintMore

attribute [local go_sem] setCell_drewN alloc_drewN

set_option linter.unusedVariables false

/-- The operators as they are written. -/
def opL (op : Int) : ByteArray := if op = 0 then ⟨#[61]⟩ else if op = 1 then ⟨#[33, 61]⟩ else if op = 2 then ⟨#[62]⟩ else if op = 3 then ⟨#[60]⟩ else if op = 4 then ⟨#[62, 61]⟩ else if op = 5 then ⟨#[60, 61]⟩ else if op = 6 then ⟨#[126]⟩ else ⟨#[94]⟩

theorem opL_f (op : Int) (h : 0 ≤ op ∧ op < 8) : impl_operator.f op = some (opL op) := by
  have e : op = 0 ∨ op = 1 ∨ op = 2 ∨ op = 3 ∨ op = 4 ∨ op = 5 ∨ op = 6 ∨ op = 7 := by omega
  rcases e with rfl | rfl | rfl | rfl | rfl | rfl | rfl | rfl <;> rfl

/-- A term that the walk takes. -/
structure OkT (x : S24) : Prop where
  op0 : 0 ≤ x.f0
  op8 : x.f0 < 8
  gv : 0 ≤ x.f1
  a : 0 ≤ x.f2
  b : 0 ≤ x.f3
  c : 0 ≤ x.f4

/-- A term as a constraint. -/
def conOf (x : S24) : Con := ⟨opL x.f0, ⟨x.f2.toNat, x.f3.toNat, x.f4.toNat, x.f5, ⟨#[]⟩, ⟨#[]⟩⟩, x.f1 == 1, decide (x.f1 < 3), x.f1 == 2⟩

theorem vc_conOf (x : S24) (h : OkT x) : vc (conOf x).n = vcells x.f2 x.f3 x.f4 x.f5 ⟨#[]⟩ ⟨#[]⟩ := by
  unfold vc conOf
  simp only [Int.toNat_of_nonneg h.a, Int.toNat_of_nonneg h.b, Int.toNat_of_nonneg h.c]

theorem rd_at {α : Type} (l : List α) (z : α) (k : Nat) (h : k < l.length) : l.getD k z = l[k] := by
  rw [List.getD_eq_getElem?_getD, List.getElem?_eq_getElem h]; rfl

theorem infoZT : (Tryd.prog.info? 67).map (fun i => (i.zero, i.size, i.bytes)) = some (some (.agg #[.string ⟨#[]⟩, .pointer none, .bool false, .bool false, .bool false]), 5, 32) := by kernel_rfl

theorem infoSZ : (Tryd.prog.info? 103).map (fun i => (i.zero, i.size, i.bytes)) = some (some (.slice none 0 0), 1, 24) := by kernel_rfl

set_option maxHeartbeats 16000000 in
set_option maxRecDepth 100000 in
theorem terms_c (l : List (List S24)) (A : Option Addr) (cap : Nat) (hcap : l.length ≤ cap) (hl : l.length ≤ 1000000000) (hr : ∀ r ∈ l, r.length ≤ 1000000000 ∧ ∀ x ∈ r, OkT x) (w : World) (hC : Kd.C (Kd.slice 24 k24) w A l.length l) :
  Calls Tryd.prog 69 #[.slice A l.length cap] w fun e w' => ∃ v, e = .returned v ∧ (Kd.slice 67 kZT).R 103 w' w.heap.size (fun _ => True) v (l.map (fun r => r.map conOf)) ∧ Below w.heap.size w w' := by
 have HC := Aside0.mk hC; have HR := Aside0.mk hr; have HL := Aside0.mk hcap
 have HB0 := Aside0.mk (Below.refl w.heap.size w)
 clear hC hr hcap
 go_enter Tryd.func69, Tryd.ntmps69
 go_wp2_with fail
 go_loopw [3, 11] (fun v i w' => ∃ k : Nat, i = .int .i64 k ∧ k ≤ l.length ∧ Aside0 ((Kd.slice 67 kZT).R 103 w' w.heap.size (fun _ => True) v ((l.take k).map (fun r => r.map conOf))) ∧ Aside0 (Below w.heap.size w w')) (fun _ i _ => l.length - (Go.RowKit.intOf i).toNat)
 case atStart => exact ⟨0, rfl, Nat.zero_le _, ⟨Kd.R_nil _ _ _ _ _⟩, HB0⟩
 case round =>
  obtain ⟨k, rfl, hk, HO, HB⟩ := hrel
  clear HB0
  by_cases hlt : k < l.length
  ·
   obtain ⟨ad, A2, c2, e, hx, hl2, hi2⟩ := at_L5 HC.out (k : Int) (by omega) (by omega)
   cases e
   replace hx := (HB.out.cell (World.block_lt_of_cell? w _ hx)).trans hx
   have HI := Aside0.mk hi2
   have HR2 := Aside0.mk (HR.out _ (List.getElem_mem hlt))
   rw [Int.toNat_natCast] at hx
   have HE : Hid (rd_L5 l (k : Int) = l[k]) := Lib.hid (rd_at l [] k hlt)
   clear hi2
   go_wp2_with fail
   obtain ⟨wo, rfl⟩ : ∃ wo : World, wo = wr := ⟨_, rfl⟩
   clear hx
   generalize hq : rd_L5 l (k : Int) = q at *
   have HQ := Aside0.mk HE.out
   have hq1 : q.length ≤ 1000000000 := by rw [HE.out]; exact HR2.out.1
   have HK := Lib.hid (show ∀ x ∈ q, OkT x by rw [HE.out]; exact HR2.out.2)
   clear HE HR2 hq
   have HB2 := Aside0.mk (Below.refl wo.heap.size wo)
   go_loopw [6, 17] (fun v i w' => ∃ j : Nat, i = .int .i64 j ∧ j ≤ q.length ∧ Aside0 (kZT.R 67 w' wo.heap.size (fun _ => True) v ((q.take j).map conOf)) ∧ Aside0 (Below wo.heap.size wo w')) (fun _ i _ => q.length - (Go.RowKit.intOf i).toNat)
   case atStart => exact ⟨0, rfl, Nat.zero_le _, ⟨Kd.R_nil _ _ _ _ _⟩, HB2⟩
   case round =>
    obtain ⟨j, rfl, hj, HO2, HB3⟩ := hrel
    clear HB2
    by_cases hjl : j < q.length
    ·
     obtain ⟨ad2, e2, h0, h1, h2, h3, h4, h5⟩ := at_T24 HI.out (j : Int) (by omega) (by omega)
     cases e2
     have HG := Lib.hid (HK.out q[j] (List.getElem_mem hjl))
     have HN := Lib.hid (show (q.take (j + 1)).map conOf = (q.take j).map conOf ++ [conOf q[j]] by rw [List.take_succ_eq_append_getElem hjl, List.map_append]; rfl)
     have hlen : ((q.take j).map conOf).length = j := by rw [List.length_map, List.length_take]; omega
     have HLn := Lib.hid hlen
     clear hlen
     rw [Int.toNat_natCast] at h0 h1 h2 h3 h4 h5
     have e3 : rd_T24 q (j : Int) = q[j] := rd_at q z24 j hjl
     rw [e3] at h0 h1 h2 h3 h4 h5
     clear e3
     generalize q[j] = x at *
     have HBB := Aside0.mk (HB.out.trans (HB3.out.mono HB.out.size))
     replace h0 := (HBB.out.cell (World.block_lt_of_cell? w _ h0)).trans h0
     replace h1 := (HBB.out.cell (World.block_lt_of_cell? w _ h1)).trans h1
     replace h2 := (HBB.out.cell (World.block_lt_of_cell? w _ h2)).trans h2
     replace h3 := (HBB.out.cell (World.block_lt_of_cell? w _ h3)).trans h3
     replace h4 := (HBB.out.cell (World.block_lt_of_cell? w _ h4)).trans h4
     replace h5 := (HBB.out.cell (World.block_lt_of_cell? w _ h5)).trans h5
     have CT := Lib.hid (fun W => implTermT x.f0 x.f1 x.f2 x.f3 x.f4 x.f5 (opL x.f0) (opL_f x.f0 ⟨HG.out.op0, HG.out.op8⟩) HG.out.gv W)
     have HSz := Lib.hid HLn.out
     obtain ⟨A6, c6, rfl⟩ := Kd.R_slice HO2.out
     rw [HSz.out]
     go_wp2_with fail
     refine (CT.out _).mono ?_
     rintro e w1 ⟨g, rfl, hg1, hg2, hb⟩
     have hbw : Below wr.heap.size wr w1 := (show Below wr.heap.size wr _ by go_grown).trans (hb.mono (by simp))
     have hgw : wr.heap.size ≤ g := by simp at hg2; omega
     have hB4 : Below wo.heap.size wo w1 := HB3.out.trans (hbw.mono HB3.out.size)
     have hR4 := Kd.R_below HO2.out hbw
     have hM : kZT.M w1 wo.heap.size (fun k => True ∧ some k ≠ (Value.slice A6 ((q.take j).map conOf).length c6).ownBlock) (conOf x) [.string (opL x.f0), .pointer (some ⟨g, 0, none⟩), .bool (decide (x.f1 < 3)), .bool (x.f1 == 1), .bool (x.f1 == 2)] := by
      refine kZT_mkM (conOf x) g (Nat.le_trans HB3.out.size hgw) ⟨trivial, ?_⟩ (by rw [vc_conOf x HG.out]; exact hg1)
      intro e
      obtain ⟨inner, ho⟩ := Kd.R_own HO2.out
      have := own_lt ho g e.symm
      omega
     rw [HSz.out] at hR4 hM
     have HR4 := Aside0.mk hR4; have HM := Aside0.mk hM; have HB4 := Aside0.mk hB4
     have hs4 : wo.heap.size ≤ w1.heap.size := hB4.size
     clear hg1 hg2 hb hbw hgw hB4 hR4 hM h0 h1 h2 h3 h4 h5 HO2 HB3 HBB CT HG
     go_wp2_with ((with_reducible refine gate_builtin (b := .append) (xs := #[.tmp 21, .tmp 24]) rfl ?_); at_builtin; refine Kd.R_append kZT (w0 := wo) wo.heap.size rfl (.tmp 21) (.tmp 24) 103 67 _ 32 rfl Tryd.underlying103 infoZT rfl (by decide) (by decide) (.slice A6 j c6) ((q.take j).map conOf) (conOf x) _ (fun _ => True) (fun k => True ∧ some k ≠ (Value.slice A6 j c6).ownBlock) rfl rfl HM.out (fun _ h => h) (fun _ _ => trivial) HR4.out HB4.out hs4 ?aL ?_; (case aL => have := HLn.out; omega); intro v1 w2 ho hb hg hat; have HO5 := Aside0.mk ho; have HB5 := Aside0.mk hb; clear ho hb hg hat)
     go_roundw
     case rel => exact ⟨j + 1, by go_num, by omega, ⟨by rw [HN.out]; exact HO5.out⟩, HB5⟩
     case measure => simp [Go.RowKit.intOf]; omega
    ·
     have HF := Lib.hid (show q.take j = q from List.take_of_length_le (by omega))
     have HN := Lib.hid (show (l.take (k + 1)).map (fun r => r.map conOf) = (l.take k).map (fun r => r.map conOf) ++ [q.map conOf] by rw [List.take_succ_eq_append_getElem hlt, List.map_append, HQ.out]; rfl)
     have HLn := Lib.hid (show ((l.take k).map (fun r => r.map conOf)).length = k by rw [List.length_map, List.length_take]; omega)
     have h6 := HO2.out
     rw [HF.out] at h6
     obtain ⟨A6, c6, rfl⟩ := Kd.R_slice h6
     have h3 := HO.out
     obtain ⟨A3, c3, rfl⟩ := Kd.R_slice h3
     obtain ⟨inn, hown⟩ := Kd.R_own h3
     have h3' := Kd.R_below h3 HB3.out
     have hM : (Kd.slice 67 kZT).M wr w.heap.size (fun z => True ∧ some z ≠ (Value.slice A3 ((l.take k).map (fun r => r.map conOf)).length c3).ownBlock) (q.map conOf) [.slice A6 (q.map conOf).length c6] := ⟨_, rfl, Kd.R_lower (Kd.R_new h6 hown) HB.out.size⟩
     rw [HLn.out] at h3' hM
     have hql : (q.map conOf).length = q.length := List.length_map _
     rw [hql] at hM
     have HR4 := Aside0.mk h3'; have HM := Aside0.mk hM; have HB4 := Aside0.mk (HB.out.trans (HB3.out.mono HB.out.size))
     have hs4 : w.heap.size ≤ wr.heap.size := HB4.out.size
     have HY := Lib.hid HLn.out
     rw [HLn.out, hql]
     clear hql h6 h3 hown h3' hM HO2 HB3 HO HB
     go_wp2_with ((with_reducible refine gate_builtin (b := .append) (xs := #[.tmp 27, .tmp 29]) rfl ?_); at_builtin; refine Kd.R_append (Kd.slice 67 kZT) (w0 := w) w.heap.size rfl (.tmp 27) (.tmp 29) 80 103 _ 24 rfl Tryd.underlying80 infoSZ rfl (by decide) (by decide) (.slice A3 k c3) ((l.take k).map (fun r => r.map conOf)) (q.map conOf) _ (fun _ => True) (fun z => True ∧ some z ≠ (Value.slice A3 k c3).ownBlock) rfl rfl HM.out (fun _ h => h) (fun _ _ => trivial) HR4.out HB4.out hs4 ?aL ?_; (case aL => have := HLn.out; omega); intro v1 w2 ho hb hg hat; have HO5 := Aside0.mk ho; have HB5 := Aside0.mk hb; clear ho hb hg hat)
     go_roundw
     case rel => exact ⟨k + 1, by go_num, by omega, ⟨by rw [HN.out]; exact HO5.out⟩, HB5⟩
     case measure => simp [Go.RowKit.intOf]; omega
  ·
   go_wp2_with fail
   go_ret
   refine ⟨u3, rfl, ?_, HB.out⟩
   have e := HO.out
   rw [List.take_of_length_le (by omega)] at e
   exact e

end Go.Proofs.YtllkoadcpobdaaaDoor.KX
namespace Go.Proofs.YtllkoadcpobdaaaDoor.KX

open Go.RowKit Go.Lib Go.Sort Go.Proofs Go.Proofs.YtllkoadcpobdaaaDoor Go.Proofs.YtllkoadcpobdaaaDoor.Base Go.Proofs.YtllkoadcpobdaaaDoor.L Go.Proofs.YtllkoadcpobdaaaDoor.Bt Go.Proofs.YtllkoadcpobdaaaDoor.Parse Go.Proofs.YtllkoadcpobdaaaDoor.PX

open Go.Proofs.YtllkoadcpobdaaaDoorW.PrintWords Go.Proofs.YtllkoadcpobdaaaDoorW.PrintLast Go.Proofs.YtllkoadcpobdaaaDoorW.PrintMore

attribute [local go_sem] setCell_drewN alloc_drewN

set_option linter.unusedVariables false

def relS (x : Nat × Nat × Nat) : S26 := ⟨(x.1 : Int), (x.2.1 : Int), (x.2.2 : Int), ⟨#[]⟩, ⟨#[]⟩⟩

def blkUp (n a b c : Nat) : List (Nat × Nat × Nat) := (List.range n).filterMap (fun (k : Nat) => blkF ((k + 1 : Nat) : Int) a b c)

theorem blkUp_none {n a b c : Nat} (h : blkF ((n + 1 : Nat) : Int) a b c = none) : blkUp (n + 1) a b c = blkUp n a b c := by
  unfold blkUp
  rw [List.range_succ, List.filterMap_append, List.filterMap_cons_none (by exact h)]
  simp

theorem blkUp_some {n a b c : Nat} {x : Nat × Nat × Nat} (h : blkF ((n + 1 : Nat) : Int) a b c = some x) : blkUp (n + 1) a b c = blkUp n a b c ++ [x] := by
  unfold blkUp
  rw [List.range_succ, List.filterMap_append, List.filterMap_cons_some (by exact h)]
  simp

theorem blkF_lt {k : Int} {a b c : Nat} {x : Nat × Nat × Nat} (ha : a < 18446744073709551616) (hb : b < 18446744073709551616) (hc : c < 18446744073709551616) (h : blkF k a b c = some x) : x.1 < 18446744073709551616 ∧ x.2.1 < 18446744073709551616 ∧ x.2.2 < 18446744073709551616 := by
  unfold blkF at h
  split at h
  · cases h; simp only; omega
  · split at h
    · cases h; simp only; omega
    · split at h
      · cases h; simp only; omega
      · cases h

theorem blkUp_lt {n a b c : Nat} {x : Nat × Nat × Nat} (ha : a < 18446744073709551616) (hb : b < 18446744073709551616) (hc : c < 18446744073709551616) (h : x ∈ blkUp n a b c) : x.1 < 18446744073709551616 ∧ x.2.1 < 18446744073709551616 ∧ x.2.2 < 18446744073709551616 := by
  unfold blkUp at h
  obtain ⟨k, _, hk⟩ := List.mem_filterMap.1 h
  exact blkF_lt ha hb hc hk

theorem blkUp_len (n a b c : Nat) : (blkUp n a b c).length ≤ n := by
  unfold blkUp
  exact Nat.le_trans (List.length_filterMap_le _ _) (by rw [List.length_range]; exact Nat.le_refl _)

theorem At.grown {w w1 : World} {b : Nat} {xs : List Value} (h : At w b xs) {row : Option Nat} (hg : w.grownBy w1 row) (hne : some b ≠ row) : At w1 b xs := by
  have hl := h.lt
  obtain ⟨T, h⟩ := h
  exact ⟨T, (hg.block b hl hne).trans h⟩

theorem infoIV : (Tryd.prog.info? 26).map (fun i => (i.zero, i.size, i.bytes)) = some (some (.agg #[.int .u64 0, .int .u64 0, .int .u64 0, .string ⟨#[]⟩, .string ⟨#[]⟩]), 5, 56) := by kernel_rfl

theorem block_none (a b c : Nat) (p m : ByteArray) (k : Int) (ha : a < 18446744073709551616) (hb : b < 18446744073709551616) (hc : c < 18446744073709551616) (hk : k = 1 ∨ k = 2 ∨ k = 3) (h : blkF k a b c = none) (w : World) :
    Calls Tryd.prog 110 #[.agg #[.int .u64 (a : Int), .int .u64 (b : Int), .int .u64 (c : Int), .string p, .string m], .int .i64 k] w
      fun e w' => e = .returned (.tuple #[.agg #[.int .u64 0, .int .u64 0, .int .u64 0, .string ⟨#[]⟩, .string ⟨#[]⟩], .bool false]) ∧ Below w.heap.size w w' := by
  refine (block_c a b c p m k ha hb hc hk w).mono ?_
  rintro e w' ⟨he, h2⟩
  rw [h] at he
  exact ⟨he, h2⟩

theorem block_some (a b c : Nat) (p m : ByteArray) (k : Int) (ha : a < 18446744073709551616) (hb : b < 18446744073709551616) (hc : c < 18446744073709551616) (hk : k = 1 ∨ k = 2 ∨ k = 3) (x : Nat × Nat × Nat) (h : blkF k a b c = some x) (w : World) :
    Calls Tryd.prog 110 #[.agg #[.int .u64 (a : Int), .int .u64 (b : Int), .int .u64 (c : Int), .string p, .string m], .int .i64 k] w
      fun e w' => e = .returned (.tuple #[.agg #[.int .u64 (x.1 : Int), .int .u64 (x.2.1 : Int), .int .u64 (x.2.2 : Int), .string ⟨#[]⟩, .string ⟨#[]⟩], .bool true]) ∧ Below w.heap.size w w' := by
  refine (block_c a b c p m k ha hb hc hk w).mono ?_
  rintro e w' ⟨he, h2⟩
  rw [h] at he
  exact ⟨he, h2⟩

set_option maxHeartbeats 16000000 in
set_option maxRecDepth 100000 in
theorem blocks_c (a b c : Nat) (p m : ByteArray) (ha : a < 18446744073709551616) (hb : b < 18446744073709551616) (hc : c < 18446744073709551616) (w : World) :
    Calls Tryd.prog 91 #[.agg #[.int .u64 (a : Int), .int .u64 (b : Int), .int .u64 (c : Int), .string p, .string m]] w fun e w' => ∃ v, e = .returned v ∧ k26.R 26 w' w.heap.size (fun k => w.heap.size < k) v ((blkUp 3 a b c).map relS) ∧ Below w.heap.size w w' := by
  have CB := Lib.hid (And.intro ha (And.intro hb hc))
  clear ha hb hc
  go_enter Tryd.func91, Tryd.ntmps91
  go_wp2_with fail
  generalize hW0 : World.alloc _ _ = w0
  have a0 : At w0 w.heap.size [.int .u64 (a : Int), .int .u64 (b : Int), .int .u64 (c : Int), .string p, .string m] := by
    rw [← hW0]
    exact At.new _ _ _ _ rfl
  have b0 : Below w.heap.size w w0 := by
    rw [← hW0]; go_grown
  have HA := Aside0.mk a0; have HB := Aside0.mk b0
  clear a0 b0 hW0
  go_loopw [3, 4] (fun v i w' => ∃ n : Nat, i = .int .i64 ((n + 1 : Nat) : Int) ∧ n ≤ 3 ∧ Aside0 (k26.R 26 w' w.heap.size (fun k => w.heap.size < k) v ((blkUp n a b c).map relS)) ∧ Aside0 (At w' w.heap.size [.int .u64 (a : Int), .int .u64 (b : Int), .int .u64 (c : Int), .string p, .string m]) ∧ Aside0 (Below w.heap.size w w')) (fun _ i _ => 4 - (Go.RowKit.intOf i).toNat)
  case atStart => exact ⟨0, rfl, Nat.zero_le _, ⟨Kd.R_nil _ _ _ _ _⟩, HA, HB⟩
  case round =>
    obtain ⟨n, rfl, hn, HO, HA1, HB1⟩ := hrel
    clear HA HB
    by_cases hlt : n < 3
    · have hle : ((n + 1 : Nat) : Int) ≤ 3 := by omega
      have hd : decide ((n : Int) + 1 ≤ 3) = true := decide_eq_true (by omega)
      have HNn := Lib.hid (@blkUp_none n a b c)
      have HNs := Lib.hid (fun x => @blkUp_some n a b c x)
      obtain ⟨q0, q1, q2, q3, q4⟩ := HA1.out.five
      have HLn := Lib.hid (show ((blkUp n a b c).map relS).length ≤ 3 by rw [List.length_map]; exact Nat.le_trans (blkUp_len n a b c) hn)
      obtain ⟨A6, c6, rfl⟩ := Kd.R_slice HO.out
      generalize hLn : ((blkUp n a b c).map relS).length = ln at *
      cases hq : blkF ((n + 1 : Nat) : Int) a b c with
      | none =>
        have CK := Lib.hid (fun W => block_none a b c p m ((n : Int) + 1) CB.out.1 CB.out.2.1 CB.out.2.2 (by omega) (by rw [← Int.natCast_succ]; exact hq) W)
        have HF := Aside0.mk (HNn.out hq)
        go_wp2_with fail
        refine (CK.out _).mono ?_
        rintro e w1 ⟨rfl, hb⟩
        have HO1 := Aside0.mk (Kd.R_below HO.out hb)
        have HA2 := Aside0.mk (HA1.out.below hb)
        have HB2 := Aside0.mk (HB1.out.trans (hb.mono HB1.out.size))
        clear hb q0 q1 q2 q3 q4 HO HA1 HB1
        go_wp2_with fail
        go_roundw
        case rel => exact ⟨n + 1, rfl, by omega, ⟨by rw [HF.out]; exact Kd.R_below HO1.out (by go_grown)⟩, ⟨HA2.out.below (by go_grown)⟩, ⟨HB2.out.trans ((show Below w1.heap.size w1 _ by go_grown).mono HB2.out.size)⟩⟩
        case measure => simp [Go.RowKit.intOf]; omega
      | some x =>
        have CK := Lib.hid (fun W => block_some a b c p m ((n : Int) + 1) CB.out.1 CB.out.2.1 CB.out.2.2 (by omega) x (by rw [← Int.natCast_succ]; exact hq) W)
        have HF := Aside0.mk (HNs.out x hq)
        obtain ⟨y0, y1, y2⟩ := x
        dsimp only at CK
        go_wp2_with fail
        refine (CK.out _).mono ?_
        rintro e w1 ⟨rfl, hb⟩
        have HO1 := Aside0.mk (Kd.R_below HO.out hb)
        have HA2 := Aside0.mk (HA1.out.below hb)
        have HB2 := Aside0.mk (HB1.out.trans (hb.mono HB1.out.size))
        clear hb q0 q1 q2 q3 q4 HO HA1 HB1
        have hs4 : w.heap.size ≤ w1.heap.size := HB2.out.size
        go_wp2_with ((with_reducible refine gate_builtin (b := .append) (xs := #[.tmp 18, .tmp 20]) rfl ?_); at_builtin; generalize hW3 : World.alloc w1 _ = w3; have hb3 : Below w1.heap.size w1 w3 := (by rw [← hW3]; exact below_alloc (Below.refl _ _) _); have hz4 : w3.heap.size = w1.heap.size + 1 := (by rw [← hW3]; simp); clear hW3; have HB3 := Aside0.mk hb3; have hr3 := Aside0.mk (Kd.R_below HO1.out HB3.out); have ha3 := Aside0.mk (HA2.out.below HB3.out); have hz3 := Aside0.mk (HB2.out.trans (HB3.out.mono HB2.out.size)); have hs5 : w.heap.size ≤ w3.heap.size := hz3.out.size; have hof := hr3.out.1; refine Kd.R_append k26 (w0 := w) w.heap.size rfl (.tmp 18) (.tmp 20) 56 26 _ 56 rfl Tryd.underlying56 infoIV rfl (by decide) (by decide) (.slice A6 ln c6) ((blkUp n a b c).map relS) (relS (y0, y1, y2)) _ (fun k => w.heap.size < k) (fun k => w.heap.size < k ∧ some k ≠ (Value.slice A6 ln c6).ownBlock) rfl (by rw [hz4]; rfl) (k26_mkM _ _ _ (relS (y0, y1, y2))) (fun _ h => h) (fun k hk => by omega) hr3.out hz3.out hs5 ?aL ?_; (case aL => have := HLn.out; omega); intro v1 w2 ho hb hg hat; have HO5 := Aside0.mk ho; have HB5 := Aside0.mk hb; have HA5 := Aside0.mk (At.grown ha3.out hg (fun e => Nat.lt_irrefl _ (hof _ e.symm))); clear ho hb hg hat hof)
        go_roundw
        case rel => exact ⟨n + 1, rfl, by omega, ⟨by rw [HF.out, List.map_append]; exact HO5.out⟩, HA5, HB5⟩
        case measure => simp [Go.RowKit.intOf]; omega
    · have e3 : n = 3 := by omega
      subst e3
      have HR := Aside0.mk HO.out
      clear HO
      go_wp2_with fail
      go_ret
      exact ⟨_, rfl, HR.out, HB1.out⟩

end Go.Proofs.YtllkoadcpobdaaaDoor.KX
namespace Go.Proofs.YtllkoadcpobdaaaDoor.KX

open Go.RowKit Go.Lib Go.Sort Go.Proofs Go.Proofs.YtllkoadcpobdaaaDoor Go.Proofs.YtllkoadcpobdaaaDoor.Base Go.Proofs.YtllkoadcpobdaaaDoor.L Go.Proofs.YtllkoadcpobdaaaDoor.Bt Go.Proofs.YtllkoadcpobdaaaDoor.Parse Go.Proofs.YtllkoadcpobdaaaDoor.PX

open Go.Proofs.YtllkoadcpobdaaaDoorW.PrintWords Go.Proofs.YtllkoadcpobdaaaDoorW.PrintLast Go.Proofs.YtllkoadcpobdaaaDoorW.PrintMore

set_option linter.unusedVariables false

def eqV (x y : S26) : Bool := x.f0 == y.f0 && (x.f1 == y.f1 && (x.f2 == y.f2 && (x.f3.toList == y.f3.toList && (x.f4.toList == y.f4.toList))))

theorem eqSV (d : Nat) (w : World) (x0 y0 : Int) (x1 y1 : Int) (x2 y2 : Int) (x3 y3 : ByteArray) (x4 y4 : ByteArray) :
    (Op.equalIn (d + 2) 26 (.agg #[.int .u64 x0, .int .u64 x1, .int .u64 x2, .string x3, .string x4]) (.agg #[.int .u64 y0, .int .u64 y1, .int .u64 y2, .string y3, .string y4])).run Tryd.prog w = .ok (x0 == y0 && (x1 == y1 && (x2 == y2 && (x3.toList == y3.toList && (x4.toList == y4.toList))))) w := by
  refine eqA_of Tryd.underlying26 (by kernel_rfl) ?_
  refine eqf_cons (by rfl) (by go_simp; rfl) (by go_simp; rfl) (by go_simp) ?_
  refine eqf_cons (by rfl) (by go_simp; rfl) (by go_simp; rfl) (by go_simp) ?_
  refine eqf_cons (by rfl) (by go_simp; rfl) (by go_simp; rfl) (by go_simp) ?_
  refine eqf_cons (by rfl) (by go_simp; rfl) (by go_simp; rfl) (by go_simp) ?_
  exact eqf_last (by rfl) (by go_simp; rfl) (by go_simp; rfl) (by go_simp)

attribute [local go_sem high] eqSV

attribute [local go_sem] setCell_drewN alloc_drewN

def onceStep (l : List S26) (v : S26) : List S26 := if l.any (eqV v) then l else l ++ [v]

def onceL (l more : List S26) : List S26 := more.foldl onceStep l

theorem onceL_snoc (l more : List S26) (v : S26) : onceL l (more ++ [v]) = onceStep (onceL l more) v := by
  unfold onceL; rw [List.foldl_append]; rfl

theorem onceL_len (l more : List S26) : (onceL l more).length ≤ l.length + more.length := by
  unfold onceL
  induction more generalizing l with
  | nil => exact Nat.le_refl _
  | cons v m ih =>
    rw [List.foldl_cons]
    have := ih (onceStep l v)
    have h2 : (onceStep l v).length ≤ l.length + 1 := by
      unfold onceStep
      split
      · omega
      · rw [List.length_append]; exact Nat.le_refl _
    rw [List.length_cons]
    omega

theorem grown_then {a w w' : World} {row row' : Option Nat} (h : a.grownBy w row) (k : w.grownBy w' row') (hr : row' = row ∨ ∃ b, row' = some b ∧ a.heap.size ≤ b) : a.grownBy w' row := by
  refine ⟨k.os.trans h.os, k.tape.trans h.tape, k.output.trans h.output, Nat.le_trans h.size k.size, fun i hi hn => (k.block i (Nat.lt_of_lt_of_le hi h.size) ?_).trans (h.block i hi hn)⟩
  rcases hr with e | ⟨b, e, hb⟩
  · rw [e]; exact hn
  · rw [e]; intro q; cases q; omega

set_option maxHeartbeats 16000000 in
set_option maxRecDepth 100000 in
theorem once_c (l more : List S26) (v0 : Value) (A : Option Addr) (cap base : Nat) (ok : Nat → Prop) (hcap : more.length ≤ cap) (hl : l.length + more.length ≤ 1000000000) (w : World)
  (hO : k26.R 26 w base ok v0 l) (hC : Kd.C k26 w A more.length more) (hne : ∀ ad, A = some ad → some ad.block ≠ v0.ownBlock) (hfr : ∀ k, w.heap.size ≤ k → ok k) (hbase : base ≤ w.heap.size) :
  Calls Tryd.prog 90 #[v0, .slice A more.length cap] w fun e w' => ∃ v, e = .returned v ∧ k26.R 26 w' base ok v (onceL l more) ∧ w.grownBy w' v0.ownBlock ∧ (v.ownBlock = v0.ownBlock ∨ ∃ b, v.ownBlock = some b ∧ w.heap.size ≤ b) := by
 have HC := Aside0.mk hC; have HN := Aside0.mk hne; have HF := Aside0.mk hfr; have HO := Aside0.mk hO; have HL := Aside0.mk hl
 obtain ⟨A0, c0, rfl⟩ := Kd.R_slice hO
 generalize hq0 : (Value.slice A0 l.length c0).ownBlock = row at *
 clear hC hne hfr hO hl
 go_enter Tryd.func90, Tryd.ntmps90
 go_wp2_with fail
 go_loopw [0, 12] (fun v i w' => ∃ k : Nat, i = .int .i64 k ∧ k ≤ more.length ∧ Aside0 (k26.R 26 w' base ok v (onceL l (more.take k))) ∧ Aside0 (w.grownBy w' row) ∧ Aside0 (v.ownBlock = row ∨ ∃ b, v.ownBlock = some b ∧ w.heap.size ≤ b)) (fun _ i _ => more.length - (Go.RowKit.intOf i).toNat)
 case atStart => exact ⟨0, rfl, Nat.zero_le _, HO, ⟨⟨rfl, rfl, rfl, Nat.le_refl _, fun _ _ _ => rfl⟩⟩, ⟨.inl hq0⟩⟩
 case round =>
  obtain ⟨k, rfl, hk, HO1, HG1, HR1⟩ := hrel
  clear HO hq0
  by_cases hlt : k < more.length
  ·
   obtain ⟨ad, e, h0, h1, h2, h3, h4⟩ := at_T26 HC.out (k : Int) (by omega) (by omega)
   cases e
   have hnb : some (ad.add (k * 5)).block ≠ row := by rw [show (ad.add (k * 5)).block = ad.block by unfold Addr.add; split <;> rfl]; exact HN.out ad rfl
   have e3 : rd_T26 more (k : Int) = more[k] := rd_at more z26 k hlt
   rw [e3, Int.toNat_natCast] at h0 h1 h2 h3 h4
   have HS := Lib.hid (show onceL l (more.take (k + 1)) = onceStep (onceL l (more.take k)) more[k] by rw [List.take_succ_eq_append_getElem hlt, onceL_snoc])
   have HLn := Lib.hid (show (onceL l (more.take k)).length ≤ 1000000000 by have := onceL_len l (more.take k); have := HL.out; rw [List.length_take] at *; omega)
   clear e3
   generalize more[k] = x at *
   generalize onceL l (more.take k) = L at *
   replace h0 := cell_grown HG1.out h0 hnb
   replace h1 := cell_grown HG1.out h1 hnb
   replace h2 := cell_grown HG1.out h2 hnb
   replace h3 := cell_grown HG1.out h3 hnb
   replace h4 := cell_grown HG1.out h4 hnb
   obtain ⟨A6, c6, rfl, hc6, hCL⟩ := Kd.R_reads HO1.out
   have HCL := Aside0.mk hCL
   clear hCL hnb
   go_wp2_with fail
   generalize hWo : World.alloc wr _ = wo
   have bo : Below wr.heap.size wr wo := by rw [← hWo]; go_grown
   have xo : At wo wr.heap.size [.int .u64 x.f0, .int .u64 x.f1, .int .u64 x.f2, .string x.f3, .string x.f4] := by
    rw [← hWo]; exact At.new _ _ _ _ rfl
   clear hWo h0 h1 h2 h3 h4
   have HBo := Aside0.mk bo; have HXo := Aside0.mk xo; have HB2 := Aside0.mk (Below.refl wo.heap.size wo)
   clear bo xo
   go_loopw [7, 18] (fun t i w' => ∃ j : Nat, i = .int .i64 j ∧ j ≤ L.length ∧ (∃ P, t = .bool P ∧ Aside0 (P = (L.take j).any (eqV x))) ∧ Aside0 (Below wo.heap.size wo w')) (fun _ i _ => L.length - (Go.RowKit.intOf i).toNat)
   case atStart => exact ⟨0, rfl, Nat.zero_le _, ⟨_, rfl, ⟨rfl⟩⟩, HB2⟩
   case round =>
    obtain ⟨j, rfl, hj, ⟨P, rfl, HP⟩, HB3⟩ := hrel
    clear HB2
    by_cases hjl : j < L.length
    ·
     obtain ⟨ad2, e2, g0, g1, g2, g3, g4⟩ := at_T26 (Kd.C_below HCL.out (HBo.out.trans (HB3.out.mono HBo.out.size))) (j : Int) (by omega) (by omega)
     cases e2
     have e4 : rd_T26 L (j : Int) = L[j] := rd_at L z26 j hjl
     rw [e4, Int.toNat_natCast] at g0 g1 g2 g3 g4
     have HT := Lib.hid (show (L.take (j + 1)).any (eqV x) = ((L.take j).any (eqV x) || eqV x L[j]) by rw [List.take_succ_eq_append_getElem hjl, List.any_append]; simp)
     clear e4
     generalize L[j] = y at *
     have hLl := HLn.out
     go_upto_region 8 with fail
     generalize hWn : World.alloc wr _ = wn
     have bn : Below wr.heap.size wr wn := by rw [← hWn]; go_grown
     have yn : At wn wr.heap.size [.int .u64 y.f0, .int .u64 y.f1, .int .u64 y.f2, .string y.f3, .string y.f4] := by
      rw [← hWn]; exact At.new _ _ _ _ rfl
     have hB4 := HB3.out.trans (bn.mono HB3.out.size)
     obtain ⟨k0, k1, k2, k3, k4⟩ := (HXo.out.below hB4).five
     obtain ⟨l0, l1, l2, l3, l4⟩ := yn.five
     have HB4 := Aside0.mk hB4
     clear hWn bn yn hB4 g0 g1 g2 g3 g4
     cases P with
     | true =>
      go_wp2_with fail
      go_roundw
      case rel => exact ⟨j + 1, by go_num, by omega, ⟨_, rfl, ⟨by rw [HT.out, ← HP.out]; rfl⟩⟩, HB4⟩
      case measure => simp [Go.RowKit.intOf]; omega
     | false =>
      go_wp2_with fail
      go_roundw
      case rel => exact ⟨j + 1, by go_num, by omega, ⟨_, rfl, ⟨by rw [HT.out, ← HP.out]; rfl⟩⟩, HB4⟩
      case measure => simp [Go.RowKit.intOf]; omega
    ·
     have HFl := Lib.hid (show L.take j = L from List.take_of_length_le (by omega))
     have hLl := HLn.out
     have hLm := HL.out
     have HO4 := Aside0.mk (Kd.R_below (Kd.R_below HO1.out HBo.out) HB3.out)
     have HG4 := Aside0.mk (grown_then (grown_then HG1.out (grown_of_below HBo.out row) (.inl rfl)) (grown_of_below HB3.out row) (.inl rfl))
     have hs4 : w.heap.size ≤ wr.heap.size := HG4.out.size
     have HBz := Lib.hid (show base ≤ wr.heap.size by omega)
     have HF4 := Lib.hid (show ∀ k, wr.heap.size ≤ k → ok k from fun k hk => HF.out k (by omega))
     have HKa := Aside0.mk (HXo.out.below HB3.out)
     clear HO1 HG1 HBo HXo HB3 HCL
     cases P with
     | true =>
      have HSt := Lib.hid (show onceStep L x = L by unfold onceStep; rw [if_pos]; rw [← HFl.out]; exact HP.out.symm)
      go_wp2_with fail
      go_roundw
      case rel => exact ⟨k + 1, by go_num, by omega, ⟨by rw [HS.out, HSt.out]; exact HO4.out⟩, HG4, HR1⟩
      case measure => simp [Go.RowKit.intOf]; omega
     | false =>
      have HSt := Lib.hid (show onceStep L x = L ++ [x] by unfold onceStep; rw [if_neg]; rw [← HFl.out, ← HP.out]; decide)
      obtain ⟨k0, k1, k2, k3, k4⟩ := HKa.out.five
      go_wp2_with ((with_reducible refine gate_builtin (b := .append) (xs := #[.tmp 31, .tmp 33]) rfl ?_); at_builtin; refine Kd.R_append k26 (w0 := wr) base rfl (.tmp 31) (.tmp 33) 56 26 _ 56 rfl Tryd.underlying56 infoIV rfl (by decide) (by decide) (.slice A6 L.length c6) L x _ ok (fun k => ok k ∧ some k ≠ (Value.slice A6 L.length c6).ownBlock) rfl rfl (k26_mkM _ _ _ x) (fun _ h => h) HF4.out HO4.out (Below.refl _ _) HBz.out ?aL ?_; (case aL => omega); intro v1 w2 ho hb hg hat; have HO5 := Aside0.mk ho; have HG5 := Aside0.mk (grown_then HG4.out hg HR1.out); have HR5 := Aside0.mk (show v1.ownBlock = row ∨ ∃ b, v1.ownBlock = some b ∧ w.heap.size ≤ b from hat.elim (fun e => HR1.out.elim (fun e' => .inl (e.trans e')) (fun ⟨b, e', hb'⟩ => .inr ⟨b, e.trans e', hb'⟩)) (fun ⟨b, e', hb'⟩ => .inr ⟨b, e', Nat.le_trans hs4 hb'⟩)); clear ho hb hg hat)
      go_roundw
      case rel => exact ⟨k + 1, by go_num, by omega, ⟨by rw [HS.out, HSt.out]; exact HO5.out⟩, HG5, HR5⟩
      case measure => simp [Go.RowKit.intOf]; omega
  ·
   have HFk := Lib.hid (show more.take k = more from List.take_of_length_le (by omega))
   go_wp2_with fail
   go_ret
   exact ⟨_, rfl, by rw [← HFk.out]; exact HO1.out, HG1.out, HR1.out⟩

end Go.Proofs.YtllkoadcpobdaaaDoor.KX
namespace Go.Proofs.YtllkoadcpobdaaaDoor.KX

open Go.RowKit Go.Lib Go.Sort Go.Proofs Go.Proofs.YtllkoadcpobdaaaDoor Go.Proofs.YtllkoadcpobdaaaDoor.Base Go.Proofs.YtllkoadcpobdaaaDoor.L Go.Proofs.YtllkoadcpobdaaaDoor.Bt Go.Proofs.YtllkoadcpobdaaaDoor.Parse Go.Proofs.YtllkoadcpobdaaaDoor.PX

open Go.Proofs.YtllkoadcpobdaaaDoorW.PrintWords Go.Proofs.YtllkoadcpobdaaaDoorW.PrintLast Go.Proofs.YtllkoadcpobdaaaDoorW.PrintMore

attribute [local go_sem] setCell_drewN alloc_drewN

set_option linter.unusedVariables false

abbrev Rel3 := Nat × Nat × Nat

def U64 (x : Rel3) : Prop := x.1 < 18446744073709551616 ∧ x.2.1 < 18446744073709551616 ∧ x.2.2 < 18446744073709551616

def blkX (x : Rel3) : List Rel3 := blkUp 3 x.1 x.2.1 x.2.2

def stepB (l : List S26) (x : Rel3) : List S26 := onceL (onceL l [relS x]) ((blkX x).map relS)

def lowT (t : S24) : Rel3 := (t.f2.toNat, t.f3.toNat, t.f4.toNat)

def stepT (l : List S26) (t : S24) : List S26 := (blkX (lowT t)).foldl stepB (onceL l [relS (lowT t)])

def stepR (l : List S26) (r : List S24) : List S26 := r.foldl stepT l

def pointsM (c : List (List S24)) : List S26 := c.foldl stepR [relS (0, 0, 0)]

theorem blkX_len (x : Rel3) : (blkX x).length ≤ 3 := blkUp_len _ _ _ _

theorem stepB_len (l : List S26) (x : Rel3) : (stepB l x).length ≤ l.length + 4 := by
  unfold stepB
  have h1 := onceL_len (onceL l [relS x]) ((blkX x).map relS)
  have h2 := onceL_len l [relS x]
  have h3 := blkX_len x
  rw [List.length_map] at h1
  simp only [List.length_singleton] at h2
  omega

theorem foldB_len (m : List Rel3) (l : List S26) : (m.foldl stepB l).length ≤ l.length + 4 * m.length := by
  induction m generalizing l with
  | nil => exact Nat.le_refl _
  | cons x m ih =>
    rw [List.foldl_cons, List.length_cons]
    have := ih (stepB l x); have := stepB_len l x
    omega

theorem stepT_len (l : List S26) (t : S24) : (stepT l t).length ≤ l.length + 13 := by
  unfold stepT
  have h1 := foldB_len (blkX (lowT t)) (onceL l [relS (lowT t)])
  have h2 := onceL_len l [relS (lowT t)]
  have h3 := blkX_len (lowT t)
  simp only [List.length_singleton] at h2
  omega

theorem stepR_len (r : List S24) (l : List S26) : (stepR l r).length ≤ l.length + 13 * r.length := by
  unfold stepR
  induction r generalizing l with
  | nil => exact Nat.le_refl _
  | cons x m ih =>
    rw [List.foldl_cons, List.length_cons]
    have := ih (stepT l x); have := stepT_len l x
    omega

theorem foldR_len (c : List (List S24)) (l : List S26) (h : ∀ r ∈ c, r.length ≤ 1000) : (c.foldl stepR l).length ≤ l.length + 13000 * c.length := by
  induction c generalizing l with
  | nil => exact Nat.le_refl _
  | cons x m ih =>
    rw [List.foldl_cons, List.length_cons]
    have h1 := ih (stepR l x) (fun r hr => h r (List.mem_cons_of_mem _ hr)); have h2 := stepR_len x l; have h3 := h x List.mem_cons_self
    omega

theorem C_oneV {w : World} {b : Nat} (x : S26) (h : At w b [.int .u64 x.f0, .int .u64 x.f1, .int .u64 x.f2, .string x.f3, .string x.f4]) : Kd.C k26 w (some ⟨b, 0, none⟩) 1 [x] := by
  refine ⟨rfl, by decide, fun _ => ⟨_, rfl, fun j p hj => ?_⟩⟩
  match j, hj with
  | 0, hj =>
    cases hj
    refine ⟨_, rfl, k26_mk w x, fun i u hi => ?_⟩
    rw [show (⟨b, 0, none⟩ : Addr).add (0 * (k26).sz + i) = ⟨b, i, none⟩ by
      rw [Nat.zero_mul, Nat.zero_add]; unfold Addr.add; split
      · rename_i h; rw [h]
      · rw [Nat.zero_add]]
    exact h.cell i u hi
  | n + 1, hj => simp at hj

/-- A term that Points takes. -/
structure OkP (x : S24) : Prop where
  a : 0 ≤ x.f2 ∧ x.f2 < 18446744073709551616
  b : 0 ≤ x.f3 ∧ x.f3 < 18446744073709551616
  c : 0 ≤ x.f4 ∧ x.f4 < 18446744073709551616

def OnceR (w : World) (base : Nat) (row : Option Nat) (l : List S26) (e : Ending) (w' : World) : Prop := ∃ v, e = .returned v ∧ k26.R 26 w' base (fun k => base ≤ k) v l ∧ w.grownBy w' row ∧ (v.ownBlock = row ∨ ∃ b, v.ownBlock = some b ∧ w.heap.size ≤ b)

theorem once_one (l : List S26) (x : S26) (v0 : Value) (b base : Nat) (hl : l.length + 1 ≤ 1000000000) (w : World)
    (hO : k26.R 26 w base (fun k => base ≤ k) v0 l) (hC : At w b [.int .u64 x.f0, .int .u64 x.f1, .int .u64 x.f2, .string x.f3, .string x.f4]) (hne : some b ≠ v0.ownBlock) (hbase : base ≤ w.heap.size) :
    Calls Tryd.prog 90 #[v0, .slice (some ⟨b, 0, none⟩) 1 1] w (OnceR w base v0.ownBlock (onceL l [x])) :=
  once_c l [x] v0 (some ⟨b, 0, none⟩) 1 base (fun k => base ≤ k) (Nat.le_refl 1) hl w hO (C_oneV x hC) (fun ad e => by cases e; exact hne) (fun k hk => Nat.le_trans hbase hk) hbase

def OnceQ (w0 wn : World) (base : Nat) (row : Option Nat) (bx : Nat) (xs : List Value) (l : List S26) (e : Ending) (w' : World) : Prop := ∃ v, e = .returned v ∧ k26.R 26 w' base (fun k => base ≤ k) v l ∧ Below base w0 w' ∧ At w' bx xs ∧ wn.grownBy w' row ∧ (v.ownBlock = row ∨ ∃ b, v.ownBlock = some b ∧ wn.heap.size ≤ b)

theorem once_s (Q m : List S26) (v0 : Value) (A : Option Addr) (cap base bx : Nat) (xs : List Value) (w0 wn W : World) (hl : Q.length + m.length ≤ 1000000000) (hO : k26.R 26 wn base (fun k => base ≤ k) v0 Q) (hcap : m.length ≤ cap) (hB0 : Below base w0 wn) (hbase : base ≤ wn.heap.size) (hX : At wn bx xs) (hbx : some bx ≠ v0.ownBlock) (hB : Below wn.heap.size wn W)
    (hC : Kd.C k26 W A m.length m) (hne : ∀ ad, A = some ad → some ad.block ≠ v0.ownBlock) :
    Calls Tryd.prog 90 #[v0, .slice A m.length cap] W (OnceQ w0 wn base v0.ownBlock bx xs (onceL Q m)) := by
  have hs := hB.size
  refine (once_c Q m v0 A cap base (fun k => base ≤ k) hcap hl W (Kd.R_below hO hB) hC hne (fun k hk => by omega) (by omega)).mono ?_
  rintro e w' ⟨v, rfl, h1, h2, h3⟩
  refine ⟨v, rfl, h1, (hB0.trans (hB.mono hbase)).grown h2 (by omega) (fun k hk => hO.1 k hk), At.grown (hX.below hB) h2 hbx, grown_then (grown_of_below hB _) h2 (.inl rfl), h3.imp_right (fun ⟨b, e, hb⟩ => ⟨b, e, by omega⟩)⟩

theorem once_q (P : List S26) (x : S26) (v0 : Value) (b base bx : Nat) (xs : List Value) (w0 wn W : World) (hl : P.length + 1 ≤ 1000000000) (hO : k26.R 26 wn base (fun k => base ≤ k) v0 P) (hB0 : Below base w0 wn) (hbase : base ≤ wn.heap.size) (hX : At wn bx xs) (hbx : some bx ≠ v0.ownBlock) (hB : Below wn.heap.size wn W)
    (hx : At W b [.int .u64 x.f0, .int .u64 x.f1, .int .u64 x.f2, .string x.f3, .string x.f4]) (hb : wn.heap.size ≤ b) :
    Calls Tryd.prog 90 #[v0, .slice (some ⟨b, 0, none⟩) 1 1] W (OnceQ w0 wn base v0.ownBlock bx xs (onceL P [x])) := by
  refine once_s P [x] v0 (some ⟨b, 0, none⟩) 1 base bx xs w0 wn W hl hO (Nat.le_refl 1) hB0 hbase hX hbx hB (C_oneV x hx) (fun ad e => ?_)
  cases e
  intro e
  obtain ⟨inner, ho⟩ := Kd.R_own hO
  have := (ho.lt b e.symm).2
  omega

theorem R_oneV (x : S26) (w : World) (base : Nat) (hb : base ≤ w.heap.size) : k26.R 26 (w.alloc (.cells #[.int .u64 x.f0, .int .u64 x.f1, .int .u64 x.f2, .string x.f3, .string x.f4] 26)) base (fun k => base ≤ k) (.slice (some ⟨w.heap.size, 0, none⟩) 1 1) [x] := by
  refine ⟨fun k hk => ?_, _, ⟨rfl, .inr ⟨w.heap.size, 1, _, rfl, hb, heap_alloc_new w _, Nat.le_refl _, by decide, rfl, rfl⟩⟩, ?_⟩
  · have : w.heap.size = k := by simpa [Value.ownBlock] using hk
    subst this
    exact hb
  · exact Reps.snoc (Reps.none _ _) (k26_mkM _ _ _ x) rfl

theorem least_c (x : S24) (w : World) : Calls Tryd.prog 56 #[.agg #[.int .i64 x.f0, .int .i64 x.f1, .int .u64 x.f2, .int .u64 x.f3, .int .u64 x.f4, .string x.f5]] w fun e w' => e = .returned (.agg #[.int .u64 x.f2, .int .u64 x.f3, .int .u64 x.f4, .string x.f5, .string ⟨#[]⟩]) ∧ Below w.heap.size w w' :=
  (spec_Least.calls x.f0 x.f1 x.f2 x.f3 x.f4 x.f5 _ _ _ _ _ w rfl).mono fun _ _ ⟨he, hd⟩ => ⟨he, by first | exact hd | exact hd.below⟩

theorem bare_c (a b c : Int) (p m : ByteArray) (w : World) : Calls Tryd.prog 41 #[.agg #[.int .u64 a, .int .u64 b, .int .u64 c, .string p, .string m]] w fun e w' => e = .returned (.agg #[.int .u64 a, .int .u64 b, .int .u64 c, .string ⟨#[]⟩, .string ⟨#[]⟩]) ∧ Below w.heap.size w w' :=
  (spec_Bare.calls a b c p m _ _ _ _ _ w rfl).mono fun _ _ ⟨he, hd⟩ => ⟨he, by first | exact hd | exact hd.below⟩

set_option maxHeartbeats 16000000 in
set_option maxRecDepth 100000 in
theorem points_c (l : List (List S24)) (A : Option Addr) (cap : Nat) (hcap : l.length ≤ cap) (hl : l.length ≤ 1000) (hr : ∀ r ∈ l, r.length ≤ 1000 ∧ ∀ x ∈ r, OkP x) (w : World) (hC : Kd.C (Kd.slice 24 k24) w A l.length l) :
  Calls Tryd.prog 73 #[.slice A l.length cap] w fun e w' => ∃ v, e = .returned v ∧ k26.R 26 w' w.heap.size (fun k => w.heap.size ≤ k) v (pointsM l) ∧ Below w.heap.size w w' := by
 have HC := Aside0.mk hC; have HR := Aside0.mk hr; have HL := Aside0.mk hcap
 have HB0 := Aside0.mk (Below.refl w.heap.size w)
 clear hC hr hcap
 go_enter Tryd.func73, Tryd.ntmps73
 go_wp2_with fail
 generalize hW0 : World.alloc w _ = w0
 have r0 : k26.R 26 w0 w.heap.size (fun k => w.heap.size ≤ k) (.slice (some ⟨w.heap.size, 0, none⟩) 1 1) [relS (0, 0, 0)] := by
  rw [← hW0]; exact R_oneV (relS (0, 0, 0)) w w.heap.size (Nat.le_refl _)
 have b0 : Below w.heap.size w w0 := by rw [← hW0]; go_grown
 have HR0 := Aside0.mk r0; have HB1 := Aside0.mk b0
 clear r0 b0 hW0 HB0
 go_loopw [3, 15] (fun v i w' => ∃ k : Nat, i = .int .i64 k ∧ k ≤ l.length ∧ Aside0 (k26.R 26 w' w.heap.size (fun k => w.heap.size ≤ k) v ((l.take k).foldl stepR [relS (0, 0, 0)])) ∧ Aside0 (Below w.heap.size w w')) (fun _ i _ => l.length - (Go.RowKit.intOf i).toNat)
 case atStart => exact ⟨0, rfl, Nat.zero_le _, HR0, HB1⟩
 case round =>
  obtain ⟨k, rfl, hk, HO, HB⟩ := hrel
  clear HB1 HR0
  by_cases hlt : k < l.length
  ·
   obtain ⟨ad, A2, c2, e, hx, hl2, hi2⟩ := at_L5 HC.out (k : Int) (by omega) (by omega)
   cases e
   replace hx := (HB.out.cell (World.block_lt_of_cell? w _ hx)).trans hx
   have HI := Aside0.mk hi2
   have HR2 := Aside0.mk (HR.out _ (List.getElem_mem hlt))
   rw [Int.toNat_natCast] at hx
   have HE : Hid (rd_L5 l (k : Int) = l[k]) := Lib.hid (rd_at l [] k hlt)
   have HS := Lib.hid (show (l.take (k + 1)).foldl stepR [relS (0, 0, 0)] = stepR ((l.take k).foldl stepR [relS (0, 0, 0)]) l[k] by rw [List.take_succ_eq_append_getElem hlt, List.foldl_append]; rfl)
   have HLl := Lib.hid (show ((l.take k).foldl stepR [relS (0, 0, 0)]).length ≤ 1 + 13000 * 1000 by
    have := foldR_len (l.take k) [relS (0, 0, 0)] (fun r hr => (HR.out r (List.mem_of_mem_take hr)).1)
    rw [List.length_take, List.length_singleton] at this
    have : 13000 * min k l.length ≤ 13000 * 1000 := Nat.mul_le_mul_left _ (by omega)
    omega)
   rw [← HE.out] at HS HR2
   generalize (l.take k).foldl stepR [relS (0, 0, 0)] = L at *
   clear hi2
   go_wp2_with fail
   clear hx
   generalize hq : rd_L5 l (k : Int) = q at *
   have hq1 : q.length ≤ 1000 := HR2.out.1
   have HK := Lib.hid HR2.out.2
   clear HE HR2 hq
   go_loopw [3, 21] (fun v i w' => ∃ j : Nat, i = .int .i64 j ∧ j ≤ q.length ∧ Aside0 (k26.R 26 w' w.heap.size (fun k => w.heap.size ≤ k) v (stepR L (q.take j))) ∧ Aside0 (Below w.heap.size w w')) (fun _ i _ => q.length - (Go.RowKit.intOf i).toNat)
   case atStart => exact ⟨0, rfl, Nat.zero_le _, HO, HB⟩
   case round =>
    obtain ⟨j, rfl, hj, HO2, HB3⟩ := hrel
    clear HO HB
    by_cases hjl : j < q.length
    ·
     obtain ⟨ad2, e2, h0, h1, h2, h3, h4, h5⟩ := at_T24 HI.out (j : Int) (by omega) (by omega)
     cases e2
     have HG := Lib.hid (HK.out q[j] (List.getElem_mem hjl))
     have HN := Lib.hid (show stepR L (q.take (j + 1)) = stepT (stepR L (q.take j)) q[j] by unfold stepR; rw [List.take_succ_eq_append_getElem hjl, List.foldl_append]; rfl)
     have HLn := Lib.hid (show (stepR L (q.take j)).length ≤ 1 + 13000 * 1000 + 13000 by
      have := stepR_len (q.take j) L
      have := HLl.out
      rw [List.length_take] at *
      omega)
     rw [Int.toNat_natCast] at h0 h1 h2 h3 h4 h5
     have e3 : rd_T24 q (j : Int) = q[j] := rd_at q z24 j hjl
     rw [e3] at h0 h1 h2 h3 h4 h5
     clear e3
     generalize q[j] = x at *
     generalize stepR L (q.take j) = M at *
     obtain ⟨f0, f1, f2, f3, f4, f5⟩ := x
     obtain ⟨a, rfl⟩ := Int.eq_ofNat_of_zero_le HG.out.a.1
     obtain ⟨b, rfl⟩ := Int.eq_ofNat_of_zero_le HG.out.b.1
     obtain ⟨c, rfl⟩ := Int.eq_ofNat_of_zero_le HG.out.c.1
     have HU := Lib.hid (show U64 (a, b, c) from ⟨by have := HG.out.a.2; simp only at this; omega, show b < 18446744073709551616 by have := HG.out.b.2; simp only at this; omega, show c < 18446744073709551616 by have := HG.out.c.2; simp only at this; omega⟩)
     have HN2 := Lib.hid (show stepT M ⟨f0, f1, (a : Int), (b : Int), (c : Int), f5⟩ = (blkX (a, b, c)).foldl stepB (onceL M [relS (a, b, c)]) from rfl)
     rw [HN2.out] at HN
     dsimp only at h0 h1 h2 h3 h4 h5
     clear HG HN2
     replace h0 := (HB3.out.cell (World.block_lt_of_cell? w _ h0)).trans h0
     replace h1 := (HB3.out.cell (World.block_lt_of_cell? w _ h1)).trans h1
     replace h2 := (HB3.out.cell (World.block_lt_of_cell? w _ h2)).trans h2
     replace h3 := (HB3.out.cell (World.block_lt_of_cell? w _ h3)).trans h3
     replace h4 := (HB3.out.cell (World.block_lt_of_cell? w _ h4)).trans h4
     replace h5 := (HB3.out.cell (World.block_lt_of_cell? w _ h5)).trans h5
     have hs3 : w.heap.size ≤ wr.heap.size := HB3.out.size
     have HCl := Lib.hid (fun W => least_c ⟨f0, f1, (a : Int), (b : Int), (c : Int), f5⟩ W)
     have HCb := Lib.hid (fun W => bare_c a b c f5 ⟨#[]⟩ W)
     obtain ⟨A6, c6, rfl⟩ := Kd.R_slice HO2.out
     go_wp2_with fail
     refine (HCl.out _).mono ?_
     rintro e w1 ⟨rfl, hb1⟩
     have hB1 : Below wr.heap.size wr w1 := (show Below wr.heap.size wr _ by go_grown).trans (hb1.mono (by simp))
     have HO3 := Aside0.mk (Kd.R_below HO2.out hB1); have HB4 := Aside0.mk (HB3.out.trans (hB1.mono HB3.out.size))
     have hs4 : w.heap.size ≤ w1.heap.size := HB4.out.size
     clear hb1 hB1 h0 h1 h2 h3 h4 h5 HO2 HB3
     go_wp2_with fail
     refine (HCb.out _).mono ?_
     rintro e w2 ⟨rfl, hb2⟩
     have HO4 := Aside0.mk (Kd.R_below HO3.out hb2); have HB5 := Aside0.mk (HB4.out.trans (hb2.mono HB4.out.size))
     have hs5 : w.heap.size ≤ w2.heap.size := HB5.out.size
     clear hb2 HO3 HB4
     go_wp2_with fail
     have hown : ∀ k, (Value.slice A6 M.length c6).ownBlock = some k → w.heap.size ≤ k ∧ k < w2.heap.size := fun k hk => by
      obtain ⟨inner, ho⟩ := Kd.R_own HO4.out
      exact ho.lt k hk
     generalize hW3 : World.alloc w2 _ = w3
     have b3 : Below w2.heap.size w2 w3 := (by rw [← hW3]; exact below_alloc (Below.refl _ _) _)
     have z3 : w3.heap.size = w2.heap.size + 1 := (by rw [← hW3]; simp)
     have x3 : At w3 w2.heap.size [.int .u64 (a : Int), .int .u64 (b : Int), .int .u64 (c : Int), .string ⟨#[]⟩, .string ⟨#[]⟩] := by
      rw [← hW3]; exact At.new _ _ _ _ rfl
     generalize hW4 : World.alloc w3 _ = w4
     have b4 : Below w3.heap.size w3 w4 := (by rw [← hW4]; exact below_alloc (Below.refl _ _) _)
     have x4 : At w4 (w2.heap.size + 1) [.int .u64 (a : Int), .int .u64 (b : Int), .int .u64 (c : Int), .string ⟨#[]⟩, .string ⟨#[]⟩] := by
      rw [← hW4]; exact At.new _ _ _ _ z3.symm
     have y4 := x3.below b4
     have B4 := b3.trans (b4.mono b3.size)
     have O4 := Kd.R_below HO4.out B4
     have HBw := HB5.out.trans (B4.mono HB5.out.size)
     have s4 : w2.heap.size + 1 ≤ w4.heap.size := by have := b4.size; omega
     clear hW3 hW4 b3 b4 x3
     have HCo := Aside0.mk (once_one M (relS (a, b, c)) (.slice A6 M.length c6) (w2.heap.size + 1) w.heap.size (by have := HLn.out; omega) w4 O4 x4 (fun e => by have := (hown _ e.symm).2; omega) HBw.size)
     refine HCo.out.mono ?_
     rintro e w5 ⟨v5, rfl, hO5, hG5, hR5⟩
     have HO5 := Aside0.mk hO5
     have HB6 := Aside0.mk (HBw.grown hG5 HBw.size (fun k hk => (hown k hk).1))
     have HX5 := Aside0.mk (At.grown y4 hG5 (fun e => Nat.lt_irrefl _ (hown _ e.symm).2))
     have hs6 : w.heap.size ≤ w5.heap.size := HB6.out.size
     have HL5 := Lib.hid (show (onceL M [relS (a, b, c)]).length ≤ 1 + 13000 * 1000 + 13000 + 1 by have := onceL_len M [relS (a, b, c)]; have := HLn.out; simp only [List.length_singleton] at *; omega)
     clear hO5 hG5 hR5 HCo HBw O4 B4 y4 x4 s4 z3 hown HO4 HB5 hs4 hs5
     generalize onceL M [relS (a, b, c)] = N at *
     obtain ⟨k0, k1, k2, k3, k4⟩ := HX5.out.five
     have HCk := Lib.hid (fun W => blocks_c a b c ⟨#[]⟩ ⟨#[]⟩ HU.out.1 HU.out.2.1 HU.out.2.2 W)
     obtain ⟨A7, c7, rfl⟩ := Kd.R_slice HO5.out
     go_wp2_with fail
     refine (HCk.out _).mono ?_
     rintro e w6 ⟨v6, rfl, hO6, hb6⟩
     have hown : ∀ k, (Value.slice A7 N.length c7).ownBlock = some k → w.heap.size ≤ k ∧ k < w5.heap.size := fun k hk => by
      obtain ⟨inner, ho⟩ := Kd.R_own HO5.out
      exact ho.lt k hk
     have HO6 := Aside0.mk (Kd.R_below HO5.out hb6)
     have HB7 := Aside0.mk (HB6.out.trans (hb6.mono HB6.out.size))
     have hs7 : w.heap.size ≤ w6.heap.size := HB7.out.size
     have hfr := hO6.1
     obtain ⟨A8, c8, rfl, hc8, hC8⟩ := Kd.R_reads hO6
     have HC8 := Aside0.mk hC8
     have HN8 := Lib.hid (show ∀ ad, A8 = some ad → some ad.block ≠ (Value.slice A7 N.length c7).ownBlock from fun ad e e2 => by
      have h1 := hfr ad.block (by rw [e]; rfl)
      have h2 := (hown _ e2.symm).2
      omega)
     have HN9 := Lib.hid (show ∀ k, (Value.slice A7 N.length c7).ownBlock = some k → w.heap.size ≤ k from fun k hk => (hown k hk).1)
     have HL8 : ((blkUp 3 a b c).map relS).length = (blkX (a, b, c)).length := List.length_map _
     rw [HL8] at HC8 hc8
     rw [HL8]
     clear hb6 hO6 hC8 hfr hown HO5 HB6 HX5 k0 k1 k2 k3 k4 HL8
     go_wp2_with fail
     have hz3 := (blkX_len (a, b, c))
     have HBU := Lib.hid (show ∀ y ∈ blkX (a, b, c), U64 y from fun y hy => blkUp_lt HU.out.1 HU.out.2.1 HU.out.2.2 hy)
     generalize hbl : blkX (a, b, c) = bl at *
     replace HC8 := Aside0.mk (show Kd.C k26 w6 A8 bl.length (bl.map relS) from by rw [← hbl]; rw [hbl]; rw [← hbl] at *; exact HC8.out)
     generalize hrow : (Value.slice A7 N.length c7).ownBlock = row at *
     go_loopw [3, 35] (fun v i w' => ∃ m : Nat, i = .int .i64 m ∧ m ≤ bl.length ∧ Aside0 (k26.R 26 w' w.heap.size (fun k => w.heap.size ≤ k) v ((bl.take m).foldl stepB N)) ∧ Aside0 (w6.grownBy w' row) ∧ Aside0 (v.ownBlock = row ∨ ∃ b, v.ownBlock = some b ∧ w6.heap.size ≤ b) ∧ Aside0 (Below w.heap.size w w')) (fun _ i _ => bl.length - (Go.RowKit.intOf i).toNat)
     case atStart => exact ⟨0, rfl, Nat.zero_le _, HO6, ⟨⟨rfl, rfl, rfl, Nat.le_refl _, fun _ _ _ => rfl⟩⟩, ⟨.inl hrow⟩, HB7⟩
     case round =>
      obtain ⟨m, rfl, hm, HO7, HG7, HR7, HB8⟩ := hrel
      clear HO6 HB7 hrow
      by_cases hml : m < bl.length
      ·
       obtain ⟨ad3, e3, g0, g1, g2, g3, g4⟩ := at_T26 HC8.out (m : Int) (by omega) (by omega)
       cases e3
       have hnb : some (ad3.add (m * 5)).block ≠ row := by rw [show (ad3.add (m * 5)).block = ad3.block by unfold Addr.add; split <;> rfl]; exact HN8.out ad3 rfl
       have e4 : rd_T26 (bl.map relS) (m : Int) = relS bl[m] := by
        have h := rd_at (bl.map relS) z26 m (by rw [List.length_map]; exact hml)
        rw [List.getElem_map] at h
        exact h
       rw [e4, Int.toNat_natCast] at g0 g1 g2 g3 g4
       clear e4
       replace g0 := cell_grown HG7.out g0 hnb
       replace g1 := cell_grown HG7.out g1 hnb
       replace g2 := cell_grown HG7.out g2 hnb
       replace g3 := cell_grown HG7.out g3 hnb
       replace g4 := cell_grown HG7.out g4 hnb
       have HS9 := Lib.hid (show (bl.take (m + 1)).foldl stepB N = stepB ((bl.take m).foldl stepB N) bl[m] by rw [List.take_succ_eq_append_getElem hml, List.foldl_append]; rfl)
       have HL9 := Lib.hid (show ((bl.take m).foldl stepB N).length ≤ 1 + 13000 * 1000 + 13000 + 1 + 12 by
        have h1 := foldB_len (bl.take m) N
        have h2 := HL5.out
        rw [List.length_take] at h1
        have h3 : 4 * min m bl.length ≤ 12 := by omega
        omega)
       have HU9 := Lib.hid (HBU.out bl[m] (List.getElem_mem hml))
       generalize bl[m] = y at *
       generalize (bl.take m).foldl stepB N = P at *
       obtain ⟨a9, b9, d9⟩ := y
       have hq0 : (relS (a9, b9, d9)).f0 = (a9 : Int) := rfl
       have hq1' : (relS (a9, b9, d9)).f1 = (b9 : Int) := rfl
       have hq2 : (relS (a9, b9, d9)).f2 = (d9 : Int) := rfl
       have hq3 : (relS (a9, b9, d9)).f3 = ⟨#[]⟩ := rfl
       have hq4 : (relS (a9, b9, d9)).f4 = ⟨#[]⟩ := rfl
       rw [hq0] at g0; rw [hq1'] at g1; rw [hq2] at g2; rw [hq3] at g3; rw [hq4] at g4
       clear hq0 hq1' hq2 hq3 hq4 hnb
       obtain ⟨A9, c9, rfl⟩ := Kd.R_slice HO7.out
       go_upto_region 13 with fail
       have hownP : ∀ k, (Value.slice A9 P.length c9).ownBlock = some k → w.heap.size ≤ k ∧ k < wr.heap.size := fun k hk => by
        obtain ⟨inner, ho⟩ := Kd.R_own HO7.out
        exact ho.lt k hk
       generalize hWn : World.alloc wr _ = wn
       have bn : Below wr.heap.size wr wn := (by rw [← hWn]; exact below_alloc (Below.refl _ _) _)
       have xn : At wn wr.heap.size [.int .u64 (a9 : Int), .int .u64 (b9 : Int), .int .u64 (d9 : Int), .string ⟨#[]⟩, .string ⟨#[]⟩] := by
        rw [← hWn]; exact At.new _ _ _ _ rfl
       have HXn := Aside0.mk xn
       have HGn := Aside0.mk (grown_then HG7.out (grown_of_below bn row) (.inl rfl))
       have On := Kd.R_below HO7.out bn
       have Bn := HB8.out.trans (bn.mono HB8.out.size)
       have hbxn : some wr.heap.size ≠ (Value.slice A9 P.length c9).ownBlock := fun e => Nat.lt_irrefl _ (hownP _ e.symm).2
       have HO1 := Lib.hid (fun W b h1 h2 h3 => once_q P (relS (a9, b9, d9)) (.slice A9 P.length c9) b w.heap.size wr.heap.size _ w wn W (by have := HL9.out; omega) On Bn Bn.size xn hbxn h1 h2 h3)
       have HOk := Lib.hid (fun W => blocks_c a9 b9 d9 ⟨#[]⟩ ⟨#[]⟩ HU9.out.1 HU9.out.2.1 HU9.out.2.2 W)
       have HBS := Aside0.mk (Below.refl wn.heap.size wn)
       have HLq := Lib.hid (show (onceL P [relS (a9, b9, d9)]).length ≤ 1 + 13000 * 1000 + 13000 + 1 + 13 by have := onceL_len P [relS (a9, b9, d9)]; have := HL9.out; simp only [List.length_singleton] at *; omega)
       have hzn : wr.heap.size ≤ wn.heap.size := bn.size
       have HPn := Lib.hid hbxn
       have HRp := HR7
       have HStp := Lib.hid (show stepB P (a9, b9, d9) = onceL (onceL P [relS (a9, b9, d9)]) ((blkUp 3 a9 b9 d9).map relS) from rfl)
       have HMl := Lib.hid (show ((blkUp 3 a9 b9 d9).map relS).length ≤ 3 by rw [List.length_map]; exact blkUp_len _ _ _ _)
       clear hWn bn xn On Bn hbxn hownP g0 g1 g2 g3 g4 HO7 HG7 HR7 HB8
       generalize onceL P [relS (a9, b9, d9)] = Q at *
       generalize (Value.slice A9 P.length c9).ownBlock = rowP at *
       generalize (blkUp 3 a9 b9 d9).map relS = bs at *
       go_region_held3 (fun W' => W'.cell? ⟨wr.heap.size, 0, none⟩ = some (.int .u64 (a9 : Int)) ∧ W'.cell? ⟨wr.heap.size, 1, none⟩ = some (.int .u64 (b9 : Int)) ∧ W'.cell? ⟨wr.heap.size, 2, none⟩ = some (.int .u64 (d9 : Int)) ∧ W'.cell? ⟨wr.heap.size, 3, none⟩ = some (.string ⟨#[]⟩) ∧ W'.cell? ⟨wr.heap.size, 4, none⟩ = some (.string ⟨#[]⟩))
        (first | (with_reducible exact HX7.out.five) | (with_reducible exact HX6.out.five) | (with_reducible exact HX5.out.five) | exact HX7.out.five | exact HX6.out.five | exact HX5.out.five | exact (HXn.out.below (by repeat (first | (with_reducible first | exact HBS.out | apply below_alloc | apply pw_below_drewN | apply below_drew1) | exact HBS.out))).five) (first
        | (go_at_call 90; (with_reducible refine (HO1.out _ _ ?c1 ?c2 ?c3).mono ?_); (case c1 => exact (by repeat (first | (with_reducible first | exact HBS.out | apply below_alloc | apply pw_below_drewN | apply below_drew1) | exact HBS.out))); (case c2 => (first | exact At.new _ _ _ _ rfl | exact (At.new _ _ _ _ rfl).drew)); (case c3 => exact Nat.le_refl _); rintro e w5 ⟨v5, rfl, hO5, hB5, hX5, hG5, hR5⟩; have HO5 := Aside0.mk hO5; have HB5 := Aside0.mk hB5; have HX5 := Aside0.mk hX5; have HG5 := Aside0.mk hG5; have HR5 := Aside0.mk hR5; have HBS5 := Aside0.mk (Below.refl w5.heap.size w5); clear hO5 hB5 hX5 hG5 hR5)
        | (go_at_call 91; (with_reducible refine (HOk.out _).mono ?_); rintro e w6 ⟨v6, rfl, hO6, hb6⟩; have hW := (show Below w5.heap.size w5 _ from (by repeat (first | (with_reducible first | exact HBS5.out | apply below_alloc | apply pw_below_drewN | apply below_drew1) | exact HBS5.out))); have hz5 := hW.size; have hfr := hO6.1; have hb5 := below_step hW hb6; obtain ⟨A10, c10, rfl, hc10, hC10⟩ := Kd.R_reads hO6; have HO6 := Aside0.mk (Kd.R_below HO5.out hb5); have HB6 := Aside0.mk (HB5.out.trans (hb5.mono HB5.out.size)); have HX6 := Aside0.mk (HX5.out.below hb5); have HG6 := Aside0.mk (grown_then HG5.out (grown_of_below hb5 rowP) (.inl rfl)); have HBS6 := Aside0.mk (Below.refl w6.heap.size w6); have HC6 := Aside0.mk hC10; have HCc := Lib.hid hc10; have HN6 := Lib.hid (show ∀ ad, A10 = some ad → some ad.block ≠ v5.ownBlock from fun ad e e2 => by (have h1 := hfr ad.block (by rw [e]; rfl); obtain ⟨inner, ho⟩ := Kd.R_own HO5.out; have h2 := (ho.lt _ e2.symm).2; omega)); have HP6 := Lib.hid (show some wr.heap.size ≠ v5.ownBlock from fun e => HR5.out.elim (fun e2 => HPn.out (e.trans e2)) (fun ⟨b, e2, hb⟩ => by (rw [e2] at e; cases e; have := HXn.out.lt; omega))); clear hW hz5 hfr hb5 hO6 hb6 hc10 hC10)
        | (go_at_call 90; (with_reducible refine (once_s Q _ v5 A10 c10 w.heap.size wr.heap.size _ w w6 _ ?d1 HO6.out HCc.out HB6.out HB6.out.size HX6.out HP6.out ?d2 ?d3 HN6.out).mono ?_); (case d1 => have := HLq.out; have := HMl.out; omega); (case d2 => exact (by repeat (first | (with_reducible first | exact HBS6.out | apply below_alloc | apply pw_below_drewN | apply below_drew1) | exact HBS6.out))); (case d3 => exact Kd.C_below HC6.out (by repeat (first | (with_reducible first | exact HBS6.out | apply below_alloc | apply pw_below_drewN | apply below_drew1) | exact HBS6.out))); rintro e w7 ⟨v7, rfl, hO7, hB7, hX7, hG7, hR7⟩; have HO7 := Aside0.mk hO7; have HB7 := Aside0.mk hB7; have HX7 := Aside0.mk hX7; have HG7 := Aside0.mk hG7; have HR7 := Aside0.mk hR7; clear hO7 hB7 hX7 hG7 hR7))
       have HGz := Aside0.mk (grown_then HGn.out (grown_then HG6.out HG7.out HR5.out) HRp.out)
       have HRz := Aside0.mk (show v7.ownBlock = row ∨ ∃ b, v7.ownBlock = some b ∧ _ from HR7.out.elim (fun e => HR5.out.elim (fun e' => HRp.out.elim (fun e2 => .inl (e.trans (e'.trans e2))) (fun ⟨b, e2, hb⟩ => .inr ⟨b, e.trans (e'.trans e2), hb⟩)) (fun ⟨b, e', hb⟩ => .inr ⟨b, e.trans e', Nat.le_trans HGn.out.size hb⟩)) (fun ⟨b, e', hb⟩ => .inr ⟨b, e', Nat.le_trans HGn.out.size (Nat.le_trans HG6.out.size hb)⟩))
       clear HGn HG6 HG7 HR5 HR7 HX7 HX6 HX5
       go_wp2_with fail
       go_roundw
       case rel => exact ⟨m + 1, by go_num, by omega, ⟨by rw [HS9.out, HStp.out]; exact HO7.out⟩, HGz, HRz, HB7⟩
       case measure => simp [Go.RowKit.intOf]; omega
      ·
       have HFm := Lib.hid (show bl.take m = bl from List.take_of_length_le (by omega))
       have HOz := Aside0.mk (show k26.R 26 wr w.heap.size (fun k => w.heap.size ≤ k) _ (bl.foldl stepB N) by have := HO7.out; rw [HFm.out] at this; exact this)
       clear HO7
       go_wp2_with fail
       go_roundw
       case rel => exact ⟨j + 1, by go_num, by omega, ⟨by rw [HN.out]; exact HOz.out⟩, HB8⟩
       case measure => simp [Go.RowKit.intOf]; omega
    ·
     have HFj := Lib.hid (show q.take j = q from List.take_of_length_le (by omega))
     have HOz := Aside0.mk (show k26.R 26 wr w.heap.size (fun k => w.heap.size ≤ k) _ (stepR L q) by have := HO2.out; rw [HFj.out] at this; exact this)
     clear HO2
     go_wp2_with fail
     go_roundw
     case rel => exact ⟨k + 1, by go_num, by omega, ⟨by rw [HS.out]; exact HOz.out⟩, HB3⟩
     case measure => simp [Go.RowKit.intOf]; omega
  ·
   have HFk := Lib.hid (show l.take k = l from List.take_of_length_le (by omega))
   have HOz := Aside0.mk (show k26.R 26 wr w.heap.size (fun k => w.heap.size ≤ k) _ (pointsM l) by have := HO.out; rw [HFk.out] at this; exact this)
   clear HO
   go_wp2_with fail
   go_ret
   exact ⟨_, rfl, HOz.out, HB.out⟩

end Go.Proofs.YtllkoadcpobdaaaDoor.KX
set_option linter.unusedVariables false

namespace Go.Proofs.YtllkoadcpobdaaaDoor.KX

open Go.RowKit Go.Lib Go.Sort Go.Proofs Go.Proofs.YtllkoadcpobdaaaDoor Go.Proofs.YtllkoadcpobdaaaDoor.Base Go.Proofs.YtllkoadcpobdaaaDoor.L Go.Proofs.YtllkoadcpobdaaaDoor.Bt Go.Proofs.YtllkoadcpobdaaaDoor.Parse Go.Proofs.YtllkoadcpobdaaaDoor.PX

open Go.Proofs.YtllkoadcpobdaaaDoorW.PrintWords Go.Proofs.YtllkoadcpobdaaaDoorW.PrintLast Go.Proofs.YtllkoadcpobdaaaDoorW.PrintMore

attribute [local go_sem] setCell_drewN alloc_drewN

def conB (v : Ver) (pre : Bool) (c : Con) : Bool := termB c.os v c.n c.mD c.d c.pD pre

def rowB (v : Ver) (pre : Bool) (cs : List Con) : Bool := cs.all (conB v pre)

/-- What Check answers: one list holds, which may let prereleases in. -/
def checkB (v : Ver) (inc : Bool) : List (List Con × Bool) → Bool
  | [] => false
  | (r, p) :: t => rowB v (inc || p) r || checkB v inc t

structure OkCon (c : Con) : Prop where
  os : c.os ∈ opsL
  pre : c.n.pre.size ≤ 2147483647

/-- A constraint in block g; its version does not lie in block bv. -/
def ConAt (w : World) (bv g : Nat) (c : Con) : Prop := ∃ bn og, At w g (ccells bn og c.os c.mD c.d c.pD) ∧ At w bn (vc c.n) ∧ bv ≠ bn

theorem ConAt.below {w w' : World} {bv g : Nat} {c : Con} (h : ConAt w bv g c) (hb : Below w.heap.size w w') : ConAt w' bv g c := by
  obtain ⟨bn, og, h1, h2, h3⟩ := h
  exact ⟨bn, og, h1.below hb, h2.below hb, h3⟩

theorem cell_below {w w' : World} {a : Addr} {x : Value} (h : w.cell? a = some x) (hb : Below w.heap.size w w') : w'.cell? a = some x :=
  (hb.cell (World.block_lt_of_cell? w _ h)).trans h

/-- A row of pointers to constraints at b, o. -/
def RowAt (w : World) (bv : Nat) (ad : Addr) (cs : List Con) : Prop := ∀ i c, cs[i]? = some c → ∃ g, w.cell? (ad.add i) = some (.pointer (some ⟨g, 0, none⟩)) ∧ ConAt w bv g c

theorem RowAt.below {w w' : World} {bv : Nat} {ad : Addr} {cs : List Con} (h : RowAt w bv ad cs) (hb : Below w.heap.size w w') : RowAt w' bv ad cs := by
  intro i c hi
  obtain ⟨g, h1, h2⟩ := h i c hi
  exact ⟨g, cell_below h1 hb, h2.below hb⟩

/-- Rows of constraints at b, o. -/
def RowsAt (w : World) (bv : Nat) (ad : Addr) (rows : List (List Con)) : Prop := ∀ i r, rows[i]? = some r → ∃ ad2 cp, w.cell? (ad.add i) = some (.slice (some ad2) r.length cp) ∧ r.length ≤ cp ∧ r.length ≤ 1000000000 ∧ RowAt w bv ad2 r

theorem RowsAt.below {w w' : World} {bv : Nat} {ad : Addr} {rows : List (List Con)} (h : RowsAt w bv ad rows) (hb : Below w.heap.size w w') : RowsAt w' bv ad rows := by
  intro i r hi
  obtain ⟨ad2, cp, h1, h2, h3, h4⟩ := h i r hi
  exact ⟨ad2, cp, cell_below h1 hb, h2, h3, h4.below hb⟩

def BoolsAt (w : World) (ad : Addr) (bs : List Bool) : Prop := ∀ i p, bs[i]? = some p → w.cell? (ad.add i) = some (.bool p)

theorem BoolsAt.below {w w' : World} {ad : Addr} {bs : List Bool} (h : BoolsAt w ad bs) (hb : Below w.heap.size w w') : BoolsAt w' ad bs := fun i p hi => cell_below (h i p hi) hb

theorem checkB_drop (v : Ver) (inc : Bool) (rs : List (List Con)) (bs : List Bool) (k : Nat) (r : List Con) (p : Bool) (h1 : rs[k]? = some r) (h2 : bs[k]? = some p) :
    checkB v inc ((rs.drop k).zip (bs.drop k)) = (rowB v (inc || p) r || checkB v inc ((rs.drop (k + 1)).zip (bs.drop (k + 1)))) := by
  obtain ⟨l1, e1⟩ := List.getElem?_eq_some_iff.1 h1
  obtain ⟨l2, e2⟩ := List.getElem?_eq_some_iff.1 h2
  rw [List.drop_eq_getElem_cons l1, List.drop_eq_getElem_cons l2, List.zip_cons_cons, checkB, e1, e2]

theorem checkB_end (v : Ver) (inc : Bool) (rs : List (List Con)) (bs : List Bool) (k : Nat) (h : rs.length ≤ k) : checkB v inc ((rs.drop k).zip (bs.drop k)) = false := by
  rw [List.drop_of_length_le h, List.zip_nil_left, checkB]

theorem rowB_drop (v : Ver) (pre : Bool) (r : List Con) (k : Nat) (c : Con) (h1 : r[k]? = some c) : rowB v pre (r.drop k) = (conB v pre c && rowB v pre (r.drop (k + 1))) := by
  obtain ⟨l1, e1⟩ := List.getElem?_eq_some_iff.1 h1
  rw [List.drop_eq_getElem_cons l1, rowB, List.all_cons, e1]; rfl

set_option maxHeartbeats 8000000 in
set_option maxRecDepth 100000 in
theorem check_true (v : Ver) (bv : Nat) (rs : List (List Con)) (bs : List Bool) (ad ad' : Addr) (cp cp' : Nat) (hl : rs.length ≤ 1000000000) (hcp : rs.length ≤ cp) (sp : v.pre.size ≤ 2147483647) (hok : ∀ r ∈ rs, ∀ c ∈ r, OkCon c) (hlen : bs.length = rs.length) (w : World) (hV : At w bv (vc v)) (hR : RowsAt w bv ad rs) (hB : BoolsAt w ad' bs) (hS : Std w) :
  Calls Tryd.prog 70 #[.agg #[.slice (some ad) rs.length cp, .slice (some ad') bs.length cp', .bool true], .pointer (some ⟨bv, 0, none⟩)] w
   (Ret1 w (checkB v true (rs.zip bs))) := by
 have HA0 := Aside0.mk (show checkB v true ((rs.drop 0).zip (bs.drop 0)) = checkB v true (rs.zip bs) by rw [List.drop_zero, List.drop_zero])
 have HK := Lib.hid (fun (W : World) (c : Con) (bc bn : Nat) (og : ByteArray) (hc : OkCon c) (hne : bv ≠ bn) (h1 : At W bv (vc v)) (h2 : At W bc (ccells bn og c.os c.mD c.d c.pD)) (h3 : At W bn (vc c.n)) (h4 : Std W) => hCheck v c.n og c.os bv bc bn c.mD c.d c.pD true sp hc.pre hne hc.os W h1 h2 h3 h4)
 generalize checkB v true (rs.zip bs) = V at *
 have HV := Aside0.mk hV; have HR := Aside0.mk hR; have HS := Aside0.mk hS; have HO := Aside0.mk hok
 have HL := Lib.hid hlen
 clear hV hR hB hS hok sp hlen
 go_enter Tryd.func70, Tryd.ntmps70
 go_wp2_with fail
 generalize hW0 : World.alloc w _ = w0
 have x0 : At w0 w.heap.size [.slice (some ad) rs.length cp, .slice (some ad') bs.length cp', .bool true] := by
  rw [← hW0]; exact At.new _ _ _ _ rfl
 have b0 : Below w.heap.size w w0 := by
  rw [← hW0]; go_grown
 have HX0 := Aside0.mk x0; have HB0 := Aside0.mk b0
 have HV0 := Aside0.mk (HV.out.below b0); have HR0 := Aside0.mk (HR.out.below b0); have HS0 := Aside0.mk (HS.out.below b0)
 clear x0 b0 hW0 HV HR HS
 obtain ⟨a0, a1, a2⟩ := HX0.out.three
 go_wp2_with fail
 clear a0 a1 a2
 go_loopw [15] (fun i w' => ∃ k : Nat, i = .int .i64 k ∧ k ≤ rs.length ∧ Aside0 (checkB v true ((rs.drop k).zip (bs.drop k)) = V) ∧ Aside0 (At w' w.heap.size [.slice (some ad) rs.length cp, .slice (some ad') bs.length cp', .bool true]) ∧ Aside0 (At w' bv (vc v)) ∧ Aside0 (RowsAt w' bv ad rs) ∧ Aside0 (Std w') ∧ Aside0 (Below w.heap.size w w')) (fun i _ => rs.length - (Go.RowKit.intOf i).toNat)
 case atStart => exact ⟨0, rfl, Nat.zero_le _, HA0, HX0, HV0, HR0, HS0, HB0⟩
 case round =>
  obtain ⟨k, rfl, hk, HA, HX, HV, HR, HS, HB⟩ := hrel
  clear HX0 HV0 HR0 HS0 HB0 HA0
  by_cases hlt : k < rs.length
  ·
   obtain ⟨r, hr⟩ : ∃ r, rs[k]? = some r := ⟨_, List.getElem?_eq_getElem hlt⟩
   obtain ⟨p, hp⟩ : ∃ p, bs[k]? = some p := ⟨_, List.getElem?_eq_getElem (by rw [HL.out]; exact hlt)⟩
   obtain ⟨ad2, c2, q1, q2, q3, q4⟩ := HR.out k r hr
   have HQ := Aside0.mk q4
   have HM := Lib.hid (fun c hc => HO.out r (List.mem_of_getElem? hr) c hc)
   have HE := Lib.hid (show checkB v true ((rs.drop k).zip (bs.drop k)) = (rowB v true r || checkB v true ((rs.drop (k + 1)).zip (bs.drop (k + 1)))) from checkB_drop v true rs bs k r p hr hp)
   clear hr hp q4
   go_wp2_with fail
   clear q1
   have HD : Aside0 (rowB v true (r.drop 0) = rowB v true r) := ⟨by rw [List.drop_zero]⟩
   generalize rowB v true r = J at *
   obtain ⟨wo, rfl⟩ : ∃ wo : World, wo = wr := ⟨_, rfl⟩
   go_loopw [7, 22] (fun t i w' => ∃ j : Nat, i = .int .i64 j ∧ t = .bool true ∧ j ≤ r.length ∧ Aside0 (rowB v true (r.drop j) = J) ∧ Aside0 (At w' w.heap.size [.slice (some ad) rs.length cp, .slice (some ad') bs.length cp', .bool true]) ∧ Aside0 (At w' bv (vc v)) ∧ Aside0 (RowsAt w' bv ad rs) ∧ Aside0 (RowAt w' bv ad2 r) ∧ Aside0 (Std w') ∧ Aside0 (Below w.heap.size w w')) (fun _ i _ => r.length - (Go.RowKit.intOf i).toNat)
   case atStart => exact ⟨0, rfl, rfl, Nat.zero_le _, HD, HX, HV, HR, HQ, HS, HB⟩
   case round =>
    obtain ⟨j, rfl, rfl, hj, HD2, HX2, HV2, HR2, HQ2, HS2, HB2⟩ := hrel
    clear HX HV HR HQ HS HB HD
    by_cases hjl : j < r.length
    ·
     obtain ⟨c, hc⟩ : ∃ c, r[j]? = some c := ⟨_, List.getElem?_eq_getElem hjl⟩
     obtain ⟨g, g1, bn, og, g2, g3, g4⟩ := HQ2.out j c hc
     have HF := Lib.hid (rowB_drop v true r j c hc)
     have HC := Lib.hid (HK.out wr c g bn og (HM.out c (List.mem_of_getElem? hc)) g4 HV2.out g2 g3 HS2.out)
     obtain ⟨a0, a1, a2⟩ := HX2.out.three
     clear hc g2 g3 g4
     have HT : Hid (conB v true c = termB c.os v c.n c.mD c.d c.pD true) := Lib.hid rfl
     cases ht : termB c.os v c.n c.mD c.d c.pD true with
     | true =>
      rw [ht] at HC HT
      have HG : Hid (rowB v true (r.drop (j + 1)) = J) := Lib.hid (by rw [← HD2.out, HF.out, HT.out, Bool.true_and])
      clear HF HT HD2 ht
      go_wp2_with fail
      refine HC.out.mono ?_
      rintro e w1 ⟨er, rfl, hb⟩
      have HX3 := Aside0.mk (HX2.out.below hb); have HV3 := Aside0.mk (HV2.out.below hb); have HR3 := Aside0.mk (HR2.out.below hb); have HQ3 := Aside0.mk (HQ2.out.below hb); have HS3 := Aside0.mk (HS2.out.below hb); have HB3 := Aside0.mk (HB2.out.trans (hb.mono HB2.out.size))
      clear hb HX2 HV2 HR2 HQ2 HS2 HB2 a0 a1 a2 g1
      go_wp2_with fail
      go_roundw
      case rel => exact ⟨j + 1, by go_num, rfl, by omega, ⟨HG.out⟩, HX3, HV3, HR3, HQ3, HS3, HB3⟩
      case measure => simp [Go.RowKit.intOf]; omega
     | false =>
      rw [ht] at HC HT
      have HG : Hid (J = false) := Lib.hid (by rw [← HD2.out, HF.out, HT.out, Bool.false_and])
      have HN : Hid (checkB v true ((rs.drop (k + 1)).zip (bs.drop (k + 1))) = V) := Lib.hid (by rw [← HA.out, HE.out, HG.out, Bool.false_or])
      clear HF HT HD2 ht HE
      go_wp2_with fail
      refine HC.out.mono ?_
      rintro e w1 ⟨er, rfl, hb⟩
      have HX3 := Aside0.mk (HX2.out.below hb); have HV3 := Aside0.mk (HV2.out.below hb); have HR3 := Aside0.mk (HR2.out.below hb); have HS3 := Aside0.mk (HS2.out.below hb); have HB3 := Aside0.mk (HB2.out.trans (hb.mono HB2.out.size))
      clear hb HX2 HV2 HR2 HQ2 HS2 HB2 a0 a1 a2 g1
      go_wp2_with fail
      go_roundw
      case rel => exact ⟨k + 1, by go_num, by omega, ⟨HN.out⟩, HX3, HV3, HR3, HS3, HB3⟩
      case measure => simp [Go.RowKit.intOf]; omega
    ·
     have HG : Hid (J = true) := Lib.hid (by rw [← HD2.out, List.drop_of_length_le (by omega)]; rfl)
     have HN : Hid (V = true) := Lib.hid (by rw [← HA.out, HE.out, HG.out, Bool.true_or])
     clear HE HD2
     go_wp2_with fail
     go_ret
     exact ⟨by rw [HN.out]; rfl, HB2.out⟩
  ·
   have HE := Lib.hid (checkB_end v true rs bs k (by omega))
   go_wp2_with fail
   go_ret
   exact ⟨by rw [← HA.out, HE.out]; rfl, HB.out⟩

set_option maxHeartbeats 8000000 in
set_option maxRecDepth 100000 in
theorem check_false (v : Ver) (bv : Nat) (rs : List (List Con)) (bs : List Bool) (ad ad' : Addr) (cp cp' : Nat) (hl : rs.length ≤ 1000000000) (hcp : rs.length ≤ cp) (sp : v.pre.size ≤ 2147483647) (hok : ∀ r ∈ rs, ∀ c ∈ r, OkCon c) (hlen : bs.length = rs.length) (w : World) (hV : At w bv (vc v)) (hR : RowsAt w bv ad rs) (hB : BoolsAt w ad' bs) (hS : Std w) :
  Calls Tryd.prog 70 #[.agg #[.slice (some ad) rs.length cp, .slice (some ad') bs.length cp', .bool false], .pointer (some ⟨bv, 0, none⟩)] w
   (Ret1 w (checkB v false (rs.zip bs))) := by
 have HA0 := Aside0.mk (show checkB v false ((rs.drop 0).zip (bs.drop 0)) = checkB v false (rs.zip bs) by rw [List.drop_zero, List.drop_zero])
 have HK := Lib.hid (fun (W : World) (c : Con) (bc bn : Nat) (og : ByteArray) (q : Bool) (hc : OkCon c) (hne : bv ≠ bn) (h1 : At W bv (vc v)) (h2 : At W bc (ccells bn og c.os c.mD c.d c.pD)) (h3 : At W bn (vc c.n)) (h4 : Std W) => hCheck v c.n og c.os bv bc bn c.mD c.d c.pD q sp hc.pre hne hc.os W h1 h2 h3 h4)
 generalize checkB v false (rs.zip bs) = V at *
 have HV := Aside0.mk hV; have HR := Aside0.mk hR; have HY := Aside0.mk hB; have HS := Aside0.mk hS; have HO := Aside0.mk hok
 have HL := Lib.hid hlen
 clear hV hR hB hS hok sp hlen
 go_enter Tryd.func70, Tryd.ntmps70
 go_wp2_with fail
 generalize hW0 : World.alloc w _ = w0
 have x0 : At w0 w.heap.size [.slice (some ad) rs.length cp, .slice (some ad') bs.length cp', .bool false] := by
  rw [← hW0]; exact At.new _ _ _ _ rfl
 have b0 : Below w.heap.size w w0 := by
  rw [← hW0]; go_grown
 have HX0 := Aside0.mk x0; have HB0 := Aside0.mk b0
 have HV0 := Aside0.mk (HV.out.below b0); have HR0 := Aside0.mk (HR.out.below b0); have HY0 := Aside0.mk (HY.out.below b0); have HS0 := Aside0.mk (HS.out.below b0)
 clear x0 b0 hW0 HV HR HS HY
 obtain ⟨a0, a1, a2⟩ := HX0.out.three
 go_wp2_with fail
 clear a0 a1 a2
 go_loopw [15] (fun i w' => ∃ k : Nat, i = .int .i64 k ∧ k ≤ rs.length ∧ Aside0 (checkB v false ((rs.drop k).zip (bs.drop k)) = V) ∧ Aside0 (At w' w.heap.size [.slice (some ad) rs.length cp, .slice (some ad') bs.length cp', .bool false]) ∧ Aside0 (At w' bv (vc v)) ∧ Aside0 (RowsAt w' bv ad rs) ∧ Aside0 (BoolsAt w' ad' bs) ∧ Aside0 (Std w') ∧ Aside0 (Below w.heap.size w w')) (fun i _ => rs.length - (Go.RowKit.intOf i).toNat)
 case atStart => exact ⟨0, rfl, Nat.zero_le _, HA0, HX0, HV0, HR0, HY0, HS0, HB0⟩
 case round =>
  obtain ⟨k, rfl, hk, HA, HX, HV, HR, HY, HS, HB⟩ := hrel
  clear HX0 HV0 HR0 HY0 HS0 HB0 HA0
  by_cases hlt : k < rs.length
  ·
   obtain ⟨r, hr⟩ : ∃ r, rs[k]? = some r := ⟨_, List.getElem?_eq_getElem hlt⟩
   obtain ⟨p, hp⟩ : ∃ p, bs[k]? = some p := ⟨_, List.getElem?_eq_getElem (by rw [HL.out]; exact hlt)⟩
   obtain ⟨ad2, c2, q1, q2, q3, q4⟩ := HR.out k r hr
   have HQ := Aside0.mk q4
   have HM := Lib.hid (fun c hc => HO.out r (List.mem_of_getElem? hr) c hc)
   have HE := Lib.hid (show checkB v false ((rs.drop k).zip (bs.drop k)) = (rowB v p r || checkB v false ((rs.drop (k + 1)).zip (bs.drop (k + 1)))) from checkB_drop v false rs bs k r p hr hp)
   have HP := Lib.hid hp
   have hkb : k < bs.length := by rw [HL.out]; exact hlt
   clear hr hp q4
   go_wp2_with fail
   clear q1
   have HD : Aside0 (rowB v p (r.drop 0) = rowB v p r) := ⟨by rw [List.drop_zero]⟩
   generalize rowB v p r = J at *
   obtain ⟨wo, rfl⟩ : ∃ wo : World, wo = wr := ⟨_, rfl⟩
   go_loopw [7, 22] (fun t i w' => ∃ j : Nat, i = .int .i64 j ∧ t = .bool true ∧ j ≤ r.length ∧ Aside0 (rowB v p (r.drop j) = J) ∧ Aside0 (At w' w.heap.size [.slice (some ad) rs.length cp, .slice (some ad') bs.length cp', .bool false]) ∧ Aside0 (At w' bv (vc v)) ∧ Aside0 (RowsAt w' bv ad rs) ∧ Aside0 (BoolsAt w' ad' bs) ∧ Aside0 (RowAt w' bv ad2 r) ∧ Aside0 (Std w') ∧ Aside0 (Below w.heap.size w w')) (fun _ i _ => r.length - (Go.RowKit.intOf i).toNat)
   case atStart => exact ⟨0, rfl, rfl, Nat.zero_le _, HD, HX, HV, HR, HY, HQ, HS, HB⟩
   case round =>
    obtain ⟨j, rfl, rfl, hj, HD2, HX2, HV2, HR2, HY2, HQ2, HS2, HB2⟩ := hrel
    clear HX HV HR HY HQ HS HB HD
    by_cases hjl : j < r.length
    ·
     obtain ⟨c, hc⟩ : ∃ c, r[j]? = some c := ⟨_, List.getElem?_eq_getElem hjl⟩
     obtain ⟨g, g1, bn, og, g2, g3, g4⟩ := HQ2.out j c hc
     have HF := Lib.hid (rowB_drop v p r j c hc)
     have HC := Lib.hid (HK.out wr c g bn og p (HM.out c (List.mem_of_getElem? hc)) g4 HV2.out g2 g3 HS2.out)
     obtain ⟨a0, a1, a2⟩ := HX2.out.three
     have a3 := HY2.out k p HP.out
     clear hc g2 g3 g4
     have HT : Hid (conB v p c = termB c.os v c.n c.mD c.d c.pD p) := Lib.hid rfl
     cases ht : termB c.os v c.n c.mD c.d c.pD p with
     | true =>
      rw [ht] at HC HT
      have HG : Hid (rowB v p (r.drop (j + 1)) = J) := Lib.hid (by rw [← HD2.out, HF.out, HT.out, Bool.true_and])
      clear HF HT HD2 ht
      go_wp2_with fail
      refine HC.out.mono ?_
      rintro e w1 ⟨er, rfl, hb⟩
      have HX3 := Aside0.mk (HX2.out.below hb); have HV3 := Aside0.mk (HV2.out.below hb); have HR3 := Aside0.mk (HR2.out.below hb); have HY3 := Aside0.mk (HY2.out.below hb); have HQ3 := Aside0.mk (HQ2.out.below hb); have HS3 := Aside0.mk (HS2.out.below hb); have HB3 := Aside0.mk (HB2.out.trans (hb.mono HB2.out.size))
      clear hb HX2 HV2 HR2 HY2 HQ2 HS2 HB2 a0 a1 a2 a3 g1
      go_wp2_with fail
      go_roundw
      case rel => exact ⟨j + 1, by go_num, rfl, by omega, ⟨HG.out⟩, HX3, HV3, HR3, HY3, HQ3, HS3, HB3⟩
      case measure => simp [Go.RowKit.intOf]; omega
     | false =>
      rw [ht] at HC HT
      have HG : Hid (J = false) := Lib.hid (by rw [← HD2.out, HF.out, HT.out, Bool.false_and])
      have HN : Hid (checkB v false ((rs.drop (k + 1)).zip (bs.drop (k + 1))) = V) := Lib.hid (by rw [← HA.out, HE.out, HG.out, Bool.false_or])
      clear HF HT HD2 ht HE
      go_wp2_with fail
      refine HC.out.mono ?_
      rintro e w1 ⟨er, rfl, hb⟩
      have HX3 := Aside0.mk (HX2.out.below hb); have HV3 := Aside0.mk (HV2.out.below hb); have HR3 := Aside0.mk (HR2.out.below hb); have HY3 := Aside0.mk (HY2.out.below hb); have HS3 := Aside0.mk (HS2.out.below hb); have HB3 := Aside0.mk (HB2.out.trans (hb.mono HB2.out.size))
      clear hb HX2 HV2 HR2 HY2 HQ2 HS2 HB2 a0 a1 a2 a3 g1
      go_wp2_with fail
      go_roundw
      case rel => exact ⟨k + 1, by go_num, by omega, ⟨HN.out⟩, HX3, HV3, HR3, HY3, HS3, HB3⟩
      case measure => simp [Go.RowKit.intOf]; omega
    ·
     have HG : Hid (J = true) := Lib.hid (by rw [← HD2.out, List.drop_of_length_le (by omega)]; rfl)
     have HN : Hid (V = true) := Lib.hid (by rw [← HA.out, HE.out, HG.out, Bool.true_or])
     clear HE HD2
     go_wp2_with fail
     go_ret
     exact ⟨by rw [HN.out]; rfl, HB2.out⟩
  ·
   have HE := Lib.hid (checkB_end v false rs bs k (by omega))
   go_wp2_with fail
   go_ret
   exact ⟨by rw [← HA.out, HE.out]; rfl, HB.out⟩

end Go.Proofs.YtllkoadcpobdaaaDoor.KX
namespace Go.Proofs.YtllkoadcpobdaaaDoor.KX

open Go.RowKit Go.Lib Go.Sort Go.Proofs Go.Proofs.YtllkoadcpobdaaaDoor Go.Proofs.YtllkoadcpobdaaaDoor.Base Go.Proofs.YtllkoadcpobdaaaDoor.L Go.Proofs.YtllkoadcpobdaaaDoor.Bt Go.Proofs.YtllkoadcpobdaaaDoor.Parse Go.Proofs.YtllkoadcpobdaaaDoor.PX

open Go.Proofs.YtllkoadcpobdaaaDoorW.PrintWords Go.Proofs.YtllkoadcpobdaaaDoorW.PrintLast Go.Proofs.YtllkoadcpobdaaaDoorW.PrintMore

attribute [local go_sem] setCell_drewN alloc_drewN

set_option linter.unusedVariables false

theorem infoCP : (Tryd.prog.info? 94).map (fun i => (i.zero, i.size, i.bytes)) = some (some (.pointer none), 1, 8) := by kernel_rfl

theorem infoSC : (Tryd.prog.info? 104).map (fun i => (i.zero, i.size, i.bytes)) = some (some (.slice none 0 0), 1, 24) := by kernel_rfl

theorem infoBo : (Tryd.prog.info? 4).map (fun i => (i.zero, i.size, i.bytes)) = some (some (.bool false), 1, 1) := by kernel_rfl

def conPre (c : Con) : Bool := !(bl c.n.pre == [])

def hasPre (r : List Con) : Bool := r.any conPre

/-- An element of rows that are read. -/
theorem rows_at {α : Type} {d : Kd α} {e_ : Nat} {w : World} {A : Option Addr} {l : List (List α)} (h : Kd.C (Kd.slice e_ d) w A l.length l) (k : Nat) (hk : k < l.length) : ∃ ad A0 c0, A = some ad ∧ w.cell? (ad.add k) = some (.slice A0 l[k].length c0) ∧ l[k].length ≤ c0 ∧ d.C w A0 l[k].length l[k] := by
  obtain ⟨ad, c, e, _, hK, hc0⟩ := Kd.C_get h ([] : List α) (k : Int) (by omega) (by omega)
  rw [Int.toNat_natCast, List.getD_eq_getElem?_getD, List.getElem?_eq_getElem hk, Option.getD_some] at hK
  rw [Int.toNat_natCast] at hc0
  obtain ⟨A0, c0, rfl, l0, g0⟩ := hK
  have hq := hc0 0 _ rfl
  rw [show k * (Kd.slice e_ d).sz + 0 = k from Nat.mul_one k] at hq
  exact ⟨ad, A0, c0, e, hq, l0, g0⟩

theorem zt_at {w : World} {A : Option Addr} {l : List Con} (h : Kd.C kZT w A l.length l) (k : Nat) (hk : k < l.length) : ∃ ad g, A = some ad ∧ AtT w g 106 (vc l[k].n) ∧ w.cell? (ad.add (k * 5)) = some (.string l[k].os) ∧ w.cell? ⟨(ad.add (k * 5)).block, (ad.add (k * 5)).off + 1, none⟩ = some (.pointer (some ⟨g, 0, none⟩)) ∧ w.cell? ⟨(ad.add (k * 5)).block, (ad.add (k * 5)).off + 2, none⟩ = some (.bool l[k].d) ∧ w.cell? ⟨(ad.add (k * 5)).block, (ad.add (k * 5)).off + 3, none⟩ = some (.bool l[k].mD) ∧ w.cell? ⟨(ad.add (k * 5)).block, (ad.add (k * 5)).off + 4, none⟩ = some (.bool l[k].pD) := by
  obtain ⟨ad, c, e, _, hK, hc0⟩ := Kd.C_get h ⟨⟨#[]⟩, ⟨0, 0, 0, ⟨#[]⟩, ⟨#[]⟩, ⟨#[]⟩⟩, false, false, false⟩ (k : Int) (by omega) (by omega)
  rw [Int.toNat_natCast, List.getD_eq_getElem?_getD, List.getElem?_eq_getElem hk, Option.getD_some] at hK
  rw [Int.toNat_natCast] at hc0
  have hc : ∀ j u, c[j]? = some u → w.cell? (ad.add (k * 5 + j)) = some u := hc0
  obtain ⟨g, rfl, hg⟩ := kZT_open hK
  exact ⟨ad, g, e, hg, hc 0 _ rfl, by rw [← add_field _ _ 1 (by omega)]; exact hc 1 _ rfl, by rw [← add_field _ _ 2 (by omega)]; exact hc 2 _ rfl, by rw [← add_field _ _ 3 (by omega)]; exact hc 3 _ rfl, by rw [← add_field _ _ 4 (by omega)]; exact hc 4 _ rfl⟩

/-- A row stays where a row of another type is grown. -/
theorem R_other {α : Type} {d : Kd α} {e base : Nat} {ok : Nat → Prop} {w w1 : World} {v : Value} {xs : List α} (h : d.R e w base ok v xs) {b2 e2 s2 n2 : Nat} {v2 : Value} {ys : List Value} (ho : w.ownsRow b2 e2 s2 v2 n2 ys) (hne : ∀ q, q ∈ e :: d.E → q ≠ e2) (hg : w.grownBy w1 v2.ownBlock) : d.R e w1 base ok v xs := by
  cases hv : v2.ownBlock with
  | none => exact Kd.R_grown h hg (fun k _ => by rw [hv]; simp)
  | some g =>
    obtain ⟨cells, hc⟩ := own_typed ho g hv
    exact Kd.R_mono (Kd.R_grown (Kd.R_types h hc hne) hg (fun k hk => by rw [hv]; intro q; injection q with q; exact hk.2 q)) (fun _ hk => hk.1)

/-- What ZZConstraints has made: rows of constraints, and which of them have a prerelease. -/
def ConsR (w0 w' : World) (v1 v2 : Value) (rows : List (List Con)) : Prop := (Kd.slice 94 (kConP w0)).R 104 w' w0.heap.size (fun _ => True) v1 rows ∧ Kd.bool.R 4 w' w0.heap.size (fun _ => True) v2 (rows.map hasPre)

theorem typesC {W : World} : ∀ q, q ∈ 104 :: (Kd.slice 94 (kConP W)).E → q ≠ 78 :=
  fun q hq => (show ∀ q ∈ [104, 94, 119], q ≠ 78 by decide) q hq

theorem typesB {W : World} : ∀ q, q ∈ 104 :: (Kd.slice 94 (kConP W)).E → q ≠ 4 :=
  fun q hq => (show ∀ q ∈ [104, 94, 119], q ≠ 4 by decide) q hq

set_option maxHeartbeats 16000000 in
set_option maxRecDepth 100000 in
theorem cons_c (l : List (List Con)) (A : Option Addr) (cap : Nat) (inc : Bool) (hcap : l.length ≤ cap) (hl : l.length ≤ 1000000000) (hr : ∀ r ∈ l, r.length ≤ 1000000000) (w : World) (hC : Kd.C (Kd.slice 67 kZT) w A l.length l) :
  Calls Tryd.prog 68 #[.slice A l.length cap, .bool inc] w fun e w' => ∃ v1 v2, e = .returned (.agg #[v1, v2, .bool inc]) ∧ ConsR w w' v1 v2 l ∧ Below w.heap.size w w' := by
 have HC := Aside0.mk hC; have HR := Aside0.mk hr; have HL := Aside0.mk hcap
 clear hC hr hcap
 go_enter Tryd.func68, Tryd.ntmps68
 go_wp2_with fail
 generalize hW0 : World.alloc (World.alloc w _) _ = w0
 have x4 : w0.heap[w.heap.size]? = some (.cells #[.slice none 0 0, .slice none 0 0, .bool false] 78 (0, 0)) := by
  rw [← hW0]; exact blk_alloc (blk_new _ _) _
 have x5 : w0.heap[w.heap.size + 1]? = some (.cells #[.slice none 0 0, .slice none 0 0, .bool inc] 78 (0, 0)) := by
  rw [← hW0]
  have := blk_new (w.alloc (.cells #[.slice none 0 0, .slice none 0 0, .bool false] 78)) (.cells #[.slice none 0 0, .slice none 0 0, .bool inc] 78)
  simpa using this
 have b0 : Below w.heap.size w w0 := by
  rw [← hW0]; go_grown
 have HX40 := Aside0.mk x4; have HX50 := Aside0.mk x5; have HB0 := Aside0.mk b0
 clear x4 x5 b0 hW0
 go_loopw [16] (fun i w' => ∃ k : Nat, i = .int .i64 k ∧ k ≤ l.length ∧ ∃ v1 v2, Aside0 (w'.heap[w.heap.size + 1]? = some (.cells #[v1, v2, .bool inc] 78 (0, 0))) ∧ Aside0 (ConsR w w' v1 v2 (l.take k)) ∧ Aside0 (w'.heap[w.heap.size]? = some (.cells #[.slice none 0 0, .slice none 0 0, .bool false] 78 (0, 0))) ∧ Aside0 (Below w.heap.size w w')) (fun i _ => l.length - (Go.RowKit.intOf i).toNat)
 case atStart => exact ⟨0, rfl, Nat.zero_le _, _, _, HX50, ⟨Kd.R_nil _ _ _ _ _, Kd.R_nil _ _ _ _ _⟩, HX40, HB0⟩
 case round =>
  obtain ⟨k, rfl, hk, v1, v2, HX5, HO, HX4, HB⟩ := hrel
  clear HB0 HX40 HX50
  by_cases hlt : k < l.length
  ·
   obtain ⟨ad, A2, c2, e, hx, hl2, hi2⟩ := rows_at HC.out k hlt
   cases e
   replace hx := (HB.out.cell (World.block_lt_of_cell? w _ hx)).trans hx
   have HI := Aside0.mk hi2
   have hq1 := HR.out _ (List.getElem_mem hlt)
   have HNk := Lib.hid (show l.take (k + 1) = l.take k ++ [l[k]] from List.take_succ_eq_append_getElem hlt)
   generalize l[k] = q at *
   clear hi2
   go_wp2_with fail
   obtain ⟨wo, rfl⟩ : ∃ wo : World, wo = wr := ⟨_, rfl⟩
   clear hx
   have HB2 := Aside0.mk (Below.refl wo.heap.size wo)
   go_loopw [8, 9, 22] (fun v t i w' => ∃ j : Nat, i = .int .i64 j ∧ j ≤ q.length ∧ (∃ P, t = .bool P ∧ Aside0 (P = hasPre (q.take j))) ∧ Aside0 ((kConP w).R 94 w' wo.heap.size (fun _ => True) v (q.take j)) ∧ Aside0 (Below wo.heap.size wo w')) (fun _ _ i _ => q.length - (Go.RowKit.intOf i).toNat)
   case atStart => exact ⟨0, rfl, Nat.zero_le _, ⟨_, rfl, ⟨rfl⟩⟩, ⟨Kd.R_nil _ _ _ _ _⟩, HB2⟩
   case round =>
    obtain ⟨j, rfl, hj, ⟨P, rfl, HP⟩, HO2, HB3⟩ := hrel
    clear HB2
    by_cases hjl : j < q.length
    ·
     obtain ⟨ad2, g, e2, hg0, h0, h1, h2, h3, h4⟩ := zt_at HI.out j hjl
     cases e2
     have HN := Lib.hid (show q.take (j + 1) = q.take j ++ [q[j]] from List.take_succ_eq_append_getElem hjl)
     have HLn := Lib.hid (show (q.take j).length = j by rw [List.length_take]; omega)
     generalize q[j] = c at *
     have HBB := Aside0.mk (HB.out.trans (HB3.out.mono HB.out.size))
     have HG0 := Aside0.mk hg0
     replace h0 := (HBB.out.cell (World.block_lt_of_cell? w _ h0)).trans h0
     replace h1 := (HBB.out.cell (World.block_lt_of_cell? w _ h1)).trans h1
     replace h2 := (HBB.out.cell (World.block_lt_of_cell? w _ h2)).trans h2
     replace h3 := (HBB.out.cell (World.block_lt_of_cell? w _ h3)).trans h3
     replace h4 := (HBB.out.cell (World.block_lt_of_cell? w _ h4)).trans h4
     have CT := Lib.hid (fun W => innerT c.os g c.d c.mD c.pD W)
     obtain ⟨A6, c6, rfl⟩ := Kd.R_slice HO2.out
     rw [HLn.out]
     clear hg0
     go_wp2_with fail
     generalize hWa : World.alloc wr _ = wa
     have ba : Below wr.heap.size wr wa := by rw [← hWa]; go_grown
     have xa : wa.heap[wr.heap.size]? = some (.cells #[.string c.os, .pointer (some ⟨g, 0, none⟩), .bool c.d, .bool c.mD, .bool c.pD] 67 (0, 0)) := by rw [← hWa]; exact blk_new _ _
     clear hWa
     refine (CT.out _).mono ?_
     rintro e w1 ⟨gc, rfl, hg1, hg2, hb⟩
     have hbw : Below wr.heap.size wr w1 := ba.trans (hb.mono ba.size)
     have hgw : wr.heap.size ≤ gc := Nat.le_trans ba.size hg2
     have xa1 := blk_below xa hb
     have hB4 : Below wo.heap.size wo w1 := HB3.out.trans (hbw.mono HB3.out.size)
     have hR4 := Kd.R_below HO2.out hbw
     have hM : (kConP w).M w1 wo.heap.size (fun z => True ∧ some z ≠ (Value.slice A6 (q.take j).length c6).ownBlock) c [.pointer (some ⟨gc, 0, none⟩)] := by
      refine kConP_mkM c g gc (Nat.le_trans HB3.out.size hgw) ⟨trivial, ?_⟩ hg1 HG0.out
      intro e
      obtain ⟨inner, ho⟩ := Kd.R_own HO2.out
      have := own_lt ho gc e.symm
      omega
     have hNb : some wr.heap.size ≠ (Value.slice A6 (q.take j).length c6).ownBlock := Kd.R_ne hR4 xa1 (by decide)
     rw [HLn.out] at hR4 hM hNb
     have HR4 := Aside0.mk hR4; have HM := Aside0.mk hM; have HB4 := Aside0.mk hB4; have HXa := Aside0.mk xa1; have HNb := Aside0.mk hNb
     have hs4 : wo.heap.size ≤ w1.heap.size := hB4.size
     clear hg1 hg2 hb ba xa xa1 hbw hgw hB4 hR4 hM hNb h0 h1 h2 h3 h4 HO2 HB3 HBB CT
     go_upto_region 11 with ((with_reducible refine gate_builtin (b := .append) (xs := #[.tmp 26, .tmp 29]) rfl ?_); at_builtin; refine Kd.R_append (kConP w) (w0 := wo) wo.heap.size rfl (.tmp 26) (.tmp 29) 104 94 _ 8 rfl Tryd.underlying104 infoCP rfl Nat.one_pos (by decide) (.slice A6 j c6) (q.take j) c _ (fun _ => True) (fun z => True ∧ some z ≠ (Value.slice A6 j c6).ownBlock) rfl rfl HM.out (fun _ h => h) (fun _ _ => trivial) HR4.out HB4.out hs4 ?aL ?_; (case aL => have := HLn.out; omega); intro vn w2 ho hb hg hat; have HO5 := Aside0.mk ho; have HB5 := Aside0.mk hb; have HX5' := Aside0.mk (blk_grown HXa.out hg HNb.out); clear ho hb hg hat)
     have hV := HG0.out.below (HB.out.trans (HB5.out.mono HB.out.size))
     have k1 : w2.cell? ⟨wr.heap.size, 1, none⟩ = some (.pointer (some ⟨g, 0, none⟩)) := blk_cell HX5'.out 1
     have k2 : w2.cell? ⟨g, 3, none⟩ = some (.string c.n.pre) := hV.at.cell 3 _ rfl
     have HPn : Hid (hasPre (q.take (j + 1)) = (P || conPre c)) := Lib.hid (by rw [HN.out, HP.out]; simp [hasPre, List.any_append])
     clear hV
     cases hc : (c.n.pre.toList == []) with
     | true =>
      have hc' : (c.n.pre.toList != []) = false := by rw [bne, hc]; rfl
      have HF : Hid (conPre c = false) := Lib.hid (by unfold conPre; rw [← toList_bl, hc]; rfl)
      go_wp2_with fail
      go_roundw
      case rel => exact ⟨j + 1, by go_num, by omega, ⟨_, rfl, ⟨by rw [HPn.out, HF.out, Bool.or_false]⟩⟩, ⟨by rw [HN.out]; exact HO5.out⟩, HB5⟩
      case measure => simp [Go.RowKit.intOf]; omega
     | false =>
      have hc' : (c.n.pre.toList != []) = true := by rw [bne, hc]; rfl
      have HF : Hid (conPre c = true) := Lib.hid (by unfold conPre; rw [← toList_bl, hc]; rfl)
      go_wp2_with fail
      go_roundw
      case rel => exact ⟨j + 1, by go_num, by omega, ⟨_, rfl, ⟨by rw [HPn.out, HF.out, Bool.or_true]⟩⟩, ⟨by rw [HN.out]; exact HO5.out⟩, HB5⟩
      case measure => simp [Go.RowKit.intOf]; omega
    ·
     have HF := Lib.hid (show q.take j = q from List.take_of_length_le (by omega))
     have HLn := Lib.hid (show (l.take k).length = k by rw [List.length_take]; omega)
     have HLm := Lib.hid (show ((l.take k).map hasPre).length = k by rw [List.length_map, List.length_take]; omega)
     have HLb := Lib.hid (show ((l.take k).map hasPre ++ [P]).length = k + 1 by rw [List.length_append, HLm.out]; rfl)
     have HLs := Lib.hid (show (l.take k ++ [q]).length = k + 1 by rw [List.length_append, HLn.out]; rfl)
     have h6 := HO2.out
     rw [HF.out] at h6 HP
     obtain ⟨A6, c6, rfl⟩ := Kd.R_slice h6
     have h3 := HO.out.1
     have h4 := HO.out.2
     obtain ⟨A3, c3, rfl⟩ := Kd.R_slice h3
     obtain ⟨A4, c4, rfl⟩ := Kd.R_slice h4
     obtain ⟨inn, hown⟩ := Kd.R_own h3
     have h3' := Kd.R_below h3 HB3.out
     have h4' := Kd.R_below h4 HB3.out
     obtain ⟨inn', hown'⟩ := Kd.R_own h3'
     have hM : (Kd.slice 94 (kConP w)).M wr w.heap.size (fun z => True ∧ some z ≠ (Value.slice A3 (l.take k).length c3).ownBlock) q [.slice A6 q.length c6] := ⟨_, rfl, Kd.R_lower (Kd.R_new h6 hown) HB.out.size⟩
     have x5 := blk_below HX5.out HB3.out
     have x4 := blk_below HX4.out HB3.out
     have n5 : some (w.heap.size + 1) ≠ (Value.slice A3 (l.take k).length c3).ownBlock := Kd.R_ne h3' x5 (by decide)
     have n4 : some w.heap.size ≠ (Value.slice A3 (l.take k).length c3).ownBlock := Kd.R_ne h3' x4 (by decide)
     rw [HLm.out] at x5 h4'
     rw [HLn.out] at h3' hM hown' x5 n5 n4
     have a0 := blk_cell x5 0
     have a0' : wr.cell? ⟨w.heap.size + 1, 0, none⟩ = some (.slice A3 k c3) := a0
     have HR3 := Aside0.mk h3'; have HR4 := Aside0.mk h4'; have HM := Aside0.mk hM; have HB4 := Aside0.mk (HB.out.trans (HB3.out.mono HB.out.size)); have HOw := Aside0.mk hown'; have HX5' := Aside0.mk x5; have HX4' := Aside0.mk x4; have HN5 := Aside0.mk n5; have HN4 := Aside0.mk n4
     have hs4 : w.heap.size ≤ wr.heap.size := HB4.out.size
     clear h6 h3 h4 hown h3' h4' hown' hM x5 x4 n5 n4 a0 HX5 HX4 HO2 HB3 HO HB
     go_upto_region 15 with ((with_reducible refine gate_builtin (b := .append) (xs := #[.tmp 39, .tmp 41]) rfl ?_); at_builtin; refine Kd.R_append (Kd.slice 94 (kConP w)) (w0 := w) w.heap.size rfl (.tmp 39) (.tmp 41) 75 104 _ 24 rfl Tryd.underlying75 infoSC rfl Nat.one_pos (by decide) (.slice A3 k c3) (l.take k) q _ (fun _ => True) (fun z => True ∧ some z ≠ (Value.slice A3 k c3).ownBlock) rfl rfl HM.out (fun _ h => h) (fun _ _ => trivial) HR3.out HB4.out hs4 ?aL ?_; (case aL => have := HLn.out; omega); intro vn w2 ho hb hg hat; clear a0'; obtain ⟨An, cn, hvn⟩ := Kd.R_slice ho; rw [HLs.out] at hvn; subst hvn; have HO5 := Aside0.mk ho; have HB5 := Aside0.mk hb; have x5 := blk_grown HX5'.out hg HN5.out; have HX6 := Aside0.mk x5; have HX7 := Aside0.mk (blk_grown HX4'.out hg HN4.out); have HR5 := Aside0.mk (R_other HR4.out HOw.out (by decide) hg); have fz := blk_frozen x5 0; have ft := blk_cell x5 0; have ft' : w2.cell? ⟨w.heap.size + 1, 0, none⟩ = some (.slice A3 k c3) := ft; have fl : w.heap.size + 1 < w2.heap.size := blk_lt x5; clear ho hb hg hat x5 ft)
     clear fz ft' fl
     generalize hW3 : World.setCell w2 _ _ = w3
     have y5 : w3.heap[w.heap.size + 1]? = some (.cells #[.slice An (k + 1) cn, .slice A4 k c4, .bool inc] 78 (0, 0)) := by rw [← hW3]; exact blk_set HX6.out 0 _
     have y4 : w3.heap[w.heap.size]? = some (.cells #[.slice none 0 0, .slice none 0 0, .bool false] 78 (0, 0)) := by rw [← hW3]; exact blk_far HX7.out (by simp) _
     have yR : (Kd.slice 94 (kConP w)).R 104 w3 w.heap.size (fun _ => True) (.slice An (k + 1) cn) (l.take k ++ [q]) := by
      rw [← hW3]; exact Kd.R_set HO5.out HX6.out typesC 0 _
     have yB : Kd.bool.R 4 w3 w.heap.size (fun _ => True) (.slice A4 k c4) ((l.take k).map hasPre) := by
      rw [← hW3]; exact Kd.R_set HR5.out HX6.out (by decide) 0 _
     have yW : Below w.heap.size w w3 := by rw [← hW3]; exact HB5.out.setCell (by simp) _
     obtain ⟨inn2, yOw⟩ := Kd.R_own yB
     have n5 : some (w.heap.size + 1) ≠ (Value.slice A4 k c4).ownBlock := Kd.R_ne yB y5 (by decide)
     have n4 : some w.heap.size ≠ (Value.slice A4 k c4).ownBlock := Kd.R_ne yB y4 (by decide)
     have a1 : w3.cell? ⟨w.heap.size + 1, 1, none⟩ = some (.slice A4 k c4) := blk_cell y5 1
     have HY5 := Aside0.mk y5; have HY4 := Aside0.mk y4; have HYR := Aside0.mk yR; have HYB := Aside0.mk yB; have HYW := Aside0.mk yW; have HOw2 := Aside0.mk yOw; have HN5b := Aside0.mk n5; have HN4b := Aside0.mk n4
     have hs5 : w.heap.size ≤ w3.heap.size := yW.size
     clear hW3 y5 y4 yR yB yW yOw n5 n4 HO5 HB5 HX6 HX7 HR5 HR3 HR4 HM HB4 HOw HX5' HX4' HN5 HN4 hs4
     go_upto_region 16 with ((with_reducible refine gate_builtin (b := .append) (xs := #[.tmp 45, .tmp 47]) rfl ?_); at_builtin; refine Kd.R_append Kd.bool (w0 := w) w.heap.size rfl (.tmp 45) (.tmp 47) 76 4 _ 1 rfl Tryd.underlying76 infoBo rfl (by decide) (by decide) (.slice A4 k c4) ((l.take k).map hasPre) P _ (fun _ => True) (fun _ => False) rfl rfl ?aP (fun _ h => h.elim) (fun _ _ => trivial) HYB.out HYW.out hs5 ?aL ?_; (case aP => exact rfl); (case aL => have := HLm.out; omega); intro vn w4 ho hb hg hat; clear a1; obtain ⟨An2, cn2, hvn⟩ := Kd.R_slice ho; rw [HLb.out] at hvn; subst hvn; have HO5 := Aside0.mk ho; have HB5 := Aside0.mk hb; have x5 := blk_grown HY5.out hg HN5b.out; have HX6 := Aside0.mk x5; have HX7 := Aside0.mk (blk_grown HY4.out hg HN4b.out); have HR5 := Aside0.mk (R_other HYR.out HOw2.out typesB hg); have fz := blk_frozen x5 1; have ft := blk_cell x5 1; have ft' : w4.cell? ⟨w.heap.size + 1, 1, none⟩ = some (.slice A4 k c4) := ft; have fl : w.heap.size + 1 < w4.heap.size := blk_lt x5; clear ho hb hg hat x5 ft)
     clear fz ft' fl
     generalize hW5 : World.setCell w4 _ _ = w5
     have z5 : w5.heap[w.heap.size + 1]? = some (.cells #[.slice An (k + 1) cn, .slice An2 (k + 1) cn2, .bool inc] 78 (0, 0)) := by rw [← hW5]; exact blk_set HX6.out 1 _
     have z4 : w5.heap[w.heap.size]? = some (.cells #[.slice none 0 0, .slice none 0 0, .bool false] 78 (0, 0)) := by rw [← hW5]; exact blk_far HX7.out (by simp) _
     have zR : (Kd.slice 94 (kConP w)).R 104 w5 w.heap.size (fun _ => True) (.slice An (k + 1) cn) (l.take k ++ [q]) := by
      rw [← hW5]; exact Kd.R_set HR5.out HX6.out typesC 1 _
     have zB : Kd.bool.R 4 w5 w.heap.size (fun _ => True) (.slice An2 (k + 1) cn2) ((l.take k).map hasPre ++ [P]) := by
      rw [← hW5]; exact Kd.R_set HO5.out HX6.out (by decide) 1 _
     have zW : Below w.heap.size w w5 := by rw [← hW5]; exact HB5.out.setCell (by simp) _
     have zN : ((l.take (k + 1)).map hasPre) = (l.take k).map hasPre ++ [P] := by rw [HNk.out, List.map_append, HP.out]; rfl
     have HZ := Aside0.mk (show ConsR w w5 (.slice An (k + 1) cn) (.slice An2 (k + 1) cn2) (l.take (k + 1)) from ⟨by rw [HNk.out]; exact zR, by rw [zN]; exact zB⟩)
     have HZ5 := Aside0.mk z5; have HZ4 := Aside0.mk z4; have HZW := Aside0.mk zW
     clear hW5 z5 z4 zR zB zW zN HO5 HB5 HX6 HX7 HR5
     go_wp2_with fail
     go_roundw
     case rel => exact ⟨k + 1, by go_num, by omega, _, _, HZ5, HZ, HZ4, HZW⟩
     case measure => simp [Go.RowKit.intOf]; omega
  ·
   have HF := Lib.hid (show l.take k = l from List.take_of_length_le (by omega))
   have hO := HO.out
   rw [HF.out] at hO
   obtain ⟨A3, c3, rfl⟩ := Kd.R_slice hO.1
   obtain ⟨A4, c4, rfl⟩ := Kd.R_slice hO.2
   have HO9 := Aside0.mk hO
   have HS := Lib.hid (show (l.map hasPre).length = l.length from List.length_map _)
   clear hO HO
   rw [HS.out] at HX5 HO9
   have a0 : wr.cell? ⟨w.heap.size + 1, 0, none⟩ = some (.slice A3 l.length c3) := blk_cell HX5.out 0
   have a1 : wr.cell? ⟨w.heap.size + 1, 1, none⟩ = some (.slice A4 l.length c4) := blk_cell HX5.out 1
   have a2 : wr.cell? ⟨w.heap.size + 1, 2, none⟩ = some (.bool inc) := blk_cell HX5.out 2
   have b0 : wr.cell? ⟨w.heap.size, 0, none⟩ = some (.slice none 0 0) := blk_cell HX4.out 0
   have b1 : wr.cell? ⟨w.heap.size, 1, none⟩ = some (.slice none 0 0) := blk_cell HX4.out 1
   have b2 : wr.cell? ⟨w.heap.size, 2, none⟩ = some (.bool false) := blk_cell HX4.out 2
   have f0 := blk_frozen HX4.out 0; have f1 := blk_frozen HX4.out 1; have f2 := blk_frozen HX4.out 2
   have hlt4 : w.heap.size < wr.heap.size := blk_lt HX4.out
   go_wp2_with fail
   generalize hW : World.setCell _ _ _ = w6
   have y4 : w6.heap[w.heap.size]? = some (.cells #[.slice A3 l.length c3, .slice A4 l.length c4, .bool inc] 78 (0, 0)) := by
    rw [← hW]; exact blk_set (blk_set (blk_set HX4.out 0 _) 1 _) 2 _
   have yR := Kd.R_set (Kd.R_set (Kd.R_set HO9.out.1 HX4.out typesC 0 (.slice A3 l.length c3)) (blk_set HX4.out 0 _) typesC 1 (.slice A4 l.length c4)) (blk_set (blk_set HX4.out 0 _) 1 _) typesC 2 (.bool inc)
   have yB := Kd.R_set (Kd.R_set (Kd.R_set HO9.out.2 HX4.out (by decide) 0 (.slice A3 l.length c3)) (blk_set HX4.out 0 _) (by decide) 1 (.slice A4 l.length c4)) (blk_set (blk_set HX4.out 0 _) 1 _) (by decide) 2 (.bool inc)
   have yW : Below w.heap.size w w6 := by
    rw [← hW]; exact ((HB.out.setCell (by simp) _).setCell (by simp) _).setCell (by simp) _
   rw [hW] at yR yB
   have c0 : w6.cell? ⟨w.heap.size, 0, none⟩ = some (.slice A3 l.length c3) := blk_cell y4 0
   have c1 : w6.cell? ⟨w.heap.size, 1, none⟩ = some (.slice A4 l.length c4) := blk_cell y4 1
   have c2 : w6.cell? ⟨w.heap.size, 2, none⟩ = some (.bool inc) := blk_cell y4 2
   exact bodyPost_ret (v := .agg #[.slice A3 l.length c3, .slice A4 l.length c4, .bool inc]) (by simp [results, Tryd.results68, go_sem, c0, c1, c2]) rfl ⟨_, _, rfl, ⟨yR, yB⟩, yW⟩

end Go.Proofs.YtllkoadcpobdaaaDoor.KX
namespace Go.Proofs.YtllkoadcpobdaaaDoor.KX

open Go.RowKit Go.Lib Go.Sort Go.Proofs Go.Proofs.YtllkoadcpobdaaaDoor Go.Proofs.YtllkoadcpobdaaaDoor.Base Go.Proofs.YtllkoadcpobdaaaDoor.L Go.Proofs.YtllkoadcpobdaaaDoor.Bt Go.Proofs.YtllkoadcpobdaaaDoor.Parse Go.Proofs.YtllkoadcpobdaaaDoor.PX

open Go.Proofs.YtllkoadcpobdaaaDoorW.PrintWords Go.Proofs.YtllkoadcpobdaaaDoorW.PrintLast Go.Proofs.YtllkoadcpobdaaaDoorW.PrintMore

attribute [local go_sem] setCell_drewN alloc_drewN

set_option linter.unusedVariables false

/-- Rows of constraints as Check reads them. -/
theorem rowsAt_of {W w : World} {bv : Nat} {ad : Addr} {rows : List (List Con)} (hC : Kd.C (Kd.slice 94 (kConP W)) w (some ad) rows.length rows) (hb : Below W.heap.size W w) (hv : W.heap.size ≤ bv) (hn : ∀ r ∈ rows, r ≠ []) (hl : ∀ r ∈ rows, r.length ≤ 1000000000) : RowsAt w bv ad rows := by
  intro i r hi
  obtain ⟨h1, h2⟩ := List.getElem?_eq_some_iff.1 hi
  obtain ⟨ad', A0, c0, e, hx, hle, hc⟩ := rows_at hC i h1
  cases e
  rw [h2] at hx hle hc
  have hr0 : 0 < r.length := List.length_pos_iff.2 (hn r (List.mem_of_getElem? hi))
  obtain ⟨ad2, c, e2, _⟩ := Kd.C_get hc ⟨⟨#[]⟩, ⟨0, 0, 0, ⟨#[]⟩, ⟨#[]⟩, ⟨#[]⟩⟩, false, false, false⟩ (0 : Int) (by omega) (by omega)
  subst e2
  refine ⟨ad2, c0, hx, hle, hl r (List.mem_of_getElem? hi), ?_⟩
  intro j q hj
  obtain ⟨h3, h4⟩ := List.getElem?_eq_some_iff.1 hj
  obtain ⟨ad3, cs, e3, _, hK, hcell⟩ := Kd.C_get hc ⟨⟨#[]⟩, ⟨0, 0, 0, ⟨#[]⟩, ⟨#[]⟩, ⟨#[]⟩⟩, false, false, false⟩ (j : Int) (by omega) (by omega)
  cases e3
  rw [Int.toNat_natCast, List.getD_eq_getElem?_getD, hj, Option.getD_some] at hK
  rw [Int.toNat_natCast] at hcell
  obtain ⟨g, bn, rfl, hA, hB⟩ := kConP_open hK
  have := hcell 0 _ rfl
  rw [show j * (kConP W).sz + 0 = j from Nat.mul_one j] at this
  refine ⟨g, this, bn, ⟨#[]⟩, hA.at, (hB.below hb).at, ?_⟩
  have := hB.lt
  omega

theorem boolsAt_of {w : World} {ad : Addr} {bs : List Bool} (hC : Kd.C Kd.bool w (some ad) bs.length bs) : BoolsAt w ad bs := by
  intro i p hi
  obtain ⟨h1, h2⟩ := List.getElem?_eq_some_iff.1 hi
  obtain ⟨ad', c, e, _, hK, hcell⟩ := Kd.C_get hC false (i : Int) (by omega) (by omega)
  cases e
  rw [Int.toNat_natCast, List.getD_eq_getElem?_getD, hi, Option.getD_some] at hK
  rw [Int.toNat_natCast] at hcell
  have hK' : c = [.bool p] := hK
  subst hK'
  have := hcell 0 _ rfl
  rw [show i * Kd.bool.sz + 0 = i from Nat.mul_one i] at this
  exact this

/-- The rows of a list of lists of terms. -/
def rowsOf (l : List (List S24)) : List (List Con) := l.map (fun r => r.map conOf)

structure OkL (l : List (List S24)) : Prop where
  ne : l ≠ []
  len : l.length ≤ 1000000000
  rows : ∀ r ∈ l, r ≠ [] ∧ r.length ≤ 1000000000 ∧ ∀ x ∈ r, OkT x ∧ x.f5.size ≤ 2147483647

theorem opL_mem (op : Int) : opL op ∈ opsL := by
  unfold opL opsL
  repeat' split
  all_goals simp

theorem okCon_of {x : S24} (h : x.f5.size ≤ 2147483647) : OkCon (conOf x) := ⟨opL_mem _, h⟩

theorem okL_rows {l : List (List S24)} (h : OkL l) : (∀ r ∈ rowsOf l, r ≠ []) ∧ (∀ r ∈ rowsOf l, r.length ≤ 1000000000) ∧ ∀ r ∈ rowsOf l, ∀ c ∈ r, OkCon c := by
  refine ⟨?_, ?_, ?_⟩
  · intro r hr
    obtain ⟨q, hq, rfl⟩ := List.mem_map.1 hr
    have := (h.rows q hq).1
    simpa using this
  · intro r hr
    obtain ⟨q, hq, rfl⟩ := List.mem_map.1 hr
    rw [List.length_map]
    exact (h.rows q hq).2.1
  · intro r hr c hc
    obtain ⟨q, hq, rfl⟩ := List.mem_map.1 hr
    obtain ⟨x, hx, rfl⟩ := List.mem_map.1 hc
    exact okCon_of ((h.rows q hq).2.2 x hx).2

/-- Check of what ZZConstraints has made. -/
theorem check_any (v : Ver) (bv : Nat) (rows : List (List Con)) (inc : Bool) (W w : World) (v1 v2 : Value) (hne : rows ≠ []) (hl : rows.length ≤ 1000000000) (h1 : ∀ r ∈ rows, r ≠ []) (h2 : ∀ r ∈ rows, r.length ≤ 1000000000) (h3 : ∀ r ∈ rows, ∀ c ∈ r, OkCon c) (sp : v.pre.size ≤ 2147483647) (hR : ConsR W w v1 v2 rows) (hb : Below W.heap.size W w) (hv : W.heap.size ≤ bv) (hV : At w bv (vc v)) (hS : Std w) :
    Calls Tryd.prog 70 #[.agg #[v1, v2, .bool inc], .pointer (some ⟨bv, 0, none⟩)] w (Ret1 w (checkB v inc (rows.zip (rows.map hasPre)))) := by
  obtain ⟨A1, c1, rfl, l1, hC1⟩ := Kd.R_reads hR.1
  obtain ⟨A2, c2, rfl, l2, hC2⟩ := Kd.R_reads hR.2
  have hp : 0 < rows.length := List.length_pos_iff.2 hne
  obtain ⟨ad1, _, e1, _⟩ := Kd.C_get hC1 [] (0 : Int) (by omega) (by omega)
  obtain ⟨ad2, _, e2, _⟩ := Kd.C_get hC2 false (0 : Int) (by omega) (by rw [List.length_map]; omega)
  subst e1 e2
  have hl2 : (rows.map hasPre).length = rows.length := List.length_map _
  cases inc with
  | true => exact check_true v bv rows (rows.map hasPre) ad1 ad2 c1 c2 hl l1 sp h3 hl2 w hV (rowsAt_of hC1 hb hv h1 h2) (boolsAt_of hC2) hS
  | false => exact check_false v bv rows (rows.map hasPre) ad1 ad2 c1 c2 hl l1 sp h3 hl2 w hV (rowsAt_of hC1 hb hv h1 h2) (boolsAt_of hC2) hS

def TermsMade (w : World) (l : List (List S24)) (e : Ending) (w' : World) : Prop := ∃ A1 c1, e = .returned (.slice A1 l.length c1) ∧ l.length ≤ c1 ∧ Kd.C (Kd.slice 67 kZT) w' A1 l.length (rowsOf l) ∧ Below w.heap.size w w'

theorem terms_made (l : List (List S24)) (A : Option Addr) (cap : Nat) (hcap : l.length ≤ cap) (hok : OkL l) (w : World) (hC : Kd.C (Kd.slice 24 k24) w A l.length l) : Calls Tryd.prog 69 #[.slice A l.length cap] w (TermsMade w l) := by
  refine (terms_c l A cap hcap hok.len (fun r hr => ⟨(hok.rows r hr).2.1, fun x hx => ((hok.rows r hr).2.2 x hx).1⟩) w hC).mono ?_
  rintro e w' ⟨v, rfl, hr, hb⟩
  obtain ⟨A1, c1, rfl, l1, hC1⟩ := Kd.R_reads hr
  have hlen : (l.map (fun r => r.map conOf)).length = l.length := List.length_map _
  rw [hlen] at l1 hC1 ⊢
  exact ⟨A1, c1, rfl, l1, hC1, hb⟩

def ConsMade (w : World) (pre : Bool) (l : List (List S24)) (e : Ending) (w' : World) : Prop := ∃ v1 v2, e = .returned (.agg #[v1, v2, .bool pre]) ∧ ConsR w w' v1 v2 (rowsOf l) ∧ Below w.heap.size w w'

theorem cons_made (l : List (List S24)) (A : Option Addr) (c : Nat) (pre : Bool) (hc : l.length ≤ c) (hok : OkL l) (w : World) (hC : Kd.C (Kd.slice 67 kZT) w A l.length (rowsOf l)) : Calls Tryd.prog 68 #[.slice A l.length c, .bool pre] w (ConsMade w pre l) := by
  have hlen : (rowsOf l).length = l.length := List.length_map _
  have := cons_c (rowsOf l) A c pre (by rw [hlen]; exact hc) (by rw [hlen]; exact hok.len) (okL_rows hok).2.1 w (by rw [hlen]; exact hC)
  rw [hlen] at this
  exact this

set_option maxHeartbeats 16000000 in
set_option maxRecDepth 100000 in
theorem implTermsHold (l : List (List S24)) (A : Option Addr) (cap : Nat) (x0 x1 x2 : Nat) (xp xm : ByteArray) (pre : Bool) (hcap : l.length ≤ cap) (hok : OkL l) (sp : xp.size ≤ 2147483647) (w : World) (hC : Kd.C (Kd.slice 24 k24) w A l.length l) (hS : Std w) :
    Calls Tryd.prog 37 #[.slice A l.length cap, .agg #[.int .u64 (x0 : Int), .int .u64 (x1 : Int), .int .u64 (x2 : Int), .string xp, .string xm], .bool pre] w
      (Ret1 w (checkB ⟨x0, x1, x2, xp, xm, ⟨#[]⟩⟩ pre ((rowsOf l).zip ((rowsOf l).map hasPre)))) := by
  obtain ⟨q1, q2, q3⟩ := okL_rows hok
  have hlen : (rowsOf l).length = l.length := List.length_map _
  have C1 : Hid (∀ W, Kd.C (Kd.slice 24 k24) W A l.length l → Calls Tryd.prog 69 #[.slice A l.length cap] W (TermsMade W l)) := Lib.hid fun W h => terms_made l A cap hcap hok W h
  have C2 : Hid (∀ A c W, l.length ≤ c → Kd.C (Kd.slice 67 kZT) W A l.length (rowsOf l) → Calls Tryd.prog 68 #[.slice A l.length c, .bool pre] W (ConsMade W pre l)) := Lib.hid fun A c W h1 h2 => cons_made l A c pre h1 hok W h2
  have C3 := Lib.hid (fun W => implVersion x0 x1 x2 xp xm W)
  have C4 := Lib.hid (fun bv W W2 v1 v2 a b c d e => check_any ⟨x0, x1, x2, xp, xm, ⟨#[]⟩⟩ bv (rowsOf l) pre W W2 v1 v2 (by intro h; rw [h] at hlen; exact hok.ne (List.length_eq_zero_iff.1 hlen.symm)) (by rw [hlen]; exact hok.len) q1 q2 q3 sp a b c d e)
  have HCw := Aside0.mk hC; have HS := Aside0.mk hS; have HLn := Aside0.mk hlen
  clear hC hS hok sp q1 q2 q3 hlen hcap
  generalize checkB _ pre _ = R at *
  go_enter Tryd.func37, Tryd.ntmps37
  go_wp2_with fail
  generalize hW0 : World.alloc w _ = w0
  have t0 : At w0 w.heap.size [.int .u64 (x0 : Int), .int .u64 (x1 : Int), .int .u64 (x2 : Int), .string xp, .string xm] := by
    rw [← hW0]; exact At.new _ _ _ _ rfl
  have b0 : Below w.heap.size w w0 := by
    rw [← hW0]; go_grown
  have HT0 := Aside0.mk t0; have HB0 := Aside0.mk b0
  clear t0 b0 hW0
  go_region_held3 (fun W' => W'.cell? ⟨w.heap.size, 0, none⟩ = some (.int .u64 (x0 : Int)) ∧ W'.cell? ⟨w.heap.size, 1, none⟩ = some (.int .u64 (x1 : Int)) ∧ W'.cell? ⟨w.heap.size, 2, none⟩ = some (.int .u64 (x2 : Int)) ∧ W'.cell? ⟨w.heap.size, 3, none⟩ = some (.string xp) ∧ W'.cell? ⟨w.heap.size, 4, none⟩ = some (.string xm))
    (first | (with_reducible exact HT0.out.drew.five) | (with_reducible exact HT4.out.five) | (with_reducible exact HT3.out.five) | (with_reducible exact HT2.out.five) | (with_reducible exact HT1.out.five)) (first
    | (go_at_call 69; (with_reducible refine (C1.out _ (Kd.C_below HCw.out (below_drew HB0.out))).mono ?_); rintro e w1 ⟨A1, c1, rfl, l1, hC1, hb⟩; have hb1 := undrew hb; have HC1 := Aside0.mk hC1; have HL1 := Aside0.mk l1; have HT1 := Aside0.mk (HT0.out.below hb1); have HB1 := Aside0.mk (HB0.out.trans (hb1.mono HB0.out.size)); have HS1 := Aside0.mk (HS.out.below HB1.out); clear hb hb1 l1 hC1)
    | (go_at_call 68; (with_reducible refine (C2.out _ _ _ HL1.out HC1.out).mono ?_); rintro e w2 ⟨v1, v2, rfl, hr, hb⟩; have HR2 := Aside0.mk hr; have HW2 := Aside0.mk hb; have HT2 := Aside0.mk (HT1.out.below hb); have HB2 := Aside0.mk (HB1.out.trans (hb.mono HB1.out.size)); have HS2 := Aside0.mk (HS1.out.below hb); clear hr hb)
    | (go_at_call 55; (with_reducible refine (C3.out _).mono ?_); rintro e w3 ⟨g, rfl, hv, hl, hb⟩; have HV3 := Aside0.mk (show At w3 g (vc ⟨x0, x1, x2, xp, xm, ⟨#[]⟩⟩) from hv); have HL3 := Aside0.mk (Nat.le_trans HW2.out.size hl); have HR3 := Aside0.mk (show ConsR w1 w3 v1 v2 (rowsOf l) from ⟨Kd.R_below HR2.out.1 hb, Kd.R_below HR2.out.2 hb⟩); have HW3 := Aside0.mk (HW2.out.trans (hb.mono HW2.out.size)); have HT3 := Aside0.mk (HT2.out.below hb); have HB3 := Aside0.mk (HB2.out.trans (hb.mono HB2.out.size)); have HS3 := Aside0.mk (HS2.out.below hb); clear hv hl hb)
    | (go_at_call 70; (with_reducible refine (C4.out _ w1 _ _ _ HR3.out HW3.out HL3.out HV3.out HS3.out).mono ?_); rintro e w4 ⟨rfl, hb⟩; have HT4 := Aside0.mk (HT3.out.below hb); have HB4 := Aside0.mk (HB3.out.trans (hb.mono HB3.out.size)); clear hb))
  go_wp2_with fail
  go_ret
  exact ⟨rfl, HB4.out⟩

end Go.Proofs.YtllkoadcpobdaaaDoor.KX
namespace Go.Proofs.YtllkoadcpobdaaaDoor.PX

open Go Go.Proofs Go.RowKit Go.Lib Go.Proofs.YtllkoadcpobdaaaDoor Go.Proofs.YtllkoadcpobdaaaDoor.L Go.Proofs.YtllkoadcpobdaaaDoor.Bt Go.Proofs.YtllkoadcpobdaaaDoor.KX

open Go.Proofs.YtllkoadcpobdaaaDoorW.PrintWords Go.Proofs.YtllkoadcpobdaaaDoorW.PrintLast Go.Proofs.YtllkoadcpobdaaaDoorW.PrintMore

def okTB (x : S24) : Bool := decide (0 ≤ x.f0 ∧ x.f0 < 8 ∧ 0 ≤ x.f1 ∧ 0 ≤ x.f2 ∧ 0 ≤ x.f3 ∧ 0 ≤ x.f4 ∧ x.f5.size ≤ 2147483647)

def okRB (r : List S24) : Bool := !r.isEmpty && decide (r.length ≤ 1000000000) && r.all okTB

def okLB (l : List (List S24)) : Bool := !l.isEmpty && decide (l.length ≤ 1000000000) && l.all okRB

theorem okTB_mk (op gv : Int) (a b c : Nat) (p : ByteArray) (h : 0 ≤ op ∧ op < 8) (hg : 0 ≤ gv) (hp : p.size ≤ 2147483647) : okTB ⟨op, gv, a, b, c, p⟩ = true := by
  unfold okTB
  rw [decide_eq_true_eq]
  exact ⟨h.1, h.2, hg, Int.natCast_nonneg _, Int.natCast_nonneg _, Int.natCast_nonneg _, hp⟩

/-- The version of a term. -/
def verT (x : S24) : Ver := vOf x.f2 x.f3 x.f4 x.f5 ⟨#[]⟩

/-- What a term says of a version. -/
def oneB (v : Ver) (pre : Bool) (x : S24) : Bool := termI x.f0 v (verT x) (x.f1 == 1) (decide (x.f1 < 3)) (x.f1 == 2) pre

def hasP (x : S24) : Bool := !(bl x.f5 == [])

/-- What lists of terms say of a version. -/
def holdsB (v : Ver) (pre : Bool) (l : List (List S24)) : Bool := l.any (fun r => r.all (oneB v (pre || r.any hasP)))

theorem termB_opL (op : Int) (h : 0 ≤ op ∧ op < 8) (v n : Ver) (mD d pD pre : Bool) : termB (opL op) v n mD d pD pre = termI op v n mD d pD pre := by
  have e : op = 0 ∨ op = 1 ∨ op = 2 ∨ op = 3 ∨ op = 4 ∨ op = 5 ∨ op = 6 ∨ op = 7 := by omega
  rcases e with rfl | rfl | rfl | rfl | rfl | rfl | rfl | rfl <;> rfl

theorem row_eq (v : Ver) (pre : Bool) (r : List S24) (h : ∀ x ∈ r, 0 ≤ x.f0 ∧ x.f0 < 8) : rowB v pre (r.map conOf) = r.all (oneB v pre) := by
  induction r with
  | nil => rfl
  | cons x t ih =>
    have e : conB v pre (conOf x) = oneB v pre x := by
      unfold conB oneB conOf
      rw [termB_opL x.f0 (h x (by simp))]
      rfl
    have e2 : rowB v pre (t.map conOf) = t.all (oneB v pre) := ih (fun y hy => h y (by simp [hy]))
    rw [List.map_cons, List.all_cons, ← e, ← e2]
    rfl

theorem hasPre_eq (r : List S24) : hasPre (r.map conOf) = r.any hasP := by
  unfold hasPre
  rw [List.any_map]
  rfl

theorem check_eq (v : Ver) (pre : Bool) (l : List (List S24)) (h : ∀ r ∈ l, ∀ x ∈ r, 0 ≤ x.f0 ∧ x.f0 < 8) : checkB v pre ((rowsOf l).zip ((rowsOf l).map hasPre)) = holdsB v pre l := by
  induction l with
  | nil => rfl
  | cons r t ih =>
    have e := ih (fun q hq => h q (by simp [hq]))
    unfold holdsB at e ⊢
    rw [List.any_cons, ← e, ← hasPre_eq, ← row_eq v (pre || hasPre (r.map conOf)) r (h r (by simp))]
    rfl

theorem holds_one (v : Ver) (pre : Bool) (x : S24) : holdsB v pre [[x]] = oneB v (pre || !(bl x.f5 == [])) x := by
  unfold holdsB
  rw [List.any_cons, List.any_nil, Bool.or_false, List.all_cons, List.all_nil, Bool.and_true, List.any_cons, List.any_nil, Bool.or_false]
  rfl

theorem okL_one (x : S24) (h : okTB x = true) : okLB [[x]] = true := by
  unfold okLB okRB
  simp [h]

def impl_TermsHold.f (l : List (List S24)) (x0 x1 x2 : Int) (xp xm : ByteArray) (pre : Bool) : Option Bool :=
  if okLB l = true ∧ okV x0 x1 x2 xp then some (holdsB (vOf x0 x1 x2 xp xm) pre l) else none

theorem impl_TermsHold.calls (A : Option Addr) (c : Nat) (l : List (List S24)) (x0 x1 x2 : Int) (xp xm : ByteArray) (pre : Bool) (r : Bool) (w : World) (hC : Kd.C (Kd.slice 24 k24) w A l.length l) (hc : l.length ≤ c) (hStd : Std w) (h : impl_TermsHold.f l x0 x1 x2 xp xm pre = some r) :
    Calls Tryd.prog 37 #[.slice A l.length c, .agg #[.int .u64 x0, .int .u64 x1, .int .u64 x2, .string xp, .string xm], .bool pre] w fun e w' => e = .returned (.bool r) ∧ Below w.heap.size w w' := by
  unfold impl_TermsHold.f at h
  by_cases hk : okLB l = true ∧ okV x0 x1 x2 xp
  · rw [if_pos hk] at h
    cases h
    obtain ⟨h1, z0, z1, z2, z3⟩ := hk
    unfold okLB at h1
    simp only [Bool.and_eq_true, Bool.not_eq_true', List.isEmpty_eq_false_iff, decide_eq_true_eq, List.all_eq_true] at h1
    have hr : ∀ r ∈ l, r ≠ [] ∧ r.length ≤ 1000000000 ∧ ∀ x ∈ r, OkT x ∧ x.f5.size ≤ 2147483647 := by
      intro r hr
      have h2 := h1.2 r hr
      unfold okRB at h2
      simp only [Bool.and_eq_true, Bool.not_eq_true', List.isEmpty_eq_false_iff, decide_eq_true_eq, List.all_eq_true] at h2
      refine ⟨h2.1.1, h2.1.2, fun x hx => ?_⟩
      have h3 := h2.2 x hx
      unfold okTB at h3
      rw [decide_eq_true_eq] at h3
      exact ⟨⟨h3.1, h3.2.1, h3.2.2.1, h3.2.2.2.1, h3.2.2.2.2.1, h3.2.2.2.2.2.1⟩, h3.2.2.2.2.2.2⟩
    obtain ⟨x0, rfl⟩ := Int.eq_ofNat_of_zero_le z0
    obtain ⟨x1, rfl⟩ := Int.eq_ofNat_of_zero_le z1
    obtain ⟨x2, rfl⟩ := Int.eq_ofNat_of_zero_le z2
    rw [← check_eq _ _ _ (fun r h4 x h5 => ⟨((hr r h4).2.2 x h5).1.op0, ((hr r h4).2.2 x h5).1.op8⟩)]
    exact implTermsHold l A c x0 x1 x2 xp xm pre hc ⟨h1.1.1, h1.1.2, hr⟩ z3 w hC hStd
  · rw [if_neg hk] at h
    cases h

end Go.Proofs.YtllkoadcpobdaaaDoor.PX
namespace Go.Proofs.YtllkoadcpobdaaaDoor.KX

open Go Go.RowKit Go.Lib Go.Sort Go.Proofs Go.Proofs.YtllkoadcpobdaaaDoor Go.Proofs.YtllkoadcpobdaaaDoor.Base Go.Proofs.YtllkoadcpobdaaaDoor.L Go.Proofs.YtllkoadcpobdaaaDoor.Bt Go.Proofs.YtllkoadcpobdaaaDoor.Parse Go.Proofs.YtllkoadcpobdaaaDoor.PX

open Go.Proofs.YtllkoadcpobdaaaDoorW.PrintWords Go.Proofs.YtllkoadcpobdaaaDoorW.PrintLast Go.Proofs.YtllkoadcpobdaaaDoorW.PrintMore

attribute [local go_sem] setCell_drewN alloc_drewN

set_option linter.unusedVariables false

theorem apart_fn (x y : Bool) (w : World) : Calls Tryd.prog 44 #[.bool x, .bool y] w fun e w' => e = .returned (.bool (!x || !y)) ∧ Below w.heap.size w w' := by
  go_enter Tryd.func44, Tryd.ntmps44
  cases x <;> cases y
  all_goals
    go_wp2_with fail
    go_ret
    exact ⟨rfl, by go_grown⟩

/-- What lists of terms say of a point. -/
def atV (l : List (List S24)) (p : S26) : Bool := holdsB (vOf p.f0 p.f1 p.f2 p.f3 p.f4) false l

def eachB (c d : List (List S24)) : Bool := (pointsM (c ++ d)).all (fun p => !atV c p || !atV d p)

theorem infoR : (Tryd.prog.info? 42).map (fun i => (i.zero, i.size, i.bytes)) = some (some (.slice none 0 0), 1, 24) := by kernel_rfl

/-- Rows as they lay in an older world. -/
def kOld (w : World) : Kd (List S24) := Kd.fixed (Kd.slice 24 k24) w

theorem kOld_none (w : World) : (kOld w).R 42 (w.alloc (.cells #[] 42)) w.heap.size (fun _ => True) (.slice (some ⟨w.heap.size, 0, none⟩) 0 0) [] :=
  ⟨fun _ _ => trivial, [], ⟨rfl, .inr ⟨w.heap.size, 0, #[], rfl, Nat.le_refl _, heap_alloc_new w _, Nat.le_refl _, by decide, rfl, rfl⟩⟩, Reps.none _ _⟩

theorem kOld_row {w W : World} {A : Option Addr} {n : Nat} {l : List (List S24)} (h : Kd.C (Kd.slice 24 k24) w A n l) (hb : Below w.heap.size w W) : ReadsRow ((Kd.slice 24 k24).K w) (kOld w).sz W A n l := ReadsRow.imp_ h hb (fun _ _ hp => hp)

theorem kOld_read {w W : World} {A : Option Addr} {n : Nat} {l : List (List S24)} (h : Kd.C (kOld w) W A n l) (hb : Below w.heap.size w W) : Kd.C (Kd.slice 24 k24) W A n l := ReadsRow.imp_ h (Below.refl _ _) (fun _ _ hp => (Kd.slice 24 k24).K_below hb hp)

def GoodP (ps : List S26) : Prop := ∀ p ∈ ps, ∃ x : Rel3, U64 x ∧ p = relS x

theorem onceL_mem {l more : List S26} {p : S26} (h : p ∈ onceL l more) : p ∈ l ∨ p ∈ more := by
  unfold onceL at h
  induction more generalizing l with
  | nil => exact .inl h
  | cons v m ih =>
    rw [List.foldl_cons] at h
    rcases ih h with h1 | h1
    · unfold onceStep at h1
      split at h1
      · exact .inl h1
      · rcases List.mem_append.1 h1 with h2 | h2
        · exact .inl h2
        · exact .inr (by rw [List.mem_singleton.1 h2]; exact List.mem_cons_self)
    · exact .inr (List.mem_cons_of_mem _ h1)

theorem goodP_once {l more : List S26} (h : GoodP l) (h2 : GoodP more) : GoodP (onceL l more) := fun p hp => (onceL_mem hp).elim (h p) (h2 p)

theorem goodP_one {x : Rel3} (h : U64 x) : GoodP [relS x] := fun p hp => ⟨x, h, List.mem_singleton.1 hp⟩

theorem goodP_blk {x : Rel3} (h : U64 x) : GoodP ((blkX x).map relS) := fun p hp => by
  obtain ⟨y, hy, rfl⟩ := List.mem_map.1 hp
  exact ⟨y, blkUp_lt h.1 h.2.1 h.2.2 hy, rfl⟩

theorem goodP_foldB (m : List Rel3) {l : List S26} (h : GoodP l) (hm : ∀ y ∈ m, U64 y) : GoodP (m.foldl stepB l) := by
  induction m generalizing l with
  | nil => exact h
  | cons x m ih =>
    rw [List.foldl_cons]
    have hx := hm x List.mem_cons_self
    exact ih (goodP_once (goodP_once h (goodP_one hx)) (goodP_blk hx)) (fun y hy => hm y (List.mem_cons_of_mem _ hy))

theorem lowT_u64 {t : S24} (h : OkP t) : U64 (lowT t) := by
  have h1 := h.a; have h2 := h.b; have h3 := h.c
  exact ⟨show t.f2.toNat < _ by omega, show t.f3.toNat < _ by omega, show t.f4.toNat < _ by omega⟩

theorem goodP_T {l : List S26} {t : S24} (h : GoodP l) (ht : OkP t) : GoodP (stepT l t) :=
  goodP_foldB _ (goodP_once h (goodP_one (lowT_u64 ht))) (fun y hy => blkUp_lt (lowT_u64 ht).1 (lowT_u64 ht).2.1 (lowT_u64 ht).2.2 hy)

theorem goodP_R (r : List S24) {l : List S26} (h : GoodP l) (hr : ∀ x ∈ r, OkP x) : GoodP (stepR l r) := by
  unfold stepR
  induction r generalizing l with
  | nil => exact h
  | cons x m ih => exact ih (goodP_T h (hr x List.mem_cons_self)) (fun y hy => hr y (List.mem_cons_of_mem _ hy))

theorem goodP_points (c : List (List S24)) (hr : ∀ r ∈ c, ∀ x ∈ r, OkP x) : GoodP (pointsM c) := by
  unfold pointsM
  have : ∀ l, GoodP l → GoodP (c.foldl stepR l) := by
    induction c with
    | nil => exact fun l h => h
    | cons r m ih => exact fun l h => ih (fun q hq => hr q (List.mem_cons_of_mem _ hq)) _ (goodP_R r h (hr r List.mem_cons_self))
  exact this _ (goodP_one ⟨by decide, by decide, by decide⟩)

set_option maxHeartbeats 16000000 in
set_option maxRecDepth 100000 in
theorem each_c (c d : List (List S24)) (A B : Option Addr) (ca cb : Nat) (hca : c.length ≤ ca) (hcb : d.length ≤ cb) (hlc : c.length ≤ 100) (hld : d.length ≤ 100) (hr : ∀ r ∈ c ++ d, r.length ≤ 1000 ∧ ∀ x ∈ r, OkP x) (hoc : okLB c = true) (hod : okLB d = true) (w : World) (hC : Kd.C (Kd.slice 24 k24) w A c.length c) (hD : Kd.C (Kd.slice 24 k24) w B d.length d) (hS : Std w) :
  Calls Tryd.prog 43 #[.slice A c.length ca, .slice B d.length cb, .func (.func 44) #[] #[]] w fun e w' => e = .returned (.bool (eachB c d)) ∧ Below w.heap.size w w' := by
 have HC := Aside0.mk hC; have HD := Aside0.mk hD; have HS := Aside0.mk hS; have HR := Aside0.mk hr; have HLa := Lib.hid hca; have HLb := Lib.hid hcb; have HOc := Lib.hid hoc; have HOd := Lib.hid hod
 have HP := Lib.hid (fun W A cap h1 h2 => points_c (c ++ d) A cap h1 (by rw [List.length_append]; omega) hr W h2)
 obtain ⟨V, hV⟩ : ∃ V, eachB c d = V := ⟨_, rfl⟩
 have HV := Aside0.mk (show (pointsM (c ++ d)).all (fun p => !atV c p || !atV d p) = V from hV)
 rw [hV]
 clear hC hD hS hr hca hcb hoc hod hV
 go_enter Tryd.func43, Tryd.ntmps43
 go_wp2_with (first
  | ((with_reducible refine gate_builtin (b := .append) (xs := #[.tmp 9, .tmp 10]) rfl ?_); at_builtin; refine Kd.R_append_rows (kOld w) (Rr := (Kd.slice 24 k24).K w) (w0 := w) w.heap.size rfl (.tmp 9) (.tmp 10) 45 42 _ 24 rfl Tryd.underlying45 infoR rfl Nat.one_pos (by decide) (Value.slice (some ⟨w.heap.size, 0, none⟩) 0 0) ([]) c A c.length ca (fun _ => True) (fun k => True ∧ some k ≠ (Value.slice (some ⟨w.heap.size, 0, none⟩) 0 0).ownBlock) rfl rfl (kOld_none w) (kOld_row HC.out (below_alloc (Below.refl _ _) _)) (fun _ _ h => h) (fun _ h => h) (fun _ _ => trivial) (below_alloc (Below.refl _ _) _) (below_alloc (Below.refl _ _) _).size ?aL ?_; (case aL => simp; omega); intro v1 w1 ho hb hg hat; have HO1 := Aside0.mk ho; have HB1 := Aside0.mk hb; clear ho hb hg hat)
  | ((with_reducible refine gate_builtin (b := .append) (xs := #[.tmp 11, .tmp 12]) rfl ?_); at_builtin; refine Kd.R_append_rows (kOld w) (Rr := (Kd.slice 24 k24).K w) (w0 := w) w.heap.size rfl (.tmp 11) (.tmp 12) 45 42 _ 24 rfl Tryd.underlying45 infoR rfl Nat.one_pos (by decide) (v1) ([] ++ c) d B d.length cb (fun _ => True) (fun k => True ∧ some k ≠ (v1).ownBlock) rfl rfl HO1.out (kOld_row HD.out HB1.out) (fun _ _ h => h) (fun _ h => h) (fun _ _ => trivial) HB1.out HB1.out.size ?aL ?_; (case aL => simp; omega); intro v2 w2 ho hb hg hat; have HO2 := Aside0.mk ho; have HB2 := Aside0.mk hb; clear ho hb hg hat))
 have hO2 : (kOld w).R 42 w2 w.heap.size (fun _ => True) v2 (c ++ d) := HO2.out
 obtain ⟨A2, c2, rfl, hc2, hC2⟩ := Kd.R_reads hO2
 refine (HP.out w2 A2 c2 hc2 (kOld_read hC2 HB2.out)).mono ?_
 rintro e w3 ⟨v3, rfl, hO3, hb3⟩
 have HB3 := Aside0.mk (HB2.out.trans (hb3.mono HB2.out.size))
 obtain ⟨A3, c3, rfl, hc3, hC3⟩ := Kd.R_reads hO3
 have HC3 := Aside0.mk hC3
 have HG := Lib.hid (goodP_points (c ++ d) (fun r h x hx => (HR.out r h).2 x hx))
 have HLp := Lib.hid (show (pointsM (c ++ d)).length ≤ 1 + 13000 * 200 by
  have := foldR_len (c ++ d) [relS (0, 0, 0)] (fun r hr => (HR.out r hr).1)
  rw [List.length_append, List.length_singleton] at this
  show ((c ++ d).foldl stepR [relS (0, 0, 0)]).length ≤ _
  omega)
 clear hO2 hC2 hb3 hO3 hC3 HO1 HB1 HO2 HB2 HR HP
 generalize pointsM (c ++ d) = ps at *
 go_wp2_with fail
 go_loopw [16] (fun i w' => ∃ k : Nat, i = .int .i64 k ∧ k ≤ ps.length ∧ Aside0 ((ps.drop k).all (fun p => !atV c p || !atV d p) = V) ∧ Aside0 (Below w3.heap.size w3 w')) (fun i _ => ps.length - (Go.RowKit.intOf i).toNat)
 case atStart => exact ⟨0, rfl, Nat.zero_le _, HV, ⟨Below.refl _ _⟩⟩
 case round =>
  obtain ⟨k, rfl, hk, HV1, HB4⟩ := hrel
  clear HV
  have hLp := HLp.out
  by_cases hlt : k < ps.length
  ·
   obtain ⟨ad3, e3, g0, g1, g2, g3, g4⟩ := at_T26 (Kd.C_below HC3.out HB4.out) (k : Int) (by omega) (by omega)
   cases e3
   have e4 : rd_T26 ps (k : Int) = ps[k] := rd_at ps z26 k hlt
   obtain ⟨y, hy, e5⟩ := HG.out ps[k] (List.getElem_mem hlt)
   have HD1 := Aside0.mk (show ((!atV c (relS y) || !atV d (relS y)) && (ps.drop (k + 1)).all (fun p => !atV c p || !atV d p)) = V by
    have h := HV1.out
    rw [List.drop_eq_getElem_cons hlt, List.all_cons, e5] at h
    exact h)
   rw [e4, e5, Int.toNat_natCast] at g0 g1 g2 g3 g4
   clear e4 e5
   obtain ⟨a9, b9, d9⟩ := y
   have hq0 : (relS (a9, b9, d9)).f0 = (a9 : Int) := rfl
   have hq1 : (relS (a9, b9, d9)).f1 = (b9 : Int) := rfl
   have hq2 : (relS (a9, b9, d9)).f2 = (d9 : Int) := rfl
   have hq3 : (relS (a9, b9, d9)).f3 = ⟨#[]⟩ := rfl
   have hq4 : (relS (a9, b9, d9)).f4 = ⟨#[]⟩ := rfl
   rw [hq0] at g0; rw [hq1] at g1; rw [hq2] at g2; rw [hq3] at g3; rw [hq4] at g4
   clear hq0 hq1 hq2 hq3 hq4
   have tc : impl_TermsHold.f c a9 b9 d9 ⟨#[]⟩ ⟨#[]⟩ false = some (atV c (relS (a9, b9, d9))) := by
    unfold impl_TermsHold.f; rw [if_pos ⟨HOc.out, by unfold okV; exact ⟨by omega, by omega, by omega, by decide⟩⟩]; rfl
   have td : impl_TermsHold.f d a9 b9 d9 ⟨#[]⟩ ⟨#[]⟩ false = some (atV d (relS (a9, b9, d9))) := by
    unfold impl_TermsHold.f; rw [if_pos ⟨HOd.out, by unfold okV; exact ⟨by omega, by omega, by omega, by decide⟩⟩]; rfl
   generalize hu : atV c (relS (a9, b9, d9)) = u at *
   generalize hv : atV d (relS (a9, b9, d9)) = v at *
   have T1 := Lib.hid (fun W h1 h2 => impl_TermsHold.calls A ca c a9 b9 d9 ⟨#[]⟩ ⟨#[]⟩ false u W h1 HLa.out h2 tc)
   have T2 := Lib.hid (fun W h1 h2 => impl_TermsHold.calls B cb d a9 b9 d9 ⟨#[]⟩ ⟨#[]⟩ false v W h1 HLb.out h2 td)
   have T3 := Lib.hid (fun W => apart_fn u v W)
   clear tc td hu hv
   go_upto_region 4 with fail
   generalize hWn : World.alloc wr _ = wn
   have bn : Below wr.heap.size wr wn := (by rw [← hWn]; exact below_alloc (Below.refl _ _) _)
   have xn : At wn wr.heap.size [.int .u64 (a9 : Int), .int .u64 (b9 : Int), .int .u64 (d9 : Int), .string ⟨#[]⟩, .string ⟨#[]⟩] := by
    rw [← hWn]; exact At.new _ _ _ _ rfl
   have HXn := Aside0.mk xn
   have HB5 := Aside0.mk (HB4.out.trans (bn.mono HB4.out.size))
   have HBS := Aside0.mk (Below.refl wn.heap.size wn)
   have HBw := Aside0.mk (HB3.out.trans (HB5.out.mono HB3.out.size))
   clear hWn bn xn g0 g1 g2 g3 g4 HB4
   go_region_held3 (fun W' => W'.cell? ⟨wr.heap.size, 0, none⟩ = some (.int .u64 (a9 : Int)) ∧ W'.cell? ⟨wr.heap.size, 1, none⟩ = some (.int .u64 (b9 : Int)) ∧ W'.cell? ⟨wr.heap.size, 2, none⟩ = some (.int .u64 (d9 : Int)) ∧ W'.cell? ⟨wr.heap.size, 3, none⟩ = some (.string ⟨#[]⟩) ∧ W'.cell? ⟨wr.heap.size, 4, none⟩ = some (.string ⟨#[]⟩))
    (exact (HXn.out.below (by repeat (first | (with_reducible first | exact HBS.out | apply below_alloc | apply pw_below_drewN | apply below_drew1) | exact HBS.out))).five) (first
    | (go_at_call 37; (with_reducible refine (T1.out _ ?c1 ?c2).mono ?_); (case c1 => exact Kd.C_below HC.out (by repeat (first | (with_reducible first | exact HBw.out | apply below_alloc | apply pw_below_drewN | apply below_drew1) | exact HBw.out))); (case c2 => exact HS.out.below (by repeat (first | (with_reducible first | exact HBw.out | apply below_alloc | apply pw_below_drewN | apply below_drew1) | exact HBw.out))); rintro e w7 ⟨rfl, hb⟩; have n0 := Aside0.mk (below_step (by repeat (first | (with_reducible first | exact HBS.out | apply below_alloc | apply pw_below_drewN | apply below_drew1) | exact HBS.out)) hb); have n1 := Aside0.mk (below_step (by repeat (first | (with_reducible first | exact HBw.out | apply below_alloc | apply pw_below_drewN | apply below_drew1) | exact HBw.out)) hb); have n2 := Aside0.mk (below_step (by repeat (first | (with_reducible first | exact HB5.out | apply below_alloc | apply pw_below_drewN | apply below_drew1) | exact HB5.out)) hb); clear hb HBS HBw HB5; have HBS := n0; have HBw := n1; have HB5 := n2; clear n0 n1 n2)
    | (go_at_call 37; (with_reducible refine (T2.out _ ?c1 ?c2).mono ?_); (case c1 => exact Kd.C_below HD.out (by repeat (first | (with_reducible first | exact HBw.out | apply below_alloc | apply pw_below_drewN | apply below_drew1) | exact HBw.out))); (case c2 => exact HS.out.below (by repeat (first | (with_reducible first | exact HBw.out | apply below_alloc | apply pw_below_drewN | apply below_drew1) | exact HBw.out))); rintro e w7 ⟨rfl, hb⟩; have n0 := Aside0.mk (below_step (by repeat (first | (with_reducible first | exact HBS.out | apply below_alloc | apply pw_below_drewN | apply below_drew1) | exact HBS.out)) hb); have n1 := Aside0.mk (below_step (by repeat (first | (with_reducible first | exact HBw.out | apply below_alloc | apply pw_below_drewN | apply below_drew1) | exact HBw.out)) hb); have n2 := Aside0.mk (below_step (by repeat (first | (with_reducible first | exact HB5.out | apply below_alloc | apply pw_below_drewN | apply below_drew1) | exact HB5.out)) hb); clear hb HBS HBw HB5; have HBS := n0; have HBw := n1; have HB5 := n2; clear n0 n1 n2)
    | (go_at_call 44; (with_reducible refine (T3.out _).mono ?_); rintro e w7 ⟨rfl, hb⟩; have n0 := Aside0.mk (below_step (by repeat (first | (with_reducible first | exact HBS.out | apply below_alloc | apply pw_below_drewN | apply below_drew1) | exact HBS.out)) hb); have n1 := Aside0.mk (below_step (by repeat (first | (with_reducible first | exact HBw.out | apply below_alloc | apply pw_below_drewN | apply below_drew1) | exact HBw.out)) hb); have n2 := Aside0.mk (below_step (by repeat (first | (with_reducible first | exact HB5.out | apply below_alloc | apply pw_below_drewN | apply below_drew1) | exact HB5.out)) hb); clear hb HBS HBw HB5; have HBS := n0; have HBw := n1; have HB5 := n2; clear n0 n1 n2))
   clear T1 T2 T3 HXn HBS HV1
   have HV2 := HD1.out
   cases hw : (u && v) with
   | true =>
    have hz : V = false := by rw [← HV2]; cases u <;> cases v <;> simp_all
    have HZ := Lib.hid hz
    clear hz HV2 HD1
    clear hw
    go_wp2_with fail
    go_ret
    exact ⟨by rw [HZ.out]; rfl, HBw.out⟩
   | false =>
    have hz : (ps.drop (k + 1)).all (fun p => !atV c p || !atV d p) = V := by rw [← HV2]; cases u <;> cases v <;> simp_all
    have HZ := Aside0.mk hz
    clear hz HV2 HD1
    clear hw
    go_wp2_with fail
    go_roundw
    case rel => exact ⟨k + 1, by go_num, by omega, HZ, HB5⟩
    case measure => simp [Go.RowKit.intOf]; omega
  ·
   have HZ := Lib.hid (show V = true by rw [← HV1.out, List.drop_eq_nil_of_le (by omega)]; rfl)
   have HBw := Aside0.mk (HB3.out.trans (HB4.out.mono HB3.out.size))
   clear HV1
   go_wp2_with fail
   go_ret
   exact ⟨by rw [HZ.out]; rfl, HBw.out⟩

end Go.Proofs.YtllkoadcpobdaaaDoor.KX
