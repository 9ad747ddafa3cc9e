/- The row and the tied card of FnSemverSetOriginal, out of its printed walk and its plain law. For every input that the statement lets in. -/
import Derived.Test.YtjgedenoaocfjaaGreatDoorZCardSemverSetOriginal31
import Derived.Test.YtjgedenoaocfjaaGreatDoorZCardSemverSetOriginal32
import Derived.Deep.RegionWith
namespace Go.Proofs.YtjgedenoaocfjaaGreatDoor.Base
end Go.Proofs.YtjgedenoaocfjaaGreatDoor.Base
namespace Go.Proofs.YtjgedenoaocfjaaGreatDoor.Rx
end Go.Proofs.YtjgedenoaocfjaaGreatDoor.Rx
namespace Go.Proofs.YtjgedenoaocfjaaGreatDoor.Rxw

open Go Go.RowKit Go.Lib Go.Proofs Go.Proofs.YtjgedenoaocfjaaGreatDoor.Base Go.Proofs.YtjgedenoaocfjaaGreatDoor.Rx

theorem jobInfo : (Tryz.prog.info? 182).map (fun i => (i.zero, i.size, i.bytes)) = some (some (.agg #[.int .u32 0, .bool false, .int .i64 0]), 3, 16) := by kernel_rfl

theorem jobInfo' : ∃ i, Tryz.prog.info? 182 = some i ∧ i.zero = some (.agg #[.int .u32 0, .bool false, .int .i64 0]) ∧ i.size = 3 ∧ i.bytes = 16 := by
  have h := jobInfo
  cases e : Tryz.prog.info? 182 with
  | none => rw [e] at h; simp at h
  | some i =>
    rw [e] at h
    simp at h
    exact ⟨i, rfl, h.1, h.2.1, h.2.2⟩

theorem own_slice {w : World} {B n sz : Nat} {e : TypeId} {v : Value} {xs : List Value} (h : w.ownsRow B e sz v n xs) : ∃ A c, v = .slice A n c := by
  rcases h.2 with ⟨rfl, rfl⟩ | ⟨g, cap, cur, rfl, _⟩
  · exact ⟨_, _, rfl⟩
  · exact ⟨_, _, rfl⟩

theorem news_at (w : World) (a : Array Value) (e : TypeId) (j : Nat) (u : Value) (h : a.toList[j]? = some u) : (w.alloc (.cells a e)).cell? ((⟨w.heap.size, 0, none⟩ : Addr).add j) = some u := by
  have := (Row.new w a e).cell j u h
  have e : (⟨w.heap.size, 0, none⟩ : Addr).add j = ⟨w.heap.size, j, none⟩ := by
    unfold Addr.add
    split
    · rename_i h0; subst h0; rfl
    · simp
  rw [e]
  exact this

set_option maxHeartbeats 4000000 in
set_option maxRecDepth 100000 in
theorem pushT {P : List Ins} {re pr ib cN B : Nat} {h : Sh} {jv : Value} {J : List Job} {ws : List Nat} {c d : List Int} {i : Ins} (w : World) (pc : Nat) (pos : Int) (hP : PR w re pr ib P cN) (H : BS w B h jv J ws c d)
    (hi : P[pc]? = some i) (ho : i.op ≠ 5) (hB : B ≤ w.heap.size) (hJ : J.length < 1000000) :
    Calls Tryz.prog 118 #[.pointer (some ⟨h.b, 0, none⟩), .pointer (some ⟨re, 0, none⟩), .int .u32 pc, .int .i64 pos, .bool true] w fun e w' =>
      e = .returned (.tuple #[]) ∧ ∃ jv', BS w' B h jv' ((pc, true, pos) :: J) ws c d ∧ Below B w w' := by
  have p1 := hP.prog; have p2 := hP.insts; have p3 := hP.op pc i hi
  have b3 := H.bit.cell 3 jv rfl
  have f3 := H.bit.free 3
  have hlt : (pc : Int) < (P.length : Int) := by have := (List.getElem?_eq_some_iff.1 hi).1; omega
  have hl0 : (0 : Int) ≤ (pc : Int) := Int.natCast_nonneg pc
  have e5 : ((i.op : Int) != 5) = true := by rw [bne_iff_ne]; omega
  have HH := Lib.hid H; have HB := Lib.hid hB; have HJ := Lib.hid hJ
  obtain ⟨ji, j1, j2, j3, j4⟩ := jobInfo'
  have K1 := Lib.hid j1; have K2 := Lib.hid j2; have K3 := Lib.hid j3; have K4 := Lib.hid j4
  clear hP H hi ho hB hJ j1 j2 j3 j4
  go_enter Tryz.func118, Tryz.ntmps118
  go_wp2_with (at_builtin; refine wpList_append_own _ rfl (.tmp 35) (.tmp 40) 162 rfl B 182 ji _ 3 16 Tryz.underlying162 K1.out K2.out K3.out K4.out rfl (by decide) jv J.length (jcells J) rfl (HH.out.job.alloc _) ⟨w.heap.size, 0, none⟩ 1 1 (jcell (pc, true, pos)) rfl rfl (fun j u hu => news_at w _ _ j u hu) (by intro u hu; simp [jcell] at hu; rcases hu with rfl | rfl | rfl <;> rfl) (by have := HJ.out; simp only [maxLen]; omega) (by have := HJ.out; omega) (by have := HB.out; simp; omega) ?_; intro v' w1 ho hg _; obtain ⟨A', c', rfl⟩ := own_slice ho; have r4 := ((HH.out.bit.below (by simpa using (Below.refl _ w).alloc (Nat.le_refl _) _)).grown hg (Ne.symm (own_ne HH.out.bit HH.out.job (by decide)))); have f4 := r4.free 3; have g4 := r4.cell 3 _ rfl; clear r4; have HO := Lib.hid ho; have HG := Lib.hid hg; clear ho hg)
  go_end0
  have hbel := (Below.refl w.heap.size w).alloc (Nat.le_refl _) (.cells #[.int .u32 (pc : Int), .bool true, .int .i64 pos] 182)
  have HA : BS _ B h jv J ws c d := ⟨HH.out.bit.below hbel, HH.out.cap.below hbel, HH.out.mat.below hbel, HH.out.vis.below hbel, HH.out.job.alloc _, HH.out.lc, HH.out.ld, HH.out.cd, HH.out.wl, HH.out.small, HH.out.gb, HH.out.gC, HH.out.gD, HH.out.gV⟩
  refine ⟨rfl, _, HA.pushed HG.out HO.out, ?_⟩
  have h1 : Below B w _ := ((Below.refl B w).alloc HB.out (.cells #[.int .u32 (pc : Int), .bool true, .int .i64 pos] 182)).grown HG.out (by have := HB.out; simp; omega) (fun k hk => (HH.out.job.lt k hk).1)
  exact h1.setCell HH.out.gb _

end Go.Proofs.YtjgedenoaocfjaaGreatDoor.Rxw
namespace Go.Proofs.YtjgedenoaocfjaaGreatDoor.Rxw

open Go Go.RowKit Go.Lib Go.Proofs Go.Proofs.YtjgedenoaocfjaaGreatDoor.Base Go.Proofs.YtjgedenoaocfjaaGreatDoor.Rx

theorem vf_set (ws : List Nat) (n : Nat) (hq : n / 32 < ws.length) (x : Nat) (hx : ws.getD (n / 32) 0 = x) : Vf (ws.set (n / 32) (x ||| 2 ^ (n % 32))) = fun k => if k = n then true else Vf ws k := by
  funext k
  unfold Vf
  by_cases hk : k / 32 = n / 32
  · rw [hk, List.getD_eq_getElem?_getD, List.getElem?_set_self hq, Option.getD_some, Nat.testBit_or, Nat.testBit_two_pow]
    by_cases hk2 : k = n
    · subst hk2; simp
    · have : ¬ (n % 32 = k % 32) := by omega
      rw [if_neg hk2, hx]
      simp [this]
  · have : k ≠ n := fun e => hk (by rw [e])
    rw [if_neg this, List.getD_eq_getElem?_getD, List.getElem?_set_ne (fun e => hk e.symm), ← List.getD_eq_getElem?_getD]

/-- It tells whether the state is new; if it is, it is marked. -/
def VisR (B : Nat) (h : Sh) (jv : Value) (J : List Job) (ws : List Nat) (c d : List Int) (n : Nat) (w : World) (e : Ending) (w' : World) : Prop :=
  e = .returned (.bool (!Vf ws n)) ∧ (Vf ws n = true → w = w') ∧ (Vf ws n = false → ∃ ws', BS w' B h jv J ws' c d ∧ Vf ws' = (fun k => if k = n then true else Vf ws k) ∧ Below B w w')

theorem visitS {B : Nat} {h : Sh} {jv : Value} {J : List Job} {ws : List Nat} {c d : List Int} (w : World) (pc pos n : Nat) (H : BS w B h jv J ws c d) (hpc : pc < 65536) (hfin : h.fin < 65536) (hn : pc * (h.fin + 1) + pos = n) (hN : n < 4294967296) (hq : n / 32 < h.nv) :
    Calls Tryz.prog 119 #[.pointer (some ⟨h.b, 0, none⟩), .int .u32 pc, .int .i64 pos] w (VisR B h jv J ws c d n w) := by
  have hql : n / 32 < ws.length := Nat.lt_of_lt_of_le hq H.wl
  have hx : ws.getD (n / 32) 0 = ws[n / 32] := by rw [List.getD_eq_getElem?_getD, List.getElem?_eq_getElem hql]; rfl
  have hs : ws[n / 32] < 4294967296 := H.small _ (List.getElem_mem hql)
  have hc : w.cell? ⟨h.V, n / 32, none⟩ = some (.int .u32 (ws[n / 32] : Int)) := H.vis.cell _ _ (by rw [List.getElem?_map, List.getElem?_eq_getElem hql]; rfl)
  have hv : Vf ws n = (ws[n / 32]).testBit (n % 32) := by unfold Vf; rw [hx]
  refine (visit h.b h.V h.fin pc pos h.nv h.cv ws[n / 32] n (n / 32) (n % 32) _ _ _ _ w (H.bit.cell 0 _ rfl) (H.bit.cell 4 _ rfl) hpc hfin hn hN rfl rfl hq rfl rfl rfl rfl hc hs (H.vis.free _)).mono ?_
  rintro e w' ⟨rfl, rfl⟩
  rw [← hv]
  refine ⟨rfl, fun ht => by rw [if_pos ht], fun hf => ?_⟩
  rw [hf, if_neg (by decide)]
  have hz : ws[n / 32] ||| 2 ^ (n % 32) < 4294967296 := by
    have := Nat.or_lt_two_pow (n := 32) (x := ws[n / 32]) (y := 2 ^ (n % 32)) hs (Nat.pow_lt_pow_right (by decide) (Nat.mod_lt _ (by decide)))
    exact this
  refine ⟨_, H.marked (n / 32) _ hql hz, ?_, (Below.refl B w).setCell H.gV _⟩
  exact vf_set ws n hql _ hx

/-- What a push that asks leaves. -/
def PushR (B : Nat) (h : Sh) (J : List Job) (ws : List Nat) (c d : List Int) (pc pos n : Nat) (w : World) (e : Ending) (w' : World) : Prop :=
  e = .returned (.tuple #[]) ∧ (Vf ws n = true → w = w') ∧ (Vf ws n = false → ∃ jv' ws', BS w' B h jv' ((pc, false, (pos : Int)) :: J) ws' c d ∧ Vf ws' = (fun k => if k = n then true else Vf ws k) ∧ Below B w w')

set_option maxHeartbeats 4000000 in
set_option maxRecDepth 100000 in
theorem pushF {P : List Ins} {re pr ib cN B : Nat} {h : Sh} {jv : Value} {J : List Job} {ws : List Nat} {c d : List Int} {i : Ins} (w : World) (pc pos n : Nat) (hP : PR w re pr ib P cN) (H : BS w B h jv J ws c d)
    (hi : P[pc]? = some i) (ho : i.op ≠ 5) (hB : B ≤ w.heap.size) (hJ : J.length < 1000000) (hpc : pc < 65536) (hfin : h.fin < 65536) (hn : pc * (h.fin + 1) + pos = n) (hN : n < 4294967296) (hq : n / 32 < h.nv) :
    Calls Tryz.prog 118 #[.pointer (some ⟨h.b, 0, none⟩), .pointer (some ⟨re, 0, none⟩), .int .u32 pc, .int .i64 pos, .bool false] w (PushR B h J ws c d pc pos n w) := by
  have hC := visitS w pc pos n H hpc hfin hn hN hq
  have p1 := hP.prog; have p2 := hP.insts; have p3 := hP.op pc i hi
  have hlt : (pc : Int) < (P.length : Int) := by have := (List.getElem?_eq_some_iff.1 hi).1; omega
  have hl0 : (0 : Int) ≤ (pc : Int) := Int.natCast_nonneg pc
  have e5 : ((i.op : Int) != 5) = true := by rw [bne_iff_ne]; omega
  have HB := Lib.hid hB; have HJ := Lib.hid hJ
  have hjs := H.job
  obtain ⟨ji, j1, j2, j3, j4⟩ := jobInfo'
  have K1 := Lib.hid j1; have K2 := Lib.hid j2; have K3 := Lib.hid j3; have K4 := Lib.hid j4
  cases hv : Vf ws n with
  | true =>
    have C := Lib.hid (hC.mono (fun e w' (hh : VisR B h jv J ws c d n w e w') => (⟨by rw [hh.1, hv]; rfl, hh.2.1 hv⟩ : e = .returned (.bool false) ∧ w = w')))
    clear hC hP H hi ho hB hJ j1 j2 j3 j4 hjs hn
    go_enter Tryz.func118, Tryz.ntmps118
    go_wp2_with (go_at_call 119; (with_reducible refine C.out.mono ?_); rintro e w' ⟨rfl, rfl⟩)
    go_end0
    exact ⟨rfl, fun _ => rfl, fun h => by rw [hv] at h; cases h⟩
  | false =>
    have C := Lib.hid (hC.mono (fun e w' (hh : VisR B h jv J ws c d n w e w') => (⟨by rw [hh.1, hv]; rfl, hh.2.2 hv⟩ : e = .returned (.bool true) ∧ ∃ ws', BS w' B h jv J ws' c d ∧ Vf ws' = (fun k => if k = n then true else Vf ws k) ∧ Below B w w')))
    have HV := Lib.hid hv
    clear hC hP H hi ho hB hJ j1 j2 j3 j4 hjs hn hv
    go_enter Tryz.func118, Tryz.ntmps118
    go_wp2_with (first
      | (go_at_call 119; (with_reducible refine C.out.mono ?_); rintro e w2 ⟨rfl, ws', h2, hu, hb2⟩; have b3 := h2.bit.cell 3 jv rfl; have HH := Lib.hid h2; have HU := Lib.hid hu; have HB2 := Lib.hid hb2; clear h2 hu hb2)
      | (at_builtin; refine wpList_append_own _ rfl (.tmp 35) (.tmp 40) 162 rfl B 182 ji _ 3 16 Tryz.underlying162 K1.out K2.out K3.out K4.out rfl (by decide) jv J.length (jcells J) rfl (HH.out.job.alloc _) ⟨w2.heap.size, 0, none⟩ 1 1 (jcell (pc, false, (pos : Int))) rfl rfl (fun j u hu => news_at w2 _ _ j u hu) (by intro u hu; simp [jcell] at hu; rcases hu with rfl | rfl | rfl <;> rfl) (by have := HJ.out; simp only [maxLen]; omega) (by have := HJ.out; omega) (by have := HB.out; have := HB2.out.size; simp; omega) ?_; intro v' w1 ho hg _; obtain ⟨A', c', rfl⟩ := own_slice ho; have r4 := ((HH.out.bit.below (by simpa using (Below.refl _ w2).alloc (Nat.le_refl _) _)).grown hg (Ne.symm (own_ne HH.out.bit HH.out.job (by decide)))); have f4 := r4.free 3; have g4 := r4.cell 3 _ rfl; clear r4; have HO := Lib.hid ho; have HG := Lib.hid hg; clear ho hg))
    go_end0
    have hbel := (Below.refl w2.heap.size w2).alloc (Nat.le_refl _) (.cells #[.int .u32 (pc : Int), .bool false, .int .i64 (pos : Int)] 182)
    have HA : BS _ B h jv J ws' c d := ⟨HH.out.bit.below hbel, HH.out.cap.below hbel, HH.out.mat.below hbel, HH.out.vis.below hbel, HH.out.job.alloc _, HH.out.lc, HH.out.ld, HH.out.cd, HH.out.wl, HH.out.small, HH.out.gb, HH.out.gC, HH.out.gD, HH.out.gV⟩
    refine ⟨rfl, fun h => (by rw [HV.out] at h; cases h), fun _ => ⟨_, ws', HA.pushed HG.out HO.out, HU.out, ?_⟩⟩
    have hsz : B ≤ w2.heap.size := Nat.le_trans HB.out HB2.out.size
    have h1 : Below B w _ := (HB2.out.alloc hsz (.cells #[.int .u32 (pc : Int), .bool false, .int .i64 (pos : Int)] 182)).grown HG.out (by simp; omega) (fun k hk => (HH.out.job.lt k hk).1)
    exact h1.setCell HH.out.gb _

end Go.Proofs.YtjgedenoaocfjaaGreatDoor.Rxw
