/- The row and the tied card of FnSemverSetOriginal, out of its printed walk and its plain law. For every input that the statement lets in. -/
import Derived.Test.YtjgedenoaocfjaaGreatDoorZCardSemverSetOriginal0
import Derived.Test.YtjgedenoaocfjaaGreatDoorZCardSemverSetOriginal2
import Derived.Test.YtjgedenoaocfjaaGreatDoorZCardSemverSetOriginal33
import Derived.Test.YtjgedenoaocfjaaGreatDoorZCardSemverSetOriginal34
import Derived.Test.YtjgedenoaocfjaaGreatDoorZCardSemverSetOriginal36
import Derived.WalkMore
import Derived.LoopTactic
import Derived.ArgAppend
namespace Go.Proofs.YtjgedenoaocfjaaGreatDoor.Base
end Go.Proofs.YtjgedenoaocfjaaGreatDoor.Base
namespace Go.Proofs.YtjgedenoaocfjaaGreatDoor.Bt
end Go.Proofs.YtjgedenoaocfjaaGreatDoor.Bt
namespace Go.Proofs.YtjgedenoaocfjaaGreatDoor.L
end Go.Proofs.YtjgedenoaocfjaaGreatDoor.L
namespace Go.Proofs.YtjgedenoaocfjaaGreatDoor.Rx
end Go.Proofs.YtjgedenoaocfjaaGreatDoor.Rx
namespace Go.Proofs.YtjgedenoaocfjaaGreatDoor.Rxw

open Go Go.RowKit Go.Lib Go.Proofs Go.Proofs.YtjgedenoaocfjaaGreatDoor.Base Go.Proofs.YtjgedenoaocfjaaGreatDoor.Rx Go.Proofs.YtjgedenoaocfjaaGreatDoor.L Go.Proofs.YtjgedenoaocfjaaGreatDoor.Bt

/-- An instruction to which one may go. -/
def Tgt (P : List Ins) (p : Nat) : Prop := ∃ j, P[p]? = some j ∧ j.op ≠ 5

/-- What the walk asks of a program, its text and its state. -/
structure Env (P : List Ins) (I : Inp) (h : Sh) (M : Nat) : Prop where
  ops : ∀ (pc : Nat) (i : Ins), P[pc]? = some i → i.op = 0 ∨ i.op = 2 ∨ i.op = 3 ∨ i.op = 4 ∨ i.op = 5 ∨ i.op = 6 ∨ i.op = 7 ∨ i.op = 8
  out : ∀ (pc : Nat) (i : Ins), P[pc]? = some i → i.op ≠ 4 → i.op ≠ 5 → Tgt P i.out
  arg : ∀ (pc : Nat) (i : Ins), P[pc]? = some i → i.op = 0 → Tgt P i.arg
  emp : ∀ (pc : Nat) (i : Ins), P[pc]? = some i → i.op = 3 → i.arg = 4 ∨ i.arg = 8
  cls7 : ∀ (pc : Nat) (i : Ins), P[pc]? = some i → i.op = 7 → ∃ n, i.cls.length = 2 * n ∧ 0 < n ∧ n ≤ 4 ∧ Srt i.cls
  cls8 : ∀ (pc : Nat) (i : Ins), P[pc]? = some i → i.op = 8 → ∃ x, i.cls = [x]
  pos7 : ∀ (pc : Nat) (i : Ins), P[pc]? = some i → i.op = 7 → ∀ k, 0 ≤ i.cls.getD k 0
  pos8 : ∀ (pc : Nat) (i : Ins), P[pc]? = some i → i.op = 8 → ∀ x ∈ i.cls, 0 ≤ x
  len : P.length ≤ 65535
  fin : h.fin < 65536
  size : h.s.size = h.fin
  sz : M = P.length * (h.fin + 1)
  Mle : M ≤ 300000
  nv : ∀ n, n < M → n / 32 < h.nv
  ascii : ∀ x ∈ bl h.s, x.toNat < 128
  ifin : I.fin = h.fin
  stp : ∀ q, I.stp q = match (bl h.s)[q]? with | some x => ((x.toNat : Int), 1) | none => (-1, 0)
  beg : ∀ q, I.emp q 4 = decide (q = 0)
  nil : ∀ q, I.emp q 8 = decide (h.fin ≤ q)
  L : 2 ≤ h.L ∧ h.L ≤ 1000

theorem Env.idx {P I h M} (e : Env P I h M) {pc pos : Nat} (hp : pc < P.length) (hq : pos ≤ h.fin) : pc * (h.fin + 1) + pos < M := by
  rw [e.sz]
  have : (pc + 1) * (h.fin + 1) ≤ P.length * (h.fin + 1) := Nat.mul_le_mul_right _ hp
  rw [Nat.add_mul] at this
  omega

def JobOk (P : List Ins) (fin : Nat) (j : Job) : Prop := ∃ i, P[j.1]? = some i ∧ i.op ≠ 5 ∧ ((i.op = 2 ∧ j.2.1 = true) ∨ ∃ q : Nat, j.2.2 = (q : Int) ∧ q ≤ fin)

/-- The part of a state that all its kinds share. -/
structure St (P : List Ins) (I : Inp) (B : Nat) (h : Sh) (d0 : List Int) (w0 : World) (r : Option (List Int)) (U : Nat → Bool) (ctl : Ctl) (w : World) (jv : Value) (J : List Job) (ws : List Nat) (c : List Int) : Prop where
  bs : BS w B h jv J ws c d0
  out : Out P I ctl J (Vf ws) c r U
  jobs : ∀ j ∈ J, JobOk P h.fin j
  bel : Below B w0 w

def StP (P : List Ins) (I : Inp) (B : Nat) (h : Sh) (d0 : List Int) (w0 : World) (r : Option (List Int)) (U : Nat → Bool) (M m : Nat) (w : World) : Prop :=
  ∃ jv J ws c, St P I B h d0 w0 r U .pop w jv J ws c ∧ m = 3 * (2 * cnt (Vf ws) M + wgt J) ∧ m ≤ 2000000

def StC (P : List Ins) (I : Inp) (B : Nat) (h : Sh) (d0 : List Int) (w0 : World) (r : Option (List Int)) (U : Nat → Bool) (M m pc pos : Nat) (w : World) : Prop :=
  ∃ jv J ws c, St P I B h d0 w0 r U (.chk pc pos) w jv J ws c ∧ Tgt P pc ∧ pos ≤ h.fin ∧ m = 3 * (2 * cnt (Vf ws) M + wgt J) + 1 ∧ m ≤ 2000000

def StS (P : List Ins) (I : Inp) (B : Nat) (h : Sh) (d0 : List Int) (w0 : World) (r : Option (List Int)) (U : Nat → Bool) (M m pc : Nat) (p : Int) (arg : Bool) (w : World) : Prop :=
  ∃ jv J ws c, St P I B h d0 w0 r U (.skp pc p arg) w jv J ws c ∧ JobOk P h.fin (pc, arg, p) ∧ m = 3 * (2 * cnt (Vf ws) M + wgt J) + (if arg then 2 else 5) ∧ m ≤ 2000000

abbrev ptr (k : Nat) : Value := .pointer (some ⟨k, 0, none⟩)

abbrev inp (h : Sh) : Value := .iface 191 (.pointer (some ⟨h.b, 5, none⟩))

/-- What holds at a jump to a label. -/
def Jm (P : List Ins) (I : Inp) (B : Nat) (h : Sh) (d0 : List Int) (w0 : World) (r : Option (List Int)) (U : Nat → Bool) (M re m l : Nat) (a : Act) (w : World) : Prop :=
  (l = 1 ∧ ∃ (pc pos : Nat), Fr a (ptr re) (ptr h.b) (inp h) (.bool false) (.bool false) (.int .u32 pc) (.int .i64 pos) (.bool false) ∧ StC P I B h d0 w0 r U M m pc pos w) ∨
  (l = 0 ∧ ∃ (pc : Nat) (p : Int) (arg : Bool), Fr a (ptr re) (ptr h.b) (inp h) (.bool false) (.bool false) (.int .u32 pc) (.int .i64 p) (.bool arg) ∧ StS P I B h d0 w0 r U M m pc p arg w)

/-- What holds at the head of the loop over the jobs. -/
def Jo (P : List Ins) (I : Inp) (B : Nat) (h : Sh) (d0 : List Int) (w0 : World) (r : Option (List Int)) (U : Nat → Bool) (M re m : Nat) (a : Act) (w : World) : Prop :=
  (∃ X Y Z : Value, Fr a (ptr re) (ptr h.b) (inp h) (.bool false) (.bool false) X Y Z) ∧ StP P I B h d0 w0 r U M m w

/-- What it returns. -/
def TryR (B : Nat) (h : Sh) (d0 : List Int) (r : Option (List Int)) (U : Nat → Bool) (w : World) (e : Ending) (w' : World) : Prop := match r with
  | some d => e = .returned (.bool true) ∧ Below B w w' ∧ ∃ jv, Row w' h.b 168 (bitCells h jv) ∧ Row w' h.D 3 (d.map fun x => .int .i64 x)
  | none => e = .returned (.bool false) ∧ Below B w w' ∧ ∃ jv ws c, BS w' B h jv [] ws c d0 ∧ Vf ws = U

theorem close_goto {P : List Ins} {I : Inp} {B : Nat} {h : Sh} {d0 : List Int} {w0 : World} {r : Option (List Int)} {U : Nat → Bool} {M re m0 m1 m2 m' l : Nat} {a : Act} {w : World} (hJ : Jm P I B h d0 w0 r U M re m' l a w) (h1 : m' < m2) (h2 : m2 ≤ m1) (h3 : m1 < m0) :
    ∃ m, m < m2 ∧ m < m0 ∧ Jm P I B h d0 w0 r U M re m l a w := ⟨m', h1, by omega, hJ⟩

theorem close_pop {P : List Ins} {I : Inp} {B : Nat} {h : Sh} {d0 : List Int} {w0 : World} {r : Option (List Int)} {U : Nat → Bool} {M re m0 m1 m2 m' : Nat} {a : Act} {w : World} (hJ : Jo P I B h d0 w0 r U M re m' a w) (h1 : m' < m2) (h2 : m2 ≤ m1) (h3 : m1 < m0) :
    (∃ m, Jo P I B h d0 w0 r U M re m a w) ∧ (leastOf fun m => Jo P I B h d0 w0 r U M re m a w) < m0 := ⟨⟨m', hJ⟩, by have := leastOf_le (p := fun m => Jo P I B h d0 w0 r U M re m a w) hJ; omega⟩

set_option maxHeartbeats 16000000 in
set_option maxRecDepth 100000 in
theorem tryB {P : List Ins} {I : Inp} {B re pr ib cN M : Nat} {h : Sh} {jv : Value} {ws : List Nat} {c d0 : List Int} {r : Option (List Int)} {U : Nat → Bool} {pc pos : Nat} (w : World) (E : Env P I h M) (hP : ∀ w', Below B w w' → PR w' re pr ib P cN)
  (H : BS w B h jv [] ws c d0) (hd : d0[1]? = some (-1)) (hO : Out P I (.chk pc pos) [] (Vf ws) c r U) (hpc : Tgt P pc) (hpos : pos ≤ h.fin) (hB : B ≤ w.heap.size) (hib : ib < B) :
  Calls Tryz.prog 112 #[ptr re, ptr h.b, inp h, .int .u32 pc, .int .i64 pos] w (TryR B h d0 r U w) := by
 have hPw := hP w (Below.refl _ _)
 have pl := hPw.longest
 obtain ⟨i0, hi0, ho0⟩ := hpc
 have hlt0 : pc < P.length := (List.getElem?_eq_some_iff.1 hi0).1
 have hidx := E.idx hlt0 hpos
 have hPush := pushF w pc pos _ hPw H hi0 ho0 hB (by decide) (by have := E.len; omega) E.fin rfl (Nat.lt_of_lt_of_le hidx (by have := E.Mle; omega)) (E.nv _ hidx)
 have hI : at2 I (Vf ws) pc pos = Vf ws (pc * (h.fin + 1) + pos) := by unfold at2; rw [E.ifin]
 have hMk : Rx.mark I (Vf ws) pc pos = (fun k => if k = pc * (h.fin + 1) + pos then true else Vf ws k) := by unfold Rx.mark; rw [E.ifin]
 have C := Lib.hid hPush
 have hJ0 : ∃ m, (∃ w1, True) ∧ True := ⟨0, ⟨w, trivial⟩, trivial⟩
 -- what the first push leaves
 have hFirst : ∀ w1, (Vf ws (pc * (h.fin + 1) + pos) = true → w = w1) → (Vf ws (pc * (h.fin + 1) + pos) = false → ∃ jv' ws', BS w1 B h jv' [(pc, false, (pos : Int))] ws' c d0 ∧ Vf ws' = (fun k => if k = pc * (h.fin + 1) + pos then true else Vf ws k) ∧ Below B w w1) →
   ∃ m, StP P I B h d0 w r U M m w1 := by
  intro w1 h1 h2
  have hcle := cnt_le (Vf ws) M
  have hM := E.Mle
  cases hv : Vf ws (pc * (h.fin + 1) + pos) with
  | true =>
   cases h1 hv
   rcases inv_chk hO with ⟨_, g⟩ | ⟨g, _⟩
   ·
    exact ⟨_, jv, [], ws, c, ⟨H, g, fun j hj => (by cases hj), Below.refl _ _⟩, rfl, by simp [wgt]; omega⟩
   ·
    rw [hI, hv] at g; cases g
  | false =>
   obtain ⟨jv', ws', g1, g2, g3⟩ := h2 hv
   rcases inv_chk hO with ⟨g, _⟩ | ⟨_, g⟩
   ·
    rw [hI, hv] at g; cases g
   ·
    rw [hMk, ← g2] at g
    have hcle' := cnt_le (Vf ws') M
    refine ⟨_, jv', [(pc, false, (pos : Int))], ws', c, ⟨g1, .popJob g, ?_, g3⟩, rfl, by simp [wgt]; omega⟩
    intro j hj
    rw [List.mem_singleton.1 hj]
    exact ⟨i0, hi0, ho0, .inr ⟨pos, rfl, hpos⟩⟩
 have HF := Lib.hid hFirst
 have HE := Lib.hid E; have HP := Lib.hid hP; have HD := Lib.hid hd; have HB := Lib.hid hB; have HIB := Lib.hid hib
 clear hFirst hib hPush hPw H hO hJ0 hI hMk hidx hlt0 hi0 ho0 hpos E hP hd hB
 go_enter Tryz.func112, Tryz.ntmps112
 go_wp2_with (go_at_call 118; (with_reducible refine C.out.mono ?_); rintro e w1 ⟨rfl, h1, h2⟩; have HS := Lib.hid (HF.out w1 h1 h2); clear h1 h2)
 refine wp_loop (fun a w' => ∃ m, Jo P I B h d0 w r U M re m a w') (fun a w' => leastOf fun m => Jo P I B h d0 w r U M re m a w') ?_ ?_
 ·
  obtain ⟨m, hm⟩ := HS.out
  exact ⟨m, ⟨_, _, _, ⟨rfl, rfl, rfl, rfl, rfl, rfl, rfl, rfl, rfl, rfl⟩⟩, hm⟩
 clear HS HF C
 intro a w' hrel
 have hmin := leastOf_spec hrel
 clear hrel
 generalize (leastOf fun m => Jo P I B h d0 w r U M re m a w') = m0 at *
 obtain ⟨⟨X, Y, Z, hF⟩, hS⟩ := hmin
 obtain ⟨f, rfl⟩ := hF.lit
 obtain ⟨jv2, J2, ws2, c2, hSt, hm0, hmle⟩ := hS
 have HS := Lib.hid hSt; have HM0 := Lib.hid hm0; have HML := Lib.hid hmle
 have b3 := hSt.bs.bit.cell 3 jv2 rfl
 have f3 := hSt.bs.bit.free 3
 clear hF hSt hm0 hmle
 cases J2 with
 | nil =>
  have hs0 := own_slice HS.out.bs.job
  obtain ⟨A, cap, rfl⟩ := hs0
  go_wp2_with fail
  go_ret
  obtain ⟨e1, e2⟩ := inv_nil HS.out.out
  subst e1
  exact ⟨rfl, HS.out.bel, _, ws2, c2, HS.out.bs, e2.symm⟩
 | cons j J2 =>
  obtain ⟨g, cap, rfl, hcap, hown, q1, q2, q3⟩ := own_pop HS.out.bs.job
  obtain ⟨jp, ja, jq⟩ := j
  have hgt : ((J2.length : Int) + 1 > 0) := by omega
  have hcap2 : J2.length ≤ cap := by omega
  have HO := Lib.hid hown
  have hb1 : J2.length < 1000000 := by
   have h1 := len_wgt J2
   have h2 := HML.out
   have h3 := HM0.out
   cases ja <;> simp [wgt] at h3 <;> omega
  clear hown
  go_wp2_with fail
  refine wp_scope_idx (fun m l a w' => m < m0 ∧ Jm P I B h d0 w r U M re m l a w') ?_ ?_
  ·
   go_wp2_with fail
   go_step3
   show ∃ m, m < m0 ∧ Jm P I B h d0 w r U M re m 0 _ _
   have hm0 := HM0.out
   have hml := HML.out
   refine ⟨3 * (2 * cnt (Vf ws2) M + wgt J2) + (if ja then 2 else 5), ?_, .inr ⟨rfl, jp, jq, ja, ⟨rfl, rfl, rfl, rfl, rfl, rfl, rfl, rfl, rfl, rfl⟩, _, J2, ws2, c2, ⟨HS.out.bs.popped HO.out, inv_job HS.out.out, fun j hj => HS.out.jobs j (List.mem_cons_of_mem _ hj), HS.out.bel.setCell HS.out.bs.gb _⟩, HS.out.jobs _ List.mem_cons_self, rfl, ?_⟩⟩
   ·
    cases ja <;> simp [wgt] at hm0 ⊢ <;> omega
   ·
    cases ja <;> simp [wgt] at hm0 ⊢ <;> omega

  intro m2 l a w' hJ IH
  obtain ⟨hm1, hmin⟩ := hJ
  have hle : m2 ≤ m2 := Nat.le_refl _
  rcases hmin with ⟨rfl, pc1, pos1, hF1, hS1⟩ | ⟨rfl, pc1, p1, arg1, hF1, hS1⟩
  ·
   obtain ⟨f1, rfl⟩ := hF1.lit
   have IH2 := Lib.hid (fun m hm a' w' hJ => IH m hm 0 _ (by rfl) a' w' hJ)
   refine ⟨_, by rfl, ?_⟩
   obtain ⟨jv3, J3, ws3, c3, hSt, ⟨i, hi, ho5⟩, hposf, hm2, hml2⟩ := hS1
   have hlt : pc1 < P.length := (List.getElem?_eq_some_iff.1 hi).1
   have hidx := HE.out.idx hlt hposf
   have hC := visitS w' pc1 pos1 _ hSt.bs (by have := HE.out.len; omega) HE.out.fin rfl (Nat.lt_of_lt_of_le hidx (by have := HE.out.Mle; omega)) (HE.out.nv _ hidx)
   have hI : at2 I (Vf ws3) pc1 pos1 = Vf ws3 (pc1 * (h.fin + 1) + pos1) := by unfold at2; rw [HE.out.ifin]
   have hMk : Rx.mark I (Vf ws3) pc1 pos1 = (fun k => if k = pc1 * (h.fin + 1) + pos1 then true else Vf ws3 k) := by unfold Rx.mark; rw [HE.out.ifin]
   have hinv := inv_chk hSt.out
   rw [hI, hMk] at hinv
   have hcm := cnt_mark (Vf ws3) _ M hidx
   generalize pc1 * (h.fin + 1) + pos1 = n at *
   have HS3 := Lib.hid hSt; have HM2 := Lib.hid hm2; have HML2 := Lib.hid hml2; have HLE := Lib.hid hle; have HM1 := Lib.hid hm1; have HPF := Lib.hid hposf; have HI := Lib.hid hi; have HO5 := Lib.hid ho5
   cases hv : Vf ws3 n with
   | true =>
    have C := Lib.hid (hC.mono (fun e w'' (hh : VisR B h jv3 J3 ws3 c3 d0 n w' e w'') => (⟨by rw [hh.1, hv]; rfl, hh.2.1 hv⟩ : e = .returned (.bool false) ∧ w' = w'')))
    have HO2 : Hid (Out P I .pop J3 (Vf ws3) c3 r U) := Lib.hid (by rcases hinv with ⟨_, g⟩ | ⟨g, _⟩; exact g; (rw [hv] at g; cases g))
    clear hC hI hMk hinv hcm hSt hm2 hml2 hle hm1 hposf hi ho5 hlt hidx hF1 hv IH
    go_wp2_with (go_at_call 119; (with_reducible refine C.out.mono ?_); rintro e w2 ⟨rfl, rfl⟩)
    refine close_pop (m' := 3 * (2 * cnt (Vf ws3) M + wgt J3)) ⟨⟨_, _, _, ⟨rfl, rfl, rfl, rfl, rfl, rfl, rfl, rfl, rfl, rfl⟩⟩, jv3, J3, ws3, c3, ⟨HS3.out.bs, HO2.out, HS3.out.jobs, HS3.out.bel⟩, rfl, ?_⟩ ?_ HLE.out HM1.out
    ·
     have h1 := HM2.out; have h2 := HML2.out; omega
    ·
     have h1 := HM2.out; omega
   | false =>
    have C := Lib.hid (hC.mono (fun e w'' (hh : VisR B h jv3 J3 ws3 c3 d0 n w' e w'') => (⟨by rw [hh.1, hv]; rfl, hh.2.2 hv⟩ : e = .returned (.bool true) ∧ ∃ ws', BS w'' B h jv3 J3 ws' c3 d0 ∧ Vf ws' = (fun k => if k = n then true else Vf ws3 k) ∧ Below B w' w'')))
    have HO2 : Hid (Out P I (.skp pc1 (pos1 : Int) false) J3 (fun k => if k = n then true else Vf ws3 k) c3 r U) := Lib.hid (by rcases hinv with ⟨g, _⟩ | ⟨_, g⟩; (rw [hv] at g; cases g); exact g)
    have HCM := Lib.hid (hcm hv)
    clear hC hI hMk hinv hcm hSt hm2 hml2 hle hm1 hposf hi ho5 hlt hidx hF1 hv IH
    go_wp2_with (go_at_call 119; (with_reducible refine C.out.mono ?_); rintro e w2 ⟨rfl, ws4, h4, hu4, hb4⟩; have H4 := Lib.hid h4; have HU4 := Lib.hid hu4; have HB4 := Lib.hid hb4; clear h4 hu4 hb4)
    go_step3
    rename_i K hK
    refine hK _ _ ?_

    have hm4 : 3 * (2 * cnt (Vf ws4) M + wgt J3) + 5 < m2 := by
     have h1 := HM2.out; have h2 := HCM.out; rw [← HU4.out] at h2; omega
    refine wp_weaken (IH2.out (3 * (2 * cnt (Vf ws4) M + wgt J3) + 5) hm4 _ _ ?_) (jumps_mono fun l' a' w' ⟨k, hk, hJ⟩ => ⟨k, Nat.lt_trans hk hm4, hJ⟩)
    refine ⟨?_, .inr ⟨rfl, pc1, (pos1 : Int), false, ⟨rfl, rfl, rfl, rfl, rfl, rfl, rfl, rfl, rfl, rfl⟩, jv3, J3, ws4, c3, ⟨H4.out, ?_, HS3.out.jobs, HS3.out.bel.trans HB4.out⟩, ⟨i, HI.out, HO5.out, .inr ⟨pos1, rfl, HPF.out⟩⟩, rfl, ?_⟩⟩
    ·
     have := HM1.out; omega
    ·
     rw [HU4.out]; exact HO2.out
    ·
     have h1 := HM2.out; have h2 := HML2.out; omega
  ·
   obtain ⟨f1, rfl⟩ := hF1.lit
   refine ⟨_, by rfl, ?_⟩
   obtain ⟨jv3, J3, ws3, c3, hSt, ⟨i, hi, ho5, hpos⟩, hm2, hml2⟩ := hS1
   have hPw := HP.out w' hSt.bel
   have p1' := hPw.prog; have p2 := hPw.insts; have o0 := hPw.op pc1 i hi; have o1 := hPw.out pc1 i hi; have o2 := hPw.arg pc1 i hi
   have hlt : (pc1 : Int) < (P.length : Int) := by have := (List.getElem?_eq_some_iff.1 hi).1; omega
   have hl0 : (0 : Int) ≤ (pc1 : Int) := Int.natCast_nonneg pc1
   have b0 := hSt.bs.bit.cell 0 _ rfl; have b1 := hSt.bs.bit.cell 1 _ rfl; have b2 := hSt.bs.bit.cell 2 _ rfl; have b3' := hSt.bs.bit.cell 3 _ rfl
   have hBw : B ≤ w'.heap.size := Nat.le_trans HB.out hSt.bel.size
   have hJl : J3.length < 1000000 := by
    have h1 := len_wgt J3
    cases arg1 <;> simp at hm2 <;> omega
   have HPw := Lib.hid hPw; have HS3 := Lib.hid hSt; have HI := Lib.hid hi; have HO5 := Lib.hid ho5; have HPos := Lib.hid hpos; have HM2 := Lib.hid hm2; have HML2 := Lib.hid hml2; have HLE := Lib.hid hle; have HM1 := Lib.hid hm1
   have HBw := Lib.hid hBw; have HJl := Lib.hid hJl; have HOps := Lib.hid (HE.out.ops pc1 i hi)
   clear hPw hSt hi ho5 hpos hm2 hml2 hle hm1 hF1 hBw hJl IH
   rcases HOps.out with e | e | e | e | e | e | e | e
   ·
    -- an alternative
    have o0' : w'.cell? ⟨ib, pc1 * 4, none⟩ = some (.int .u8 0) := by rw [e] at o0; exact o0
    have HEo := Lib.hid e
    have hq := HPos.out
    clear o0 e
    cases arg1 with
    | true =>
     obtain ⟨q, rfl, hO2⟩ := inv_altA HS3.out.out HI.out HEo.out
     have hqf : q ≤ h.fin := by
      rcases hq with ⟨h2, _⟩ | ⟨q', h3, h4⟩
      ·
       have := HEo.out; omega
      ·
       have h5 : (q : Int) = (q' : Int) := h3
       omega
     have HQ := Lib.hid hqf; have HO2 := Lib.hid hO2
     clear hq hqf hO2
     go_wp2_with fail
     go_step3
     refine close_goto (m' := 3 * (2 * cnt (Vf ws3) M + wgt J3) + 1) (.inl ⟨rfl, i.arg, q, ⟨rfl, rfl, rfl, rfl, rfl, rfl, rfl, rfl, rfl, rfl⟩, jv3, J3, ws3, c3, ⟨HS3.out.bs, HO2.out, HS3.out.jobs, HS3.out.bel⟩, HE.out.arg pc1 i HI.out HEo.out, HQ.out, rfl, ?_⟩) ?_ HLE.out HM1.out
     ·
      have h1 := HM2.out; have h2 := HML2.out; simp at h1; omega
     ·
      have h1 := HM2.out; simp at h1; omega
    | false =>
     obtain ⟨q, rfl, hO2⟩ := inv_altO HS3.out.out HI.out HEo.out
     have hqf : q ≤ h.fin := by
      rcases hq with ⟨h2, _⟩ | ⟨q', h3, h4⟩
      ·
       have := HEo.out; omega
      ·
       have h5 : (q : Int) = (q' : Int) := h3
       omega
     have HQ := Lib.hid hqf; have HO2 := Lib.hid hO2
     have CP := Lib.hid (pushT w' pc1 (q : Int) HPw.out HS3.out.bs HI.out HO5.out HBw.out HJl.out)
     clear hq hqf hO2
     go_wp2_with (go_at_call 118; (with_reducible refine CP.out.mono ?_); rintro e w2 ⟨rfl, jv4, h4, hb4⟩; have hb5 := HS3.out.bel.trans hb4; have o1' := (HP.out w2 hb5).out pc1 i HI.out; have H4 := Lib.hid h4; have HB5 := Lib.hid hb5; clear h4 hb4 hb5)
     go_step3
     refine close_goto (m' := 3 * (2 * cnt (Vf ws3) M + wgt ((pc1, true, (q : Int)) :: J3)) + 1) (.inl ⟨rfl, i.out, q, ⟨rfl, rfl, rfl, rfl, rfl, rfl, rfl, rfl, rfl, rfl⟩, jv4, _, ws3, c3, ⟨H4.out, HO2.out, ?_, HB5.out⟩, HE.out.out pc1 i HI.out (by have := HEo.out; omega) HO5.out, HQ.out, rfl, ?_⟩) ?_ HLE.out HM1.out
     ·
      intro j hj
      rcases List.mem_cons.1 hj with rfl | hj
      ·
       exact ⟨i, HI.out, HO5.out, .inr ⟨q, rfl, HQ.out⟩⟩
      ·
       exact HS3.out.jobs j hj
     ·
      have h1 := HM2.out; have h2 := HML2.out; simp [wgt] at h1 ⊢; omega
     ·
      have h1 := HM2.out; simp [wgt] at h1 ⊢; omega
   ·
    have o0' : w'.cell? ⟨ib, pc1 * 4, none⟩ = some (.int .u8 2) := by rw [e] at o0; exact o0
    have HEo := Lib.hid e
    have hq := HPos.out
    clear o0 e
    have hLc := HS3.out.bs.lc
    have hLint : ((h.L : Nat) : Int) ≤ 1000 := by have := HE.out.L; omega
    cases arg1 with
    | true =>
     obtain ⟨ha, hO2⟩ := inv_capR HS3.out.out HI.out HEo.out
     have hal : i.arg < h.L := by omega
     have e6 : (i.arg : Int) < (h.L : Int) := by omega
     have e7 : (0 : Int) ≤ (i.arg : Int) := Int.natCast_nonneg _
     obtain ⟨cv, hcv⟩ : ∃ cv, c3[i.arg]? = some cv := ⟨_, List.getElem?_eq_getElem ha⟩
     have cc := HS3.out.bs.cap.cell i.arg (.int .i64 cv) (by rw [List.getElem?_map, hcv]; rfl)
     have cf := HS3.out.bs.cap.free i.arg
     have HA := Lib.hid ha; have HO2 := Lib.hid hO2
     clear hq ha hO2 hal hLc hcv
     go_upto_region 54 with fail
     go_region
     go_wp2_with fail
     refine close_pop (m' := 3 * (2 * cnt (Vf ws3) M + wgt J3)) ⟨⟨_, _, _, ⟨rfl, rfl, rfl, rfl, rfl, rfl, rfl, rfl, rfl, rfl⟩⟩, jv3, J3, ws3, _, ⟨(HS3.out.bs.capped i.arg HA.out p1).drew, HO2.out, HS3.out.jobs, (HS3.out.bel.setCell HS3.out.bs.gC _).drew⟩, rfl, ?_⟩ ?_ HLE.out HM1.out
     ·
      have h1 := HM2.out; have h2 := HML2.out; simp at h1; omega
     ·
      have h1 := HM2.out; simp at h1; omega
    | false =>
     obtain ⟨q, rfl, hO2⟩ := inv_cap HS3.out.out HI.out HEo.out
     have hqf : q ≤ h.fin := by
      rcases hq with ⟨_, h2⟩ | ⟨q', h3, h4⟩
      ·
       cases h2
      ·
       have h5 : (q : Int) = (q' : Int) := h3
       omega
     have HQ := Lib.hid hqf
     clear hq hqf
     rcases hO2 with ⟨ha, hO2⟩ | ⟨ha, hO2⟩
     ·
      have hal : i.arg < h.L := by omega
      have e6 : (i.arg : Int) < (h.L : Int) := by omega
      have e7 : (0 : Int) ≤ (i.arg : Int) := Int.natCast_nonneg _
      obtain ⟨cv, hcv⟩ : ∃ cv, c3[i.arg]? = some cv := ⟨_, List.getElem?_eq_getElem ha⟩
      have hgd : c3.getD i.arg 0 = cv := by rw [List.getD_eq_getElem?_getD, hcv]; rfl
      rw [hgd] at hO2
      have cc := HS3.out.bs.cap.cell i.arg (.int .i64 cv) (by rw [List.getElem?_map, hcv]; rfl)
      have HA := Lib.hid ha; have HO2 := Lib.hid hO2; have HCV := Lib.hid hcv
      clear ha hO2 hal hLc hcv hgd
      go_upto_region 55 with fail
      go_region
      go_upto_region 56 with fail
      have CP := Lib.hid (fun (W : World) (hW : W.heap = w'.heap) => pushT W pc1 cv (HPw.out.heap hW) (HS3.out.bs.heap hW) HI.out HO5.out (by rw [hW]; exact HBw.out) HJl.out)
      go_region_with (go_at_call 118; (with_reducible refine (CP.out _ ?ch).mono ?_); (case ch => rfl); rintro e w2 ⟨rfl, jv4, h4, hb4⟩)
      all_goals
       have hb5 : Below B w w2 := Below.trans (by repeat (first | exact HS3.out.bel | apply Below.drew)) hb4
       have hPw2 := HP.out w2 hb5
       have o1' := hPw2.out pc1 i HI.out; have o2' := hPw2.arg pc1 i HI.out
       have b1' := h4.bit.cell 1 _ rfl
       have cc' := h4.cap.cell i.arg (.int .i64 cv) (by rw [List.getElem?_map, HCV.out]; rfl)
       have cf' := h4.cap.free i.arg
       have H4 := Lib.hid h4; have HB5 := Lib.hid hb5
       have o1'' : (w2.setCell ⟨h.C, i.arg, none⟩ (.int .i64 (q : Int))).cell? ⟨ib, pc1 * 4 + 1, none⟩ = some (.int .u32 i.out) := by
        rw [World.cell?_setCell_other _ _ _ _ (by intro he; have h7 := congrArg Addr.block he; dsimp only at h7; have h8 := h4.gC; have h9 := HIB.out; omega)]
        exact o1'
       clear h4 hb4 hb5 hPw2
       go_upto_region 57 with fail
       go_region
       go_wp2_with fail
       go_step3
       refine close_goto (m' := 3 * (2 * cnt (Vf ws3) M + wgt ((pc1, true, cv) :: J3)) + 1) (.inl ⟨rfl, i.out, q, ⟨rfl, rfl, rfl, rfl, rfl, rfl, rfl, rfl, rfl, rfl⟩, jv4, _, ws3, _, ⟨(H4.out.capped i.arg HA.out (q : Int)).heap rfl, HO2.out, ?_, (by repeat (first | exact HB5.out | apply Below.drew | apply Below.setCell (hp := H4.out.gC)))⟩, HE.out.out pc1 i HI.out (by have := HEo.out; omega) HO5.out, HQ.out, rfl, ?_⟩) ?_ HLE.out HM1.out
       ·
        intro j hj
        rcases List.mem_cons.1 hj with rfl | hj
        ·
         exact ⟨i, HI.out, HO5.out, .inl ⟨HEo.out, rfl⟩⟩
        ·
         exact HS3.out.jobs j hj
       ·
        have h1 := HM2.out; have h2 := HML2.out; simp [wgt] at h1 ⊢; omega
       ·
        have h1 := HM2.out; simp [wgt] at h1 ⊢; omega
     ·
      have e6 : ¬ ((i.arg : Int) < (h.L : Int)) := by omega
      have HO2 := Lib.hid hO2
      clear ha hO2 hLc
      go_upto_region 55 with fail
      go_region
      go_wp2_with fail
      go_step3
      refine close_goto (m' := 3 * (2 * cnt (Vf ws3) M + wgt J3) + 1) (.inl ⟨rfl, i.out, q, ⟨rfl, rfl, rfl, rfl, rfl, rfl, rfl, rfl, rfl, rfl⟩, jv3, J3, ws3, c3, ⟨HS3.out.bs.heap rfl, HO2.out, HS3.out.jobs, (by repeat (first | exact HS3.out.bel | apply Below.drew))⟩, HE.out.out pc1 i HI.out (by have := HEo.out; omega) HO5.out, HQ.out, rfl, ?_⟩) ?_ HLE.out HM1.out
      ·
       have h1 := HM2.out; have h2 := HML2.out; simp at h1; omega
      ·
       have h1 := HM2.out; simp at h1; omega
   ·
    have o0' : w'.cell? ⟨ib, pc1 * 4, none⟩ = some (.int .u8 3) := by rw [e] at o0; exact o0
    have HEo := Lib.hid e
    have hq := HPos.out
    clear o0 e
    obtain ⟨q, rfl, rfl, hO2⟩ := inv_emp HS3.out.out HI.out HEo.out
    have hqf : q ≤ h.fin := by
     rcases hq with ⟨h2, _⟩ | ⟨q', h3, h4⟩
     ·
      have := HEo.out; omega
     ·
      have h5 : (q : Int) = (q' : Int) := h3
      omega
    have CC := Lib.hid (context h.s h.b q HE.out.ascii (by rw [HE.out.size]; exact hqf) (by rw [HE.out.size]; have := HE.out.fin; omega) w' (HS3.out.bs.bit.cell 5 _ rfl))
    have HQ := Lib.hid hqf
    have hSz := Lib.hid HE.out.size
    have ha := HE.out.emp pc1 i HI.out HEo.out
    have hv : ∃ V : Bool, I.emp q i.arg = V ∧ ∀ r1 r2 : Int, -1 ≤ r1 → r1 ≤ 127 → -1 ≤ r2 → r2 ≤ 127 → (r1 < 0 ↔ q = 0) → (r2 < 0 ↔ h.s.size ≤ q) → ∀ W, Calls Tryz.prog 121 #[.int .u64 (lz r1 r2), .int .u8 i.arg] W fun e w' => e = .returned (.bool V) ∧ W = w' := by
     rcases ha with ha | ha
     ·
      refine ⟨_, rfl, fun r1 r2 a1 a2 a3 a4 a5 a6 W => ?_⟩
      rw [ha, HE.out.beg]
      have := flag4 (lz r1 r2) r1 W (lz_hi r1 r2 a1 a2)
      rw [show decide (q = 0) = decide (r1 < 0) from decide_eq_decide.2 a5.symm]
      exact this
     ·
      refine ⟨_, rfl, fun r1 r2 a1 a2 a3 a4 a5 a6 W => ?_⟩
      rw [ha, HE.out.nil]
      have := flag8 (lz r1 r2) r2 W (lz_lo r1 r2 a3 a4)
      rw [show decide (h.fin ≤ q) = decide (r2 < 0) from decide_eq_decide.2 (by rw [a6, hSz.out])]
      exact this
    obtain ⟨V, hV, hm⟩ := hv
    have CM := Lib.hid hm
    have hw : IntKind.u8.wrap (i.arg : Int) = (i.arg : Int) := by
     rcases ha with ha | ha <;> rw [ha] <;> rfl
    rw [hV] at hO2
    clear hq hqf ha hm hV
    cases V with
    | false =>
     have HO2 : Hid (Out P I .pop J3 (Vf ws3) c3 r U) := Lib.hid (by rcases hO2 with ⟨g, _⟩ | ⟨_, g⟩; cases g; exact g)
     clear hO2
     go_wp2_with (first | (go_at_call 148; (with_reducible refine CC.out.mono ?_); rintro e w2 ⟨r1, r2, rfl, a1, a2, a3, a4, a5, a6, rfl⟩; have A1 := Lib.hid a1; have A2 := Lib.hid a2; have A3 := Lib.hid a3; have A4 := Lib.hid a4; have A5 := Lib.hid a5; have A6 := Lib.hid a6; clear a1 a2 a3 a4 a5 a6) | (go_at_call 121; (with_reducible refine (CM.out _ _ A1.out A2.out A3.out A4.out A5.out A6.out _).mono ?_); rintro e w2 ⟨rfl, rfl⟩))
     refine close_pop (m' := 3 * (2 * cnt (Vf ws3) M + wgt J3)) ⟨⟨_, _, _, ⟨rfl, rfl, rfl, rfl, rfl, rfl, rfl, rfl, rfl, rfl⟩⟩, jv3, J3, ws3, c3, ⟨HS3.out.bs, HO2.out, HS3.out.jobs, HS3.out.bel⟩, rfl, ?_⟩ ?_ HLE.out HM1.out
     ·
      have h1 := HM2.out; have h2 := HML2.out; simp at h1; omega
     ·
      have h1 := HM2.out; simp at h1; omega
    | true =>
     have HO2 : Hid (Out P I (.chk i.out q) J3 (Vf ws3) c3 r U) := Lib.hid (by rcases hO2 with ⟨_, g⟩ | ⟨g, _⟩; exact g; cases g)
     clear hO2
     go_wp2_with (first | (go_at_call 148; (with_reducible refine CC.out.mono ?_); rintro e w2 ⟨r1, r2, rfl, a1, a2, a3, a4, a5, a6, rfl⟩; have A1 := Lib.hid a1; have A2 := Lib.hid a2; have A3 := Lib.hid a3; have A4 := Lib.hid a4; have A5 := Lib.hid a5; have A6 := Lib.hid a6; clear a1 a2 a3 a4 a5 a6) | (go_at_call 121; (with_reducible refine (CM.out _ _ A1.out A2.out A3.out A4.out A5.out A6.out _).mono ?_); rintro e w2 ⟨rfl, rfl⟩))
     go_step3
     refine close_goto (m' := 3 * (2 * cnt (Vf ws3) M + wgt J3) + 1) (.inl ⟨rfl, i.out, q, ⟨rfl, rfl, rfl, rfl, rfl, rfl, rfl, rfl, rfl, rfl⟩, jv3, J3, ws3, c3, ⟨HS3.out.bs, HO2.out, HS3.out.jobs, HS3.out.bel⟩, HE.out.out pc1 i HI.out (by have := HEo.out; omega) HO5.out, HQ.out, rfl, ?_⟩) ?_ HLE.out HM1.out
     ·
      have h1 := HM2.out; have h2 := HML2.out; simp at h1; omega
     ·
      have h1 := HM2.out; simp at h1; omega
   ·
    have o0' : w'.cell? ⟨ib, pc1 * 4, none⟩ = some (.int .u8 4) := by rw [e] at o0; exact o0
    have HEo := Lib.hid e
    clear o0 e
    obtain ⟨q, rfl, rfl, hr⟩ := inv_mat HS3.out.out HI.out HEo.out
    subst hr
    have hL2 : (2 : Int) ≤ (h.L : Int) := by have := HE.out.L; omega
    have hL3 : (1 : Int) < (h.L : Int) := by omega
    have hL4 : ((h.L : Int) == 0) = false := by rw [beq_eq_false_iff_ne]; omega
    have hL5 : (h.L : Int) ≤ 1000 := by have := HE.out.L; omega
    have hl1 : 1 < c3.length := by have := HS3.out.bs.lc; have := HE.out.L; omega
    have hd1 : 1 < d0.length := by have := HS3.out.bs.ld; have := HE.out.L; omega
    obtain ⟨cv, hcv⟩ : ∃ cv, c3[1]? = some cv := ⟨_, List.getElem?_eq_getElem hl1⟩
    have cc := HS3.out.bs.cap.cell 1 (.int .i64 cv) (by rw [List.getElem?_map, hcv]; rfl)
    have cf := HS3.out.bs.cap.free 1
    have HL1 := Lib.hid hl1
    have K := HS3.out.bs.capped 1 hl1 (q : Int)
    have k0 := K.bit.cell 1 _ rfl; have k1 := K.bit.cell 2 _ rfl
    have k2 := K.mat.cell 1 (.int .i64 (-1)) (by rw [List.getElem?_map, HD.out]; rfl)
    have HK := Lib.hid K
    obtain ⟨W2, hrun, hB2, hD2, hbel2⟩ : ∃ W2, (Builtin.copy_ #[124, 124] 3 #[.slice (some ⟨h.D, 0, none⟩) h.L h.L, .slice (some ⟨h.C, 0, none⟩) h.L h.L]).run Tryz.prog (w'.setCell ⟨h.C, 1, none⟩ (.int .i64 (q : Int))).drew = .ok (goInt h.L) W2 ∧
      Row W2 h.b 168 (bitCells h jv3) ∧ Row W2 h.D 3 ((c3.set 1 (q : Int)).map fun x => .int .i64 x) ∧ Below B w W2 := by
     have hK2 := K.drew
     have hlen : ((c3.set 1 (q : Int)).map fun x => Value.int .i64 x).length = h.L := by rw [List.length_map, List.length_set]; exact HS3.out.bs.lc
     have hcr := run_copy_row (P := Tryz.prog) (w'.setCell ⟨h.C, 1, none⟩ (.int .i64 (q : Int))).drew 124 124 3 3 h.D 0 h.L h.L ⟨h.C, 0, none⟩ h.L h.L _ 3 ((c3.set 1 (q : Int)).map fun x => .int .i64 x) Tryz.underlying124 (by kernel_rfl) hK2.mat (by rw [hlen]; simp) ?_ (by rw [hlen]; simp [HS3.out.bs.ld]) ?_
     ·
      rw [hlen] at hcr
      refine ⟨_, hcr, ?_, ?_, ?_⟩
      ·
       exact (setRow_other _ _ _ _ (row_ne hK2.bit hK2.mat (by decide))).trans hK2.bit
      ·
       have := setRow_heap (w'.setCell ⟨h.C, 1, none⟩ (.int .i64 (q : Int))).drew h.D _ ((((d0.map fun x => Value.int .i64 x).toArray).toList.take 0 ++ ((c3.set 1 (q : Int)).map fun x => Value.int .i64 x) ++ (((d0.map fun x => Value.int .i64 x).toArray).toList.drop (0 + h.L)))).toArray 3 (0, 0) hK2.mat
       unfold Row
       rw [this]
       have hdrop : (d0.map fun x => Value.int .i64 x).drop h.L = [] := List.drop_of_length_le (by rw [List.length_map, HS3.out.bs.ld]; exact Nat.le_refl _)
       simp only [List.take_zero, List.nil_append, Nat.zero_add]
       rw [hdrop, List.append_nil]
      ·
       exact ⟨HS3.out.bel.os, HS3.out.bel.tape, HS3.out.bel.output, by have := HS3.out.bel.size; simp [World.setRow]; omega, fun k hk => by
        rw [setRow_other _ _ _ _ (by have := HS3.out.bs.gD; omega)]
        exact ((HS3.out.bel.setCell HS3.out.bs.gC _).drew).block k hk⟩
     ·
      intro j v hv
      have e : (⟨h.C, 0, none⟩ : Addr).add j = ⟨h.C, j, none⟩ := by
       unfold Addr.add
       split
       ·
        rename_i h0; subst h0; rfl
       ·
        simp
      rw [e]
      exact hK2.cap.cell j v hv
     ·
      intro v hv
      obtain ⟨x, _, rfl⟩ := List.mem_map.1 hv
      rfl
    have HB2 := Lib.hid hB2; have HD2 := Lib.hid hD2; have HBel2 := Lib.hid hbel2
    clear hl1 hd1 hcv K hB2 hD2 hbel2
    go_upto_region 72 with fail
    go_region
    go_wp2_with fail
    refine (?_ : bodyPost Tryz.prog Tryz.f112 (TryR B h d0 (some (c3.set 1 (q : Int))) U w) Exit.ret _ _)
    go_ret
    exact ⟨rfl, HBel2.out, jv3, HB2.out, HD2.out⟩
   ·
    exact absurd (by assumption) HO5.out
   ·
    have o0' : w'.cell? ⟨ib, pc1 * 4, none⟩ = some (.int .u8 6) := by rw [e] at o0; exact o0
    have HEo := Lib.hid e
    have hq := HPos.out
    clear o0 e
    obtain ⟨q, rfl, rfl, hO2⟩ := inv_nop HS3.out.out HI.out HEo.out
    have hqf : q ≤ h.fin := by
     rcases hq with ⟨h2, _⟩ | ⟨q', h3, h4⟩
     ·
      have := HEo.out; omega
     ·
      have h5 : (q : Int) = (q' : Int) := h3
      omega
    have HQ := Lib.hid hqf; have HO2 := Lib.hid hO2
    clear hq hqf hO2
    go_wp2_with fail
    go_step3
    refine close_goto (m' := 3 * (2 * cnt (Vf ws3) M + wgt J3) + 1) (.inl ⟨rfl, i.out, q, ⟨rfl, rfl, rfl, rfl, rfl, rfl, rfl, rfl, rfl, rfl⟩, jv3, J3, ws3, c3, ⟨HS3.out.bs, HO2.out, HS3.out.jobs, HS3.out.bel⟩, HE.out.out pc1 i HI.out (by have := HEo.out; omega) HO5.out, HQ.out, rfl, ?_⟩) ?_ HLE.out HM1.out
    ·
     have h1 := HM2.out; have h2 := HML2.out; simp at h1; omega
    ·
     have h1 := HM2.out; simp at h1; omega
   ·
    have o0' : w'.cell? ⟨ib, pc1 * 4, none⟩ = some (.int .u8 7) := by rw [e] at o0; exact o0
    have HEo := Lib.hid e
    have hq := HPos.out
    clear o0 e
    obtain ⟨q, rfl, rfl, hO2⟩ := inv_run HS3.out.out HI.out (.inl HEo.out)
    have hqf : q ≤ h.fin := by
     rcases hq with ⟨h2, _⟩ | ⟨q', h3, h4⟩
     ·
      have := HEo.out; omega
     ·
      have h5 : (q : Int) = (q' : Int) := h3
      omega
    have hst := HE.out.stp q
    have b5 := HS3.out.bs.bit.cell 5 _ rfl
    have hstep : ∃ (rr : Int) (ww : Nat), I.stp q = (rr, ww) ∧ ww ≤ 1 ∧ (0 < ww → q + ww ≤ h.fin) ∧ (0 ≤ rr → 0 < ww) ∧ ∀ W, W.cell? ⟨h.b, 5, none⟩ = some (.string h.s) → Calls Tryz.prog 151 #[.pointer (some ⟨h.b, 5, none⟩), .int .i64 q] W fun e w' => e = .returned (.tuple #[.int .i32 rr, .int .i64 (ww : Nat)]) ∧ W = w' := by
     cases hx : (bl h.s)[q]? with
     | none =>
      rw [hx] at hst
      have hl : h.s.size ≤ q := by rw [← bl_len]; exact List.getElem?_eq_none_iff.1 hx
      exact ⟨-1, 0, hst, by omega, by omega, by omega, fun W hW => step_off h.s h.b q hl W hW⟩
     | some x =>
      rw [hx] at hst
      have hl : q < h.s.size := by rw [← bl_len]; exact (List.getElem?_eq_some_iff.1 hx).1
      have hsz := HE.out.size
      exact ⟨x.toNat, 1, hst, Nat.le_refl _, by omega, by omega, fun W hW => step_at h.s h.b q x hx (HE.out.ascii x (List.mem_of_getElem? hx)) W hW⟩
    obtain ⟨rr, ww, hs1, hs2, hs3, hs4, hs5⟩ := hstep
    rw [hs1] at hO2
    dsimp only at hO2
    have CS := Lib.hid hs5
    have e8 : wrap64 ((q : Int) + (ww : Int)) = ((q + ww : Nat) : Int) := by have := HE.out.fin; unfold wrap64; omega
    have e9 : (0 : Int) ≤ (q : Int) + (ww : Int) := by omega
    have e10 : (q : Int) + (ww : Int) ≤ 65536 := by have := HE.out.fin; omega
    have H3 := Lib.hid hs3
    have H4 := Lib.hid hs4
    have HQ := Lib.hid hqf
    obtain ⟨n, c1, c2', c3', c4⟩ := HE.out.cls7 pc1 i HI.out HEo.out
    obtain ⟨rb, rc, r1, r2, r3⟩ := HPw.out.cls pc1 i HI.out (.inl HEo.out)
    obtain ⟨V, hV⟩ : ∃ V, eats i rr = V := ⟨_, rfl⟩
    have hVi : V = true ↔ inR i.cls rr 0 n := by
     rw [← hV, ← inP_iff i.cls rr n c1, ← mrpGo_iff i.cls rr 0 (Int.le_refl _)]
     have := HEo.out
     unfold eats
     rw [if_pos this, decide_eq_true_iff]
     unfold mrp
     split
     ·
      rename_i x hx; rw [hx] at c1; simp at c1; omega
     ·
      rfl
    rw [c1] at r2
    have CM := Lib.hid (fun W h1 h2 => matchRune ib (pc1 * 4) rb rc n i.cls rr V W h1 h2 c1 c2' c3' c4 hVi)
    have R2 := Lib.hid r2
    have R3 := Lib.hid r3
    have hpos0 : V = true → 0 ≤ rr := by
     intro hv
     obtain ⟨k, _, _, k3, _⟩ := hVi.1 hv
     have hall := HE.out.pos7 pc1 i HI.out HEo.out (2 * k)
     omega
    have H0 := Lib.hid hpos0
    rw [hV] at hO2
    clear hq hqf hst hs1 hs2 hs3 hs4 hs5 hV hVi c1 c2' c3' c4 r1 r2 r3 hpos0
    cases V with
    | false =>
     have HO2 : Hid (Out P I .pop J3 (Vf ws3) c3 r U) := Lib.hid (by rcases hO2 with ⟨g, _⟩ | ⟨_, g⟩; cases g; exact g)
     clear hO2
     go_wp2_with (first | (go_at_call 151; (with_reducible refine (CS.out _ (by assumption)).mono ?_); rintro e w2 ⟨rfl, rfl⟩) | (go_at_call 120; (with_reducible refine (CM.out _ R2.out R3.out).mono ?_); rintro e w2 ⟨rfl, rfl⟩))
     refine close_pop (m' := 3 * (2 * cnt (Vf ws3) M + wgt J3)) ⟨⟨_, _, _, ⟨rfl, rfl, rfl, rfl, rfl, rfl, rfl, rfl, rfl, rfl⟩⟩, jv3, J3, ws3, c3, ⟨HS3.out.bs, HO2.out, HS3.out.jobs, HS3.out.bel⟩, rfl, ?_⟩ ?_ HLE.out HM1.out
     ·
      have h1 := HM2.out; have h2 := HML2.out; simp at h1; omega
     ·
      have h1 := HM2.out; simp at h1; omega
    | true =>
     have HO2 : Hid (Out P I (.chk i.out (q + ww)) J3 (Vf ws3) c3 r U) := Lib.hid (by rcases hO2 with ⟨_, g⟩ | ⟨g, _⟩; exact g; cases g)
     have HT := Lib.hid (H3.out (H4.out (H0.out rfl)))
     clear hO2
     go_wp2_with (first | (go_at_call 151; (with_reducible refine (CS.out _ (by assumption)).mono ?_); rintro e w2 ⟨rfl, rfl⟩) | (go_at_call 120; (with_reducible refine (CM.out _ R2.out R3.out).mono ?_); rintro e w2 ⟨rfl, rfl⟩))
     go_step3
     refine close_goto (m' := 3 * (2 * cnt (Vf ws3) M + wgt J3) + 1) (.inl ⟨rfl, i.out, q + ww, ⟨rfl, rfl, rfl, rfl, rfl, rfl, rfl, rfl, rfl, rfl⟩, jv3, J3, ws3, c3, ⟨HS3.out.bs, HO2.out, HS3.out.jobs, HS3.out.bel⟩, HE.out.out pc1 i HI.out (by have := HEo.out; omega) HO5.out, HT.out, rfl, ?_⟩) ?_ HLE.out HM1.out
     ·
      have h1 := HM2.out; have h2 := HML2.out; simp at h1; omega
     ·
      have h1 := HM2.out; simp at h1; omega
   ·
    have o0' : w'.cell? ⟨ib, pc1 * 4, none⟩ = some (.int .u8 8) := by rw [e] at o0; exact o0
    have HEo := Lib.hid e
    have hq := HPos.out
    clear o0 e
    obtain ⟨q, rfl, rfl, hO2⟩ := inv_run HS3.out.out HI.out (.inr HEo.out)
    have hqf : q ≤ h.fin := by
     rcases hq with ⟨h2, _⟩ | ⟨q', h3, h4⟩
     ·
      have := HEo.out; omega
     ·
      have h5 : (q : Int) = (q' : Int) := h3
      omega
    have hst := HE.out.stp q
    have b5 := HS3.out.bs.bit.cell 5 _ rfl
    have hstep : ∃ (rr : Int) (ww : Nat), I.stp q = (rr, ww) ∧ ww ≤ 1 ∧ (0 < ww → q + ww ≤ h.fin) ∧ (0 ≤ rr → 0 < ww) ∧ ∀ W, W.cell? ⟨h.b, 5, none⟩ = some (.string h.s) → Calls Tryz.prog 151 #[.pointer (some ⟨h.b, 5, none⟩), .int .i64 q] W fun e w' => e = .returned (.tuple #[.int .i32 rr, .int .i64 (ww : Nat)]) ∧ W = w' := by
     cases hx : (bl h.s)[q]? with
     | none =>
      rw [hx] at hst
      have hl : h.s.size ≤ q := by rw [← bl_len]; exact List.getElem?_eq_none_iff.1 hx
      exact ⟨-1, 0, hst, by omega, by omega, by omega, fun W hW => step_off h.s h.b q hl W hW⟩
     | some x =>
      rw [hx] at hst
      have hl : q < h.s.size := by rw [← bl_len]; exact (List.getElem?_eq_some_iff.1 hx).1
      have hsz := HE.out.size
      exact ⟨x.toNat, 1, hst, Nat.le_refl _, by omega, by omega, fun W hW => step_at h.s h.b q x hx (HE.out.ascii x (List.mem_of_getElem? hx)) W hW⟩
    obtain ⟨rr, ww, hs1, hs2, hs3, hs4, hs5⟩ := hstep
    rw [hs1] at hO2
    dsimp only at hO2
    have CS := Lib.hid hs5
    have e8 : wrap64 ((q : Int) + (ww : Int)) = ((q + ww : Nat) : Int) := by have := HE.out.fin; unfold wrap64; omega
    have e9 : (0 : Int) ≤ (q : Int) + (ww : Int) := by omega
    have e10 : (q : Int) + (ww : Int) ≤ 65536 := by have := HE.out.fin; omega
    have H3 := Lib.hid hs3
    have H4 := Lib.hid hs4
    have HQ := Lib.hid hqf
    obtain ⟨x, hx⟩ := HE.out.cls8 pc1 i HI.out HEo.out
    obtain ⟨rb, rc, r1, r2, r3⟩ := HPw.out.cls pc1 i HI.out (.inr HEo.out)
    rw [hx] at r2 r3
    have r4 : w'.cell? ⟨rb, 0, none⟩ = some (.int .i32 x) := r3 0 x rfl
    have r5 : w'.cell? ⟨ib, pc1 * 4 + 3, none⟩ = some (.slice (some ⟨rb, 0, none⟩) 1 rc) := r2
    obtain ⟨V, hV⟩ : ∃ V, eats i rr = V := ⟨_, rfl⟩
    have hVi : (rr != x) = !V := by
     rw [← hV]
     have := HEo.out
     unfold eats
     rw [if_neg (by omega), hx, Bool.eq_iff_iff]
     simp
    have hpos0 : V = true → 0 ≤ rr := by
     intro hv
     rw [hv] at hVi
     have h2 : rr = x := by simpa using hVi
     have := HE.out.pos8 pc1 i HI.out HEo.out x (by rw [hx]; exact List.mem_singleton.2 rfl)
     omega
    have H0 := Lib.hid hpos0
    rw [hV] at hO2
    clear hq hqf hst hs1 hs2 hs3 hs4 hs5 hV r1 r2 r3 hpos0 hx
    cases V with
    | false =>
     have HO2 : Hid (Out P I .pop J3 (Vf ws3) c3 r U) := Lib.hid (by rcases hO2 with ⟨g, _⟩ | ⟨_, g⟩; cases g; exact g)
     have hVj : (rr != x) = true := hVi
     clear hO2 hVi
     go_wp2_with (go_at_call 151; (with_reducible refine (CS.out _ (by assumption)).mono ?_); rintro e w2 ⟨rfl, rfl⟩)
     refine close_pop (m' := 3 * (2 * cnt (Vf ws3) M + wgt J3)) ⟨⟨_, _, _, ⟨rfl, rfl, rfl, rfl, rfl, rfl, rfl, rfl, rfl, rfl⟩⟩, jv3, J3, ws3, c3, ⟨HS3.out.bs, HO2.out, HS3.out.jobs, HS3.out.bel⟩, rfl, ?_⟩ ?_ HLE.out HM1.out
     ·
      have h1 := HM2.out; have h2 := HML2.out; simp at h1; omega
     ·
      have h1 := HM2.out; simp at h1; omega
    | true =>
     have HO2 : Hid (Out P I (.chk i.out (q + ww)) J3 (Vf ws3) c3 r U) := Lib.hid (by rcases hO2 with ⟨_, g⟩ | ⟨g, _⟩; exact g; cases g)
     have HT := Lib.hid (H3.out (H4.out (H0.out rfl)))
     have hVj : (rr != x) = false := hVi
     clear hO2 hVi
     go_wp2_with (go_at_call 151; (with_reducible refine (CS.out _ (by assumption)).mono ?_); rintro e w2 ⟨rfl, rfl⟩)
     go_step3
     refine close_goto (m' := 3 * (2 * cnt (Vf ws3) M + wgt J3) + 1) (.inl ⟨rfl, i.out, q + ww, ⟨rfl, rfl, rfl, rfl, rfl, rfl, rfl, rfl, rfl, rfl⟩, jv3, J3, ws3, c3, ⟨HS3.out.bs, HO2.out, HS3.out.jobs, HS3.out.bel⟩, HE.out.out pc1 i HI.out (by have := HEo.out; omega) HO5.out, HT.out, rfl, ?_⟩) ?_ HLE.out HM1.out
     ·
      have h1 := HM2.out; have h2 := HML2.out; simp at h1; omega
     ·
      have h1 := HM2.out; simp at h1; omega

end Go.Proofs.YtjgedenoaocfjaaGreatDoor.Rxw
namespace Go.Proofs.YtjgedenoaocfjaaGreatDoor.Rxw

open Go Go.RowKit Go.Lib Go.Proofs Go.Proofs.YtjgedenoaocfjaaGreatDoor.Base Go.Proofs.YtjgedenoaocfjaaGreatDoor.Rx

theorem own_below {w w' : World} {B sz n : Nat} {e : TypeId} {v : Value} {xs : List Value} (h : w.ownsRow B e sz v n xs) (hb : Below w.heap.size w w') : w'.ownsRow B e sz v n xs := by
  refine ⟨h.1, ?_⟩
  rcases h.2 with hn | ⟨g, cap, cur, rfl, h1, h2, h3⟩
  · exact .inl hn
  · exact .inr ⟨g, cap, cur, rfl, h1, (hb.block g (Array.getElem?_eq_some_iff.1 h2).1).trans h2, h3⟩

theorem own_base {w : World} {B B' sz n : Nat} {e : TypeId} {v : Value} {xs : List Value} (h : w.ownsRow B e sz v n xs) (hb : B' ≤ B) : w.ownsRow B' e sz v n xs := by
  refine ⟨h.1, ?_⟩
  rcases h.2 with hn | ⟨g, cap, cur, rfl, h1, h2⟩
  · exact .inl hn
  · exact .inr ⟨g, cap, cur, rfl, Nat.le_trans hb h1, h2⟩

theorem row_add {w : World} {g : Nat} {e : TypeId} {xs : List Value} (h : Row w g e xs) (j : Nat) (u : Value) (hu : xs[j]? = some u) : w.cell? ((⟨g, 0, none⟩ : Addr).add j) = some u := by
  have := h.cell j u hu
  have e : (⟨g, 0, none⟩ : Addr).add j = ⟨g, j, none⟩ := by
    unfold Addr.add
    split
    · rename_i h0; subst h0; rfl
    · simp
  rw [e]
  exact this

def BackR (B0 L : Nat) (w : World) (r : Option (List Int)) (e : Ending) (w' : World) : Prop := match r with
  | some d => ∃ v', e = .returned v' ∧ Below B0 w w' ∧ w'.ownsRow B0 3 1 v' L (d.map fun x => .int .i64 x)
  | none => e = .returned nilS ∧ Below B0 w w'

set_option maxHeartbeats 4000000 in
set_option maxRecDepth 100000 in
theorem backA {P : List Ins} {I : Inp} {re pr ib cN M B0 L st vs : Nat} {s : ByteArray} {r : Option (List Int)} {U : Nat → Bool} {gD cD : Nat} (w : World)
  (hP : PR w re pr ib P cN) (hcond : w.cell? ⟨re, 13, none⟩ = some (.int .u8 4)) (hst : w.cell? ⟨pr, 1, none⟩ = some (.int .i64 st)) (hst2 : st < 4294967296)
  (hE : ∀ h : Sh, h.fin = s.size → h.s = s → h.nv = vs → h.L = L → Env P I h M) (hO : Out P I (.chk st 0) [] (fun _ => false) ((List.replicate L (-1)).set 0 0) r U) (hT : Tgt P st)
  (hN : P.length ≤ 1000) (hN0 : 0 < P.length) (hs : s.size ≤ 1000) (hL : 2 ≤ L) (hL2 : L ≤ 1000) (hvs : (P.length * (s.size + 1) + 31) / 32 = vs) (hv8 : vs ≤ 8192)
  (hlen : ∀ d, r = some d → d.length = L) (hB : B0 ≤ w.heap.size) (hd : cD < L) :
  Calls Tryz.prog 100 #[ptr re, nilS, .string s, .int .i64 0, .int .i64 L, .slice (some ⟨gD, 0, none⟩) 0 cD] w (BackR B0 L w r) := by
 have hpr := hP.prog
 have C1 := Lib.hid (newState w)
 have hA : (bits BinOp.and IntKind.u8 4 4 != 0) = true := by decide
 have HVS := Lib.hid hvs; have HV8 := Lib.hid hv8; have HN := Lib.hid hN; have HN0 := Lib.hid hN0; have HL := Lib.hid hL; have HL2 := Lib.hid hL2; have HST := Lib.hid hst2
 clear hvs hv8 hN hN0 hL hL2 hst2
 have HP := Lib.hid hP; have HE := Lib.hid hE; have HO := Lib.hid hO; have HT := Lib.hid hT; have HD := Lib.hid hd; have HB := Lib.hid hB
 have HSZ := Lib.hid hs
 clear hP hE hO hT hd hB hs
 replace hlen := Lib.hid hlen
 go_enter Tryz.func100, Tryz.ntmps100
 go_wp2_with fail
 refine wp_scope_straight ?_
 go_upto_region 6 with fail
 go_upto_region 7 with (go_at_call 109; (with_reducible refine C1.out.mono ?_); rintro e w' ⟨rfl, rfl⟩)
 have hb0 : Row (w.alloc (.cells #[.int .i64 0, nilS, nilS, nilS, nilS, .string ⟨#[]⟩] 168)) w.heap.size 168 [.int .i64 0, nilS, nilS, nilS, nilS, .string ⟨#[]⟩] := Row.new w _ _
 have C2 := Lib.hid (initStr _ w.heap.size s ⟨#[]⟩ .nilIface nilS (hb0.cell 5 _ rfl) (hb0.free 5))
 have hb1 : Row (w.alloc (.cells #[.int .i64 0, nilS, nilS, nilS, nilS, .string s] 168)) w.heap.size 168 [.int .i64 0, nilS, nilS, nilS, nilS, .string s] := Row.new w _ _
 have hbel1 : Below w.heap.size w (w.alloc (.cells #[.int .i64 0, nilS, nilS, nilS, nilS, .string s] 168)) := (Below.refl _ w).alloc (Nat.le_refl _) _
 have HB1 := Lib.hid hb1; have HE1 := Lib.hid hbel1
 clear hb0 hb1 hbel1 C1
 go_upto_region 8 with (go_at_call 110; (with_reducible refine C2.out.mono ?_); rintro e w' ⟨rfl, rfl⟩)
 clear C2
 generalize w.alloc (.cells #[.int .i64 0, nilS, nilS, nilS, nilS, .string s] 168) = w2 at *
 have hP2 := HP.out.below (Nat.le_refl _) HE1.out
 have p2 := hP2.prog
 have C3 := Lib.hid (reset w2 w.heap.size w.heap.size pr ib P.length cN s.size L vs s HB1.out hP2.insts HP.out.lpr (Nat.le_refl _) HN0.out HN.out HSZ.out HL.out HL2.out HVS.out HV8.out)
 have s2 : w2.cell? ⟨pr, 1, none⟩ = some (.int .i64 st) := (HE1.out.cell (p := ⟨pr, 1, none⟩) HP.out.lpr).trans hst
 clear hP2 hpr hcond
 go_upto_region 9 with (go_at_call 111; (with_reducible refine C3.out.mono ?_); rintro e w3 ⟨rfl, h, jv, ws, hh, hvf, hbs, hbel⟩)
 obtain ⟨hb, C, D, V, nv, cv, hL', fin, hs⟩ := h
 obtain ⟨h1, h2, h3, h4, h5, h6⟩ := hh
 dsimp only at h1 h2 h3 h4 h5 h6
 subst h1 h2 h3 h4 h5 h6
 have b1 := hbs.bit.cell 1 _ rfl
 have x1 := hbs.cap.cell 0 (.int .i64 (-1)) (by rw [List.getElem?_map, List.getElem?_replicate, if_pos (by have := HL.out; omega)]; rfl)
 have y1 := hbs.cap.free 0
 have hL0 : (0 : Int) < (hL' : Int) := by have := HL.out; omega
 have HE3 := Lib.hid (HE1.out.trans hbel)
 have HS3 := Lib.hid hbs
 have HVF := Lib.hid hvf
 clear hbs hbel hvf C3
 go_upto_region 12 with fail
 have hE4 : Below w.heap.size w (w3.setCell ⟨C, 0, none⟩ (.int .i64 0)) := HE3.out.setCell HS3.out.gC _
 have hS4 := HS3.out.capped 0 (by rw [HS3.out.lc]; have := HL.out; dsimp only; omega) 0
 generalize World.setCell w3 _ _ = w4 at *
 have hP4 := HP.out.below (Nat.le_refl _) hE4
 have p4 := hP4.prog
 have s4 : w4.cell? ⟨pr, 1, none⟩ = some (.int .i64 st) := (hE4.cell (p := ⟨pr, 1, none⟩) HP.out.lpr).trans hst
 have HE4 := Lib.hid hE4; have HS4 := Lib.hid hS4; have HP4 := Lib.hid hP4
 clear hE4 hS4 hP4 b1 x1 y1 p2 s2 HE3 HS3
 have hvE : Vf ws = fun _ => false := funext HVF.out
 have HT4 : Hid (Calls Tryz.prog 112 #[ptr re, ptr w.heap.size, .iface 191 (.pointer (some ⟨w.heap.size, 5, none⟩)), .int .u32 st, .int .i64 0] w4 (TryR w.heap.size ⟨w.heap.size, C, D, V, nv, 8192, hL', hs.size, hs⟩ (List.replicate hL' (-1)) r U w4)) := Lib.hid
  (tryB (h := ⟨w.heap.size, C, D, V, nv, 8192, hL', hs.size, hs⟩) (pos := 0) w4 (HE.out _ rfl rfl rfl rfl) (fun w' hb => HP.out.below (Nat.le_refl _) (HE4.out.trans hb)) HS4.out (by rw [List.getElem?_replicate, if_pos (by have := HL.out; omega)]) (by rw [hvE]; exact HO.out) HT.out (Nat.zero_le _) HE4.out.size HP.out.lib)
 clear hvE
 have hw : IntKind.u32.wrap (st : Int) = (st : Int) := by have := HST.out; simp [IntKind.wrap, IntKind.bits, IntKind.signed]; omega
 cases r with
 | none =>
  go_upto_region 13 with (go_at_call 112; (with_reducible refine HT4.out.mono ?_); rintro e w5 ⟨rfl, hb5, jv5, ws5, c5, hS5, -⟩)
  have C5 := Lib.hid (freeState w5 w.heap.size hs (hS5.bit.cell 5 _ rfl) (hS5.bit.free 5))
  have HB5 := Lib.hid hb5
  clear hS5 hb5 HT4
  go_wp2_with (go_at_call 113; (with_reducible refine C5.out.mono ?_); rintro e w6 ⟨rfl, rfl⟩)
  go_ret
  exact ⟨rfl, ((HE4.out.trans HB5.out).setCell (Nat.le_refl _) _).mono HB.out⟩
 | some d =>
  have HLn : Hid (d.length = hL') := Lib.hid (hlen.out d rfl)
  obtain ⟨ji, j1, j2, j3, j4⟩ := info_parts intInfo
  have K1 := Lib.hid j1; have K2 := Lib.hid j2; have K3 := Lib.hid j3; have K4 := Lib.hid j4
  clear j1 j2 j3 j4
  go_upto_region 13 with (go_at_call 112; (with_reducible refine HT4.out.mono ?_); rintro e w5 ⟨rfl, hb5, jv5, hb, hd⟩)
  refine wp_label ?_
  have C5 := Lib.hid fun (W : World) h1 h2 => freeState W w.heap.size hs h1 h2
  have m2 := hb.cell 2 _ rfl
  have HB5 := Lib.hid (HE4.out.trans hb5); have HR := Lib.hid hb; have HD5 := Lib.hid hd
  clear hb5 hb hd HT4
  go_upto_region 31 with (at_builtin; refine wpList_append_grows _ rfl (.tmp 141) (.tmp 145) 124 rfl 3 ji _ 1 8 Tryz.underlying124 K1.out K2.out K3.out K4.out rfl (by decide) (some ⟨gD, 0, none⟩) 0 cD [] rfl (fun h => by cases h) rfl (fun b _ j u hu => by simp at hu) ⟨D, 0, none⟩ hL' hL' (d.map fun x => .int .i64 x) rfl (by rw [List.length_map, HLn.out, Nat.mul_one]) (fun j u hu => row_add HD5.out j u hu) (by intro u hu; obtain ⟨x, _, rfl⟩ := List.mem_map.1 hu; rfl) (by have := HD.out; omega) (by have := HL2.out; simp only [maxLen]; omega) (by have := HL2.out; omega) ?_; intro v' w6 ho hg; obtain ⟨A', c', rfl⟩ := own_slice ho; have HO := Lib.hid ho; have HG := Lib.hid hg; clear ho hg)
  have hr6 := HR.out.grown HG.out (by simp)
  have q1 := hr6.cell 5 _ rfl
  have q2 := hr6.free 5
  have C6 := Lib.hid (C5.out w6 q1 q2)
  clear hr6 q1 q2 C5 m2
  go_wp2_with (go_at_call 113; (with_reducible refine C6.out.mono ?_); rintro e w7 ⟨rfl, rfl⟩)
  go_ret
  have hO := own_base HO.out (Nat.le_trans HB.out HB5.out.size)
  rw [Nat.zero_add, List.nil_append] at hO
  refine ⟨_, rfl, (((HB5.out.mono HB.out).grown HG.out (by have := HB.out; have := HB5.out.size; omega) (fun k hk => by cases hk)).setCell HB.out _), own_far hO _ ?_ _⟩
  exact own_ne (HR.out.grown HG.out (by simp)) hO (by decide)

end Go.Proofs.YtjgedenoaocfjaaGreatDoor.Rxw
