/- The row and the tied card of FnSemverSetOriginal, out of its printed walk and its plain law. For every input that the statement lets in. -/
import Derived.WalkKit
import Derived.Handy
import Derived.Lib.Hide
import Derived.Deep.Draws
namespace Go.Proofs.YtjgedenoaocfjaaGreatDoor.Base

open Go.RowKit Go.Lib Go.Proofs

theorem setCell_drewN (w : World) (n : Nat) (a : Addr) (v : Value) : (w.drewN n).setCell a v = (w.setCell a v).drewN n := by
  unfold World.setCell World.drewN
  rfl

theorem alloc_drewN (w : World) (n : Nat) (o : Obj) : (w.drewN n).alloc o = (w.alloc o).drewN n := rfl

theorem dN {B : Nat} {w w' : World} (h : Below B w w') (n : Nat) : Below B w (w'.drewN n) := ⟨h.os, h.tape, h.output, h.size, h.block⟩

end Go.Proofs.YtjgedenoaocfjaaGreatDoor.Base
namespace Go.Proofs.YtjgedenoaocfjaaGreatDoor.Rx

structure Ins where
  op : Nat
  out : Nat
  arg : Nat
  cls : List Int

/-- What an input tells: the letter at a place and its width, whether an empty match of a kind holds there, and how long it is. -/
structure Inp where
  stp : Nat → Int × Nat
  emp : Nat → Nat → Bool
  fin : Nat

def mrpGo : List Int → Int → Int → Int
  | a :: b :: t, r, j => if a ≤ r ∧ r ≤ b then j else mrpGo t r (j + 1)
  | _, _, _ => -1

/-- The place of the pair in which a letter lies. -/
def mrp (l : List Int) (r : Int) : Int := match l with
  | [a] => if r = a then 0 else -1
  | l => mrpGo l r 0

def eats (i : Ins) (r : Int) : Bool := if i.op = 7 then decide (0 ≤ mrp i.cls r) else decide (r = i.cls.headD (-2))

/-- What a search from an instruction at a place finds, by the order of the ways. -/
inductive R (P : List Ins) (I : Inp) : Nat → Nat → List Int → Option (List Int) → Prop
  | altS {pc pos c i d} : P[pc]? = some i → i.op = 0 → R P I i.out pos c (some d) → R P I pc pos c (some d)
  | altN {pc pos c i r} : P[pc]? = some i → i.op = 0 → R P I i.out pos c none → R P I i.arg pos c r → R P I pc pos c r
  | capS {pc pos c i r} : P[pc]? = some i → i.op = 2 → i.arg < c.length → R P I i.out pos (c.set i.arg pos) r → R P I pc pos c r
  | capN {pc pos c i r} : P[pc]? = some i → i.op = 2 → ¬ i.arg < c.length → R P I i.out pos c r → R P I pc pos c r
  | empY {pc pos c i r} : P[pc]? = some i → i.op = 3 → I.emp pos i.arg = true → R P I i.out pos c r → R P I pc pos c r
  | empN {pc pos c i} : P[pc]? = some i → i.op = 3 → I.emp pos i.arg = false → R P I pc pos c none
  | mat {pc pos c i} : P[pc]? = some i → i.op = 4 → R P I pc pos c (some (c.set 1 pos))
  | nop {pc pos c i r} : P[pc]? = some i → i.op = 6 → R P I i.out pos c r → R P I pc pos c r
  | runY {pc pos c i r} : P[pc]? = some i → (i.op = 7 ∨ i.op = 8) → eats i (I.stp pos).1 = true → R P I i.out (pos + (I.stp pos).2) c r → R P I pc pos c r
  | runN {pc pos c i} : P[pc]? = some i → (i.op = 7 ∨ i.op = 8) → eats i (I.stp pos).1 = false → R P I pc pos c none

variable {P : List Ins} {I : Inp}

theorem R.any {pc pos c r} (h : R P I pc pos c r) : r = none → ∀ c', R P I pc pos c' none := by
  induction h with
  | altS => intro e; exact absurd e (by simp)
  | altN h1 h2 _ _ a b => intro e c'; exact .altN h1 h2 (a rfl c') (b e c')
  | @capS _ _ _ i _ h1 h2 h3 _ a =>
    intro e c'
    by_cases h : i.arg < c'.length
    · exact .capS h1 h2 h (a e _)
    · exact .capN h1 h2 h (a e _)
  | @capN _ _ _ i _ h1 h2 h3 _ a =>
    intro e c'
    by_cases h : i.arg < c'.length
    · exact .capS h1 h2 h (a e _)
    · exact .capN h1 h2 h (a e _)
  | empY h1 h2 h3 _ a => intro e c'; exact .empY h1 h2 h3 (a e c')
  | empN h1 h2 h3 => intro _ c'; exact .empN h1 h2 h3
  | mat => intro e; exact absurd e (by simp)
  | nop h1 h2 _ a => intro e c'; exact .nop h1 h2 (a e c')
  | runY h1 h2 h3 _ a => intro e c'; exact .runY h1 h2 h3 (a e c')
  | runN h1 h2 h3 => intro _ c'; exact .runN h1 h2 h3

theorem R.len {pc pos c r} (h : R P I pc pos c r) : ∀ d, r = some d → d.length = c.length := by
  induction h with
  | altS _ _ _ a => exact a
  | altN _ _ _ _ _ b => exact b
  | capS _ _ _ _ a => intro d e; rw [a d e, List.length_set]
  | capN _ _ _ _ a => exact a
  | empY _ _ _ _ a => exact a
  | empN => intro d e; exact absurd e (by simp)
  | mat => intro d e; cases e; rw [List.length_set]
  | nop _ _ _ a => exact a
  | runY _ _ _ _ a => exact a
  | runN => intro d e; exact absurd e (by simp)

theorem R.det {pc pos c r} (h : R P I pc pos c r) : ∀ {r'}, R P I pc pos c r' → r = r' := by
  induction h with
  | @altS pc pos c i d h1 h2 h3 a =>
    intro r' g
    have e : P[pc]? = some i := h1
    cases g with
    | altS g1 g2 g3 => rw [e] at g1; cases g1; exact a g3
    | altN g1 g2 g3 g4 => rw [e] at g1; cases g1; exact absurd (a g3) (by simp)
    | _ => simp_all
  | @altN pc pos c i r h1 h2 _ _ a b =>
    intro r' g
    have e : P[pc]? = some i := h1
    cases g with
    | altS g1 g2 g3 => rw [e] at g1; cases g1; exact absurd (a g3) (by simp)
    | altN g1 g2 g3 g4 => rw [e] at g1; cases g1; exact b g4
    | _ => simp_all
  | @capS pc pos c i r h1 h2 h3 _ a =>
    intro r' g
    have e : P[pc]? = some i := h1
    cases g with
    | capS g1 g2 g3 g4 => rw [e] at g1; cases g1; exact a g4
    | _ => simp_all
  | @capN pc pos c i r h1 h2 h3 _ a =>
    intro r' g
    have e : P[pc]? = some i := h1
    cases g with
    | capN g1 g2 g3 g4 => rw [e] at g1; cases g1; exact a g4
    | capS g1 g2 g3' g4 => rw [e] at g1; cases g1; exact absurd g3' h3
    | _ => simp_all
  | @empY pc pos c i r h1 h2 h3 _ a =>
    intro r' g
    have e : P[pc]? = some i := h1
    cases g with
    | empY g1 g2 g3 g4 => rw [e] at g1; cases g1; exact a g4
    | _ => simp_all
  | empN h1 h2 h3 => intro r' g; cases g <;> simp_all
  | mat h1 h2 => intro r' g; cases g <;> simp_all
  | @nop pc pos c i r h1 h2 _ a =>
    intro r' g
    have e : P[pc]? = some i := h1
    cases g with
    | nop g1 g2 g3 => rw [e] at g1; cases g1; exact a g3
    | _ => simp_all
  | @runY pc pos c i r h1 h2 h3 _ a =>
    intro r' g
    have e : P[pc]? = some i := h1
    cases g with
    | runY g1 g2 g3 g4 => rw [e] at g1; cases g1; exact a g4
    | _ => simp_all
  | runN h1 h2 h3 => intro r' g; cases g <;> simp_all

/-- Where the machine stands: it takes the next job, asks whether a state is new, or works a state. -/
inductive Ctl
  | pop
  | chk (pc pos : Nat)
  | skp (pc : Nat) (pos : Int) (arg : Bool)

abbrev Job := Nat × Bool × Int

def at2 (I : Inp) (V : Nat → Bool) (pc pos : Nat) : Bool := V (pc * (I.fin + 1) + pos)

def mark (I : Inp) (V : Nat → Bool) (pc pos : Nat) : Nat → Bool := fun n => if n = pc * (I.fin + 1) + pos then true else V n

/-- What the machine comes to from where it stands. -/
inductive Out (P : List Ins) (I : Inp) : Ctl → List Job → (Nat → Bool) → List Int → Option (List Int) → (Nat → Bool) → Prop
  | popNil {V c} : Out P I .pop [] V c none V
  | popJob {pc arg pos J V c r U} : Out P I (.skp pc pos arg) J V c r U → Out P I .pop ((pc, arg, pos) :: J) V c r U
  | seen {pc pos J V c r U} : at2 I V pc pos = true → Out P I .pop J V c r U → Out P I (.chk pc pos) J V c r U
  | new {pc pos J V c r U} : at2 I V pc pos = false → Out P I (.skp pc pos false) J (mark I V pc pos) c r U → Out P I (.chk pc pos) J V c r U
  | altA {pc i J V c r U} {pos : Nat} : P[pc]? = some i → i.op = 0 → Out P I (.chk i.arg pos) J V c r U → Out P I (.skp pc pos true) J V c r U
  | altO {pc i J V c r U} {pos : Nat} : P[pc]? = some i → i.op = 0 → Out P I (.chk i.out pos) ((pc, true, (pos : Int)) :: J) V c r U → Out P I (.skp pc pos false) J V c r U
  | capR {pc i J V c r U} {pos : Int} : P[pc]? = some i → i.op = 2 → i.arg < c.length → Out P I .pop J V (c.set i.arg pos) r U → Out P I (.skp pc pos true) J V c r U
  | capS {pc i J V c r U} {pos : Nat} : P[pc]? = some i → i.op = 2 → i.arg < c.length → Out P I (.chk i.out pos) ((pc, true, c.getD i.arg 0) :: J) V (c.set i.arg pos) r U → Out P I (.skp pc pos false) J V c r U
  | capN {pc i J V c r U} {pos : Nat} : P[pc]? = some i → i.op = 2 → ¬ i.arg < c.length → Out P I (.chk i.out pos) J V c r U → Out P I (.skp pc pos false) J V c r U
  | empY {pc i J V c r U} {pos : Nat} : P[pc]? = some i → i.op = 3 → I.emp pos i.arg = true → Out P I (.chk i.out pos) J V c r U → Out P I (.skp pc pos false) J V c r U
  | empN {pc i J V c r U} {pos : Nat} : P[pc]? = some i → i.op = 3 → I.emp pos i.arg = false → Out P I .pop J V c r U → Out P I (.skp pc pos false) J V c r U
  | mat {pc i J V c} {pos : Nat} : P[pc]? = some i → i.op = 4 → Out P I (.skp pc pos false) J V c (some (c.set 1 pos)) V
  | nop {pc i J V c r U} {pos : Nat} : P[pc]? = some i → i.op = 6 → Out P I (.chk i.out pos) J V c r U → Out P I (.skp pc pos false) J V c r U
  | runY {pc i J V c r U} {pos : Nat} : P[pc]? = some i → (i.op = 7 ∨ i.op = 8) → eats i (I.stp pos).1 = true → Out P I (.chk i.out (pos + (I.stp pos).2)) J V c r U → Out P I (.skp pc pos false) J V c r U
  | runN {pc i J V c r U} {pos : Nat} : P[pc]? = some i → (i.op = 7 ∨ i.op = 8) → eats i (I.stp pos).1 = false → Out P I .pop J V c r U → Out P I (.skp pc pos false) J V c r U

/-- A program's order: every step that eats nothing goes down. -/
structure WF (P : List Ins) (I : Inp) (rank : Nat → Nat) (K : Nat) : Prop where
  lt : ∀ pc, rank pc < K
  alt : ∀ (pc : Nat) (i : Ins), P[pc]? = some i → i.op = 0 → rank i.out < rank pc ∧ rank i.arg < rank pc
  one : ∀ (pc : Nat) (i : Ins), P[pc]? = some i → i.op = 2 ∨ i.op = 3 ∨ i.op = 6 → rank i.out < rank pc
  eat : ∀ (pc : Nat) (i : Ins) (pos : Nat), P[pc]? = some i → i.op = 7 ∨ i.op = 8 → eats i (I.stp pos).1 = true → 0 < (I.stp pos).2
  fit : ∀ pos, pos ≤ I.fin → pos + (I.stp pos).2 ≤ I.fin

def key (I : Inp) (rank : Nat → Nat) (K pc pos : Nat) : Nat := (I.fin - pos) * K + rank pc

def Fails (P : List Ins) (I : Inp) (pc pos : Nat) : Prop := ∀ c, R P I pc pos c none

def Good (P : List Ins) (I : Inp) (rank : Nat → Nat) (K : Nat) (V : Nat → Bool) (k : Nat) : Prop := ∀ p q, q ≤ I.fin → at2 I V p q = true → key I rank K p q ≤ k → Fails P I p q

/-- All that is marked in the second and not in the first fails. -/
def More (P : List Ins) (I : Inp) (V U : Nat → Bool) : Prop := ∀ p q, q ≤ I.fin → at2 I U p q = true → at2 I V p q = true ∨ Fails P I p q

theorem More.refl (V) : More P I V V := fun _ _ _ h => .inl h

theorem More.trans {V U T} (h : More P I V U) (g : More P I U T) : More P I V T := fun p q hq ht => (g p q hq ht).elim (fun hu => h p q hq hu) .inr

theorem Good.more {rank K V U k} (h : Good P I rank K V k) (g : More P I V U) : Good P I rank K U k := fun p q hq ht hk => (g p q hq ht).elim (fun hv => h p q hq hv hk) id

theorem at2_mark {V pc pos p q} (hp : pos ≤ I.fin) (hq : q ≤ I.fin) (h : at2 I (mark I V pc pos) p q = true) : (p = pc ∧ q = pos) ∨ at2 I V p q = true := by
  unfold at2 mark at *
  split at h
  · rename_i e
    left
    have h1 : (p * (I.fin + 1) + q) / (I.fin + 1) = p := by rw [Nat.mul_comm, Nat.mul_add_div (by omega), Nat.div_eq_of_lt (by omega)]; rfl
    have h2 : (pc * (I.fin + 1) + pos) / (I.fin + 1) = pc := by rw [Nat.mul_comm, Nat.mul_add_div (by omega), Nat.div_eq_of_lt (by omega)]; rfl
    rw [e, h2] at h1
    subst h1
    exact ⟨rfl, by omega⟩
  · exact .inr h

theorem key_down {rank K pc pc' pos} (h : rank pc' < rank pc) : key I rank K pc' pos < key I rank K pc pos := by unfold key; omega

theorem key_on {rank K pc pc' pos n} (hr : ∀ pc, rank pc < K) (hn : 0 < n) (hf : pos + n ≤ I.fin) : key I rank K pc' (pos + n) < key I rank K pc pos := by
  unfold key
  have h1 := hr pc'
  obtain ⟨m, hm⟩ : ∃ m, I.fin - pos = m + 1 + (I.fin - (pos + n)) := ⟨n - 1, by omega⟩
  rw [hm, Nat.add_mul, Nat.add_mul]
  omega

theorem good_mark {rank K V pc pos k} (hp : pos ≤ I.fin) (hg : Good P I rank K V (key I rank K pc pos)) (hk : k < key I rank K pc pos) : Good P I rank K (mark I V pc pos) k := by
  intro p q hq hv hle
  rcases at2_mark hp hq hv with ⟨rfl, rfl⟩ | h
  · omega
  · exact hg p q hq h (by omega)

/-- From a state on: what the search finds, the machine finds; where it finds nothing, the machine comes back to its jobs, and what it has marked since fails. -/
theorem run {rank K} (wf : WF P I rank K) {pc pos c r} (h : R P I pc pos c r) : pos ≤ I.fin → ∀ V J, Good P I rank K V (key I rank K pc pos) →
    (∀ d, r = some d → ∃ U, Out P I (.chk pc pos) J V c (some d) U) ∧
    (r = none → ∃ U, More P I V U ∧ ∀ s T, Out P I .pop J U c s T → Out P I (.chk pc pos) J V c s T) := by
  have fresh : ∀ {pc pos c r} (_ : R P I pc pos c r) (_ : pos ≤ I.fin) (V : Nat → Bool) (J : List Job), Good P I rank K V (key I rank K pc pos) →
      (at2 I V pc pos = false →
        (∀ d, r = some d → ∃ U, Out P I (.skp pc pos false) J (mark I V pc pos) c (some d) U) ∧
        (r = none → ∃ U, More P I (mark I V pc pos) U ∧ ∀ s T, Out P I .pop J U c s T → Out P I (.skp pc pos false) J (mark I V pc pos) c s T)) →
      (∀ d, r = some d → ∃ U, Out P I (.chk pc pos) J V c (some d) U) ∧
      (r = none → ∃ U, More P I V U ∧ ∀ s T, Out P I .pop J U c s T → Out P I (.chk pc pos) J V c s T) := by
    intro pc pos c r hr hp V J hg hn
    cases hv : at2 I V pc pos with
    | true =>
      have hf := hg pc pos hp hv (Nat.le_refl _)
      refine ⟨fun d e => ?_, fun _ => ⟨V, More.refl V, fun s T hs => .seen hv hs⟩⟩
      exact absurd (hr.det (hf c)) (by rw [e]; simp)
    | false =>
      obtain ⟨h1, h2⟩ := hn hv
      refine ⟨fun d e => (h1 d e).imp (fun U h => .new hv h), fun e => ?_⟩
      obtain ⟨U, hm, ho⟩ := h2 e
      refine ⟨U, fun p q hq hu => ?_, fun s T hs => .new hv (ho s T hs)⟩
      rcases hm p q hq hu with h | h
      · rcases at2_mark hp hq h with ⟨rfl, rfl⟩ | h
        · subst e; exact .inr (fun c' => hr.any rfl c')
        · exact .inl h
      · exact .inr h
  induction h with
  | @altS pc pos c i d h1 h2 h3 a =>
    intro hp V J hg
    refine fresh (.altS h1 h2 h3) hp V J hg fun hv => ⟨fun d' e => ?_, fun e => absurd e (by simp)⟩
    cases e
    have hk := (wf.alt pc i h1 h2).1
    obtain ⟨U, hU⟩ := (a hp (mark I V pc pos) ((pc, true, (pos : Int)) :: J) (good_mark hp hg (key_down hk))).1 d rfl
    exact ⟨U, .altO h1 h2 hU⟩
  | @altN pc pos c i r h1 h2 h3 h4 a b =>
    intro hp V J hg
    refine fresh (.altN h1 h2 h3 h4) hp V J hg fun hv => ?_
    have hk := wf.alt pc i h1 h2
    obtain ⟨U, hm, ho⟩ := (a hp (mark I V pc pos) ((pc, true, (pos : Int)) :: J) (good_mark hp hg (key_down hk.1))).2 rfl
    obtain ⟨b1, b2⟩ := b hp U J ((good_mark hp hg (key_down hk.2)).more hm)
    refine ⟨fun d e => (b1 d e).imp (fun T h => .altO h1 h2 (ho _ _ (.popJob (.altA h1 h2 h)))), fun e => ?_⟩
    obtain ⟨T, hm2, ho2⟩ := b2 e
    exact ⟨T, hm.trans hm2, fun s S h => .altO h1 h2 (ho _ _ (.popJob (.altA h1 h2 (ho2 s S h))))⟩
  | @capS pc pos c i r h1 h2 h3 h4 a =>
    intro hp V J hg
    refine fresh (.capS h1 h2 h3 h4) hp V J hg fun hv => ?_
    have hk := wf.one pc i h1 (.inl h2)
    obtain ⟨a1, a2⟩ := a hp (mark I V pc pos) ((pc, true, c.getD i.arg 0) :: J) (good_mark hp hg (key_down hk))
    refine ⟨fun d e => (a1 d e).imp (fun T h => .capS h1 h2 h3 h), fun e => ?_⟩
    obtain ⟨U, hm, ho⟩ := a2 e
    refine ⟨U, hm, fun s S h => .capS h1 h2 h3 (ho _ _ (.popJob (.capR h1 h2 (by rw [List.length_set]; exact h3) ?_)))⟩
    rw [List.set_set, List.getD_eq_getElem?_getD, List.getElem?_eq_getElem h3, Option.getD_some, List.set_getElem_self]
    exact h
  | @capN pc pos c i r h1 h2 h3 h4 a =>
    intro hp V J hg
    refine fresh (.capN h1 h2 h3 h4) hp V J hg fun hv => ?_
    have hk := wf.one pc i h1 (.inl h2)
    obtain ⟨a1, a2⟩ := a hp (mark I V pc pos) J (good_mark hp hg (key_down hk))
    exact ⟨fun d e => (a1 d e).imp (fun T h => .capN h1 h2 h3 h), fun e => (a2 e).imp fun U h => ⟨h.1, fun s S g => .capN h1 h2 h3 (h.2 s S g)⟩⟩
  | @empY pc pos c i r h1 h2 h3 h4 a =>
    intro hp V J hg
    refine fresh (.empY h1 h2 h3 h4) hp V J hg fun hv => ?_
    have hk := wf.one pc i h1 (.inr (.inl h2))
    obtain ⟨a1, a2⟩ := a hp (mark I V pc pos) J (good_mark hp hg (key_down hk))
    exact ⟨fun d e => (a1 d e).imp (fun T h => .empY h1 h2 h3 h), fun e => (a2 e).imp fun U h => ⟨h.1, fun s S g => .empY h1 h2 h3 (h.2 s S g)⟩⟩
  | @empN pc pos c i h1 h2 h3 =>
    intro hp V J hg
    exact fresh (.empN h1 h2 h3) hp V J hg fun hv => ⟨fun d e => absurd e (by simp), fun _ => ⟨_, More.refl _, fun s S g => .empN h1 h2 h3 g⟩⟩
  | @mat pc pos c i h1 h2 =>
    intro hp V J hg
    exact fresh (.mat h1 h2) hp V J hg fun hv => ⟨fun d e => by cases e; exact ⟨_, .mat h1 h2⟩, fun e => absurd e (by simp)⟩
  | @nop pc pos c i r h1 h2 h4 a =>
    intro hp V J hg
    refine fresh (.nop h1 h2 h4) hp V J hg fun hv => ?_
    have hk := wf.one pc i h1 (.inr (.inr h2))
    obtain ⟨a1, a2⟩ := a hp (mark I V pc pos) J (good_mark hp hg (key_down hk))
    exact ⟨fun d e => (a1 d e).imp (fun T h => .nop h1 h2 h), fun e => (a2 e).imp fun U h => ⟨h.1, fun s S g => .nop h1 h2 (h.2 s S g)⟩⟩
  | @runY pc pos c i r h1 h2 h3 h4 a =>
    intro hp V J hg
    refine fresh (.runY h1 h2 h3 h4) hp V J hg fun hv => ?_
    have hw := wf.eat pc i pos h1 h2 h3
    have hf := wf.fit pos hp
    obtain ⟨a1, a2⟩ := a hf (mark I V pc pos) J (good_mark hp hg (key_on wf.lt hw hf))
    exact ⟨fun d e => (a1 d e).imp (fun T h => .runY h1 h2 h3 h), fun e => (a2 e).imp fun U h => ⟨h.1, fun s S g => .runY h1 h2 h3 (h.2 s S g)⟩⟩
  | @runN pc pos c i h1 h2 h3 =>
    intro hp V J hg
    exact fresh (.runN h1 h2 h3) hp V J hg fun hv => ⟨fun d e => absurd e (by simp), fun _ => ⟨_, More.refl _, fun s S g => .runN h1 h2 h3 g⟩⟩

end Go.Proofs.YtjgedenoaocfjaaGreatDoor.Rx
namespace Go.Proofs.YtjgedenoaocfjaaGreatDoor.Rx

abbrev K := List UInt8 → List Int → Option (List Int)

structure Asc (I : Inp) (l : List UInt8) : Prop where
  low : ∀ (pos : Nat) (b : UInt8), l[pos]? = some b → b.toNat < 128 → I.stp pos = ((b.toNat : Int), 1)
  high : ∀ (pos : Nat) (b : UInt8), l[pos]? = some b → ¬ b.toNat < 128 → 128 ≤ (I.stp pos).1
  off : ∀ pos, l.length ≤ pos → I.stp pos = (-1, 0)
  beg : ∀ pos, I.emp pos 4 = decide (pos = 0)
  nil : ∀ pos, I.emp pos 8 = decide (l.length ≤ pos)

variable (P : List Ins) (I : Inp) (l : List UInt8) (L : Nat)

/-- The instruction answers as F says on every rest of at most m bytes. -/
def Is (m pc : Nat) (F : K) : Prop := ∀ pos c, pos ≤ l.length → l.length - pos ≤ m → c.length = L → R P I pc pos c (F (l.drop pos) c)

/-- The letters of a class. -/
structure Cls (i : Ins) (C : UInt8 → Bool) : Prop where
  op : i.op = 7 ∨ i.op = 8
  low : ∀ b : UInt8, b.toNat < 128 → eats i b.toNat = C b
  high : ∀ b : UInt8, ¬ b.toNat < 128 → C b = false
  big : ∀ r : Int, 128 ≤ r → eats i r = false
  off : eats i (-1) = false

def eatF (C : UInt8 → Bool) (F : K) : K := fun t c => match t with
  | b :: t' => if C b then F t' c else none
  | [] => none

def plusF (C : UInt8 → Bool) (F : K) : List UInt8 → List Int → Option (List Int)
  | [], _ => none
  | b :: t, c => if C b then (plusF C F t c).or (F t c) else none

def altF (F G : K) : K := fun t c => (F t c).or (G t c)

def capF (n a : Nat) (F : K) : K := fun t c => F t (c.set a ((n - t.length : Nat) : Int))

def endF (F : K) : K := fun t c => if t = [] then F t c else none

def matF (n : Nat) : K := fun t c => some (c.set 1 ((n - t.length : Nat) : Int))

def loopF (body : K → K) (F : K) : Nat → K
  | 0 => F
  | m + 1 => altF (body (loopF body F m)) F

variable {P I l L}

theorem Is.mono {m m' pc F} (h : Is P I l L m pc F) (hm : m' ≤ m) : Is P I l L m' pc F := fun pos c h1 h2 h3 => h pos c h1 (by omega) h3

theorem is_alt {m pc i F G} (hi : P[pc]? = some i) (ho : i.op = 0) (hF : Is P I l L m i.out F) (hG : Is P I l L m i.arg G) : Is P I l L m pc (altF F G) := by
  intro pos c h1 h2 h3
  have hf := hF pos c h1 h2 h3
  unfold altF
  cases e : F (l.drop pos) c with
  | some d => rw [e] at hf; exact .altS hi ho hf
  | none => rw [e] at hf; exact .altN hi ho hf (hG pos c h1 h2 h3)

theorem is_cap {m pc i F} (hi : P[pc]? = some i) (ho : i.op = 2) (hF : Is P I l L m i.out F) : Is P I l L m pc (capF l.length i.arg F) := by
  intro pos c h1 h2 h3
  have hx : capF l.length i.arg F (l.drop pos) c = F (l.drop pos) (c.set i.arg pos) := by
    unfold capF
    rw [List.length_drop, show l.length - (l.length - pos) = pos by omega]
  rw [hx]
  have := hF pos (c.set i.arg pos) h1 h2 (by rw [List.length_set]; exact h3)
  by_cases ha : i.arg < L
  · exact .capS hi ho (by omega) this
  · rw [List.set_eq_of_length_le (by omega)] at this ⊢
    exact .capN hi ho (by omega) this

theorem is_mat {m pc i} (hi : P[pc]? = some i) (ho : i.op = 4) : Is P I l L m pc (matF l.length) := by
  intro pos c h1 h2 h3
  unfold matF
  rw [List.length_drop, show l.length - (l.length - pos) = pos by omega]
  exact .mat hi ho

theorem is_end {m pc i F} (hA : Asc I l) (hi : P[pc]? = some i) (ho : i.op = 3) (ha : i.arg = 8) (hF : Is P I l L m i.out F) : Is P I l L m pc (endF F) := by
  intro pos c h1 h2 h3
  unfold endF
  by_cases h : l.drop pos = []
  · rw [if_pos h]
    refine .empY hi ho ?_ (hF pos c h1 h2 h3)
    rw [ha, hA.nil, decide_eq_true_iff]
    have := congrArg List.length h
    rw [List.length_drop, List.length_nil] at this
    omega
  · rw [if_neg h]
    refine .empN hi ho ?_
    rw [ha, hA.nil, decide_eq_false_iff_not]
    intro h4
    exact h (List.drop_of_length_le h4)

theorem is_beg {m pc i F} (hA : Asc I l) (hi : P[pc]? = some i) (ho : i.op = 3) (ha : i.arg = 4) (hF : Is P I l L m i.out F) (c : List Int) (hm : l.length ≤ m) (hc : c.length = L) : R P I pc 0 c (F l c) :=
  .empY hi ho (by rw [ha, hA.beg]; rfl) (by have := hF 0 c (Nat.zero_le _) (by omega) hc; rwa [List.drop_zero] at this)

theorem step_yes {pc i C F pos c m} (hA : Asc I l) (hi : P[pc]? = some i) (hC : Cls i C) (hF : Is P I l L m i.out F) {b : UInt8} (hp : l[pos]? = some b) (hb : C b = true) (h2 : l.length - pos ≤ m + 1) (h3 : c.length = L) : R P I pc pos c (F (l.drop (pos + 1)) c) := by
  have hlt : pos < l.length := (List.getElem?_eq_some_iff.1 hp).1
  have h128 : b.toNat < 128 := by
    by_cases h : b.toNat < 128
    · exact h
    · rw [hC.high b h] at hb; cases hb
  have hs := hA.low pos b hp h128
  have := hF (pos + 1) c (by omega) (by omega) h3
  refine .runY hi hC.op (by rw [hs, hC.low b h128]; exact hb) ?_
  rw [hs]
  exact this

theorem step_no {pc i C pos c} (hA : Asc I l) (hi : P[pc]? = some i) (hC : Cls i C) {b : UInt8} (hp : l[pos]? = some b) (hb : C b = false) : R P I pc pos c none := by
  refine .runN hi hC.op ?_
  by_cases h : b.toNat < 128
  · rw [hA.low pos b hp h, hC.low b h]; exact hb
  · exact hC.big _ (hA.high pos b hp h)

theorem step_off {pc i C pos c} (hA : Asc I l) (hi : P[pc]? = some i) (hC : Cls i C) (hp : l.length ≤ pos) : R P I pc pos c none := by
  refine .runN hi hC.op ?_
  rw [hA.off pos hp]
  exact hC.off

theorem is_eat {m pc i C F} (hA : Asc I l) (hi : P[pc]? = some i) (hC : Cls i C) (hF : Is P I l L m i.out F) : Is P I l L (m + 1) pc (eatF C F) := by
  intro pos c h1 h2 h3
  by_cases hp : pos < l.length
  · have hg : l[pos]? = some l[pos] := List.getElem?_eq_getElem hp
    rw [List.drop_eq_getElem_cons hp]
    unfold eatF
    dsimp only
    cases hb : C l[pos] with
    | true => rw [if_pos rfl]; exact step_yes hA hi hC hF hg hb h2 h3
    | false => rw [if_neg (by decide)]; exact step_no hA hi hC hg hb
  · rw [List.drop_of_length_le (by omega)]
    exact step_off hA hi hC (by omega)

theorem is_none {pc i C} (hA : Asc I l) (hi : P[pc]? = some i) (hC : Cls i C) : Is P I l L 0 pc (fun _ _ => none) :=
  fun _ _ h1 h2 _ => step_off hA hi hC (by omega)

theorem is_plus {m a b i j C F} (hA : Asc I l) (hi : P[a]? = some i) (hC : Cls i C) (hib : i.out = b) (hj : P[b]? = some j) (ho : j.op = 0) (hja : j.out = a) (hF : Is P I l L m j.arg F) : Is P I l L (m + 1) a (plusF C F) := by
  have : ∀ d pos c, l.length - pos = d → pos ≤ l.length → l.length - pos ≤ m + 1 → c.length = L → R P I a pos c (plusF C F (l.drop pos) c) := by
    intro d
    induction d with
    | zero =>
      intro pos c hd h1 h2 h3
      rw [List.drop_of_length_le (by omega)]
      exact step_off hA hi hC (by omega)
    | succ d ih =>
      intro pos c hd h1 h2 h3
      have hp : pos < l.length := by omega
      have hg : l[pos]? = some l[pos] := List.getElem?_eq_getElem hp
      rw [List.drop_eq_getElem_cons hp]
      unfold plusF
      cases hb : C l[pos] with
      | false => rw [if_neg (by decide)]; exact step_no hA hi hC hg hb
      | true =>
        rw [if_pos rfl]
        have hx := ih (pos + 1) c (by omega) (by omega) (by omega) h3
        have h128 : l[pos].toNat < 128 := by
          by_cases h : l[pos].toNat < 128
          · exact h
          · rw [hC.high _ h] at hb; cases hb
        have hs := hA.low pos _ hg h128
        refine .runY hi hC.op (by rw [hs, hC.low _ h128]; exact hb) ?_
        rw [hs, hib]
        dsimp only
        cases e : plusF C F (l.drop (pos + 1)) c with
        | some q => rw [e] at hx; rw [Option.some_or]; exact .altS hj ho (by rw [hja]; exact hx)
        | none => rw [e] at hx; rw [Option.none_or]; exact .altN hj ho (by rw [hja]; exact hx) (hF (pos + 1) c (by omega) (by omega) h3)
  exact fun pos c h1 h2 h3 => this _ pos c rfl h1 h2 h3

theorem is_loop {pc i body F} (hi : P[pc]? = some i) (ho : i.op = 0) (h0 : Is P I l L 0 i.out (fun _ _ => none)) (hb : ∀ m G, Is P I l L m pc G → Is P I l L (m + 1) i.out (body G)) (hF : ∀ m, Is P I l L m i.arg F) : ∀ m, Is P I l L m pc (loopF body F m) := by
  intro m
  induction m with
  | zero =>
    have := is_alt hi ho h0 (hF 0)
    intro pos c h1 h2 h3
    have := this pos c h1 h2 h3
    unfold altF at this
    rw [Option.none_or] at this
    exact this
  | succ m ih => exact is_alt hi ho (hb m _ ih) (hF (m + 1))

end Go.Proofs.YtjgedenoaocfjaaGreatDoor.Rx
namespace Go.Proofs.YtjgedenoaocfjaaGreatDoor.Rx

/-- F finds nothing on a rest that begins with a letter of the class. -/
def Shuns (C : UInt8 → Bool) (F : K) : Prop := ∀ b t c, C b = true → F (b :: t) c = none

/-- Whether F finds something does not hang on the captures. -/
def Free (F : K) : Prop := ∀ t c d, F t c = none → F t d = none

theorem plus_eq {C F} (h : Shuns C F) : ∀ t c, plusF C F t c = if t.takeWhile C = [] then none else F (t.dropWhile C) c
  | [], c => by simp [plusF]
  | b :: t, c => by
    unfold plusF
    cases hb : C b with
    | false => simp [List.takeWhile, hb]
    | true =>
      rw [if_pos rfl, plus_eq h t c, List.takeWhile_cons, List.dropWhile_cons, hb]
      simp only [if_true, List.cons_ne_nil, if_false]
      cases t with
      | nil => simp
      | cons x u =>
        cases hx : C x with
        | false => simp [List.takeWhile, List.dropWhile, hx]
        | true => rw [h x u c hx, Option.or_none, if_neg (by simp [hx])]

theorem eat_shuns {C D F} (h : ∀ b, C b = true → D b = false) : Shuns C (eatF D F) := fun b t c hb => by
  unfold eatF
  dsimp only
  rw [h b hb]
  rfl

theorem plus_shuns {C D F} (h : ∀ b, C b = true → D b = false) : Shuns C (plusF D F) := fun b t c hb => by
  unfold plusF
  rw [h b hb]
  rfl

theorem cap_shuns {C n a F} (h : Shuns C F) : Shuns C (capF n a F) := fun b t _ hb => h b t _ hb

theorem alt_shuns {C F G} (h : Shuns C F) (g : Shuns C G) : Shuns C (altF F G) := fun b t c hb => by unfold altF; rw [h b t c hb, g b t c hb]; rfl

theorem end_shuns {C F} : Shuns C (endF F) := fun b t _ _ => by unfold endF; rw [if_neg (by simp)]

theorem loop_shuns {C body F} (h : ∀ G, Shuns C (body G)) (g : Shuns C F) : ∀ m, Shuns C (loopF body F m)
  | 0 => g
  | _ + 1 => alt_shuns (h _) g

theorem cap_free {n a F} (h : Free F) : Free (capF n a F) := fun t _ _ e => h t _ _ e

theorem eat_free {C F} (h : Free F) : Free (eatF C F) := fun t c d e => by
  unfold eatF at *
  split <;> rename_i hb
  · dsimp only at e
    split at e
    · rw [if_pos (by assumption)]; exact h _ _ _ e
    · rw [if_neg (by assumption)]
  · rfl

theorem alt_free {F G} (h : Free F) (g : Free G) : Free (altF F G) := fun t c d e => by
  unfold altF at *
  rw [Option.or_eq_none_iff] at e ⊢
  exact ⟨h t c d e.1, g t c d e.2⟩

theorem plus_free {C F} (h : Free F) : Free (plusF C F)
  | [], _, _, _ => rfl
  | b :: t, c, d, e => by
    unfold plusF at *
    split at e
    · rw [if_pos (by assumption)]
      rw [Option.or_eq_none_iff] at e ⊢
      exact ⟨plus_free h t c d e.1, h t c d e.2⟩
    · rw [if_neg (by assumption)]

theorem end_free {F} (h : Free F) : Free (endF F) := fun t c d e => by
  unfold endF at *
  split at e
  · rw [if_pos (by assumption)]; exact h _ _ _ e
  · rw [if_neg (by assumption)]

theorem mat_free {n} : Free (matF n) := fun t c d e => by unfold matF at e; cases e

theorem loop_free {body F} (h : ∀ G, Free G → Free (body G)) (g : Free F) : ∀ m, Free (loopF body F m)
  | 0 => g
  | m + 1 => alt_free (h _ (loop_free h g m)) g

def hdB (C : UInt8 → Bool) (t : List UInt8) : Bool := match t with
  | b :: _ => C b
  | [] => false

/-- Behind a mark of the kind S letters of the class D, one at least: what is left behind them. -/
def markRest (S D : UInt8 → Bool) (t : List UInt8) : Option (List UInt8) := match t with
  | b :: u => if S b = true ∧ u.takeWhile D ≠ [] then some (u.dropWhile D) else none
  | [] => none

theorem markRest_lt {S D t r} (h : markRest S D t = some r) : r.length < t.length := by
  cases t with
  | nil => cases h
  | cons b u =>
    simp only [markRest] at h
    split at h
    · cases h
      have := (List.dropWhile_sublist D (l := u)).length_le
      simp only [List.length_cons]; omega
    · cases h

theorem mark_eq {n S D G} {a b : Nat} (h : Shuns D G) (t : List UInt8) (c : List Int) : capF n a (eatF S (plusF D (capF n b G))) t c =
    match markRest S D t with
    | some r => G r ((c.set a ((n - t.length : Nat) : Int)).set b ((n - r.length : Nat) : Int))
    | none => none := by
  unfold capF eatF
  cases t with
  | nil => rfl
  | cons x u =>
    dsimp only [markRest]
    cases hx : S x with
    | false => simp
    | true =>
      rw [if_pos rfl]
      have hp := plus_eq (F := capF n b G) (cap_shuns h) u (c.set a ((n - (x :: u).length : Nat) : Int))
      unfold capF at hp
      rw [hp]
      by_cases hu : u.takeWhile D = []
      · rw [if_pos hu, if_neg (fun h => h.2 hu)]
      · rw [if_neg hu, if_pos ⟨rfl, hu⟩]

/-- An optional part ahead of what shuns its mark. -/
theorem opt_eq {n S D G} {a b : Nat} (h : Shuns D G) (hS : Shuns S G) (t : List UInt8) (c : List Int) : altF (capF n a (eatF S (plusF D (capF n b G)))) G t c =
    match markRest S D t with
    | some r => G r ((c.set a ((n - t.length : Nat) : Int)).set b ((n - r.length : Nat) : Int))
    | none => G t c := by
  unfold altF
  rw [mark_eq h]
  cases e : markRest S D t with
  | none => rfl
  | some r =>
    dsimp only
    cases t with
    | nil => cases e
    | cons x u =>
      simp only [markRest] at e
      split at e
      · rename_i hx
        rw [hS x u c hx.1, Option.or_none]
      · cases e

/-- Two optional parts of one kind, one behind the other. -/
theorem opt2_eq {n S D G} {a b a' b' : Nat} (h : Shuns D G) (hS : Shuns S G) (hSD : ∀ x, D x = true → S x = false) (hf : Free G) (t : List UInt8) (c : List Int) :
    altF (capF n a (eatF S (plusF D (capF n b (altF (capF n a' (eatF S (plusF D (capF n b' G)))) G))))) (altF (capF n a' (eatF S (plusF D (capF n b' G)))) G) t c =
    match markRest S D t with
    | some r => altF (capF n a' (eatF S (plusF D (capF n b' G)))) G r ((c.set a ((n - t.length : Nat) : Int)).set b ((n - r.length : Nat) : Int))
    | none => G t c := by
  have hsh : Shuns D (altF (capF n a' (eatF S (plusF D (capF n b' G)))) G) := alt_shuns (cap_shuns (eat_shuns hSD)) h
  conv => lhs; unfold altF
  show ((capF n a (eatF S (plusF D (capF n b (altF (capF n a' (eatF S (plusF D (capF n b' G)))) G)))) t c).or (altF (capF n a' (eatF S (plusF D (capF n b' G)))) G t c)) = _
  rw [mark_eq hsh, opt_eq h hS]
  cases e : markRest S D t with
  | none => rfl
  | some r =>
    dsimp only
    rw [opt_eq h hS]
    cases e2 : markRest S D r with
    | none =>
      dsimp only
      cases e3 : G r ((c.set a ((n - t.length : Nat) : Int)).set b ((n - r.length : Nat) : Int)) with
      | some d => rfl
      | none => rw [Option.none_or]; exact hf _ _ _ e3
    | some q =>
      dsimp only
      have : ∀ d, G r d = none := by
        intro d
        cases r with
        | nil => cases e2
        | cons x u =>
          simp only [markRest] at e2
          split at e2
          · rename_i hx; exact hS x u d hx.1
          · cases e2
      rw [this, Option.or_none]

/-- Where the parts with marks end. -/
def partsEnd (S D : UInt8 → Bool) : Nat → List UInt8 → List UInt8
  | 0, t => t
  | m + 1, t => match markRest S D t with
    | some r => partsEnd S D m r
    | none => t

/-- Captures that are the same but for two places. -/
def Same2 (a b : Nat) (c d : List Int) : Prop := d.length = c.length ∧ ∀ k, k ≠ a → k ≠ b → d[k]? = c[k]?

theorem loop_eq {n S D F} {a b : Nat} (hSD : ∀ x, D x = true → S x = false) (hD : Shuns D F) (hS : Shuns S F) : ∀ m t c, t.length ≤ m → ∃ d, Same2 a b c d ∧ loopF (fun G => capF n a (eatF S (plusF D (capF n b G)))) F m t c = F (partsEnd S D m t) d := by
  intro m
  induction m with
  | zero => exact fun t c _ => ⟨c, ⟨rfl, fun _ _ _ => rfl⟩, rfl⟩
  | succ m ih =>
    intro t c hm
    have hsh : Shuns D (loopF (fun G => capF n a (eatF S (plusF D (capF n b G)))) F m) := loop_shuns (fun _ => cap_shuns (eat_shuns hSD)) hD m
    show ∃ d, _ ∧ ((capF n a (eatF S (plusF D (capF n b (loopF (fun G => capF n a (eatF S (plusF D (capF n b G)))) F m)))) t c).or (F t c)) = _
    rw [mark_eq hsh]
    unfold partsEnd
    cases e : markRest S D t with
    | none => exact ⟨c, ⟨rfl, fun _ _ _ => rfl⟩, rfl⟩
    | some r =>
      dsimp only
      have hlt := markRest_lt e
      obtain ⟨d, hd, he⟩ := ih r ((c.set a ((n - t.length : Nat) : Int)).set b ((n - r.length : Nat) : Int)) (by omega)
      refine ⟨d, ⟨by rw [hd.1]; simp, fun k h1 h2 => ?_⟩, ?_⟩
      · rw [hd.2 k h1 h2, List.getElem?_set_ne (by omega), List.getElem?_set_ne (by omega)]
      · have : F t c = none := by
          cases t with
          | nil => cases e
          | cons x u =>
            simp only [markRest] at e
            split at e
            · rename_i hx; exact hS x u c hx.1
            · cases e
        rw [this, Option.or_none]
        exact he

end Go.Proofs.YtjgedenoaocfjaaGreatDoor.Rx
namespace Go.Proofs.YtjgedenoaocfjaaGreatDoor.Rx

def inP : List Int → Int → Prop
  | a :: b :: t, r => (a ≤ r ∧ r ≤ b) ∨ inP t r
  | _, _ => False

theorem mrpGo_iff : ∀ (l : List Int) (r j : Int), 0 ≤ j → (0 ≤ mrpGo l r j ↔ inP l r)
  | [], r, j, _ => by simp [mrpGo, inP]
  | [a], r, j, _ => by simp [mrpGo, inP]
  | a :: b :: t, r, j, hj => by
    unfold mrpGo inP
    by_cases h : a ≤ r ∧ r ≤ b
    · rw [if_pos h]; exact ⟨fun _ => .inl h, fun _ => hj⟩
    · rw [if_neg h, mrpGo_iff t r (j + 1) (by omega)]; exact ⟨.inr, fun g => g.resolve_left h⟩

theorem inP_range : ∀ (l : List Int) (r : Int), inP l r → (l.all fun x => decide (0 ≤ x ∧ x < 128)) = true → 0 ≤ r ∧ r < 128
  | [], _, h, _ => h.elim
  | [_], _, h, _ => h.elim
  | a :: b :: t, r, h, g => by
    rw [List.all_cons, List.all_cons, Bool.and_eq_true, Bool.and_eq_true, decide_eq_true_iff, decide_eq_true_iff] at g
    rcases h with h | h
    · omega
    · exact inP_range t r h g.2.2

theorem eats_range {i : Ins} {r : Int} (h : eats i r = true) (hr : (i.cls.all fun x => decide (0 ≤ x ∧ x < 128)) = true) (hn : i.cls ≠ []) : 0 ≤ r ∧ r < 128 := by
  unfold eats at h
  split at h
  · rw [decide_eq_true_iff] at h
    unfold mrp at h
    split at h
    · rename_i a e
      rw [e] at hr
      simp at hr
      split at h
      · omega
      · omega
    · exact inP_range _ _ ((mrpGo_iff _ _ 0 (Int.le_refl _)).1 h) hr
  · rw [decide_eq_true_iff] at h
    cases e : i.cls with
    | nil => exact absurd e hn
    | cons a t =>
      rw [e] at h hr
      simp at h hr
      omega

/-- The check of one instruction. -/
def okI (rank : Nat → Nat) (K n pc : Nat) (i : Ins) : Bool :=
  decide (rank pc < K) && (match i.op with
  | 0 => decide (rank i.out < rank pc ∧ rank i.arg < rank pc ∧ i.out < n ∧ i.arg < n ∧ i.out ≠ 0 ∧ i.arg ≠ 0)
  | 2 => decide (rank i.out < rank pc ∧ i.out < n ∧ i.out ≠ 0)
  | 3 => decide (rank i.out < rank pc ∧ i.out < n ∧ i.out ≠ 0 ∧ (i.arg = 4 ∨ i.arg = 8))
  | 4 => true
  | 5 => decide (pc = 0)
  | 6 => decide (rank i.out < rank pc ∧ i.out < n ∧ i.out ≠ 0)
  | 7 => decide (i.out < n ∧ i.out ≠ 0 ∧ i.cls ≠ []) && (i.cls.all fun x => decide (0 ≤ x ∧ x < 128))
  | 8 => decide (i.out < n ∧ i.out ≠ 0 ∧ i.cls ≠ []) && (i.cls.all fun x => decide (0 ≤ x ∧ x < 128))
  | _ => false)

def okP (rank : Nat → Nat) (K n : Nat) : Nat → List Ins → Bool
  | _, [] => true
  | pc, i :: t => okI rank K n pc i && okP rank K n (pc + 1) t

theorem okP_get {rank K n} : ∀ (P : List Ins) (k pc : Nat) (i : Ins), okP rank K n k P = true → P[pc]? = some i → okI rank K n (k + pc) i = true
  | [], _, _, _, _, h => by simp at h
  | j :: t, k, 0, i, h, g => by
    simp [okP] at h g
    subst g
    exact h.1
  | j :: t, k, pc + 1, i, h, g => by
    simp [okP] at h g
    have := okP_get t (k + 1) pc i h.2 g
    rwa [Nat.add_right_comm, Nat.add_assoc] at this

theorem okI_of {rank K P} (h : okP rank K P.length 0 P = true) {pc : Nat} {i : Ins} (g : P[pc]? = some i) : okI rank K P.length pc i = true := by
  have := okP_get P 0 pc i h g
  rwa [Nat.zero_add] at this

structure Fit (I : Inp) (l : List UInt8) : Prop extends Asc I l where
  fin : I.fin = l.length
  fit : ∀ pos, pos ≤ l.length → pos + (I.stp pos).2 ≤ l.length

theorem wf_of {P : List Ins} {I : Inp} {l rank K} (hI : Fit I l) (hK : ∀ pc, rank pc < K) (h : okP rank K P.length 0 P = true) : WF P I rank K where
  lt := hK
  alt := fun pc i g ho => by
    have := okI_of h g
    unfold okI at this
    simp [ho] at this
    exact ⟨this.2.1, this.2.2.1⟩
  one := fun pc i g ho => by
    have := okI_of h g
    unfold okI at this
    rcases ho with ho | ho | ho <;> simp [ho] at this <;> exact this.2.1
  eat := fun pc i pos g ho he => by
    have := okI_of h g
    unfold okI at this
    have hr : 0 ≤ (I.stp pos).1 ∧ (I.stp pos).1 < 128 := by
      rcases ho with ho | ho <;> simp only [ho, Bool.and_eq_true, decide_eq_true_iff] at this
      · exact eats_range he this.2.2 this.2.1.2.2
      · exact eats_range he this.2.2 this.2.1.2.2
    by_cases hp : pos < l.length
    · have hg : l[pos]? = some l[pos] := List.getElem?_eq_getElem hp
      by_cases h128 : l[pos].toNat < 128
      · rw [hI.low pos _ hg h128]; exact Nat.one_pos
      · have := hI.high pos _ hg h128; omega
    · rw [hI.off pos (by omega)] at hr; omega
  fit := fun pos hp => by rw [hI.fin] at *; exact hI.fit pos hp

/-- What the search finds from the first instruction on, the machine finds. -/
theorem first {P : List Ins} {I : Inp} {l rank K} (hI : Fit I l) (hK : ∀ pc, rank pc < K) (h : okP rank K P.length 0 P = true) {pc pos c r} (hR : R P I pc pos c r) (hp : pos ≤ l.length) (V : Nat → Bool) (hV : ∀ p q, q ≤ I.fin → at2 I V p q = true → Fails P I p q) :
    ∃ U, Out P I (.chk pc pos) [] V c r U ∧ (r = none → ∀ p q, q ≤ I.fin → at2 I U p q = true → Fails P I p q) := by
  obtain ⟨h1, h2⟩ := run (wf_of hI hK h) hR (by rw [hI.fin]; exact hp) V [] (fun p q hq ht _ => hV p q hq ht)
  cases r with
  | some d => obtain ⟨U, hU⟩ := h1 d rfl; exact ⟨U, hU, fun e => by cases e⟩
  | none =>
    obtain ⟨U, hm, ho⟩ := h2 rfl
    exact ⟨U, ho _ _ .popNil, fun _ p q hq ht => (hm p q hq ht).elim (hV p q hq) id⟩

theorem cls_of {i : Ins} {C : UInt8 → Bool} (ho : i.op = 7 ∨ i.op = 8) (hr : (i.cls.all fun x => decide (0 ≤ x ∧ x < 128)) = true) (hn : i.cls ≠ []) (hC : ∀ b : UInt8, eats i b.toNat = C b) : Cls i C where
  op := ho
  low := fun b _ => hC b
  high := fun b hb => by
    rw [← hC b]
    cases e : eats i b.toNat
    · rfl
    · have := eats_range e hr hn; omega
  big := fun r hr' => by
    cases e : eats i r
    · rfl
    · have := eats_range e hr hn; omega
  off := by
    cases e : eats i (-1)
    · rfl
    · have := eats_range e hr hn; omega

end Go.Proofs.YtjgedenoaocfjaaGreatDoor.Rx
namespace Go.Proofs.YtjgedenoaocfjaaGreatDoor.Rx

/-- Among the pairs from a to b one has the letter. -/
def inR (l : List Int) (r : Int) (a b : Nat) : Prop := ∃ k, a ≤ k ∧ k < b ∧ l.getD (2 * k) 0 ≤ r ∧ r ≤ l.getD (2 * k + 1) 0

def Srt (l : List Int) : Prop := ∀ i j, i ≤ j → j < l.length → l.getD i 0 ≤ l.getD j 0

theorem srt_of (l : List Int) (h : l.Pairwise (· ≤ ·)) : Srt l := by
  intro i j hij hj
  rw [List.getD_eq_getElem?_getD, List.getD_eq_getElem?_getD, List.getElem?_eq_getElem hj, List.getElem?_eq_getElem (Nat.lt_of_le_of_lt hij hj), Option.getD_some, Option.getD_some]
  rcases Nat.lt_or_eq_of_le hij with h1 | h1
  · exact List.pairwise_iff_getElem.1 h i j (by omega) hj h1
  · subst h1; exact Int.le_refl _

theorem inP_iff : ∀ (l : List Int) (r : Int) (n : Nat), l.length = 2 * n → (inP l r ↔ inR l r 0 n)
  | [], r, n, h => by
    have : n = 0 := by simp at h; omega
    subst this
    exact ⟨fun h => h.elim, fun ⟨k, _, h, _⟩ => absurd h (by omega)⟩
  | [_], _, n, h => by simp at h; omega
  | a :: b :: t, r, n, h => by
    obtain ⟨m, rfl⟩ : ∃ m, n = m + 1 := ⟨n - 1, by simp at h; omega⟩
    have ih := inP_iff t r m (by simp at h; omega)
    unfold inP
    rw [ih]
    constructor
    · rintro (h | ⟨k, _, h2, h3, h4⟩)
      · exact ⟨0, Nat.le_refl _, by omega, by simpa using h.1, by simpa using h.2⟩
      · exact ⟨k + 1, by omega, by omega, by rw [show 2 * (k + 1) = 2 * k + 1 + 1 by omega]; simpa using h3, by rw [show 2 * (k + 1) + 1 = 2 * k + 1 + 1 + 1 by omega]; simpa using h4⟩
    · rintro ⟨k, _, h2, h3, h4⟩
      cases k with
      | zero => left; exact ⟨by simpa using h3, by simpa using h4⟩
      | succ k =>
        right
        refine ⟨k, Nat.zero_le _, by omega, ?_, ?_⟩
        · rw [show 2 * (k + 1) = 2 * k + 1 + 1 by omega] at h3; simpa using h3
        · rw [show 2 * (k + 1) + 1 = 2 * k + 1 + 1 + 1 by omega] at h4; simpa using h4

theorem inR_up {l : List Int} {r : Int} {a b m : Nat} (hs : Srt l) (hm : 2 * m + 1 < l.length) (h1 : a ≤ m) (h : l.getD (2 * m + 1) 0 < r) : inR l r a b ↔ inR l r (m + 1) b := by
  constructor
  · rintro ⟨k, k1, k2, k3, k4⟩
    refine ⟨k, ?_, k2, k3, k4⟩
    rcases Nat.lt_or_ge m k with h2 | h2
    · exact h2
    · have := hs (2 * k + 1) (2 * m + 1) (by omega) hm
      omega
  · rintro ⟨k, k1, k2, k3, k4⟩
    exact ⟨k, by omega, k2, k3, k4⟩

theorem inR_down {l : List Int} {r : Int} {a b m : Nat} (hs : Srt l) (hb : 2 * b ≤ l.length) (h1 : m ≤ b) (h : r < l.getD (2 * m) 0) : inR l r a b ↔ inR l r a m := by
  constructor
  · rintro ⟨k, k1, k2, k3, k4⟩
    refine ⟨k, k1, ?_, k3, k4⟩
    rcases Nat.lt_or_ge k m with h2 | h2
    · exact h2
    · have := hs (2 * m) (2 * k) (by omega) (by omega)
      omega
  · rintro ⟨k, k1, k2, k3, k4⟩
    exact ⟨k, k1, by omega, k3, k4⟩

theorem inR_at {l : List Int} {r : Int} {a b m : Nat} (h1 : a ≤ m) (h2 : m < b) (h3 : l.getD (2 * m) 0 ≤ r) (h4 : r ≤ l.getD (2 * m + 1) 0) : inR l r a b := ⟨m, h1, h2, h3, h4⟩

theorem inR_none {l : List Int} {r : Int} {a : Nat} : ¬ inR l r a a := fun ⟨_, h1, h2, _⟩ => absurd h1 (by omega)

end Go.Proofs.YtjgedenoaocfjaaGreatDoor.Rx
namespace Go.Proofs.YtjgedenoaocfjaaGreatDoor.Rx

variable {P : List Ins} {I : Inp}

theorem inv_nil {V c r U} (h : Out P I .pop [] V c r U) : r = none ∧ U = V := by cases h; exact ⟨rfl, rfl⟩

theorem inv_job {pc arg pos J V c r U} (h : Out P I .pop ((pc, arg, pos) :: J) V c r U) : Out P I (.skp pc pos arg) J V c r U := by cases h; assumption

theorem inv_chk {pc pos J V c r U} (h : Out P I (.chk pc pos) J V c r U) : (at2 I V pc pos = true ∧ Out P I .pop J V c r U) ∨ (at2 I V pc pos = false ∧ Out P I (.skp pc pos false) J (mark I V pc pos) c r U) := by
  cases h with
  | seen h1 h2 => exact .inl ⟨h1, h2⟩
  | new h1 h2 => exact .inr ⟨h1, h2⟩

theorem inv_altA {pc p i J V c r U} (h : Out P I (.skp pc p true) J V c r U) (hi : P[pc]? = some i) (ho : i.op = 0) : ∃ q : Nat, p = q ∧ Out P I (.chk i.arg q) J V c r U := by
  cases h with
  | altA g1 g2 g3 => rw [hi] at g1; cases g1; exact ⟨_, rfl, g3⟩
  | capR g1 g2 g3 g4 => rw [hi] at g1; cases g1; omega

theorem inv_altO {pc p i J V c r U} (h : Out P I (.skp pc p false) J V c r U) (hi : P[pc]? = some i) (ho : i.op = 0) : ∃ q : Nat, p = q ∧ Out P I (.chk i.out q) ((pc, true, (q : Int)) :: J) V c r U := by
  cases h with
  | altO g1 g2 g3 => rw [hi] at g1; cases g1; exact ⟨_, rfl, g3⟩
  | capS g1 g2 g3 g4 => rw [hi] at g1; cases g1; omega
  | capN g1 g2 g3 g4 => rw [hi] at g1; cases g1; omega
  | empY g1 g2 g3 g4 => rw [hi] at g1; cases g1; omega
  | empN g1 g2 g3 g4 => rw [hi] at g1; cases g1; omega
  | mat g1 g2 => rw [hi] at g1; cases g1; omega
  | nop g1 g2 g3 => rw [hi] at g1; cases g1; omega
  | runY g1 g2 g3 g4 => rw [hi] at g1; cases g1; omega
  | runN g1 g2 g3 g4 => rw [hi] at g1; cases g1; omega

theorem inv_capR {pc p i J V c r U} (h : Out P I (.skp pc p true) J V c r U) (hi : P[pc]? = some i) (ho : i.op = 2) : i.arg < c.length ∧ Out P I .pop J V (c.set i.arg p) r U := by
  cases h with
  | altA g1 g2 g3 => rw [hi] at g1; cases g1; omega
  | capR g1 g2 g3 g4 => rw [hi] at g1; cases g1; exact ⟨g3, g4⟩

theorem inv_cap {pc p i J V c r U} (h : Out P I (.skp pc p false) J V c r U) (hi : P[pc]? = some i) (ho : i.op = 2) : ∃ q : Nat, p = q ∧
    ((i.arg < c.length ∧ Out P I (.chk i.out q) ((pc, true, c.getD i.arg 0) :: J) V (c.set i.arg q) r U) ∨ (¬ i.arg < c.length ∧ Out P I (.chk i.out q) J V c r U)) := by
  cases h with
  | altO g1 g2 g3 => rw [hi] at g1; cases g1; omega
  | capS g1 g2 g3 g4 => rw [hi] at g1; cases g1; exact ⟨_, rfl, .inl ⟨g3, g4⟩⟩
  | capN g1 g2 g3 g4 => rw [hi] at g1; cases g1; exact ⟨_, rfl, .inr ⟨g3, g4⟩⟩
  | empY g1 g2 g3 g4 => rw [hi] at g1; cases g1; omega
  | empN g1 g2 g3 g4 => rw [hi] at g1; cases g1; omega
  | mat g1 g2 => rw [hi] at g1; cases g1; omega
  | nop g1 g2 g3 => rw [hi] at g1; cases g1; omega
  | runY g1 g2 g3 g4 => rw [hi] at g1; cases g1; omega
  | runN g1 g2 g3 g4 => rw [hi] at g1; cases g1; omega

theorem inv_emp {pc p i J V c r U} {arg : Bool} (h : Out P I (.skp pc p arg) J V c r U) (hi : P[pc]? = some i) (ho : i.op = 3) : ∃ q : Nat, p = q ∧ arg = false ∧
    ((I.emp q i.arg = true ∧ Out P I (.chk i.out q) J V c r U) ∨ (I.emp q i.arg = false ∧ Out P I .pop J V c r U)) := by
  cases h with
  | altA g1 g2 g3 => rw [hi] at g1; cases g1; omega
  | capR g1 g2 g3 g4 => rw [hi] at g1; cases g1; omega
  | altO g1 g2 g3 => rw [hi] at g1; cases g1; omega
  | capS g1 g2 g3 g4 => rw [hi] at g1; cases g1; omega
  | capN g1 g2 g3 g4 => rw [hi] at g1; cases g1; omega
  | empY g1 g2 g3 g4 => rw [hi] at g1; cases g1; exact ⟨_, rfl, rfl, .inl ⟨g3, g4⟩⟩
  | empN g1 g2 g3 g4 => rw [hi] at g1; cases g1; exact ⟨_, rfl, rfl, .inr ⟨g3, g4⟩⟩
  | mat g1 g2 => rw [hi] at g1; cases g1; omega
  | nop g1 g2 g3 => rw [hi] at g1; cases g1; omega
  | runY g1 g2 g3 g4 => rw [hi] at g1; cases g1; omega
  | runN g1 g2 g3 g4 => rw [hi] at g1; cases g1; omega

theorem inv_mat {pc p i J V c r U} {arg : Bool} (h : Out P I (.skp pc p arg) J V c r U) (hi : P[pc]? = some i) (ho : i.op = 4) : ∃ q : Nat, p = q ∧ arg = false ∧ r = some (c.set 1 q) := by
  cases h with
  | altA g1 g2 g3 => rw [hi] at g1; cases g1; omega
  | capR g1 g2 g3 g4 => rw [hi] at g1; cases g1; omega
  | altO g1 g2 g3 => rw [hi] at g1; cases g1; omega
  | capS g1 g2 g3 g4 => rw [hi] at g1; cases g1; omega
  | capN g1 g2 g3 g4 => rw [hi] at g1; cases g1; omega
  | empY g1 g2 g3 g4 => rw [hi] at g1; cases g1; omega
  | empN g1 g2 g3 g4 => rw [hi] at g1; cases g1; omega
  | mat g1 g2 => exact ⟨_, rfl, rfl, rfl⟩
  | nop g1 g2 g3 => rw [hi] at g1; cases g1; omega
  | runY g1 g2 g3 g4 => rw [hi] at g1; cases g1; omega
  | runN g1 g2 g3 g4 => rw [hi] at g1; cases g1; omega

theorem inv_nop {pc p i J V c r U} {arg : Bool} (h : Out P I (.skp pc p arg) J V c r U) (hi : P[pc]? = some i) (ho : i.op = 6) : ∃ q : Nat, p = q ∧ arg = false ∧ Out P I (.chk i.out q) J V c r U := by
  cases h with
  | altA g1 g2 g3 => rw [hi] at g1; cases g1; omega
  | capR g1 g2 g3 g4 => rw [hi] at g1; cases g1; omega
  | altO g1 g2 g3 => rw [hi] at g1; cases g1; omega
  | capS g1 g2 g3 g4 => rw [hi] at g1; cases g1; omega
  | capN g1 g2 g3 g4 => rw [hi] at g1; cases g1; omega
  | empY g1 g2 g3 g4 => rw [hi] at g1; cases g1; omega
  | empN g1 g2 g3 g4 => rw [hi] at g1; cases g1; omega
  | mat g1 g2 => rw [hi] at g1; cases g1; omega
  | nop g1 g2 g3 => rw [hi] at g1; cases g1; exact ⟨_, rfl, rfl, g3⟩
  | runY g1 g2 g3 g4 => rw [hi] at g1; cases g1; omega
  | runN g1 g2 g3 g4 => rw [hi] at g1; cases g1; omega

theorem inv_run {pc p i J V c r U} {arg : Bool} (h : Out P I (.skp pc p arg) J V c r U) (hi : P[pc]? = some i) (ho : i.op = 7 ∨ i.op = 8) : ∃ q : Nat, p = q ∧ arg = false ∧
    ((eats i (I.stp q).1 = true ∧ Out P I (.chk i.out (q + (I.stp q).2)) J V c r U) ∨ (eats i (I.stp q).1 = false ∧ Out P I .pop J V c r U)) := by
  cases h with
  | altA g1 g2 g3 => rw [hi] at g1; cases g1; omega
  | capR g1 g2 g3 g4 => rw [hi] at g1; cases g1; omega
  | altO g1 g2 g3 => rw [hi] at g1; cases g1; omega
  | capS g1 g2 g3 g4 => rw [hi] at g1; cases g1; omega
  | capN g1 g2 g3 g4 => rw [hi] at g1; cases g1; omega
  | empY g1 g2 g3 g4 => rw [hi] at g1; cases g1; omega
  | empN g1 g2 g3 g4 => rw [hi] at g1; cases g1; omega
  | mat g1 g2 => rw [hi] at g1; cases g1; omega
  | nop g1 g2 g3 => rw [hi] at g1; cases g1; omega
  | runY g1 g2 g3 g4 => rw [hi] at g1; cases g1; exact ⟨_, rfl, rfl, .inl ⟨g3, g4⟩⟩
  | runN g1 g2 g3 g4 => rw [hi] at g1; cases g1; exact ⟨_, rfl, rfl, .inr ⟨g3, g4⟩⟩

/-- How many states are not marked. -/
def cnt (V : Nat → Bool) (M : Nat) : Nat := ((List.range M).filter fun k => !V k).length

theorem cnt_mark (V : Nat → Bool) (n : Nat) : ∀ M, n < M → V n = false → cnt (fun k => if k = n then true else V k) M + 1 = cnt V M := by
  intro M
  induction M with
  | zero => intro h; omega
  | succ M ih =>
    intro hn hv
    unfold cnt at ih ⊢
    rw [List.range_succ, List.filter_append, List.filter_append, List.length_append, List.length_append]
    by_cases e : n = M
    · subst e
      have : ((List.range n).filter fun k => !(if k = n then true else V k)) = (List.range n).filter fun k => !V k := by
        apply List.filter_congr
        intro k hk
        rw [List.mem_range] at hk
        rw [if_neg (by omega)]
      rw [this]
      simp [hv]
    · have := ih (by omega) hv
      have h2 : (List.filter (fun k => !(fun k => if k = n then true else V k) k) [M]).length = (List.filter (fun k => !V k) [M]).length := by
        simp [List.filter, show ¬ M = n from fun h => e h.symm]
      omega

theorem cnt_le (V : Nat → Bool) (M : Nat) : cnt V M ≤ M := by
  unfold cnt
  have := (List.filter_sublist (p := fun k => !V k) (l := List.range M)).length_le
  rwa [List.length_range] at this

/-- The weight of the jobs. -/
def wgt : List Job → Nat
  | [] => 0
  | (_, true, _) :: J => wgt J + 1
  | (_, false, _) :: J => wgt J + 2

theorem len_wgt : ∀ J, J.length ≤ wgt J
  | [] => Nat.le_refl _
  | (_, true, _) :: J => by have := len_wgt J; simp [wgt]; omega
  | (_, false, _) :: J => by have := len_wgt J; simp [wgt]; omega

end Go.Proofs.YtjgedenoaocfjaaGreatDoor.Rx
namespace Go.Proofs.YtjgedenoaocfjaaGreatDoor.Rxw

open Go Go.RowKit

theorem range_lit (g : Nat → Value) : (List.range 401).map g = [g 0, g 1, g 2, g 3, g 4, g 5, g 6, g 7, g 8, g 9, g 10, g 11, g 12, g 13, g 14, g 15, g 16, g 17, g 18, g 19, g 20, g 21, g 22, g 23, g 24, g 25, g 26, g 27, g 28, g 29, g 30, g 31, g 32, g 33, g 34, g 35, g 36, g 37, g 38, g 39, g 40, g 41, g 42, g 43, g 44, g 45, g 46, g 47, g 48, g 49, g 50, g 51, g 52, g 53, g 54, g 55, g 56, g 57, g 58, g 59, g 60, g 61, g 62, g 63, g 64, g 65, g 66, g 67, g 68, g 69, g 70, g 71, g 72, g 73, g 74, g 75, g 76, g 77, g 78, g 79, g 80, g 81, g 82, g 83, g 84, g 85, g 86, g 87, g 88, g 89, g 90, g 91, g 92, g 93, g 94, g 95, g 96, g 97, g 98, g 99, g 100, g 101, g 102, g 103, g 104, g 105, g 106, g 107, g 108, g 109, g 110, g 111, g 112, g 113, g 114, g 115, g 116, g 117, g 118, g 119, g 120, g 121, g 122, g 123, g 124, g 125, g 126, g 127, g 128, g 129, g 130, g 131, g 132, g 133, g 134, g 135, g 136, g 137, g 138, g 139, g 140, g 141, g 142, g 143, g 144, g 145, g 146, g 147, g 148, g 149, g 150, g 151, g 152, g 153, g 154, g 155, g 156, g 157, g 158, g 159, g 160, g 161, g 162, g 163, g 164, g 165, g 166, g 167, g 168, g 169, g 170, g 171, g 172, g 173, g 174, g 175, g 176, g 177, g 178, g 179, g 180, g 181, g 182, g 183, g 184, g 185, g 186, g 187, g 188, g 189, g 190, g 191, g 192, g 193, g 194, g 195, g 196, g 197, g 198, g 199, g 200, g 201, g 202, g 203, g 204, g 205, g 206, g 207, g 208, g 209, g 210, g 211, g 212, g 213, g 214, g 215, g 216, g 217, g 218, g 219, g 220, g 221, g 222, g 223, g 224, g 225, g 226, g 227, g 228, g 229, g 230, g 231, g 232, g 233, g 234, g 235, g 236, g 237, g 238, g 239, g 240, g 241, g 242, g 243, g 244, g 245, g 246, g 247, g 248, g 249, g 250, g 251, g 252, g 253, g 254, g 255, g 256, g 257, g 258, g 259, g 260, g 261, g 262, g 263, g 264, g 265, g 266, g 267, g 268, g 269, g 270, g 271, g 272, g 273, g 274, g 275, g 276, g 277, g 278, g 279, g 280, g 281, g 282, g 283, g 284, g 285, g 286, g 287, g 288, g 289, g 290, g 291, g 292, g 293, g 294, g 295, g 296, g 297, g 298, g 299, g 300, g 301, g 302, g 303, g 304, g 305, g 306, g 307, g 308, g 309, g 310, g 311, g 312, g 313, g 314, g 315, g 316, g 317, g 318, g 319, g 320, g 321, g 322, g 323, g 324, g 325, g 326, g 327, g 328, g 329, g 330, g 331, g 332, g 333, g 334, g 335, g 336, g 337, g 338, g 339, g 340, g 341, g 342, g 343, g 344, g 345, g 346, g 347, g 348, g 349, g 350, g 351, g 352, g 353, g 354, g 355, g 356, g 357, g 358, g 359, g 360, g 361, g 362, g 363, g 364, g 365, g 366, g 367, g 368, g 369, g 370, g 371, g 372, g 373, g 374, g 375, g 376, g 377, g 378, g 379, g 380, g 381, g 382, g 383, g 384, g 385, g 386, g 387, g 388, g 389, g 390, g 391, g 392, g 393, g 394, g 395, g 396, g 397, g 398, g 399, g 400] := by kernel_rfl

theorem arr_lit (xs : Array Value) (h : xs.size = 401) : xs = ((List.range 401).map fun k => xs.getD k undef).toArray := by
  apply Array.ext
  · simp [h]
  · intro k h1 h2
    simp [h1]

/-- A frame: its slots that live over a jump. -/
structure Fr (a : Act) (re b i r10 r11 pc pos arg : Value) : Prop where
  size : a.tmps.size = 401
  defs : a.defers = []
  s0 : a.tmps.getD 0 undef = re
  s1 : a.tmps.getD 1 undef = b
  s2 : a.tmps.getD 2 undef = i
  s10 : a.tmps.getD 10 undef = r10
  s11 : a.tmps.getD 11 undef = r11
  s13 : a.tmps.getD 13 undef = pc
  s14 : a.tmps.getD 14 undef = pos
  s15 : a.tmps.getD 15 undef = arg

theorem Fr.lit {a : Act} {re b i r10 r11 pc pos arg : Value} (h : Fr a re b i r10 r11 pc pos arg) : ∃ f : Nat → Value, a = { tmps := #[re, b, i, f 3, f 4, f 5, f 6, f 7, f 8, f 9, r10, r11, f 12, pc, pos, arg, f 16, f 17, f 18, f 19, f 20, f 21, f 22, f 23, f 24, f 25, f 26, f 27, f 28, f 29, f 30, f 31, f 32, f 33, f 34, f 35, f 36, f 37, f 38, f 39, f 40, f 41, f 42, f 43, f 44, f 45, f 46, f 47, f 48, f 49, f 50, f 51, f 52, f 53, f 54, f 55, f 56, f 57, f 58, f 59, f 60, f 61, f 62, f 63, f 64, f 65, f 66, f 67, f 68, f 69, f 70, f 71, f 72, f 73, f 74, f 75, f 76, f 77, f 78, f 79, f 80, f 81, f 82, f 83, f 84, f 85, f 86, f 87, f 88, f 89, f 90, f 91, f 92, f 93, f 94, f 95, f 96, f 97, f 98, f 99, f 100, f 101, f 102, f 103, f 104, f 105, f 106, f 107, f 108, f 109, f 110, f 111, f 112, f 113, f 114, f 115, f 116, f 117, f 118, f 119, f 120, f 121, f 122, f 123, f 124, f 125, f 126, f 127, f 128, f 129, f 130, f 131, f 132, f 133, f 134, f 135, f 136, f 137, f 138, f 139, f 140, f 141, f 142, f 143, f 144, f 145, f 146, f 147, f 148, f 149, f 150, f 151, f 152, f 153, f 154, f 155, f 156, f 157, f 158, f 159, f 160, f 161, f 162, f 163, f 164, f 165, f 166, f 167, f 168, f 169, f 170, f 171, f 172, f 173, f 174, f 175, f 176, f 177, f 178, f 179, f 180, f 181, f 182, f 183, f 184, f 185, f 186, f 187, f 188, f 189, f 190, f 191, f 192, f 193, f 194, f 195, f 196, f 197, f 198, f 199, f 200, f 201, f 202, f 203, f 204, f 205, f 206, f 207, f 208, f 209, f 210, f 211, f 212, f 213, f 214, f 215, f 216, f 217, f 218, f 219, f 220, f 221, f 222, f 223, f 224, f 225, f 226, f 227, f 228, f 229, f 230, f 231, f 232, f 233, f 234, f 235, f 236, f 237, f 238, f 239, f 240, f 241, f 242, f 243, f 244, f 245, f 246, f 247, f 248, f 249, f 250, f 251, f 252, f 253, f 254, f 255, f 256, f 257, f 258, f 259, f 260, f 261, f 262, f 263, f 264, f 265, f 266, f 267, f 268, f 269, f 270, f 271, f 272, f 273, f 274, f 275, f 276, f 277, f 278, f 279, f 280, f 281, f 282, f 283, f 284, f 285, f 286, f 287, f 288, f 289, f 290, f 291, f 292, f 293, f 294, f 295, f 296, f 297, f 298, f 299, f 300, f 301, f 302, f 303, f 304, f 305, f 306, f 307, f 308, f 309, f 310, f 311, f 312, f 313, f 314, f 315, f 316, f 317, f 318, f 319, f 320, f 321, f 322, f 323, f 324, f 325, f 326, f 327, f 328, f 329, f 330, f 331, f 332, f 333, f 334, f 335, f 336, f 337, f 338, f 339, f 340, f 341, f 342, f 343, f 344, f 345, f 346, f 347, f 348, f 349, f 350, f 351, f 352, f 353, f 354, f 355, f 356, f 357, f 358, f 359, f 360, f 361, f 362, f 363, f 364, f 365, f 366, f 367, f 368, f 369, f 370, f 371, f 372, f 373, f 374, f 375, f 376, f 377, f 378, f 379, f 380, f 381, f 382, f 383, f 384, f 385, f 386, f 387, f 388, f 389, f 390, f 391, f 392, f 393, f 394, f 395, f 396, f 397, f 398, f 399, f 400], defers := [] } := by
  obtain ⟨t, d⟩ := a
  obtain ⟨hs, hd, h0, h1, h2, h10, h11, h13, h14, h15⟩ := h
  dsimp only at *
  subst h0 h1 h2 h10 h11 h13 h14 h15 hd
  refine ⟨fun k => t.getD k undef, ?_⟩
  congr 1
  have := arr_lit t hs
  rw [range_lit] at this
  exact this

end Go.Proofs.YtjgedenoaocfjaaGreatDoor.Rxw
namespace Go.Proofs.YtjgedenoaocfjaaGreatDoor.Base

open Go.RowKit Go.Lib Go.Proofs

/-- Block b holds the values xs and may be written. -/
structure Box (w : World) (b : Nat) (xs : List Value) : Prop where
  cell : ∀ (i : Nat) (x : Value), xs[i]? = some x → w.cell? ⟨b, i, none⟩ = some x
  free : ∀ i : Nat, w.frozen? ⟨b, i, none⟩ = false
  lt : b < w.heap.size

theorem Box.below {w w' : World} {b : Nat} {xs : List Value} (h : Box w b xs) (hb : Below w.heap.size w w') : Box w' b xs :=
  ⟨fun i x hx => (hb.cell (p := ⟨b, i, none⟩) h.lt).trans (h.cell i x hx), fun i => (hb.frozen (p := ⟨b, i, none⟩) h.lt).trans (h.free i), Nat.lt_of_lt_of_le h.lt hb.size⟩

theorem Box.new (w : World) (a : Array Value) (T : TypeId) : Box (w.alloc (.cells a T)) w.heap.size a.toList := by
  refine ⟨fun i x hx => ?_, fun i => ?_, by simp⟩
  · have : a[i]? = some x := by simpa using hx
    rw [World.cell?_alloc_at (w := w) a T _ _ rfl]; exact this
  · exact World.frozen?_alloc_at (w := w) a T _ _ rfl

theorem Box.new' (w : World) (a : Array Value) (T : TypeId) (b : Nat) (hb : b = w.heap.size) : Box (w.alloc (.cells a T)) b a.toList := by subst hb; exact Box.new w a T

theorem undrew {w w' : World} (h : Below w.drew.heap.size w.drew w') : Below w.heap.size w w' := (Below.refl _ _).drew.trans h

theorem frz (w : World) (a : Addr) (y : Value) (c : Addr) : (w.setCell a y).frozen? c = w.frozen? c := by simp [go_sem]

theorem hsz (w : World) (a : Addr) (y : Value) : (w.setCell a y).heap.size = w.heap.size := by simp [go_sem]

theorem Box.set {w : World} {b : Nat} {xs : List Value} (h : Box w b xs) (i : Nat) (hi : i < xs.length) (y : Value) : Box (w.setCell ⟨b, i, none⟩ y) b (xs.set i y) := by
  have hc := h.cell i xs[i] (List.getElem?_eq_getElem hi)
  refine ⟨fun j x hx => ?_, fun j => ?_, ?_⟩
  · by_cases e : j = i
    · subst e
      rw [List.getElem?_set_self hi] at hx
      cases hx
      exact World.cell?_setCell_same w _ _ hc
    · rw [List.getElem?_set_ne (Ne.symm e)] at hx
      rw [World.cell?_setCell_other w _ _ _ (by intro q; cases q; exact e rfl)]
      exact h.cell j x hx
  · rw [frz]; exact h.free j
  · rw [hsz]; exact h.lt

theorem Box.far {w : World} {b : Nat} {xs : List Value} (h : Box w b xs) (a : Addr) (ha : a.block ≠ b) (y : Value) : Box (w.setCell a y) b xs := by
  refine ⟨fun j x hx => ?_, fun j => ?_, ?_⟩
  · rw [World.cell?_setCell_other w _ _ _ (by intro q; apply ha; rw [q])]
    exact h.cell j x hx
  · rw [frz]; exact h.free j
  · rw [hsz]; exact h.lt

end Go.Proofs.YtjgedenoaocfjaaGreatDoor.Base
namespace Go.Proofs.YtjgedenoaocfjaaGreatDoor.Rx

def vB (b : UInt8) : Bool := b == 118

def dotB (b : UInt8) : Bool := b == 46

def hyB (b : UInt8) : Bool := b == 45

def plB (b : UInt8) : Bool := b == 43

def digB (b : UInt8) : Bool := decide (48 ≤ b.toNat ∧ b.toNat ≤ 57)

def idB (b : UInt8) : Bool := decide (b.toNat = 45 ∨ (48 ≤ b.toNat ∧ b.toNat ≤ 57) ∨ (65 ≤ b.toNat ∧ b.toNat ≤ 90) ∨ (97 ≤ b.toNat ∧ b.toNat ≤ 122))

theorem eq_toNat (b : UInt8) (n : Nat) (hn : n < 256) : (b == UInt8.ofNat n) = decide ((b.toNat : Int) = n) := by
  rw [Bool.eq_iff_iff, beq_iff_eq, decide_eq_true_iff]
  constructor
  · rintro rfl; simp; omega
  · intro h
    apply UInt8.toNat.inj
    simp
    omega

theorem cls_one {o a n : Nat} (hn : n < 128) : Cls ⟨8, o, a, [(n : Int)]⟩ (fun b => b == UInt8.ofNat n) :=
  cls_of (.inr rfl) (by simp; omega) (by simp) (fun b => by rw [eq_toNat b n (by omega)]; simp [eats])

theorem cls_v {o a} : Cls ⟨8, o, a, [118]⟩ vB := cls_one (n := 118) (by decide)

theorem cls_dot {o a} : Cls ⟨8, o, a, [46]⟩ dotB := cls_one (n := 46) (by decide)

theorem cls_hy {o a} : Cls ⟨8, o, a, [45]⟩ hyB := cls_one (n := 45) (by decide)

theorem cls_pl {o a} : Cls ⟨8, o, a, [43]⟩ plB := cls_one (n := 43) (by decide)

theorem eats7 {o a} {l : List Int} {r : Int} (h : ∀ x, l ≠ [x]) : eats ⟨7, o, a, l⟩ r = decide (0 ≤ mrpGo l r 0) := by
  unfold eats
  rw [if_pos rfl]
  unfold mrp
  split
  · rename_i x e; exact absurd e (h x)
  · rfl

theorem cls_dig {o a} : Cls ⟨7, o, a, [48, 57]⟩ digB :=
  cls_of (.inl rfl) rfl (by simp) (fun b => by
    rw [eats7 (by simp)]
    unfold digB
    rw [Bool.eq_iff_iff, decide_eq_true_iff, decide_eq_true_iff, mrpGo_iff _ _ 0 (Int.le_refl _)]
    simp [inP]; omega)

theorem cls_id {o a} : Cls ⟨7, o, a, [45, 45, 48, 57, 65, 90, 97, 122]⟩ idB :=
  cls_of (.inl rfl) rfl (by simp) (fun b => by
    rw [eats7 (by simp)]
    unfold idB
    rw [Bool.eq_iff_iff, decide_eq_true_iff, decide_eq_true_iff, mrpGo_iff _ _ 0 (Int.le_refl _)]
    simp [inP]; omega)

section

variable {P : List Ins} {I : Inp} {l : List UInt8} {L : Nat}

abbrev AtP (P : List Ins) (I : Inp) (l : List UInt8) (L : Nat) (pc : Nat) (F : K) : Prop := Is P I l L l.length pc F

theorem AtP.all {pc F} (h : AtP P I l L pc F) (m : Nat) : Is P I l L m pc F := fun pos c h1 _ h3 => h pos c h1 (by omega) h3

theorem at_eat {pc i C F} (hA : Asc I l) (hi : P[pc]? = some i) (hC : Cls i C) (hF : AtP P I l L i.out F) : AtP P I l L pc (eatF C F) := (is_eat hA hi hC hF).mono (Nat.le_succ _)

theorem at_plus {a b i j C F} (hA : Asc I l) (hi : P[a]? = some i) (hC : Cls i C) (hib : i.out = b) (hj : P[b]? = some j) (ho : j.op = 0) (hja : j.out = a) (hF : AtP P I l L j.arg F) : AtP P I l L a (plusF C F) := (is_plus hA hi hC hib hj ho hja hF).mono (Nat.le_succ _)

/-- The loop over parts with a mark: its alternative is at pc, a capture, the mark, a run of one class and a capture lead back to it. -/
theorem at_parts {pc e : Nat} {S D : UInt8 → Bool} {F : K} {i j1 j2 j3 j4 j5 : Ins} (hA : Asc I l) (hi : P[pc]? = some i) (ho : i.op = 0) (h1 : P[i.out]? = some j1) (o1 : j1.op = 2) (h2 : P[j1.out]? = some j2) (c2 : Cls j2 S)
    (h3 : P[j2.out]? = some j3) (c3 : Cls j3 D) (h4 : P[j3.out]? = some j4) (o4 : j4.op = 0) (b4 : j4.out = j2.out) (he : j4.arg = e) (h5 : P[e]? = some j5) (o5 : j5.op = 2) (b5 : j5.out = pc) (hF : AtP P I l L i.arg F) :
    AtP P I l L pc (loopF (fun G => capF l.length j1.arg (eatF S (plusF D (capF l.length j5.arg G)))) F l.length) := by
  refine is_loop hi ho ?_ ?_ (fun m => hF.all m) l.length
  · have := is_none (L := L) hA h2 c2
    exact is_cap h1 o1 this
  · intro m G hG
    refine is_cap h1 o1 (is_eat hA h2 c2 ?_)
    have h6 : Is P I l L m j4.arg (capF l.length j5.arg G) := by rw [he]; exact is_cap h5 o5 (by rw [b5]; exact hG)
    exact (is_plus hA h3 c3 rfl h4 o4 b4 h6).mono (Nat.le_succ _)

end

/-- The instructions of a version in an expression: at b, its captures from k on, the class of its numbers. -/
def blk (b k : Nat) (cls : List Int) : List Ins := [
  ⟨8, b + 2, 0, [118]⟩,
  ⟨0, b, b + 2, []⟩,
  ⟨2, b + 3, 2 * k, []⟩,
  ⟨7, b + 4, 0, cls⟩,
  ⟨0, b + 3, b + 5, []⟩,
  ⟨2, b + 11, 2 * k + 1, []⟩,
  ⟨2, b + 7, 2 * k + 2, []⟩,
  ⟨8, b + 8, 0, [46]⟩,
  ⟨7, b + 9, 0, cls⟩,
  ⟨0, b + 8, b + 10, []⟩,
  ⟨2, b + 17, 2 * k + 3, []⟩,
  ⟨0, b + 6, b + 17, []⟩,
  ⟨2, b + 13, 2 * k + 4, []⟩,
  ⟨8, b + 14, 0, [46]⟩,
  ⟨7, b + 15, 0, cls⟩,
  ⟨0, b + 14, b + 16, []⟩,
  ⟨2, b + 31, 2 * k + 5, []⟩,
  ⟨0, b + 12, b + 31, []⟩,
  ⟨2, b + 19, 2 * k + 6, []⟩,
  ⟨8, b + 20, 0, [45]⟩,
  ⟨2, b + 21, 2 * k + 8, []⟩,
  ⟨7, b + 22, 0, [45, 45, 48, 57, 65, 90, 97, 122]⟩,
  ⟨0, b + 21, b + 28, []⟩,
  ⟨2, b + 24, 2 * k + 10, []⟩,
  ⟨8, b + 25, 0, [46]⟩,
  ⟨7, b + 26, 0, [45, 45, 48, 57, 65, 90, 97, 122]⟩,
  ⟨0, b + 25, b + 27, []⟩,
  ⟨2, b + 28, 2 * k + 11, []⟩,
  ⟨0, b + 23, b + 29, []⟩,
  ⟨2, b + 30, 2 * k + 9, []⟩,
  ⟨2, b + 45, 2 * k + 7, []⟩,
  ⟨0, b + 18, b + 45, []⟩,
  ⟨2, b + 33, 2 * k + 12, []⟩,
  ⟨8, b + 34, 0, [43]⟩,
  ⟨2, b + 35, 2 * k + 14, []⟩,
  ⟨7, b + 36, 0, [45, 45, 48, 57, 65, 90, 97, 122]⟩,
  ⟨0, b + 35, b + 42, []⟩,
  ⟨2, b + 38, 2 * k + 16, []⟩,
  ⟨8, b + 39, 0, [46]⟩,
  ⟨7, b + 40, 0, [45, 45, 48, 57, 65, 90, 97, 122]⟩,
  ⟨0, b + 39, b + 41, []⟩,
  ⟨2, b + 42, 2 * k + 17, []⟩,
  ⟨0, b + 37, b + 43, []⟩,
  ⟨2, b + 44, 2 * k + 15, []⟩,
  ⟨2, b + 46, 2 * k + 13, []⟩,
  ⟨0, b + 32, b + 46, []⟩]

def identsF (n m a b a' b' : Nat) (F : K) : K := capF n a (plusF idB (loopF (fun G => capF n a' (eatF dotB (plusF idB (capF n b' G)))) (capF n b F) m))

def metaF (n m k : Nat) (G : K) : K := altF (capF n (2 * k + 12) (eatF plB (identsF n m (2 * k + 14) (2 * k + 15) (2 * k + 16) (2 * k + 17) (capF n (2 * k + 13) G)))) G

def preF (n m k : Nat) (G : K) : K := altF (capF n (2 * k + 6) (eatF hyB (identsF n m (2 * k + 8) (2 * k + 9) (2 * k + 10) (2 * k + 11) (capF n (2 * k + 7) (metaF n m k G))))) (metaF n m k G)

def patchF (D : UInt8 → Bool) (n m k : Nat) (G : K) : K := altF (capF n (2 * k + 4) (eatF dotB (plusF D (capF n (2 * k + 5) (preF n m k G))))) (preF n m k G)

def minorF (D : UInt8 → Bool) (n m k : Nat) (G : K) : K := altF (capF n (2 * k + 2) (eatF dotB (plusF D (capF n (2 * k + 3) (patchF D n m k G))))) (patchF D n m k G)

def numsF (D : UInt8 → Bool) (n m k : Nat) (G : K) : K := capF n (2 * k) (plusF D (capF n (2 * k + 1) (minorF D n m k G)))

/-- A version ahead of what G finds. -/
def verF (D : UInt8 → Bool) (n m k : Nat) (G : K) : K := altF (eatF vB (numsF D n m k G)) (numsF D n m k G)

theorem blk_is {P : List Ins} {I : Inp} {l : List UInt8} {L b k : Nat} {cls : List Int} {D : UInt8 → Bool} {G : K} (hA : Asc I l) (hB : ∀ i, i < 46 → P[b + i]? = (blk b k cls)[i]?) (hD : ∀ {o a}, Cls ⟨7, o, a, cls⟩ D) (hG : AtP P I l L (b + 46) G) :
    AtP P I l L (b + 1) (verF D l.length l.length k G) := by
  have f45 : AtP P I l L (b + 43) _ := (is_cap (pc := b + 43) (i := ⟨2, b + 44, 2 * k + 15, []⟩) (hB 43 (by decide)) rfl (is_cap (pc := b + 44) (i := ⟨2, b + 46, 2 * k + 13, []⟩) (hB 44 (by decide)) rfl hG))
  have f44 := (at_parts (pc := b + 42) (e := b + 41) (i := ⟨0, b + 37, b + 43, []⟩) (j1 := ⟨2, b + 38, 2 * k + 16, []⟩) (j2 := ⟨8, b + 39, 0, [46]⟩) (j3 := ⟨7, b + 40, 0, [45, 45, 48, 57, 65, 90, 97, 122]⟩) (j4 := ⟨0, b + 39, b + 41, []⟩) (j5 := ⟨2, b + 42, 2 * k + 17, []⟩) hA (hB 42 (by decide)) rfl (hB 37 (by decide)) rfl (hB 38 (by decide)) cls_dot (hB 39 (by decide)) cls_id (hB 40 (by decide)) rfl rfl rfl (hB 41 (by decide)) rfl rfl f45)
  have f36 : AtP P I l L (b + 34) (identsF _ _ (2 * k + 14) (2 * k + 15) (2 * k + 16) (2 * k + 17) _) := (is_cap (pc := b + 34) (i := ⟨2, b + 35, 2 * k + 14, []⟩) (hB 34 (by decide)) rfl (at_plus (a := b + 35) (b := b + 36) (i := ⟨7, b + 36, 0, [45, 45, 48, 57, 65, 90, 97, 122]⟩) (j := ⟨0, b + 35, b + 42, []⟩) hA (hB 35 (by decide)) cls_id rfl (hB 36 (by decide)) rfl rfl f44))
  have f47 : AtP P I l L (b + 45) (metaF l.length l.length k G) := is_alt (i := ⟨0, b + 32, b + 46, []⟩) (hB 45 (by decide)) rfl (is_cap (pc := b + 32) (i := ⟨2, b + 33, 2 * k + 12, []⟩) (hB 32 (by decide)) rfl (at_eat (pc := b + 33) (i := ⟨8, b + 34, 0, [43]⟩) hA (hB 33 (by decide)) cls_pl f36)) hG
  have f31 : AtP P I l L (b + 29) _ := (is_cap (pc := b + 29) (i := ⟨2, b + 30, 2 * k + 9, []⟩) (hB 29 (by decide)) rfl (is_cap (pc := b + 30) (i := ⟨2, b + 45, 2 * k + 7, []⟩) (hB 30 (by decide)) rfl f47))
  have f30 := (at_parts (pc := b + 28) (e := b + 27) (i := ⟨0, b + 23, b + 29, []⟩) (j1 := ⟨2, b + 24, 2 * k + 10, []⟩) (j2 := ⟨8, b + 25, 0, [46]⟩) (j3 := ⟨7, b + 26, 0, [45, 45, 48, 57, 65, 90, 97, 122]⟩) (j4 := ⟨0, b + 25, b + 27, []⟩) (j5 := ⟨2, b + 28, 2 * k + 11, []⟩) hA (hB 28 (by decide)) rfl (hB 23 (by decide)) rfl (hB 24 (by decide)) cls_dot (hB 25 (by decide)) cls_id (hB 26 (by decide)) rfl rfl rfl (hB 27 (by decide)) rfl rfl f31)
  have f22 : AtP P I l L (b + 20) (identsF _ _ (2 * k + 8) (2 * k + 9) (2 * k + 10) (2 * k + 11) _) := (is_cap (pc := b + 20) (i := ⟨2, b + 21, 2 * k + 8, []⟩) (hB 20 (by decide)) rfl (at_plus (a := b + 21) (b := b + 22) (i := ⟨7, b + 22, 0, [45, 45, 48, 57, 65, 90, 97, 122]⟩) (j := ⟨0, b + 21, b + 28, []⟩) hA (hB 21 (by decide)) cls_id rfl (hB 22 (by decide)) rfl rfl f30))
  have f33 : AtP P I l L (b + 31) (preF l.length l.length k G) := is_alt (i := ⟨0, b + 18, b + 45, []⟩) (hB 31 (by decide)) rfl (is_cap (pc := b + 18) (i := ⟨2, b + 19, 2 * k + 6, []⟩) (hB 18 (by decide)) rfl (at_eat (pc := b + 19) (i := ⟨8, b + 20, 0, [45]⟩) hA (hB 19 (by decide)) cls_hy f22)) f47
  have f15 := (at_eat (pc := b + 13) (i := ⟨8, b + 14, 0, [46]⟩) hA (hB 13 (by decide)) cls_dot (at_plus (a := b + 14) (b := b + 15) (i := ⟨7, b + 15, 0, cls⟩) (j := ⟨0, b + 14, b + 16, []⟩) hA (hB 14 (by decide)) hD rfl (hB 15 (by decide)) rfl rfl (is_cap (pc := b + 16) (i := ⟨2, b + 31, 2 * k + 5, []⟩) (hB 16 (by decide)) rfl f33)))
  have f19 : AtP P I l L (b + 17) (patchF D l.length l.length k G) := is_alt (i := ⟨0, b + 12, b + 31, []⟩) (hB 17 (by decide)) rfl (is_cap (pc := b + 12) (i := ⟨2, b + 13, 2 * k + 4, []⟩) (hB 12 (by decide)) rfl f15) f33
  have f9 := (at_eat (pc := b + 7) (i := ⟨8, b + 8, 0, [46]⟩) hA (hB 7 (by decide)) cls_dot (at_plus (a := b + 8) (b := b + 9) (i := ⟨7, b + 9, 0, cls⟩) (j := ⟨0, b + 8, b + 10, []⟩) hA (hB 8 (by decide)) hD rfl (hB 9 (by decide)) rfl rfl (is_cap (pc := b + 10) (i := ⟨2, b + 17, 2 * k + 3, []⟩) (hB 10 (by decide)) rfl f19)))
  have f13 : AtP P I l L (b + 11) (minorF D l.length l.length k G) := is_alt (i := ⟨0, b + 6, b + 17, []⟩) (hB 11 (by decide)) rfl (is_cap (pc := b + 6) (i := ⟨2, b + 7, 2 * k + 2, []⟩) (hB 6 (by decide)) rfl f9) f19
  have f4 : AtP P I l L (b + 2) (numsF D l.length l.length k G) := (is_cap (pc := b + 2) (i := ⟨2, b + 3, 2 * k, []⟩) (hB 2 (by decide)) rfl (at_plus (a := b + 3) (b := b + 4) (i := ⟨7, b + 4, 0, cls⟩) (j := ⟨0, b + 3, b + 5, []⟩) hA (hB 3 (by decide)) hD rfl (hB 4 (by decide)) rfl rfl (is_cap (pc := b + 5) (i := ⟨2, b + 11, 2 * k + 1, []⟩) (hB 5 (by decide)) rfl f13)))
  exact is_alt (pc := b + 1) (i := ⟨0, b, b + 2, []⟩) (hB 1 (by decide)) rfl (at_eat (pc := b) (i := ⟨8, b + 2, 0, [118]⟩) hA (hB 0 (by decide)) cls_v f4) f4

end Go.Proofs.YtjgedenoaocfjaaGreatDoor.Rx
namespace Go.Proofs.YtjgedenoaocfjaaGreatDoor.Rx

/-- The text of a group. -/
def grp (l : List UInt8) (d : List Int) (k : Nat) : List UInt8 := match d[2 * k]?, d[2 * k + 1]? with
  | some a, some b => if 0 ≤ a then (l.drop a.toNat).take (b.toNat - a.toNat) else []
  | _, _ => []

abbrev posOf (n : Nat) (t : List UInt8) : Int := ((n - t.length : Nat) : Int)

theorem grp_at {l d k t r} (h1 : d[2 * k]? = some (posOf l.length t)) (h2 : d[2 * k + 1]? = some (posOf l.length r)) (ht : t <:+ l) (hr : r <:+ t) : grp l d k = t.take (t.length - r.length) := by
  unfold grp
  rw [h1, h2]
  dsimp only
  have hl := ht.length_le
  have hl2 := hr.length_le
  rw [if_pos (Int.natCast_nonneg _), Int.toNat_natCast, Int.toNat_natCast]
  obtain ⟨p, rfl⟩ := ht
  have h3 : (p ++ t).length - t.length = p.length := by rw [List.length_append]; omega
  rw [h3, List.drop_left]
  congr 1
  rw [List.length_append] at *
  omega

theorem grp_off {l d k} (h1 : d[2 * k]? = some (-1)) : grp l d k = [] := by
  unfold grp
  rw [h1]
  cases d[2 * k + 1]? with
  | none => rfl
  | some b => dsimp only; rw [if_neg (by omega)]

theorem grp_same {l d c k} (h1 : d[2 * k]? = c[2 * k]?) (h2 : d[2 * k + 1]? = c[2 * k + 1]?) : grp l d k = grp l c k := by
  unfold grp; rw [h1, h2]

/-- What is left behind identifiers with dots between them. -/
def identsEnd (m : Nat) (t : List UInt8) : List UInt8 := partsEnd dotB idB m (t.dropWhile idB)

theorem partsEnd_suf {S D} : ∀ m t, partsEnd S D m t <:+ t
  | 0, t => List.suffix_refl t
  | m + 1, t => by
    unfold partsEnd
    cases e : markRest S D t with
    | none => exact List.suffix_refl t
    | some r =>
      dsimp only
      refine (partsEnd_suf m r).trans ?_
      cases t with
      | nil => cases e
      | cons b u =>
        simp only [markRest] at e
        split at e
        · cases e; exact (List.dropWhile_suffix D).trans (List.suffix_cons b u)
        · cases e

theorem identsEnd_suf (m t) : identsEnd m t <:+ t := (partsEnd_suf _ _).trans (List.dropWhile_suffix _)

theorem id_dot (x : UInt8) (h : idB x = true) : dotB x = false := by
  unfold idB at h; unfold dotB
  rw [decide_eq_true_iff] at h
  rw [beq_eq_false_iff_ne]; rintro rfl; simp at h

theorem id_pl (x : UInt8) (h : idB x = true) : plB x = false := by
  unfold idB at h; unfold plB
  rw [decide_eq_true_iff] at h
  rw [beq_eq_false_iff_ne]; rintro rfl; simp at h

theorem dig_dot (x : UInt8) (h : digB x = true) : dotB x = false := by
  unfold digB at h; unfold dotB
  rw [decide_eq_true_iff] at h
  rw [beq_eq_false_iff_ne]; rintro rfl; simp at h

theorem dig_pl (x : UInt8) (h : digB x = true) : plB x = false := by
  unfold digB at h; unfold plB
  rw [decide_eq_true_iff] at h
  rw [beq_eq_false_iff_ne]; rintro rfl; simp at h

theorem dig_hy (x : UInt8) (h : digB x = true) : hyB x = false := by
  unfold digB at h; unfold hyB
  rw [decide_eq_true_iff] at h
  rw [beq_eq_false_iff_ne]; rintro rfl; simp at h

theorem dot_pl (x : UInt8) (h : dotB x = true) : plB x = false := by
  unfold dotB at h; unfold plB; rw [beq_iff_eq] at h; subst h; rfl

theorem dot_hy (x : UInt8) (h : dotB x = true) : hyB x = false := by
  unfold dotB at h; unfold hyB; rw [beq_iff_eq] at h; subst h; rfl

theorem hy_pl (x : UInt8) (h : hyB x = true) : plB x = false := by
  unfold hyB at h; unfold plB; rw [beq_iff_eq] at h; subst h; rfl

theorem dig_v (x : UInt8) (h : vB x = true) : digB x = false := by
  unfold vB at h; rw [beq_iff_eq] at h; subst h; rfl

theorem idents_none {n m a b a' b' F t c} (h : Shuns idB (capF n b F)) (hS : t.takeWhile idB = []) : identsF n m a b a' b' F t c = none := by
  have hp := plus_eq (loop_shuns (body := fun G => capF n a' (eatF dotB (plusF idB (capF n b' G)))) (fun _ => cap_shuns (eat_shuns id_dot)) h m) t (c.set a (posOf n t))
  rw [if_pos hS] at hp
  exact hp

theorem idents_eq' {n m a b a' b' : Nat} {F t c} (h : Shuns idB F) (hS : Shuns dotB F) (hab : a ≠ b) (ha1 : a ≠ a') (ha2 : a ≠ b') (hm : t.length ≤ m) (ht : t.takeWhile idB ≠ []) :
    ∃ d, d.length = c.length ∧ (a < c.length → d[a]? = some (posOf n t)) ∧ (b < c.length → d[b]? = some (posOf n (identsEnd m t))) ∧ (∀ k, k ≠ a → k ≠ b → k ≠ a' → k ≠ b' → d[k]? = c[k]?) ∧ identsF n m a b a' b' F t c = F (identsEnd m t) d := by
  have hcb : Shuns idB (capF n b F) := cap_shuns h
  obtain ⟨d, hd, he⟩ := loop_eq (n := n) (a := a') (b := b') id_dot hcb (cap_shuns hS) m (t.dropWhile idB) (c.set a (posOf n t)) (Nat.le_trans (List.dropWhile_sublist idB).length_le hm)
  have hl : d.length = c.length := by rw [hd.1, List.length_set]
  refine ⟨d.set b (posOf n (identsEnd m t)), by rw [List.length_set, hl], ?_, ?_, ?_, ?_⟩
  · intro hla
    rw [List.getElem?_set_ne (by omega), hd.2 a ha1 ha2, List.getElem?_set_self hla]
  · intro hlb
    rw [List.getElem?_set_self (by omega)]
  · intro k h1 h2 h3 h4
    rw [List.getElem?_set_ne (by omega), hd.2 k h3 h4, List.getElem?_set_ne (by omega)]
  · conv => lhs; unfold identsF; unfold capF
    rw [show (fun t c => F t (c.set b ((n - t.length : Nat) : Int))) = capF n b F from rfl]
    have hp := plus_eq (loop_shuns (body := fun G => capF n a' (eatF dotB (plusF idB (capF n b' G)))) (fun _ => cap_shuns (eat_shuns id_dot)) hcb m) t (c.set a (posOf n t))
    rw [if_neg ht] at hp
    exact hp.trans he

/-- Metadata at the front, with what is left. -/
def metaG (m : Nat) (t : List UInt8) : Option (List UInt8 × List UInt8) := match t with
  | [] => some ([], [])
  | b :: u => if plB b = true then (if u.takeWhile idB ≠ [] then some (u.take (u.length - (identsEnd m u).length), identsEnd m u) else none) else some ([], b :: u)

/-- A prerelease at the front: with its hyphen, alone, and what is left. -/
def preG (m : Nat) (t : List UInt8) : Option (List UInt8 × List UInt8 × List UInt8) := match t with
  | [] => some ([], [], [])
  | b :: u => if hyB b = true then (if u.takeWhile idB ≠ [] then some ((b :: u).take ((b :: u).length - (identsEnd m u).length), u.take (u.length - (identsEnd m u).length), identsEnd m u) else none) else some ([], [], b :: u)

def partG (D : UInt8 → Bool) (t : List UInt8) : List UInt8 × List UInt8 := match markRest dotB D t with
  | some r => (t.take (t.length - r.length), r)
  | none => ([], t)

/-- What G finds behind metadata. -/
theorem meta_eq (l t : List UInt8) (m k : Nat) (G : K) (c : List Int) (h1 : Shuns idB G) (h2 : Shuns dotB G) (h3 : Shuns plB G) (ht : t <:+ l) (hm : t.length ≤ m) (hn : 2 * k + 18 ≤ c.length → c[2 * (k + 7)]? = some (-1)) :
    (metaG m t = none → metaF l.length m k G t c = none) ∧
    (∀ g r, metaG m t = some (g, r) → ∃ d, metaF l.length m k G t c = G r d ∧ d.length = c.length ∧ (∀ j, j < 2 * k + 12 ∨ 2 * k + 18 ≤ j → d[j]? = c[j]?) ∧ (2 * k + 18 ≤ c.length → grp l d (k + 7) = g)) := by
  have hsh : ∀ C, Shuns C G → Shuns C (capF l.length (2 * k + 13) G) := fun C h => cap_shuns h
  have plain : metaG m t = some ([], t) → metaF l.length m k G t c = G t c → (metaG m t = none → metaF l.length m k G t c = none) ∧
    (∀ g r, metaG m t = some (g, r) → ∃ d, metaF l.length m k G t c = G r d ∧ d.length = c.length ∧ (∀ j, j < 2 * k + 12 ∨ 2 * k + 18 ≤ j → d[j]? = c[j]?) ∧ (2 * k + 18 ≤ c.length → grp l d (k + 7) = g)) := by
    intro e1 e2
    rw [e1]
    refine ⟨fun h => (by cases h), fun g r h => ?_⟩
    cases h
    exact ⟨c, e2, rfl, fun _ _ => rfl, fun hl => grp_off (hn hl)⟩
  cases t with
  | nil => exact plain rfl (by unfold metaF altF capF eatF; rw [Option.none_or])
  | cons b u =>
    cases hb : plB b with
    | false =>
      refine plain (by unfold metaG; dsimp only; rw [hb]; rfl) ?_
      unfold metaF altF capF eatF
      dsimp only
      rw [hb]
      rfl
    | true =>
      have hstep : metaF l.length m k G (b :: u) c = identsF l.length m (2 * k + 14) (2 * k + 15) (2 * k + 16) (2 * k + 17) (capF l.length (2 * k + 13) G) u (c.set (2 * k + 12) (posOf l.length (b :: u))) := by
        unfold metaF altF
        rw [h3 b u c hb, Option.or_none]
        unfold capF eatF
        dsimp only
        rw [hb, if_pos rfl]
      rw [hstep]
      unfold metaG
      dsimp only
      rw [hb, if_pos rfl]
      by_cases hu : u.takeWhile idB = []
      · rw [idents_none (cap_shuns (hsh _ h1)) hu]
        simp [hu]
      · have hlu : u.length ≤ m := by simp only [List.length_cons] at hm; omega
        rw [if_pos hu]
        refine ⟨fun h => (by cases h), fun g r h => ?_⟩
        cases h
        obtain ⟨d, hd, q1, q2, q3, q4⟩ := idents_eq' (n := l.length) (m := m) (a := 2 * k + 14) (b := 2 * k + 15) (a' := 2 * k + 16) (b' := 2 * k + 17) (t := u) (c := c.set (2 * k + 12) (posOf l.length (b :: u))) (hsh _ h1) (hsh _ h2) (by omega) (by omega) (by omega) hlu hu
        rw [q4]
        rw [List.length_set] at hd q1 q2
        refine ⟨d.set (2 * k + 13) (posOf l.length (identsEnd m u)), rfl, by rw [List.length_set, hd], fun j hj => ?_, fun hl => ?_⟩
        · rw [List.getElem?_set_ne (by omega), q3 j (by omega) (by omega) (by omega) (by omega), List.getElem?_set_ne (by omega)]
        · exact grp_at (by rw [List.getElem?_set_ne (by omega)]; exact q1 (by omega)) (by rw [List.getElem?_set_ne (by omega)]; exact q2 (by omega)) ((List.suffix_cons b u).trans ht) (identsEnd_suf m u)

def tailG (m : Nat) (t : List UInt8) : Option (List UInt8 × List UInt8 × List UInt8 × List UInt8) := match preG m t with
  | some (w, p, r) => (metaG m r).map fun x => (w, p, x.1, x.2)
  | none => none

theorem meta_shuns {n m k G C} (h : Shuns C G) (h2 : ∀ b, C b = true → plB b = false) : Shuns C (metaF n m k G) := alt_shuns (cap_shuns (eat_shuns h2)) h

/-- What G shuns that stands behind a version. -/
structure Behind (D : UInt8 → Bool) (G : K) : Prop where
  id : Shuns idB G
  dot : Shuns dotB G
  pl : Shuns plB G
  hy : Shuns hyB G
  num : Shuns D G
  free : Free G

/-- No capture has been made from a place on. -/
def Bare (c : List Int) (k : Nat) : Prop := 2 * k + 18 ≤ c.length → ∀ j, 2 * k ≤ j → j < 2 * k + 18 → c[j]? = some (-1)

theorem pre_eq (l t : List UInt8) (m k : Nat) (D : UInt8 → Bool) (G : K) (c : List Int) (hG : Behind D G) (ht : t <:+ l) (hm : t.length ≤ m) (hn : 2 * k + 18 ≤ c.length → ∀ j, 2 * k + 6 ≤ j → j < 2 * k + 18 → c[j]? = some (-1)) :
    (tailG m t = none → preF l.length m k G t c = none) ∧
    (∀ w p g r, tailG m t = some (w, p, g, r) → ∃ d, preF l.length m k G t c = G r d ∧ d.length = c.length ∧ (∀ j, j < 2 * k + 6 ∨ 2 * k + 18 ≤ j → d[j]? = c[j]?) ∧
      (2 * k + 18 ≤ c.length → grp l d (k + 3) = w ∧ grp l d (k + 4) = p ∧ grp l d (k + 7) = g)) := by
  have hsh : ∀ C, Shuns C G → (∀ b, C b = true → plB b = false) → Shuns C (capF l.length (2 * k + 7) (metaF l.length m k G)) := fun C h h2 => cap_shuns (meta_shuns h h2)
  have plain : preG m t = some ([], [], t) → preF l.length m k G t c = metaF l.length m k G t c → (tailG m t = none → preF l.length m k G t c = none) ∧
    (∀ w p g r, tailG m t = some (w, p, g, r) → ∃ d, preF l.length m k G t c = G r d ∧ d.length = c.length ∧ (∀ j, j < 2 * k + 6 ∨ 2 * k + 18 ≤ j → d[j]? = c[j]?) ∧
      (2 * k + 18 ≤ c.length → grp l d (k + 3) = w ∧ grp l d (k + 4) = p ∧ grp l d (k + 7) = g)) := by
    intro e1 e2
    obtain ⟨f1, f2⟩ := meta_eq l t m k G c hG.id hG.dot hG.pl ht hm (fun hl => hn hl _ (by omega) (by omega))
    unfold tailG
    rw [e1, e2]
    dsimp only
    cases e : metaG m t with
    | none => exact ⟨fun _ => f1 e, fun _ _ _ _ h => (by cases h)⟩
    | some x =>
      refine ⟨fun h => (by cases h), fun w p g r h => ?_⟩
      cases h
      obtain ⟨d, k1, k2, k3, k4⟩ := f2 x.1 x.2 e
      refine ⟨d, k1, k2, fun j hj => k3 j (by omega), fun hl => ⟨?_, ?_, k4 hl⟩⟩
      · exact grp_off (by rw [k3 _ (by omega)]; exact hn hl _ (by omega) (by omega))
      · exact grp_off (by rw [k3 _ (by omega)]; exact hn hl _ (by omega) (by omega))
  cases t with
  | nil => exact plain rfl (by unfold preF altF capF eatF; rw [Option.none_or])
  | cons b u =>
    cases hb : hyB b with
    | false =>
      refine plain (by unfold preG; dsimp only; rw [hb]; rfl) ?_
      conv => lhs; unfold preF altF capF eatF
      dsimp only
      rw [hb]
      rfl
    | true =>
      have hstep : preF l.length m k G (b :: u) c = identsF l.length m (2 * k + 8) (2 * k + 9) (2 * k + 10) (2 * k + 11) (capF l.length (2 * k + 7) (metaF l.length m k G)) u (c.set (2 * k + 6) (posOf l.length (b :: u))) := by
        unfold preF altF
        rw [meta_shuns hG.hy hy_pl b u c hb, Option.or_none]
        unfold capF eatF
        dsimp only
        rw [hb, if_pos rfl]
      rw [hstep]
      unfold tailG preG
      dsimp only
      rw [hb, if_pos rfl]
      by_cases hu : u.takeWhile idB = []
      · rw [idents_none (cap_shuns (hsh _ hG.id id_pl)) hu]
        simp [hu]
      · have hlu : u.length ≤ m := by simp only [List.length_cons] at hm; omega
        obtain ⟨d, hd, q1, q2, q3, q4⟩ := idents_eq' (n := l.length) (m := m) (a := 2 * k + 8) (b := 2 * k + 9) (a' := 2 * k + 10) (b' := 2 * k + 11) (t := u) (c := c.set (2 * k + 6) (posOf l.length (b :: u))) (hsh _ hG.id id_pl) (hsh _ hG.dot dot_pl) (by omega) (by omega) (by omega) hlu hu
        rw [q4, if_pos hu]
        dsimp only
        rw [List.length_set] at hd q1 q2
        have hsu : identsEnd m u <:+ u := identsEnd_suf m u
        have hul : u <:+ l := (List.suffix_cons b u).trans ht
        have hcap : capF l.length (2 * k + 7) (metaF l.length m k G) (identsEnd m u) d = metaF l.length m k G (identsEnd m u) (d.set (2 * k + 7) (posOf l.length (identsEnd m u))) := rfl
        rw [hcap]
        have hold : ∀ j, 2 * k + 12 ≤ j → (d.set (2 * k + 7) (posOf l.length (identsEnd m u)))[j]? = c[j]? := fun j hj => by
          rw [List.getElem?_set_ne (by omega), q3 j (by omega) (by omega) (by omega) (by omega), List.getElem?_set_ne (by omega)]
        obtain ⟨e1, e2⟩ := meta_eq l (identsEnd m u) m k G (d.set (2 * k + 7) (posOf l.length (identsEnd m u))) hG.id hG.dot hG.pl (hsu.trans hul) (Nat.le_trans hsu.length_le hlu) (fun hl => by rw [List.length_set, hd] at hl; rw [hold _ (by omega)]; exact hn hl _ (by omega) (by omega))
        cases e : metaG m (identsEnd m u) with
        | none => exact ⟨fun _ => e1 e, fun _ _ _ _ h => (by cases h)⟩
        | some x =>
          refine ⟨fun h => (by cases h), fun w p g r h => ?_⟩
          cases h
          obtain ⟨q, r1, r2, r3, r4⟩ := e2 x.1 x.2 e
          rw [List.length_set, hd] at r2 r4
          refine ⟨q, r1, r2, fun j hj => ?_, fun hl => ⟨?_, ?_, r4 hl⟩⟩
          · rw [r3 j (by omega), List.getElem?_set_ne (by omega), q3 j (by omega) (by omega) (by omega) (by omega), List.getElem?_set_ne (by omega)]
          · refine grp_at ?_ ?_ ht (hsu.trans (List.suffix_cons b u))
            · rw [r3 _ (by omega), List.getElem?_set_ne (by omega), q3 _ (by omega) (by omega) (by omega) (by omega), show 2 * (k + 3) = 2 * k + 6 by omega, List.getElem?_set_self (by omega)]
            · rw [r3 _ (by omega), show 2 * (k + 3) + 1 = 2 * k + 7 by omega, List.getElem?_set_self (by omega)]
          · refine grp_at ?_ ?_ hul hsu
            · rw [r3 _ (by omega), List.getElem?_set_ne (by omega)]; exact q1 (by omega)
            · rw [r3 _ (by omega), List.getElem?_set_ne (by omega)]; exact q2 (by omega)

theorem pre_shuns {n m k G C} (h : Shuns C G) (h2 : ∀ b, C b = true → plB b = false) (h3 : ∀ b, C b = true → hyB b = false) : Shuns C (preF n m k G) := alt_shuns (cap_shuns (eat_shuns h3)) (meta_shuns h h2)

theorem idents_free {n m a b a' b' F} (h : Free F) : Free (identsF n m a b a' b' F) := cap_free (plus_free (loop_free (fun _ hG => cap_free (eat_free (plus_free (cap_free hG)))) (cap_free h) m))

theorem meta_free {n m k G} (h : Free G) : Free (metaF n m k G) := alt_free (cap_free (eat_free (idents_free (cap_free h)))) h

theorem pre_free {n m k G} (h : Free G) : Free (preF n m k G) := alt_free (cap_free (eat_free (idents_free (cap_free (meta_free h))))) (meta_free h)

/-- The groups of a version: its numbers (the second and third with their dots), the prerelease with its hyphen and alone, the metadata. -/
structure LG where
  a : List UInt8
  b : List UInt8
  c : List UInt8
  w : List UInt8
  p : List UInt8
  g : List UInt8

def numsG (D : UInt8 → Bool) (m : Nat) (t : List UInt8) : Option (LG × List UInt8) :=
  if t.takeWhile D = [] then none else
    (tailG m (partG D (partG D (t.dropWhile D)).2).2).map fun x => (⟨t.takeWhile D, (partG D (t.dropWhile D)).1, (partG D (partG D (t.dropWhile D)).2).1, x.1, x.2.1, x.2.2.1⟩, x.2.2.2)

/-- A version at the front, a letter v ahead of it or none, and what is left. -/
def verG (D : UInt8 → Bool) (m : Nat) (t : List UInt8) : Option (LG × List UInt8) := if hdB vB t = true then numsG D m t.tail else numsG D m t

theorem markRest_suf {S D t r} (h : markRest S D t = some r) : r <:+ t := by
  cases t with
  | nil => cases h
  | cons b u =>
    simp only [markRest] at h
    split at h
    · cases h; exact (List.dropWhile_suffix D).trans (List.suffix_cons b u)
    · cases h

theorem partG_suf (D t) : (partG D t).2 <:+ t := by
  unfold partG
  split
  · rename_i r e; exact markRest_suf e
  · exact List.suffix_refl t

/-- An optional part with its captures. -/
theorem part_eq (D : UInt8 → Bool) (l t : List UInt8) (k : Nat) (F : K) (G : K) (c : List Int) (ht : t <:+ l) (Q : Prop) (hm : Q → c[2 * k]? = some (-1) ∧ 2 * k + 2 ≤ c.length)
    (h : altF (capF l.length (2 * k) (eatF dotB (plusF D (capF l.length (2 * k + 1) F)))) F t c = match markRest dotB D t with
      | some r => F r ((c.set (2 * k) ((l.length - t.length : Nat) : Int)).set (2 * k + 1) ((l.length - r.length : Nat) : Int))
      | none => G t c) (hG : markRest dotB D t = none → G t c = F t c) :
    ∃ d, d.length = c.length ∧ (∀ j, j ≠ 2 * k → j ≠ 2 * k + 1 → d[j]? = c[j]?) ∧ (Q → grp l d k = (partG D t).1) ∧ altF (capF l.length (2 * k) (eatF dotB (plusF D (capF l.length (2 * k + 1) F)))) F t c = F (partG D t).2 d := by
  rw [h]
  unfold partG
  cases e : markRest dotB D t with
  | none => exact ⟨c, rfl, fun _ _ _ => rfl, fun hq => grp_off (hm hq).1, hG e⟩
  | some r =>
    refine ⟨_, by simp, fun j h1 h2 => by rw [List.getElem?_set_ne (by omega), List.getElem?_set_ne (by omega)], fun hq => ?_, rfl⟩
    have := (hm hq).2
    exact grp_at (by rw [List.getElem?_set_ne (by omega), List.getElem?_set_self (by omega)]) (by rw [List.getElem?_set_self (by rw [List.length_set]; omega)]) ht (markRest_suf e)

/-- The class of a version's numbers. -/
structure NumC (D : UInt8 → Bool) : Prop where
  dot : ∀ x, D x = true → dotB x = false
  pl : ∀ x, D x = true → plB x = false
  hy : ∀ x, D x = true → hyB x = false
  v : ∀ x, vB x = true → D x = false

theorem dig_c : NumC digB := ⟨dig_dot, dig_pl, dig_hy, dig_v⟩

/-- What an expression finds that begins with a version. -/
theorem ver_eq (D : UInt8 → Bool) (hD : NumC D) (l t : List UInt8) (k : Nat) (G : K) (c : List Int) (hG : Behind D G) (ht : t <:+ l) (hn : Bare c k) :
  (verG D l.length t = none → verF D l.length l.length k G t c = none) ∧
  (∀ x r, verG D l.length t = some (x, r) → ∃ d, verF D l.length l.length k G t c = G r d ∧ d.length = c.length ∧ (∀ j, j < 2 * k ∨ 2 * k + 18 ≤ j → d[j]? = c[j]?) ∧
   (2 * k + 18 ≤ c.length → grp l d k = x.a ∧ grp l d (k + 1) = x.b ∧ grp l d (k + 2) = x.c ∧ grp l d (k + 3) = x.w ∧ grp l d (k + 4) = x.p ∧ grp l d (k + 7) = x.g)) := by
 have nums : ∀ t : List UInt8, t <:+ l → (numsG D l.length t = none → numsF D l.length l.length k G t c = none) ∧
   (∀ x r, numsG D l.length t = some (x, r) → ∃ d, numsF D l.length l.length k G t c = G r d ∧ d.length = c.length ∧ (∀ j, j < 2 * k ∨ 2 * k + 18 ≤ j → d[j]? = c[j]?) ∧
    (2 * k + 18 ≤ c.length → grp l d k = x.a ∧ grp l d (k + 1) = x.b ∧ grp l d (k + 2) = x.c ∧ grp l d (k + 3) = x.w ∧ grp l d (k + 4) = x.p ∧ grp l d (k + 7) = x.g)) := by
  intro t ht
  have hps : Shuns D (preF l.length l.length k G) := pre_shuns hG.num hD.pl hD.hy
  have hpd : Shuns dotB (preF l.length l.length k G) := pre_shuns hG.dot dot_pl dot_hy
  have hmin : Shuns D (capF l.length (2 * k + 1) (minorF D l.length l.length k G)) := cap_shuns (alt_shuns (cap_shuns (eat_shuns hD.dot)) (alt_shuns (cap_shuns (eat_shuns hD.dot)) hps))
  have hnum : numsF D l.length l.length k G t c = if t.takeWhile D = [] then none else minorF D l.length l.length k G (t.dropWhile D) ((c.set (2 * k) (posOf l.length t)).set (2 * k + 1) (posOf l.length (t.dropWhile D))) :=
   plus_eq hmin t (c.set (2 * k) (posOf l.length t))
  rw [hnum]
  unfold numsG
  by_cases hd : t.takeWhile D = []
  ·
   rw [if_pos hd, if_pos hd]; exact ⟨fun _ => rfl, fun x r h => (by cases h)⟩
  ·
   rw [if_neg hd, if_neg hd]
   have s1 : t.dropWhile D <:+ l := (List.dropWhile_suffix D).trans ht
   have hg0 : t.take (t.length - (t.dropWhile D).length) = t.takeWhile D := by
    have h2 := List.takeWhile_append_dropWhile (p := D) (l := t)
    have h3 := congrArg List.length h2
    rw [List.length_append] at h3
    have h4 : t.length - (t.dropWhile D).length = (t.takeWhile D).length := by omega
    rw [h4]
    conv => lhs; arg 2; rw [← h2]
    rw [List.take_left]
   have s0 : t.dropWhile D <:+ t := List.dropWhile_suffix D
   generalize t.dropWhile D = t1 at *
   generalize hcc : (c.set (2 * k) (posOf l.length t)).set (2 * k + 1) (posOf l.length t1) = c1
   have hc1 : c1.length = c.length := by rw [← hcc]; simp
   have hk1 : ∀ j, j ≠ 2 * k → j ≠ 2 * k + 1 → c1[j]? = c[j]? := fun j h1 h2 => by rw [← hcc, List.getElem?_set_ne (by omega), List.getElem?_set_ne (by omega)]
   have hn1 : 2 * k + 18 ≤ c.length → ∀ j, 2 * k + 2 ≤ j → j < 2 * k + 18 → c1[j]? = some (-1) := fun hl j h1 h2 => by rw [hk1 j (by omega) (by omega)]; exact hn hl j (by omega) h2
   have hg1 : 2 * k + 18 ≤ c.length → grp l c1 k = t.takeWhile D := fun hl => by
    rw [← hcc, ← hg0]
    exact grp_at (by rw [List.getElem?_set_ne (by omega), List.getElem?_set_self (by omega)]) (by rw [List.getElem?_set_self (by rw [List.length_set]; omega)]) ht s0
   have e2 := opt2_eq (n := l.length) (a := 2 * (k + 1)) (b := 2 * (k + 1) + 1) (a' := 2 * (k + 2)) (b' := 2 * (k + 2) + 1) hps hpd hD.dot (pre_free hG.free) t1 c1
   obtain ⟨d2, l2, k2, g2, q2⟩ := part_eq D l t1 (k + 1) (patchF D l.length l.length k G) (preF l.length l.length k G) c1 s1 (2 * k + 18 ≤ c.length) (fun hl => ⟨hn1 hl _ (by omega) (by omega), by omega⟩) e2 (fun h => by
    have := opt_eq (n := l.length) (a := 2 * (k + 2)) (b := 2 * (k + 2) + 1) hps hpd t1 c1
    rw [h] at this
    exact this.symm)
   have q2' : minorF D l.length l.length k G t1 c1 = patchF D l.length l.length k G (partG D t1).2 d2 := q2
   rw [q2']
   have s2 : (partG D t1).2 <:+ l := (partG_suf D t1).trans s1
   have hg2 : grp l d2 k = grp l c1 k := grp_same (k2 _ (by omega) (by omega)) (k2 _ (by omega) (by omega))
   generalize (partG D t1).2 = t2 at *
   generalize (partG D t1).1 = p2 at *
   obtain ⟨d3, l3, k3, g3, q3⟩ := part_eq D l t2 (k + 2) (preF l.length l.length k G) (preF l.length l.length k G) d2 s2 (2 * k + 18 ≤ c.length) (fun hl => ⟨by rw [k2 _ (by omega) (by omega)]; exact hn1 hl _ (by omega) (by omega), by omega⟩) (opt_eq (n := l.length) (a := 2 * (k + 2)) (b := 2 * (k + 2) + 1) hps hpd t2 d2) (fun _ => rfl)
   have q3' : patchF D l.length l.length k G t2 d2 = preF l.length l.length k G (partG D t2).2 d3 := q3
   rw [q3']
   have s3 : (partG D t2).2 <:+ l := (partG_suf D t2).trans s2
   have hg3 : grp l d3 k = grp l d2 k := grp_same (k3 _ (by omega) (by omega)) (k3 _ (by omega) (by omega))
   have hg4 : grp l d3 (k + 1) = grp l d2 (k + 1) := grp_same (k3 _ (by omega) (by omega)) (k3 _ (by omega) (by omega))
   generalize (partG D t2).2 = t3 at *
   generalize (partG D t2).1 = p3 at *
   obtain ⟨f1, f2⟩ := pre_eq l t3 l.length k D G d3 hG s3 s3.length_le (fun hl j h1 h2 => by rw [k3 j (by omega) (by omega), k2 j (by omega) (by omega)]; exact hn1 (by omega) j (by omega) h2)
   cases e : tailG l.length t3 with
   | none => exact ⟨fun _ => f1 e, fun x r h => (by cases h)⟩
   | some y =>
    refine ⟨fun h => (by cases h), fun x r h => ?_⟩
    cases h
    obtain ⟨d, r1, r2, r3, r4⟩ := f2 y.1 y.2.1 y.2.2.1 y.2.2.2 e
    refine ⟨d, r1, by omega, fun j hj => ?_, fun hl => ?_⟩
    ·
     rw [r3 j (by omega), k3 j (by omega) (by omega), k2 j (by omega) (by omega), hk1 j (by omega) (by omega)]
    ·
     obtain ⟨w1, w2, w3⟩ := r4 (by omega)
     refine ⟨?_, ?_, ?_, w1, w2, w3⟩
     ·
      rw [grp_same (r3 _ (by omega)) (r3 _ (by omega)), hg3, hg2, hg1 hl]
     ·
      rw [grp_same (r3 _ (by omega)) (r3 _ (by omega)), hg4, g2 hl]
     ·
      rw [grp_same (r3 _ (by omega)) (r3 _ (by omega)), g3 hl]
 have hv : verF D l.length l.length k G t c = if hdB vB t = true then numsF D l.length l.length k G t.tail c else numsF D l.length l.length k G t c := by
  unfold verF altF
  cases t with
  | nil => rfl
  | cons b u =>
   show (eatF vB (numsF D l.length l.length k G) (b :: u) c).or _ = if vB b = true then numsF D l.length l.length k G u c else _
   unfold eatF
   dsimp only
   cases hb : vB b with
   | false => simp
   | true =>
    rw [if_pos rfl, if_pos rfl]
    have hs : Shuns vB (numsF D l.length l.length k G) := cap_shuns (plus_shuns hD.v)
    rw [hs b u c hb, Option.or_none]
 rw [hv]
 unfold verG
 split
 ·
  exact nums t.tail ((List.tail_suffix t).trans ht)
 ·
  exact nums t ht

end Go.Proofs.YtjgedenoaocfjaaGreatDoor.Rx
namespace Go.Proofs.YtjgedenoaocfjaaGreatDoor.Rx

variable {P : List Ins} {I : Inp}

/-- The check of one instruction: S tells which groups are open there. -/
def capI (S : Nat → List Nat) (pc : Nat) (i : Ins) : Bool :=
  if i.op = 0 then decide (S i.out = S pc ∧ S i.arg = S pc)
  else if i.op = 2 then (if i.arg % 2 = 0 then decide (S i.out = i.arg / 2 :: S pc ∧ ¬ i.arg / 2 ∈ S pc) else decide (S pc = i.arg / 2 :: S i.out ∧ ¬ i.arg / 2 ∈ S i.out))
  else if i.op = 4 then decide (S pc = [0])
  else if i.op = 5 then true
  else decide (S i.out = S pc)

def capP (S : Nat → List Nat) : Nat → List Ins → Bool
  | _, [] => true
  | pc, i :: t => capI S pc i && capP S (pc + 1) t

theorem capP_get {S} : ∀ (P : List Ins) (k pc : Nat) (i : Ins), capP S k P = true → P[pc]? = some i → capI S (k + pc) i = true
  | [], _, _, _, _, h => by simp at h
  | j :: t, k, 0, i, h, g => by
    simp [capP] at h g
    subst g
    exact h.1
  | j :: t, k, pc + 1, i, h, g => by
    simp [capP] at h g
    have := capP_get t (k + 1) pc i h.2 g
    rwa [Nat.add_right_comm, Nat.add_assoc] at this

/-- What holds of the captures at a place. -/
def Caps (o : List Nat) (pos : Nat) (c : List Int) : Prop := ∀ k, 2 * k + 1 < c.length →
  (k ∈ o → 0 ≤ c.getD (2 * k) 0 ∧ c.getD (2 * k) 0 ≤ pos) ∧ (¬ k ∈ o → 0 ≤ c.getD (2 * k) 0 → c.getD (2 * k) 0 ≤ c.getD (2 * k + 1) 0 ∧ c.getD (2 * k + 1) 0 ≤ pos)

theorem Caps.up {o pos pos' c} (h : Caps o pos c) (hp : pos ≤ pos') : Caps o pos' c := fun k hk => ⟨fun hi => ⟨((h k hk).1 hi).1, by have := ((h k hk).1 hi).2; omega⟩, fun hi h0 => ⟨((h k hk).2 hi h0).1, by have := ((h k hk).2 hi h0).2; omega⟩⟩

theorem getD_set {c : List Int} {j k : Nat} {x : Int} (hj : j < c.length) : (c.set j x).getD k 0 = if j = k then x else c.getD k 0 := by
  rw [List.getD_eq_getElem?_getD, List.getElem?_set]
  split
  · rename_i h; subst h; simp [hj]
  · rw [List.getD_eq_getElem?_getD]

/-- Whatever the search finds has groups that are well made. -/
theorem wfR {S : Nat → List Nat} (hfit : ∀ pos, pos ≤ I.fin → pos + (I.stp pos).2 ≤ I.fin) (hc : ∀ (pc : Nat) (i : Ins), P[pc]? = some i → capI S pc i = true) {pc pos c r} (h : R P I pc pos c r) :
    pos ≤ I.fin → Caps (S pc) pos c → ∀ d, r = some d → ∀ k, 2 * k + 1 < d.length → 0 ≤ d.getD (2 * k) 0 → d.getD (2 * k) 0 ≤ d.getD (2 * k + 1) 0 ∧ d.getD (2 * k + 1) 0 ≤ I.fin := by
  induction h with
  | @altS pc pos c i d h1 h2 h3 a =>
    intro hp hC
    have := hc pc i h1
    unfold capI at this
    rw [if_pos h2, decide_eq_true_iff] at this
    exact a hp (by rw [this.1]; exact hC)
  | @altN pc pos c i r h1 h2 h3 h4 a b =>
    intro hp hC
    have := hc pc i h1
    unfold capI at this
    rw [if_pos h2, decide_eq_true_iff] at this
    exact b hp (by rw [this.2]; exact hC)
  | @capS pc pos c i r h1 h2 h3 h4 a =>
    intro hp hC
    have := hc pc i h1
    unfold capI at this
    rw [if_neg (by omega), if_pos h2] at this
    refine a hp fun k hk => ?_
    rw [List.length_set] at hk
    rw [getD_set h3, getD_set h3]
    have hCk := hC k hk
    split at this
    · rename_i he
      rw [decide_eq_true_iff] at this
      rw [this.1]
      by_cases e : k = i.arg / 2
      · subst e
        refine ⟨fun _ => ?_, fun hn => absurd (List.mem_cons_self ..) hn⟩
        rw [if_pos (by omega)]
        exact ⟨Int.natCast_nonneg _, Int.le_refl _⟩
      · rw [if_neg (by omega), if_neg (by omega)]
        refine ⟨fun hm => hCk.1 ((List.mem_cons.1 hm).resolve_left e), fun hn => hCk.2 (fun hm => hn (List.mem_cons_of_mem _ hm))⟩
    · rename_i he
      rw [decide_eq_true_iff] at this
      rw [this.1] at hCk
      by_cases e : k = i.arg / 2
      · subst e
        rw [if_neg (by omega), if_pos (by omega)]
        refine ⟨fun hm => absurd hm this.2, fun _ _ => ⟨?_, Int.le_refl _⟩⟩
        exact (hCk.1 (List.mem_cons_self ..)).2
      · rw [if_neg (by omega), if_neg (by omega)]
        exact ⟨fun hm => hCk.1 (List.mem_cons_of_mem _ hm), fun hn => hCk.2 (fun hm => hn ((List.mem_cons.1 hm).resolve_left e))⟩
  | @capN pc pos c i r h1 h2 h3 h4 a =>
    intro hp hC
    have := hc pc i h1
    unfold capI at this
    rw [if_neg (by omega), if_pos h2] at this
    refine a hp fun k hk => ?_
    have hCk := hC k hk
    have e : k ≠ i.arg / 2 := by omega
    split at this
    · rw [decide_eq_true_iff] at this
      rw [this.1]
      exact ⟨fun hm => hCk.1 ((List.mem_cons.1 hm).resolve_left e), fun hn => hCk.2 (fun hm => hn (List.mem_cons_of_mem _ hm))⟩
    · rw [decide_eq_true_iff] at this
      rw [this.1] at hCk
      exact ⟨fun hm => hCk.1 (List.mem_cons_of_mem _ hm), fun hn => hCk.2 (fun hm => hn ((List.mem_cons.1 hm).resolve_left e))⟩
  | @empY pc pos c i r h1 h2 h3 h4 a =>
    intro hp hC
    have := hc pc i h1
    unfold capI at this
    rw [if_neg (by omega), if_neg (by omega), if_neg (by omega), if_neg (by omega), decide_eq_true_iff] at this
    exact a hp (by rw [this]; exact hC)
  | empN h1 h2 h3 => intro _ _ d e; cases e
  | @mat pc pos c i h1 h2 =>
    intro hp hC d e k hk h0
    cases e
    have := hc pc i h1
    unfold capI at this
    rw [if_neg (by omega), if_neg (by omega), if_pos h2, decide_eq_true_iff] at this
    rw [List.length_set] at hk
    rw [getD_set (by omega)] at h0 ⊢
    rw [getD_set (by omega)]
    have hCk := hC k hk
    rw [this] at hCk
    rw [if_neg (by omega)] at h0 ⊢
    by_cases e : k = 0
    · subst e
      rw [if_pos (by omega)]
      exact ⟨(hCk.1 (by simp)).2, by omega⟩
    · rw [if_neg (by omega)]
      have := hCk.2 (by simp [e]) h0
      exact ⟨this.1, by omega⟩
  | @nop pc pos c i r h1 h2 h4 a =>
    intro hp hC
    have := hc pc i h1
    unfold capI at this
    rw [if_neg (by omega), if_neg (by omega), if_neg (by omega), if_neg (by omega), decide_eq_true_iff] at this
    exact a hp (by rw [this]; exact hC)
  | @runY pc pos c i r h1 h2 h3 h4 a =>
    intro hp hC
    have := hc pc i h1
    unfold capI at this
    rw [if_neg (by omega), if_neg (by omega), if_neg (by omega), if_neg (by omega), decide_eq_true_iff] at this
    exact a (hfit pos hp) (by rw [this]; exact hC.up (Nat.le_add_right ..))
  | runN h1 h2 h3 => intro _ _ d e; cases e

end Go.Proofs.YtjgedenoaocfjaaGreatDoor.Rx
namespace Go.Proofs.YtjgedenoaocfjaaGreatDoor.Rx

def loose : List Ins := [
  ⟨5, 0, 0, []⟩,
  ⟨3, 3, 4, []⟩,
  ⟨8, 4, 0, [118]⟩,
  ⟨0, 2, 4, []⟩,
  ⟨2, 5, 2, []⟩,
  ⟨7, 6, 0, [48, 57]⟩,
  ⟨0, 5, 7, []⟩,
  ⟨2, 13, 3, []⟩,
  ⟨2, 9, 4, []⟩,
  ⟨8, 10, 0, [46]⟩,
  ⟨7, 11, 0, [48, 57]⟩,
  ⟨0, 10, 12, []⟩,
  ⟨2, 19, 5, []⟩,
  ⟨0, 8, 19, []⟩,
  ⟨2, 15, 6, []⟩,
  ⟨8, 16, 0, [46]⟩,
  ⟨7, 17, 0, [48, 57]⟩,
  ⟨0, 16, 18, []⟩,
  ⟨2, 33, 7, []⟩,
  ⟨0, 14, 33, []⟩,
  ⟨2, 21, 8, []⟩,
  ⟨8, 22, 0, [45]⟩,
  ⟨2, 23, 10, []⟩,
  ⟨7, 24, 0, [45, 45, 48, 57, 65, 90, 97, 122]⟩,
  ⟨0, 23, 30, []⟩,
  ⟨2, 26, 12, []⟩,
  ⟨8, 27, 0, [46]⟩,
  ⟨7, 28, 0, [45, 45, 48, 57, 65, 90, 97, 122]⟩,
  ⟨0, 27, 29, []⟩,
  ⟨2, 30, 13, []⟩,
  ⟨0, 25, 31, []⟩,
  ⟨2, 32, 11, []⟩,
  ⟨2, 47, 9, []⟩,
  ⟨0, 20, 47, []⟩,
  ⟨2, 35, 14, []⟩,
  ⟨8, 36, 0, [43]⟩,
  ⟨2, 37, 16, []⟩,
  ⟨7, 38, 0, [45, 45, 48, 57, 65, 90, 97, 122]⟩,
  ⟨0, 37, 44, []⟩,
  ⟨2, 40, 18, []⟩,
  ⟨8, 41, 0, [46]⟩,
  ⟨7, 42, 0, [45, 45, 48, 57, 65, 90, 97, 122]⟩,
  ⟨0, 41, 43, []⟩,
  ⟨2, 44, 19, []⟩,
  ⟨0, 39, 45, []⟩,
  ⟨2, 46, 17, []⟩,
  ⟨2, 48, 15, []⟩,
  ⟨0, 34, 48, []⟩,
  ⟨3, 49, 8, []⟩,
  ⟨4, 0, 0, []⟩]

def looseR : List Nat := [0, 3, 0, 2, 1, 0, 7, 6, 1, 0, 0, 6, 5, 5, 1, 0, 0, 5, 4, 4, 1, 0, 1, 0, 6, 1, 0, 0, 7, 6, 5, 4, 3, 3, 1, 0, 1, 0, 5, 1, 0, 0, 6, 5, 4, 3, 2, 2, 1, 0]

def looseS : List (List Nat) := [[], [0], [0], [0], [0], [1, 0], [1, 0], [1, 0], [0], [2, 0], [2, 0], [2, 0], [2, 0], [0], [0], [3, 0], [3, 0], [3, 0], [3, 0], [0], [0], [4, 0], [4, 0], [5, 4, 0], [5, 4, 0], [5, 4, 0], [6, 5, 4, 0], [6, 5, 4, 0], [6, 5, 4, 0], [6, 5, 4, 0], [5, 4, 0], [5, 4, 0], [4, 0], [0], [0], [7, 0], [7, 0], [8, 7, 0], [8, 7, 0], [8, 7, 0], [9, 8, 7, 0], [9, 8, 7, 0], [9, 8, 7, 0], [9, 8, 7, 0], [8, 7, 0], [8, 7, 0], [7, 0], [0], [0], [0], [], [], []]

theorem loose_caps : capP (fun pc => looseS.getD pc []) 0 loose = true := by decide +kernel

theorem loose_ok : okP (fun pc => looseR.getD pc 0) 8 loose.length 0 loose = true := by decide +kernel

theorem rank_lt (R : List Nat) (K : Nat) (h : R.all (fun x => decide (x < K)) = true) (hK : 0 < K) (pc : Nat) : R.getD pc 0 < K := by
  rw [List.getD_eq_getElem?_getD]
  cases e : R[pc]? with
  | none => exact hK
  | some x =>
    rw [Option.getD_some]
    have := List.all_eq_true.1 h x (List.mem_of_getElem? e)
    exact of_decide_eq_true this

theorem blk_at {P : List Ins} {b k : Nat} {cls : List Int} (h : (P.drop b).take 46 = blk b k cls) (i : Nat) (hi : i < 46) : P[b + i]? = (blk b k cls)[i]? := by
  rw [← h, List.getElem?_take_of_lt hi, List.getElem?_drop]

def endG (n : Nat) : K := endF (matF n)

theorem end_behind (D n) : Behind D (endG n) := ⟨end_shuns, end_shuns, end_shuns, end_shuns, end_shuns, end_free mat_free⟩

theorem endG_eq (n : Nat) (t : List UInt8) (c : List Int) : endG n t c = if t = [] then some (c.set 1 n) else none := by
  unfold endG endF matF
  by_cases h : t = []
  · rw [if_pos h, if_pos h, h]; simp
  · rw [if_neg h, if_neg h]

/-- A mark made at the beginning of a search. -/
def caps0 (L : Nat) : List Int := (List.replicate L (-1)).set 0 0

theorem caps0_len (L) : (caps0 L).length = L := by simp [caps0]

theorem caps0_at (L j : Nat) (h : 0 < j) (hj : j < L) : (caps0 L)[j]? = some (-1) := by
  unfold caps0
  rw [List.getElem?_set_ne (by omega), List.getElem?_replicate, if_pos hj]

theorem caps0_caps {o : List Nat} (h : ∀ k, k ∈ [0] → k ∈ o) (h' : ∀ k, k ∈ o → k ∈ [0]) {L : Nat} : Caps o 0 (caps0 L) := by
  intro k hk
  have e : (caps0 L).getD (2 * k) 0 = if 0 = 2 * k then 0 else -1 := by
    unfold caps0
    rw [caps0_len] at hk
    rw [getD_set (by simp; omega), List.getD_eq_getElem?_getD, List.getElem?_replicate]
    split
    · rfl
    · rw [if_pos (by omega)]; rfl
  rw [e]
  by_cases h0 : k = 0
  · subst h0
    exact ⟨fun _ => ⟨by decide, by decide⟩, fun hn => absurd (h 0 (by simp)) hn⟩
  · rw [if_neg (by omega)]
    exact ⟨fun hm => absurd (by simpa using h' k hm) h0, fun _ h1 => absurd h1 (by decide)⟩

theorem loose_R {I : Inp} {l : List UInt8} (hA : Asc I l) (c : List Int) (hc : c.length = 20) : R loose I 1 0 c (verF digB l.length l.length 1 (endG l.length) l c) := by
  have f49 : AtP loose I l 20 49 (matF l.length) := is_mat (i := ⟨4, 0, 0, []⟩) rfl rfl
  have f48 : AtP loose I l 20 (2 + 46) (endG l.length) := is_end (i := ⟨3, 49, 8, []⟩) hA rfl rfl rfl f49
  have hB := blk_at (P := loose) (b := 2) (k := 1) (cls := [48, 57]) rfl
  have f3 := blk_is hA hB cls_dig f48
  exact is_beg (i := ⟨3, 3, 4, []⟩) hA rfl rfl rfl f3 c (Nat.le_refl _) hc

/-- What the machine finds of the loose expression. -/
theorem loose_out {I : Inp} {l : List UInt8} (hI : Fit I l) : ∃ r U, Out loose I (.chk 1 0) [] (fun _ => false) (caps0 20) r U ∧
    (match verG digB l.length l with
    | some (x, []) => ∃ d, r = some d ∧ d.length = 20 ∧ (∀ k, 2 * k + 1 < d.length → 0 ≤ d.getD (2 * k) 0 → d.getD (2 * k) 0 ≤ d.getD (2 * k + 1) 0 ∧ d.getD (2 * k + 1) 0 ≤ I.fin) ∧ grp l d 1 = x.a ∧ grp l d 2 = x.b ∧ grp l d 3 = x.c ∧ grp l d 5 = x.p ∧ grp l d 8 = x.g
    | _ => r = none) := by
  have hW := wfR (S := fun pc => looseS.getD pc []) (by rw [hI.fin]; exact hI.fit) (fun pc i hi => by have := capP_get loose 0 pc i loose_caps hi; rwa [Nat.zero_add] at this) (loose_R hI.toAsc (caps0 20) (caps0_len 20)) (Nat.zero_le _) (caps0_caps (by decide) (by decide))
  obtain ⟨U, hU, _⟩ := first hI (rank_lt looseR 8 (by decide) (by decide)) loose_ok (loose_R hI.toAsc (caps0 20) (caps0_len 20)) (Nat.zero_le _) (fun _ => false) (fun p q _ h => by cases h)
  obtain ⟨h1, h2⟩ := ver_eq digB dig_c l l 1 (endG l.length) (caps0 20) (end_behind digB _) (List.suffix_refl l) (fun _ j g1 g2 => caps0_at 20 j (by omega) g2)
  refine ⟨_, U, hU, ?_⟩
  cases e : verG digB l.length l with
  | none => exact h1 e
  | some y =>
    obtain ⟨x, r⟩ := y
    obtain ⟨d, k1, k2, k3, k4⟩ := h2 x r e
    rw [k1, endG_eq]
    cases r with
    | cons b u => rfl
    | nil =>
      dsimp only
      rw [caps0_len] at k2 k4
      obtain ⟨g1, g2, g3, g4, g5, g6⟩ := k4 (by decide)
      refine ⟨d.set 1 l.length, rfl, by rw [List.length_set, k2], hW _ (by rw [k1, endG_eq]; rfl), ?_, ?_, ?_, ?_, ?_⟩
      · rw [← g1]; exact grp_same (List.getElem?_set_ne (by decide)) (List.getElem?_set_ne (by decide))
      · rw [← g2]; exact grp_same (List.getElem?_set_ne (by decide)) (List.getElem?_set_ne (by decide))
      · rw [← g3]; exact grp_same (List.getElem?_set_ne (by decide)) (List.getElem?_set_ne (by decide))
      · rw [← g5]; exact grp_same (List.getElem?_set_ne (by decide)) (List.getElem?_set_ne (by decide))
      · rw [← g6]; exact grp_same (List.getElem?_set_ne (by decide)) (List.getElem?_set_ne (by decide))

end Go.Proofs.YtjgedenoaocfjaaGreatDoor.Rx
