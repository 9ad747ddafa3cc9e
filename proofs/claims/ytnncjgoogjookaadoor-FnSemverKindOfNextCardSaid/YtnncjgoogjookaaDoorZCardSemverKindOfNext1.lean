/- The row and the tied card of FnSemverKindOfNext, out of its printed walk and its plain law. For every input that the statement lets in. -/
import Derived.WalkKit
import Derived.Handy
import Derived.Lib.Hide
import Derived.Deep.Draws
namespace Go.Proofs.YtnncjgoogjookaaDoor.Base

open Go.RowKit Go.Lib Go.Proofs

theorem dN {B : Nat} {w w' : World} (h : Below B w w') (n : Nat) : Below B w (w'.drewN n) := ⟨h.os, h.tape, h.output, h.size, h.block⟩

end Go.Proofs.YtnncjgoogjookaaDoor.Base
namespace Go.Proofs.YtnncjgoogjookaaDoor.Base

open Go.RowKit Go.Lib Go.Proofs

/-- Block b holds the values xs and may be written. -/
structure Box (w : World) (b : Nat) (xs : List Value) : Prop where
  cell : ∀ (i : Nat) (x : Value), xs[i]? = some x → w.cell? ⟨b, i, none⟩ = some x
  free : ∀ i : Nat, w.frozen? ⟨b, i, none⟩ = false
  lt : b < w.heap.size

theorem Box.below {w w' : World} {b : Nat} {xs : List Value} (h : Box w b xs) (hb : Below w.heap.size w w') : Box w' b xs :=
  ⟨fun i x hx => (hb.cell (p := ⟨b, i, none⟩) h.lt).trans (h.cell i x hx), fun i => (hb.frozen (p := ⟨b, i, none⟩) h.lt).trans (h.free i), Nat.lt_of_lt_of_le h.lt hb.size⟩

theorem Box.new (w : World) (a : Array Value) (T : TypeId) : Box (w.alloc (.cells a T)) w.heap.size a.toList := by
  refine ⟨fun i x hx => ?_, fun i => ?_, by simp⟩
  · have : a[i]? = some x := by simpa using hx
    rw [World.cell?_alloc_at (w := w) a T _ _ rfl]; exact this
  · exact World.frozen?_alloc_at (w := w) a T _ _ rfl

theorem Box.new' (w : World) (a : Array Value) (T : TypeId) (b : Nat) (hb : b = w.heap.size) : Box (w.alloc (.cells a T)) b a.toList := by subst hb; exact Box.new w a T

theorem frz (w : World) (a : Addr) (y : Value) (c : Addr) : (w.setCell a y).frozen? c = w.frozen? c := by simp [go_sem]

theorem hsz (w : World) (a : Addr) (y : Value) : (w.setCell a y).heap.size = w.heap.size := by simp [go_sem]

theorem Box.set {w : World} {b : Nat} {xs : List Value} (h : Box w b xs) (i : Nat) (hi : i < xs.length) (y : Value) : Box (w.setCell ⟨b, i, none⟩ y) b (xs.set i y) := by
  have hc := h.cell i xs[i] (List.getElem?_eq_getElem hi)
  refine ⟨fun j x hx => ?_, fun j => ?_, ?_⟩
  · by_cases e : j = i
    · subst e
      rw [List.getElem?_set_self hi] at hx
      cases hx
      exact World.cell?_setCell_same w _ _ hc
    · rw [List.getElem?_set_ne (Ne.symm e)] at hx
      rw [World.cell?_setCell_other w _ _ _ (by intro q; cases q; exact e rfl)]
      exact h.cell j x hx
  · rw [frz]; exact h.free j
  · rw [hsz]; exact h.lt

theorem Box.far {w : World} {b : Nat} {xs : List Value} (h : Box w b xs) (a : Addr) (ha : a.block ≠ b) (y : Value) : Box (w.setCell a y) b xs := by
  refine ⟨fun j x hx => ?_, fun j => ?_, ?_⟩
  · rw [World.cell?_setCell_other w _ _ _ (by intro q; apply ha; rw [q])]
    exact h.cell j x hx
  · rw [frz]; exact h.free j
  · rw [hsz]; exact h.lt

end Go.Proofs.YtnncjgoogjookaaDoor.Base
namespace Go.Proofs.YtnncjgoogjookaaDoor.Rx

structure Ins where
  op : Nat
  out : Nat
  arg : Nat
  cls : List Int

/-- What an input tells: the letter at a place and its width, whether an empty match of a kind holds there, and how long it is. -/
structure Inp where
  stp : Nat → Int × Nat
  emp : Nat → Nat → Bool
  fin : Nat

def mrpGo : List Int → Int → Int → Int
  | a :: b :: t, r, j => if a ≤ r ∧ r ≤ b then j else mrpGo t r (j + 1)
  | _, _, _ => -1

/-- The place of the pair in which a letter lies. -/
def mrp (l : List Int) (r : Int) : Int := match l with
  | [a] => if r = a then 0 else -1
  | l => mrpGo l r 0

def eats (i : Ins) (r : Int) : Bool := if i.op = 7 then decide (0 ≤ mrp i.cls r) else decide (r = i.cls.headD (-2))

/-- What a search from an instruction at a place finds, by the order of the ways. -/
inductive R (P : List Ins) (I : Inp) : Nat → Nat → List Int → Option (List Int) → Prop
  | altS {pc pos c i d} : P[pc]? = some i → i.op = 0 → R P I i.out pos c (some d) → R P I pc pos c (some d)
  | altN {pc pos c i r} : P[pc]? = some i → i.op = 0 → R P I i.out pos c none → R P I i.arg pos c r → R P I pc pos c r
  | capS {pc pos c i r} : P[pc]? = some i → i.op = 2 → i.arg < c.length → R P I i.out pos (c.set i.arg pos) r → R P I pc pos c r
  | capN {pc pos c i r} : P[pc]? = some i → i.op = 2 → ¬ i.arg < c.length → R P I i.out pos c r → R P I pc pos c r
  | empY {pc pos c i r} : P[pc]? = some i → i.op = 3 → I.emp pos i.arg = true → R P I i.out pos c r → R P I pc pos c r
  | empN {pc pos c i} : P[pc]? = some i → i.op = 3 → I.emp pos i.arg = false → R P I pc pos c none
  | mat {pc pos c i} : P[pc]? = some i → i.op = 4 → R P I pc pos c (some (c.set 1 pos))
  | nop {pc pos c i r} : P[pc]? = some i → i.op = 6 → R P I i.out pos c r → R P I pc pos c r
  | runY {pc pos c i r} : P[pc]? = some i → (i.op = 7 ∨ i.op = 8) → eats i (I.stp pos).1 = true → R P I i.out (pos + (I.stp pos).2) c r → R P I pc pos c r
  | runN {pc pos c i} : P[pc]? = some i → (i.op = 7 ∨ i.op = 8) → eats i (I.stp pos).1 = false → R P I pc pos c none

variable {P : List Ins} {I : Inp}

theorem R.any {pc pos c r} (h : R P I pc pos c r) : r = none → ∀ c', R P I pc pos c' none := by
  induction h with
  | altS => intro e; exact absurd e (by simp)
  | altN h1 h2 _ _ a b => intro e c'; exact .altN h1 h2 (a rfl c') (b e c')
  | @capS _ _ _ i _ h1 h2 h3 _ a =>
    intro e c'
    by_cases h : i.arg < c'.length
    · exact .capS h1 h2 h (a e _)
    · exact .capN h1 h2 h (a e _)
  | @capN _ _ _ i _ h1 h2 h3 _ a =>
    intro e c'
    by_cases h : i.arg < c'.length
    · exact .capS h1 h2 h (a e _)
    · exact .capN h1 h2 h (a e _)
  | empY h1 h2 h3 _ a => intro e c'; exact .empY h1 h2 h3 (a e c')
  | empN h1 h2 h3 => intro _ c'; exact .empN h1 h2 h3
  | mat => intro e; exact absurd e (by simp)
  | nop h1 h2 _ a => intro e c'; exact .nop h1 h2 (a e c')
  | runY h1 h2 h3 _ a => intro e c'; exact .runY h1 h2 h3 (a e c')
  | runN h1 h2 h3 => intro _ c'; exact .runN h1 h2 h3

theorem R.det {pc pos c r} (h : R P I pc pos c r) : ∀ {r'}, R P I pc pos c r' → r = r' := by
  induction h with
  | @altS pc pos c i d h1 h2 h3 a =>
    intro r' g
    have e : P[pc]? = some i := h1
    cases g with
    | altS g1 g2 g3 => rw [e] at g1; cases g1; exact a g3
    | altN g1 g2 g3 g4 => rw [e] at g1; cases g1; exact absurd (a g3) (by simp)
    | _ => simp_all
  | @altN pc pos c i r h1 h2 _ _ a b =>
    intro r' g
    have e : P[pc]? = some i := h1
    cases g with
    | altS g1 g2 g3 => rw [e] at g1; cases g1; exact absurd (a g3) (by simp)
    | altN g1 g2 g3 g4 => rw [e] at g1; cases g1; exact b g4
    | _ => simp_all
  | @capS pc pos c i r h1 h2 h3 _ a =>
    intro r' g
    have e : P[pc]? = some i := h1
    cases g with
    | capS g1 g2 g3 g4 => rw [e] at g1; cases g1; exact a g4
    | _ => simp_all
  | @capN pc pos c i r h1 h2 h3 _ a =>
    intro r' g
    have e : P[pc]? = some i := h1
    cases g with
    | capN g1 g2 g3 g4 => rw [e] at g1; cases g1; exact a g4
    | capS g1 g2 g3' g4 => rw [e] at g1; cases g1; exact absurd g3' h3
    | _ => simp_all
  | @empY pc pos c i r h1 h2 h3 _ a =>
    intro r' g
    have e : P[pc]? = some i := h1
    cases g with
    | empY g1 g2 g3 g4 => rw [e] at g1; cases g1; exact a g4
    | _ => simp_all
  | empN h1 h2 h3 => intro r' g; cases g <;> simp_all
  | mat h1 h2 => intro r' g; cases g <;> simp_all
  | @nop pc pos c i r h1 h2 _ a =>
    intro r' g
    have e : P[pc]? = some i := h1
    cases g with
    | nop g1 g2 g3 => rw [e] at g1; cases g1; exact a g3
    | _ => simp_all
  | @runY pc pos c i r h1 h2 h3 _ a =>
    intro r' g
    have e : P[pc]? = some i := h1
    cases g with
    | runY g1 g2 g3 g4 => rw [e] at g1; cases g1; exact a g4
    | _ => simp_all
  | runN h1 h2 h3 => intro r' g; cases g <;> simp_all

/-- Where the machine stands: it takes the next job, asks whether a state is new, or works a state. -/
inductive Ctl
  | pop
  | chk (pc pos : Nat)
  | skp (pc : Nat) (pos : Int) (arg : Bool)

abbrev Job := Nat × Bool × Int

def at2 (I : Inp) (V : Nat → Bool) (pc pos : Nat) : Bool := V (pc * (I.fin + 1) + pos)

def mark (I : Inp) (V : Nat → Bool) (pc pos : Nat) : Nat → Bool := fun n => if n = pc * (I.fin + 1) + pos then true else V n

/-- What the machine comes to from where it stands. -/
inductive Out (P : List Ins) (I : Inp) : Ctl → List Job → (Nat → Bool) → List Int → Option (List Int) → (Nat → Bool) → Prop
  | popNil {V c} : Out P I .pop [] V c none V
  | popJob {pc arg pos J V c r U} : Out P I (.skp pc pos arg) J V c r U → Out P I .pop ((pc, arg, pos) :: J) V c r U
  | seen {pc pos J V c r U} : at2 I V pc pos = true → Out P I .pop J V c r U → Out P I (.chk pc pos) J V c r U
  | new {pc pos J V c r U} : at2 I V pc pos = false → Out P I (.skp pc pos false) J (mark I V pc pos) c r U → Out P I (.chk pc pos) J V c r U
  | altA {pc i J V c r U} {pos : Nat} : P[pc]? = some i → i.op = 0 → Out P I (.chk i.arg pos) J V c r U → Out P I (.skp pc pos true) J V c r U
  | altO {pc i J V c r U} {pos : Nat} : P[pc]? = some i → i.op = 0 → Out P I (.chk i.out pos) ((pc, true, (pos : Int)) :: J) V c r U → Out P I (.skp pc pos false) J V c r U
  | capR {pc i J V c r U} {pos : Int} : P[pc]? = some i → i.op = 2 → i.arg < c.length → Out P I .pop J V (c.set i.arg pos) r U → Out P I (.skp pc pos true) J V c r U
  | capS {pc i J V c r U} {pos : Nat} : P[pc]? = some i → i.op = 2 → i.arg < c.length → Out P I (.chk i.out pos) ((pc, true, c.getD i.arg 0) :: J) V (c.set i.arg pos) r U → Out P I (.skp pc pos false) J V c r U
  | capN {pc i J V c r U} {pos : Nat} : P[pc]? = some i → i.op = 2 → ¬ i.arg < c.length → Out P I (.chk i.out pos) J V c r U → Out P I (.skp pc pos false) J V c r U
  | empY {pc i J V c r U} {pos : Nat} : P[pc]? = some i → i.op = 3 → I.emp pos i.arg = true → Out P I (.chk i.out pos) J V c r U → Out P I (.skp pc pos false) J V c r U
  | empN {pc i J V c r U} {pos : Nat} : P[pc]? = some i → i.op = 3 → I.emp pos i.arg = false → Out P I .pop J V c r U → Out P I (.skp pc pos false) J V c r U
  | mat {pc i J V c} {pos : Nat} : P[pc]? = some i → i.op = 4 → Out P I (.skp pc pos false) J V c (some (c.set 1 pos)) V
  | nop {pc i J V c r U} {pos : Nat} : P[pc]? = some i → i.op = 6 → Out P I (.chk i.out pos) J V c r U → Out P I (.skp pc pos false) J V c r U
  | runY {pc i J V c r U} {pos : Nat} : P[pc]? = some i → (i.op = 7 ∨ i.op = 8) → eats i (I.stp pos).1 = true → Out P I (.chk i.out (pos + (I.stp pos).2)) J V c r U → Out P I (.skp pc pos false) J V c r U
  | runN {pc i J V c r U} {pos : Nat} : P[pc]? = some i → (i.op = 7 ∨ i.op = 8) → eats i (I.stp pos).1 = false → Out P I .pop J V c r U → Out P I (.skp pc pos false) J V c r U

/-- A program's order: every step that eats nothing goes down. -/
structure WF (P : List Ins) (I : Inp) (rank : Nat → Nat) (K : Nat) : Prop where
  lt : ∀ pc, rank pc < K
  alt : ∀ (pc : Nat) (i : Ins), P[pc]? = some i → i.op = 0 → rank i.out < rank pc ∧ rank i.arg < rank pc
  one : ∀ (pc : Nat) (i : Ins), P[pc]? = some i → i.op = 2 ∨ i.op = 3 ∨ i.op = 6 → rank i.out < rank pc
  eat : ∀ (pc : Nat) (i : Ins) (pos : Nat), P[pc]? = some i → i.op = 7 ∨ i.op = 8 → eats i (I.stp pos).1 = true → 0 < (I.stp pos).2
  fit : ∀ pos, pos ≤ I.fin → pos + (I.stp pos).2 ≤ I.fin

def key (I : Inp) (rank : Nat → Nat) (K pc pos : Nat) : Nat := (I.fin - pos) * K + rank pc

def Fails (P : List Ins) (I : Inp) (pc pos : Nat) : Prop := ∀ c, R P I pc pos c none

def Good (P : List Ins) (I : Inp) (rank : Nat → Nat) (K : Nat) (V : Nat → Bool) (k : Nat) : Prop := ∀ p q, q ≤ I.fin → at2 I V p q = true → key I rank K p q ≤ k → Fails P I p q

/-- All that is marked in the second and not in the first fails. -/
def More (P : List Ins) (I : Inp) (V U : Nat → Bool) : Prop := ∀ p q, q ≤ I.fin → at2 I U p q = true → at2 I V p q = true ∨ Fails P I p q

theorem More.refl (V) : More P I V V := fun _ _ _ h => .inl h

theorem More.trans {V U T} (h : More P I V U) (g : More P I U T) : More P I V T := fun p q hq ht => (g p q hq ht).elim (fun hu => h p q hq hu) .inr

theorem Good.more {rank K V U k} (h : Good P I rank K V k) (g : More P I V U) : Good P I rank K U k := fun p q hq ht hk => (g p q hq ht).elim (fun hv => h p q hq hv hk) id

theorem at2_mark {V pc pos p q} (hp : pos ≤ I.fin) (hq : q ≤ I.fin) (h : at2 I (mark I V pc pos) p q = true) : (p = pc ∧ q = pos) ∨ at2 I V p q = true := by
  unfold at2 mark at *
  split at h
  · rename_i e
    left
    have h1 : (p * (I.fin + 1) + q) / (I.fin + 1) = p := by rw [Nat.mul_comm, Nat.mul_add_div (by omega), Nat.div_eq_of_lt (by omega)]; rfl
    have h2 : (pc * (I.fin + 1) + pos) / (I.fin + 1) = pc := by rw [Nat.mul_comm, Nat.mul_add_div (by omega), Nat.div_eq_of_lt (by omega)]; rfl
    rw [e, h2] at h1
    subst h1
    exact ⟨rfl, by omega⟩
  · exact .inr h

theorem key_down {rank K pc pc' pos} (h : rank pc' < rank pc) : key I rank K pc' pos < key I rank K pc pos := by unfold key; omega

theorem key_on {rank K pc pc' pos n} (hr : ∀ pc, rank pc < K) (hn : 0 < n) (hf : pos + n ≤ I.fin) : key I rank K pc' (pos + n) < key I rank K pc pos := by
  unfold key
  have h1 := hr pc'
  obtain ⟨m, hm⟩ : ∃ m, I.fin - pos = m + 1 + (I.fin - (pos + n)) := ⟨n - 1, by omega⟩
  rw [hm, Nat.add_mul, Nat.add_mul]
  omega

theorem good_mark {rank K V pc pos k} (hp : pos ≤ I.fin) (hg : Good P I rank K V (key I rank K pc pos)) (hk : k < key I rank K pc pos) : Good P I rank K (mark I V pc pos) k := by
  intro p q hq hv hle
  rcases at2_mark hp hq hv with ⟨rfl, rfl⟩ | h
  · omega
  · exact hg p q hq h (by omega)

/-- From a state on: what the search finds, the machine finds; where it finds nothing, the machine comes back to its jobs, and what it has marked since fails. -/
theorem run {rank K} (wf : WF P I rank K) {pc pos c r} (h : R P I pc pos c r) : pos ≤ I.fin → ∀ V J, Good P I rank K V (key I rank K pc pos) →
    (∀ d, r = some d → ∃ U, Out P I (.chk pc pos) J V c (some d) U) ∧
    (r = none → ∃ U, More P I V U ∧ ∀ s T, Out P I .pop J U c s T → Out P I (.chk pc pos) J V c s T) := by
  have fresh : ∀ {pc pos c r} (_ : R P I pc pos c r) (_ : pos ≤ I.fin) (V : Nat → Bool) (J : List Job), Good P I rank K V (key I rank K pc pos) →
      (at2 I V pc pos = false →
        (∀ d, r = some d → ∃ U, Out P I (.skp pc pos false) J (mark I V pc pos) c (some d) U) ∧
        (r = none → ∃ U, More P I (mark I V pc pos) U ∧ ∀ s T, Out P I .pop J U c s T → Out P I (.skp pc pos false) J (mark I V pc pos) c s T)) →
      (∀ d, r = some d → ∃ U, Out P I (.chk pc pos) J V c (some d) U) ∧
      (r = none → ∃ U, More P I V U ∧ ∀ s T, Out P I .pop J U c s T → Out P I (.chk pc pos) J V c s T) := by
    intro pc pos c r hr hp V J hg hn
    cases hv : at2 I V pc pos with
    | true =>
      have hf := hg pc pos hp hv (Nat.le_refl _)
      refine ⟨fun d e => ?_, fun _ => ⟨V, More.refl V, fun s T hs => .seen hv hs⟩⟩
      exact absurd (hr.det (hf c)) (by rw [e]; simp)
    | false =>
      obtain ⟨h1, h2⟩ := hn hv
      refine ⟨fun d e => (h1 d e).imp (fun U h => .new hv h), fun e => ?_⟩
      obtain ⟨U, hm, ho⟩ := h2 e
      refine ⟨U, fun p q hq hu => ?_, fun s T hs => .new hv (ho s T hs)⟩
      rcases hm p q hq hu with h | h
      · rcases at2_mark hp hq h with ⟨rfl, rfl⟩ | h
        · subst e; exact .inr (fun c' => hr.any rfl c')
        · exact .inl h
      · exact .inr h
  induction h with
  | @altS pc pos c i d h1 h2 h3 a =>
    intro hp V J hg
    refine fresh (.altS h1 h2 h3) hp V J hg fun hv => ⟨fun d' e => ?_, fun e => absurd e (by simp)⟩
    cases e
    have hk := (wf.alt pc i h1 h2).1
    obtain ⟨U, hU⟩ := (a hp (mark I V pc pos) ((pc, true, (pos : Int)) :: J) (good_mark hp hg (key_down hk))).1 d rfl
    exact ⟨U, .altO h1 h2 hU⟩
  | @altN pc pos c i r h1 h2 h3 h4 a b =>
    intro hp V J hg
    refine fresh (.altN h1 h2 h3 h4) hp V J hg fun hv => ?_
    have hk := wf.alt pc i h1 h2
    obtain ⟨U, hm, ho⟩ := (a hp (mark I V pc pos) ((pc, true, (pos : Int)) :: J) (good_mark hp hg (key_down hk.1))).2 rfl
    obtain ⟨b1, b2⟩ := b hp U J ((good_mark hp hg (key_down hk.2)).more hm)
    refine ⟨fun d e => (b1 d e).imp (fun T h => .altO h1 h2 (ho _ _ (.popJob (.altA h1 h2 h)))), fun e => ?_⟩
    obtain ⟨T, hm2, ho2⟩ := b2 e
    exact ⟨T, hm.trans hm2, fun s S h => .altO h1 h2 (ho _ _ (.popJob (.altA h1 h2 (ho2 s S h))))⟩
  | @capS pc pos c i r h1 h2 h3 h4 a =>
    intro hp V J hg
    refine fresh (.capS h1 h2 h3 h4) hp V J hg fun hv => ?_
    have hk := wf.one pc i h1 (.inl h2)
    obtain ⟨a1, a2⟩ := a hp (mark I V pc pos) ((pc, true, c.getD i.arg 0) :: J) (good_mark hp hg (key_down hk))
    refine ⟨fun d e => (a1 d e).imp (fun T h => .capS h1 h2 h3 h), fun e => ?_⟩
    obtain ⟨U, hm, ho⟩ := a2 e
    refine ⟨U, hm, fun s S h => .capS h1 h2 h3 (ho _ _ (.popJob (.capR h1 h2 (by rw [List.length_set]; exact h3) ?_)))⟩
    rw [List.set_set, List.getD_eq_getElem?_getD, List.getElem?_eq_getElem h3, Option.getD_some, List.set_getElem_self]
    exact h
  | @capN pc pos c i r h1 h2 h3 h4 a =>
    intro hp V J hg
    refine fresh (.capN h1 h2 h3 h4) hp V J hg fun hv => ?_
    have hk := wf.one pc i h1 (.inl h2)
    obtain ⟨a1, a2⟩ := a hp (mark I V pc pos) J (good_mark hp hg (key_down hk))
    exact ⟨fun d e => (a1 d e).imp (fun T h => .capN h1 h2 h3 h), fun e => (a2 e).imp fun U h => ⟨h.1, fun s S g => .capN h1 h2 h3 (h.2 s S g)⟩⟩
  | @empY pc pos c i r h1 h2 h3 h4 a =>
    intro hp V J hg
    refine fresh (.empY h1 h2 h3 h4) hp V J hg fun hv => ?_
    have hk := wf.one pc i h1 (.inr (.inl h2))
    obtain ⟨a1, a2⟩ := a hp (mark I V pc pos) J (good_mark hp hg (key_down hk))
    exact ⟨fun d e => (a1 d e).imp (fun T h => .empY h1 h2 h3 h), fun e => (a2 e).imp fun U h => ⟨h.1, fun s S g => .empY h1 h2 h3 (h.2 s S g)⟩⟩
  | @empN pc pos c i h1 h2 h3 =>
    intro hp V J hg
    exact fresh (.empN h1 h2 h3) hp V J hg fun hv => ⟨fun d e => absurd e (by simp), fun _ => ⟨_, More.refl _, fun s S g => .empN h1 h2 h3 g⟩⟩
  | @mat pc pos c i h1 h2 =>
    intro hp V J hg
    exact fresh (.mat h1 h2) hp V J hg fun hv => ⟨fun d e => by cases e; exact ⟨_, .mat h1 h2⟩, fun e => absurd e (by simp)⟩
  | @nop pc pos c i r h1 h2 h4 a =>
    intro hp V J hg
    refine fresh (.nop h1 h2 h4) hp V J hg fun hv => ?_
    have hk := wf.one pc i h1 (.inr (.inr h2))
    obtain ⟨a1, a2⟩ := a hp (mark I V pc pos) J (good_mark hp hg (key_down hk))
    exact ⟨fun d e => (a1 d e).imp (fun T h => .nop h1 h2 h), fun e => (a2 e).imp fun U h => ⟨h.1, fun s S g => .nop h1 h2 (h.2 s S g)⟩⟩
  | @runY pc pos c i r h1 h2 h3 h4 a =>
    intro hp V J hg
    refine fresh (.runY h1 h2 h3 h4) hp V J hg fun hv => ?_
    have hw := wf.eat pc i pos h1 h2 h3
    have hf := wf.fit pos hp
    obtain ⟨a1, a2⟩ := a hf (mark I V pc pos) J (good_mark hp hg (key_on wf.lt hw hf))
    exact ⟨fun d e => (a1 d e).imp (fun T h => .runY h1 h2 h3 h), fun e => (a2 e).imp fun U h => ⟨h.1, fun s S g => .runY h1 h2 h3 (h.2 s S g)⟩⟩
  | @runN pc pos c i h1 h2 h3 =>
    intro hp V J hg
    exact fresh (.runN h1 h2 h3) hp V J hg fun hv => ⟨fun d e => absurd e (by simp), fun _ => ⟨_, More.refl _, fun s S g => .runN h1 h2 h3 g⟩⟩

end Go.Proofs.YtnncjgoogjookaaDoor.Rx
