/- The row and the tied card of FnSemverKindOfNext, out of its printed walk and its plain law. For every input that the statement lets in. -/
import Derived.Laws.Strings
namespace Go.Proofs.YtnncjgoogjookaaDoor.L

abbrev bl (s : ByteArray) : List UInt8 := s.data.toList

def ofL (l : List UInt8) : ByteArray := ⟨l.toArray⟩

@[simp] theorem bl_ofL (l : List UInt8) : bl (ofL l) = l := rfl

@[simp] theorem ofL_bl (s : ByteArray) : ofL (bl s) = s := rfl

theorem bl_len (s : ByteArray) : (bl s).length = s.size := rfl

theorem bl_inj {s t : ByteArray} (h : bl s = bl t) : s = t := by rw [← ofL_bl s, h, ofL_bl]

theorem size_ofL (l : List UInt8) : (ofL l).size = l.length := rfl

theorem bl_extract (s : ByteArray) (a b : Nat) : bl (s.extract a b) = ((bl s).drop a).take (b - a) := by
  unfold bl
  rw [ByteArray.data_extract, Array.toList_extract, List.extract_eq_take_drop]

theorem extract_ofL (s : ByteArray) (a b : Nat) : s.extract a b = ofL (((bl s).drop a).take (b - a)) := bl_inj (by rw [bl_extract, bl_ofL])

theorem extract_end (s : ByteArray) (a : Nat) : s.extract a s.size = ofL ((bl s).drop a) := by
  rw [extract_ofL, List.take_of_length_le (by rw [List.length_drop, bl_len]; omega)]

theorem extract_head (s : ByteArray) (b : Nat) : s.extract 0 b = ofL ((bl s).take b) := by
  rw [extract_ofL, List.drop_zero, Nat.sub_zero]

/-- The parts of l between the bytes c. -/
def splitL (c : UInt8) : List UInt8 → List (List UInt8)
  | [] => [[]]
  | x :: xs => if x = c then [] :: splitL c xs else match splitL c xs with
    | [] => [[x]]
    | h :: t => (x :: h) :: t

theorem splitL_ne (c : UInt8) : ∀ l, splitL c l ≠ []
  | [] => by simp [splitL]
  | x :: xs => by
    unfold splitL
    split
    · simp
    · split <;> simp

theorem splitL_len (c : UInt8) : ∀ l, (splitL c l).length ≤ l.length + 1
  | [] => by simp [splitL]
  | x :: xs => by
    have ih := splitL_len c xs
    unfold splitL
    split
    · simp; omega
    · split
      · simp
      · rename_i h t e; rw [e] at ih; simp at ih ⊢; omega

theorem splitL_none (c : UInt8) : ∀ l, (∀ x ∈ l, x ≠ c) → splitL c l = [l]
  | [], _ => rfl
  | x :: xs, h => by
    have hx := h x (by simp)
    have ih := splitL_none c xs (fun y hy => h y (by simp [hy]))
    unfold splitL
    rw [if_neg hx, ih]

theorem splitL_at (c : UInt8) : ∀ (a b : List UInt8), (∀ x ∈ a, x ≠ c) → splitL c (a ++ c :: b) = a :: splitL c b
  | [], b, _ => by simp [splitL]
  | x :: xs, b, h => by
    have hx := h x (by simp)
    have ih := splitL_at c xs b (fun y hy => h y (by simp [hy]))
    rw [List.cons_append, splitL, if_neg hx, ih]

/-- The place of the first byte c. -/
def fst (c : UInt8) : List UInt8 → Option Nat
  | [] => none
  | x :: xs => if x = c then some 0 else (fst c xs).map (· + 1)

theorem fst_none (c : UInt8) : ∀ l, fst c l = none → ∀ x ∈ l, x ≠ c
  | [], _ => by simp
  | x :: xs, h => by
    unfold fst at h
    split at h
    · cases h
    · rename_i hx
      have ih := fst_none c xs (by cases e : fst c xs <;> simp [e] at h ⊢)
      intro y hy
      rcases List.mem_cons.1 hy with rfl | hy
      · exact hx
      · exact ih y hy

theorem fst_some (c : UInt8) : ∀ l j, fst c l = some j → j < l.length ∧ l = l.take j ++ c :: l.drop (j + 1) ∧ ∀ x ∈ l.take j, x ≠ c
  | [], j, h => by simp [fst] at h
  | x :: xs, j, h => by
    unfold fst at h
    split at h
    · rename_i hx; cases h; simp [hx]
    · rename_i hx
      cases e : fst c xs with
      | none => simp [e] at h
      | some i =>
        rw [e] at h; simp at h; subst h
        obtain ⟨h1, h2, h3⟩ := fst_some c xs i e
        refine ⟨by simp; omega, ?_, ?_⟩
        · simp only [List.take_succ_cons, List.drop_succ_cons, List.cons_append]; rw [← h2]
        · intro y hy
          rw [List.take_succ_cons] at hy
          rcases List.mem_cons.1 hy with rfl | hy
          · exact hx
          · exact h3 y hy

theorem splitL_fst_none (c : UInt8) (l : List UInt8) (h : fst c l = none) : splitL c l = [l] := splitL_none c l (fst_none c l h)

theorem splitL_fst_some (c : UInt8) (l : List UInt8) (j : Nat) (h : fst c l = some j) : splitL c l = l.take j :: splitL c (l.drop (j + 1)) := by
  obtain ⟨_, h2, h3⟩ := fst_some c l j h
  conv => lhs; rw [h2]
  exact splitL_at c _ _ h3

/-- Digits, letters, identifiers' bytes. -/
def isDig (b : UInt8) : Bool := decide (48 ≤ b.toNat) && decide (b.toNat ≤ 57)

def isId (b : UInt8) : Bool := isDig b || (decide (65 ≤ b.toNat) && decide (b.toNat ≤ 90)) || (decide (97 ≤ b.toNat) && decide (b.toNat ≤ 122)) || b == 45

def digL : List UInt8 := [48, 49, 50, 51, 52, 53, 54, 55, 56, 57]

def idL : List UInt8 := [97, 98, 99, 100, 101, 102, 103, 104, 105, 106, 107, 108, 109, 110, 111, 112, 113, 114, 115, 116, 117, 118, 119, 120, 121, 122, 65, 66, 67, 68, 69, 70, 71, 72, 73, 74, 75, 76, 77, 78, 79, 80, 81, 82, 83, 84, 85, 86, 87, 88, 89, 90, 45, 48, 49, 50, 51, 52, 53, 54, 55, 56, 57]

theorem all_bytes {P : UInt8 → Prop} (h : ∀ n : Fin 256, P (UInt8.ofNat n.val)) (b : UInt8) : P b := by
  have := h ⟨b.toNat, b.toNat_lt⟩
  simpa using this

theorem digL_eq (b : UInt8) : digL.contains b = isDig b := all_bytes (P := fun b => digL.contains b = isDig b) (by decide +kernel) b

theorem idL_eq (b : UInt8) : idL.contains b = isId b := all_bytes (P := fun b => idL.contains b = isId b) (by decide +kernel) b

/-- Valid metadata: each part not empty, of identifiers' bytes. -/
def metaP (p : List UInt8) : Bool := !(p == []) && p.all isId

def metaOk (l : List UInt8) : Bool := (splitL 46 l).all metaP

/-- A number with a leading zero. -/
def zeroP (p : List UInt8) : Bool := p.all isDig && !(p == []) && decide (1 < p.length) && (p.headD 0 == 48)

def preOk (l : List UInt8) : Bool := (splitL 46 l).all (fun p => metaP p && !zeroP p)

end Go.Proofs.YtnncjgoogjookaaDoor.L
