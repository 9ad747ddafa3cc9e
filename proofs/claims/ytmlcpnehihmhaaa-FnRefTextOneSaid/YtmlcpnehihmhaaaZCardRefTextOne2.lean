/- The row of FnRefTextOne, out of its printed walk and its plain law. For every input that the statement lets in. -/
import Derived.Laws.Strings
namespace Go.Proofs.Ytmlcpnehihmhaaa.L

abbrev bl (s : ByteArray) : List UInt8 := s.data.toList

def ofL (l : List UInt8) : ByteArray := ⟨l.toArray⟩

@[simp] theorem bl_ofL (l : List UInt8) : bl (ofL l) = l := rfl

@[simp] theorem ofL_bl (s : ByteArray) : ofL (bl s) = s := rfl

theorem bl_len (s : ByteArray) : (bl s).length = s.size := rfl

theorem bl_inj {s t : ByteArray} (h : bl s = bl t) : s = t := by rw [← ofL_bl s, h, ofL_bl]

theorem size_ofL (l : List UInt8) : (ofL l).size = l.length := rfl

theorem bl_extract (s : ByteArray) (a b : Nat) : bl (s.extract a b) = ((bl s).drop a).take (b - a) := by
  unfold bl
  rw [ByteArray.data_extract, Array.toList_extract, List.extract_eq_take_drop]

theorem extract_ofL (s : ByteArray) (a b : Nat) : s.extract a b = ofL (((bl s).drop a).take (b - a)) := bl_inj (by rw [bl_extract, bl_ofL])

theorem extract_end (s : ByteArray) (a : Nat) : s.extract a s.size = ofL ((bl s).drop a) := by
  rw [extract_ofL, List.take_of_length_le (by rw [List.length_drop, bl_len]; omega)]

theorem extract_head (s : ByteArray) (b : Nat) : s.extract 0 b = ofL ((bl s).take b) := by
  rw [extract_ofL, List.drop_zero, Nat.sub_zero]

/-- The parts of l between the bytes c. -/
def splitL (c : UInt8) : List UInt8 → List (List UInt8)
  | [] => [[]]
  | x :: xs => if x = c then [] :: splitL c xs else match splitL c xs with
    | [] => [[x]]
    | h :: t => (x :: h) :: t

theorem splitL_len (c : UInt8) : ∀ l, (splitL c l).length ≤ l.length + 1
  | [] => by simp [splitL]
  | x :: xs => by
    have ih := splitL_len c xs
    unfold splitL
    split
    · simp; omega
    · split
      · simp
      · rename_i h t e; rw [e] at ih; simp at ih ⊢; omega

theorem splitL_none (c : UInt8) : ∀ l, (∀ x ∈ l, x ≠ c) → splitL c l = [l]
  | [], _ => rfl
  | x :: xs, h => by
    have hx := h x (by simp)
    have ih := splitL_none c xs (fun y hy => h y (by simp [hy]))
    unfold splitL
    rw [if_neg hx, ih]

theorem splitL_at (c : UInt8) : ∀ (a b : List UInt8), (∀ x ∈ a, x ≠ c) → splitL c (a ++ c :: b) = a :: splitL c b
  | [], b, _ => by simp [splitL]
  | x :: xs, b, h => by
    have hx := h x (by simp)
    have ih := splitL_at c xs b (fun y hy => h y (by simp [hy]))
    rw [List.cons_append, splitL, if_neg hx, ih]

/-- The place of the first byte c. -/
def fst (c : UInt8) : List UInt8 → Option Nat
  | [] => none
  | x :: xs => if x = c then some 0 else (fst c xs).map (· + 1)

theorem fst_none (c : UInt8) : ∀ l, fst c l = none → ∀ x ∈ l, x ≠ c
  | [], _ => by simp
  | x :: xs, h => by
    unfold fst at h
    split at h
    · cases h
    · rename_i hx
      have ih := fst_none c xs (by cases e : fst c xs <;> simp [e] at h ⊢)
      intro y hy
      rcases List.mem_cons.1 hy with rfl | hy
      · exact hx
      · exact ih y hy

theorem fst_some (c : UInt8) : ∀ l j, fst c l = some j → j < l.length ∧ l = l.take j ++ c :: l.drop (j + 1) ∧ ∀ x ∈ l.take j, x ≠ c
  | [], j, h => by simp [fst] at h
  | x :: xs, j, h => by
    unfold fst at h
    split at h
    · rename_i hx; cases h; simp [hx]
    · rename_i hx
      cases e : fst c xs with
      | none => simp [e] at h
      | some i =>
        rw [e] at h; simp at h; subst h
        obtain ⟨h1, h2, h3⟩ := fst_some c xs i e
        refine ⟨by simp; omega, ?_, ?_⟩
        · simp only [List.take_succ_cons, List.drop_succ_cons, List.cons_append]; rw [← h2]
        · intro y hy
          rw [List.take_succ_cons] at hy
          rcases List.mem_cons.1 hy with rfl | hy
          · exact hx
          · exact h3 y hy

theorem splitL_fst_none (c : UInt8) (l : List UInt8) (h : fst c l = none) : splitL c l = [l] := splitL_none c l (fst_none c l h)

theorem splitL_fst_some (c : UInt8) (l : List UInt8) (j : Nat) (h : fst c l = some j) : splitL c l = l.take j :: splitL c (l.drop (j + 1)) := by
  obtain ⟨_, h2, h3⟩ := fst_some c l j h
  conv => lhs; rw [h2]
  exact splitL_at c _ _ h3

end Go.Proofs.Ytmlcpnehihmhaaa.L
