/- The row and the tied card of FnSemverSetOriginal, out of its printed walk and its plain law. For every input that the statement lets in. -/
import Derived.Test.YtjgedenoaocfjaaGreatDoorZCardSemverSetOriginal0
import Derived.Test.YtjgedenoaocfjaaGreatDoorZCardSemverSetOriginal4
namespace Go.Proofs.YtjgedenoaocfjaaGreatDoor.L
end Go.Proofs.YtjgedenoaocfjaaGreatDoor.L
namespace Go.Proofs.YtjgedenoaocfjaaGreatDoor.Rx

open Go.Proofs.YtjgedenoaocfjaaGreatDoor.L

/-- The list does not begin with a letter of the class. -/
def Off (C : UInt8 → Bool) (r : List UInt8) : Prop := ∀ b u, r = b :: u → C b = false

theorem off_nil {C} : Off C [] := fun _ _ h => by cases h

theorem off_cons {C b u} (h : C b = false) : Off C (b :: u) := fun _ _ e => by cases e; exact h

theorem drop_app {C : UInt8 → Bool} : ∀ (p r : List UInt8), (∀ x ∈ p, C x = true) → Off C r → (p ++ r).dropWhile C = r
  | [], [], _, _ => rfl
  | [], b :: u, _, h => by rw [List.nil_append, List.dropWhile_cons, if_neg (by rw [h b u rfl]; decide)]
  | a :: p, r, hp, h => by
    rw [List.cons_append, List.dropWhile_cons, if_pos (hp a (List.mem_cons_self ..))]
    exact drop_app p r (fun x hx => hp x (List.mem_cons_of_mem _ hx)) h

theorem take_app {C : UInt8 → Bool} : ∀ (p r : List UInt8), (∀ x ∈ p, C x = true) → Off C r → (p ++ r).takeWhile C = p
  | [], [], _, _ => rfl
  | [], b :: u, _, h => by rw [List.nil_append, List.takeWhile_cons, if_neg (by rw [h b u rfl]; decide)]
  | a :: p, r, hp, h => by
    rw [List.cons_append, List.takeWhile_cons, if_pos (hp a (List.mem_cons_self ..))]
    rw [take_app p r (fun x hx => hp x (List.mem_cons_of_mem _ hx)) h]

def dots (ps : List (List UInt8)) : List UInt8 := ps.flatMap fun p => 46 :: p

theorem join_split : ∀ (l : List UInt8) (p : List UInt8) (ps : List (List UInt8)), splitL 46 l = p :: ps → l = p ++ dots ps
  | [], p, ps, h => by simp [splitL] at h; obtain ⟨rfl, rfl⟩ := h; rfl
  | b :: t, p, ps, h => by
    obtain ⟨q, qs, hq⟩ : ∃ q qs, splitL 46 t = q :: qs := by
      cases e : splitL 46 t with
      | nil => exact absurd e (splitL_ne 46 t)
      | cons q qs => exact ⟨q, qs, rfl⟩
    have ih := join_split t q qs hq
    unfold splitL at h
    rw [hq] at h
    split at h
    · rename_i hb
      cases h
      rw [hb]
      show _ = [] ++ dots (q :: qs)
      rw [ih]
      simp [dots]
    · cases h
      rw [ih]
      rfl

theorem isId_idB (b : UInt8) : isId b = idB b := all_bytes (P := fun b => isId b = idB b) (by decide +kernel) b

theorem isDig_digB (b : UInt8) : isDig b = digB b := all_bytes (P := fun b => isDig b = digB b) (by decide +kernel) b

theorem off_dots_id (ps : List (List UInt8)) (r : List UInt8) (h : Off idB r) : Off idB (dots ps ++ r) := by
  cases ps with
  | nil => exact h
  | cons p ps => exact off_cons (by decide)

theorem partsEnd_dots : ∀ (ps : List (List UInt8)) (m : Nat) (r : List UInt8), (∀ p ∈ ps, p ≠ [] ∧ ∀ x ∈ p, idB x = true) → Off idB r → Off dotB r → ps.length ≤ m → partsEnd dotB idB m (dots ps ++ r) = r
  | [], 0, r, _, _, _, _ => rfl
  | [], m + 1, r, _, _, h, _ => by
    show partsEnd dotB idB (m + 1) r = r
    unfold partsEnd
    have : markRest dotB idB r = none := by
      unfold markRest
      cases r with
      | nil => rfl
      | cons b u => dsimp only; rw [if_neg (by rw [h b u rfl]; simp)]
    rw [this]
  | p :: ps, 0, _, _, _, _, hm => by simp at hm
  | p :: ps, m + 1, r, hp, hi, hd, hm => by
    have ih := partsEnd_dots ps m r (fun q hq => hp q (List.mem_cons_of_mem _ hq)) hi hd (by simpa using hm)
    obtain ⟨hne, hall⟩ := hp p (List.mem_cons_self ..)
    have e : dots (p :: ps) ++ r = 46 :: (p ++ (dots ps ++ r)) := by simp [dots]
    rw [e]
    unfold partsEnd
    have : markRest dotB idB (46 :: (p ++ (dots ps ++ r))) = some (dots ps ++ r) := by
      unfold markRest
      dsimp only
      have h1 := take_app p (dots ps ++ r) hall (off_dots_id ps r hi)
      have h2 := drop_app p (dots ps ++ r) hall (off_dots_id ps r hi)
      rw [h2]
      rw [if_pos]
      first | exact ⟨by decide, by rw [h1]; exact hne⟩ | (simp [dotB]; rw [h1]; exact hne) | skip
    rw [this]
    exact ih

theorem dots_len : ∀ ps : List (List UInt8), ps.length ≤ (dots ps).length
  | [] => Nat.le_refl _
  | p :: ps => by have := dots_len ps; simp [dots] at *; omega

/-- Identifiers with dots between them, as far as they go. -/
theorem idents_of (p r : List UInt8) (m : Nat) (h : metaOk p = true) (hi : Off idB r) (hd : Off dotB r) (hm : p.length ≤ m) : (p ++ r).takeWhile idB ≠ [] ∧ identsEnd m (p ++ r) = r := by
  obtain ⟨q, qs, hq⟩ : ∃ q qs, splitL 46 p = q :: qs := by
    cases e : splitL 46 p with
    | nil => exact absurd e (splitL_ne 46 p)
    | cons q qs => exact ⟨q, qs, rfl⟩
  have hj := join_split p q qs hq
  unfold metaOk at h
  rw [hq, List.all_cons, Bool.and_eq_true] at h
  have part : ∀ s, metaP s = true → s ≠ [] ∧ ∀ x ∈ s, idB x = true := by
    intro s hs
    unfold metaP at hs
    rw [Bool.and_eq_true] at hs
    exact ⟨by simpa using hs.1, fun x hx => by rw [← isId_idB]; exact List.all_eq_true.1 hs.2 x hx⟩
  obtain ⟨h1, h2⟩ := part q h.1
  have h3 := off_dots_id qs r hi
  have hl := dots_len qs
  have hpl : p.length = q.length + (dots qs).length := by rw [hj, List.length_append]
  rw [hj, List.append_assoc]
  refine ⟨by rw [take_app q _ h2 h3]; exact h1, ?_⟩
  unfold identsEnd
  rw [drop_app q _ h2 h3]
  exact partsEnd_dots qs m r (fun s hs => part s (List.all_eq_true.1 h.2 s hs)) hi hd (by omega)

/-- A part behind a mark, or none. -/
def Tail (c : UInt8) (w p : List UInt8) : Prop := (w = [] ∧ p = []) ∨ (w = c :: p ∧ metaOk p = true)

theorem off_tail {C : UInt8 → Bool} {c : UInt8} {w p r} (h : Tail c w p) (hc : C c = false) (hr : Off C r) : Off C (w ++ r) := by
  rcases h with ⟨rfl, _⟩ | ⟨rfl, _⟩
  · exact hr
  · exact off_cons hc

theorem meta_of {gw g : List UInt8} {m : Nat} (h : Tail 43 gw g) (hm : gw.length ≤ m) : metaG m gw = some (g, []) := by
  rcases h with ⟨rfl, rfl⟩ | ⟨rfl, hg⟩
  · rfl
  · obtain ⟨h1, h2⟩ := idents_of g [] m hg off_nil off_nil (by simp at hm; omega)
    rw [List.append_nil] at h1 h2
    unfold metaG
    dsimp only
    rw [if_pos (by decide), if_pos h1, h2]
    simp

theorem tail_of {pw p gw g : List UInt8} {m : Nat} (h : Tail 45 pw p) (hg : Tail 43 gw g) (hm : (pw ++ gw).length ≤ m) : tailG m (pw ++ gw) = some (pw, p, g, []) := by
  have hmm : gw.length ≤ m := by rw [List.length_append] at hm; omega
  have hM := meta_of hg hmm
  unfold tailG
  have hP : preG m (pw ++ gw) = some (pw, p, gw) := by
    rcases h with ⟨rfl, rfl⟩ | ⟨rfl, hp⟩
    · rw [List.nil_append]
      rcases hg with ⟨rfl, rfl⟩ | ⟨rfl, _⟩
      · rfl
      · unfold preG
        dsimp only
        rw [if_neg (by decide)]
    · obtain ⟨h1, h2⟩ := idents_of p gw m hp (by have := off_tail (C := idB) (r := []) hg (by decide) off_nil; rwa [List.append_nil] at this) (by have := off_tail (C := dotB) (r := []) hg (by decide) off_nil; rwa [List.append_nil] at this) (by simp at hm; omega)
      unfold preG
      rw [List.cons_append]
      dsimp only
      rw [if_pos (by decide), if_pos h1, h2]
      congr 2
      · rw [List.length_cons, List.length_append, show p.length + gw.length + 1 - gw.length = p.length + 1 by omega, List.take_succ_cons, List.take_left]
      · rw [List.length_append, show p.length + gw.length - gw.length = p.length by omega, List.take_left]
  rw [hP]
  dsimp only
  rw [hM]
  rfl

/-- A number behind a dot, or none. -/
def Dotted (w n : List UInt8) : Prop := (w = [] ∧ n = []) ∨ (w = 46 :: n ∧ n ≠ [] ∧ ∀ x ∈ n, digB x = true)

theorem off_dotted {C : UInt8 → Bool} {w n r} (h : Dotted w n) (hc : C 46 = false) (hr : Off C r) : Off C (w ++ r) := by
  rcases h with ⟨rfl, _⟩ | ⟨rfl, _⟩
  · exact hr
  · exact off_cons hc

theorem part_of {w n r : List UInt8} (h : Dotted w n) (hr : Off digB r) (hd : w = [] → Off dotB r) : partG digB (w ++ r) = (w, r) := by
  unfold partG
  rcases h with ⟨rfl, rfl⟩ | ⟨rfl, hn, hall⟩
  · rw [List.nil_append]
    have : markRest dotB digB r = none := by
      unfold markRest
      cases r with
      | nil => rfl
      | cons b u => dsimp only; rw [if_neg (by rw [hd rfl b u rfl]; simp)]
    rw [this]
  · have h1 := take_app n r hall hr
    have h2 := drop_app n r hall hr
    have : markRest dotB digB (46 :: n ++ r) = some r := by
      rw [List.cons_append]
      unfold markRest
      dsimp only
      rw [h2, if_pos]
      first | exact ⟨by decide, by rw [h1]; exact hn⟩ | (simp [dotB]; rw [h1]; exact hn) | skip
    rw [this]
    dsimp only
    congr 1
    rw [List.length_append, show (46 :: n).length + r.length - r.length = (46 :: n).length by omega, List.take_left]

/-- A text put together of the parts of a version. -/
theorem ver_of {v a bw b cw c pw p gw g : List UInt8} {m : Nat} (hv : v = [] ∨ v = [118]) (ha : a ≠ [] ∧ ∀ x ∈ a, digB x = true) (hb : Dotted bw b) (hc : Dotted cw c) (hbc : bw = [] → cw = []) (hp : Tail 45 pw p) (hg : Tail 43 gw g)
    (hm : (pw ++ gw).length ≤ m) : verG digB m (v ++ (a ++ (bw ++ (cw ++ (pw ++ gw))))) = some (⟨a, bw, cw, pw, p, g⟩, []) := by
  have o1 : Off digB (pw ++ gw) := off_tail hp (by decide) (by have := off_tail (C := digB) (r := []) hg (by decide) off_nil; rwa [List.append_nil] at this)
  have o2 : Off dotB (pw ++ gw) := off_tail hp (by decide) (by have := off_tail (C := dotB) (r := []) hg (by decide) off_nil; rwa [List.append_nil] at this)
  have o3 : Off digB (cw ++ (pw ++ gw)) := off_dotted hc (by decide) o1
  have o4 : Off digB (bw ++ (cw ++ (pw ++ gw))) := off_dotted hb (by decide) o3
  have hN : numsG digB m (a ++ (bw ++ (cw ++ (pw ++ gw)))) = some (⟨a, bw, cw, pw, p, g⟩, []) := by
    unfold numsG
    rw [take_app a _ ha.2 o4, drop_app a _ ha.2 o4, if_neg ha.1]
    rw [part_of hb o3 (fun h => by rw [hbc h, List.nil_append]; exact o2)]
    dsimp only
    rw [part_of hc o1 (fun _ => o2)]
    dsimp only
    rw [tail_of hp hg hm]
    rfl
  unfold verG
  rcases hv with rfl | rfl
  · rw [List.nil_append, if_neg ?_, hN]
    obtain ⟨x, y, rfl⟩ : ∃ x y, a = x :: y := by cases a with | nil => exact absurd rfl ha.1 | cons x y => exact ⟨x, y, rfl⟩
    have := ha.2 x (List.mem_cons_self ..)
    unfold hdB
    intro h
    simp at h
    have := dig_v x h
    simp_all
  · rw [if_pos (by rfl)]
    exact hN

end Go.Proofs.YtjgedenoaocfjaaGreatDoor.Rx
