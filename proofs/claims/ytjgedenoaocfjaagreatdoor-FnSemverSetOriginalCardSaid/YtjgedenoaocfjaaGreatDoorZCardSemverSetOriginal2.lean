/- The row and the tied card of FnSemverSetOriginal, out of its printed walk and its plain law. For every input that the statement lets in. -/
import Derived.Test.YtjgedenoaocfjaaGreatDoorZCardSemverSetOriginal0
import Derived.Scope
import Derived.ScopeJumps
namespace Go.Proofs.YtjgedenoaocfjaaGreatDoor.Rxw

open Go

/-- As Q; by a goto to a label: what J says of it. -/
def jumps (J : Nat → Act → World → Prop) (Q : Exit → Act → World → Prop) : Exit → Act → World → Prop
  | .goto l, a, w => J l a w
  | e, a, w => Q e a w

theorem wp_scope_any {P : Program} {a : Act} {w : World} {Q : Exit → Act → World → Prop} {c : Code} (J : Nat → Act → World → Prop) (μ : Nat → Act → World → Nat)
    (first : c.wp P (jumps J Q) a w)
    (pass : ∀ l a w, J l a w → ∃ rest, findLabel c l = some rest ∧ rest.wp P (jumps (fun l' a' w' => J l' a' w' ∧ μ l' a' w' < μ l a w) Q) a w) : (Code.scope c).wp P Q a w := by
  intro b k cs
  have key : ∀ n l a w, μ l a w = n → J l a w → ∃ rest, findLabel c l = some rest ∧ ∃ e a' w', Q e a' w' ∧ Arrives P (lone (b.at a (.code rest :: .inScope c :: k)) cs w) b k cs e a' w' := by
    intro n
    induction n using Nat.strongRecOn with
    | _ n ih =>
      intro l a w hn hJ
      obtain ⟨rest, hf, hp⟩ := pass l a w hJ
      refine ⟨rest, hf, ?_⟩
      obtain ⟨e, a₁, w₁, hq, harr⟩ := hp b (.inScope c :: k) cs
      cases e with
      | normal => exact ⟨.normal, a₁, w₁, hq, Steps.trans harr (.one step_inScope)⟩
      | exit id => exact ⟨.exit id, a₁, w₁, hq, fun k' hk => harr k' (by simp [exitTo, hk])⟩
      | goto l' =>
        obtain ⟨hJ', hlt⟩ := hq
        obtain ⟨rest', hf', e₂, a₂, w₂, hq₂, harr₂⟩ := ih _ (by omega) l' a₁ w₁ rfl hJ'
        exact ⟨e₂, a₂, w₂, hq₂, .of_steps (harr (.code rest' :: .inScope c :: k) (by simp [gotoIn, hf'])) harr₂⟩
      | ret => exact ⟨_, a₁, w₁, hq, harr⟩
      | panic ch => exact ⟨_, a₁, w₁, hq, harr⟩
      | outgrown => exact ⟨_, a₁, w₁, hq, harr⟩
  obtain ⟨e, a₁, w₁, hq, harr⟩ := first b (.inScope c :: k) cs
  cases e with
  | normal => exact ⟨.normal, a₁, w₁, hq, .head step_scope (Steps.trans harr (.one step_inScope))⟩
  | exit id => exact ⟨.exit id, a₁, w₁, hq, fun k' hk => .head step_scope (harr k' (by simp [exitTo, hk]))⟩
  | goto l' =>
    obtain ⟨rest', hf', e₂, a₂, w₂, hq₂, harr₂⟩ := key _ l' a₁ w₁ rfl hq
    exact ⟨e₂, a₂, w₂, hq₂, .of_steps (.head step_scope (harr (.code rest' :: .inScope c :: k) (by simp [gotoIn, hf']))) harr₂⟩
  | ret => exact ⟨_, a₁, w₁, hq, .of_steps (.one step_scope) harr⟩
  | panic ch => exact ⟨_, a₁, w₁, hq, .of_steps (.one step_scope) harr⟩
  | outgrown => exact ⟨_, a₁, w₁, hq, .of_steps (.one step_scope) harr⟩

theorem exists_least (p : Nat → Prop) (h : ∃ n, p n) : ∃ n, p n ∧ ∀ m, p m → n ≤ m := by
  obtain ⟨n, hn⟩ := h
  induction n using Nat.strongRecOn with
  | _ n ih =>
    by_cases h : ∃ m, m < n ∧ p m
    · obtain ⟨m, hm, hp⟩ := h; exact ih m hm hp
    · exact ⟨n, hn, fun m hm => Nat.le_of_not_lt fun hlt => h ⟨m, hlt, hm⟩⟩

open Classical in

/-- The least number of a kind. -/
noncomputable def leastOf (p : Nat → Prop) : Nat := if h : ∃ n, p n then Classical.choose (exists_least p h) else 0

theorem leastOf_spec {p : Nat → Prop} (h : ∃ n, p n) : p (leastOf p) := by
  unfold leastOf
  rw [dif_pos h]
  exact (Classical.choose_spec (exists_least p h)).1

theorem leastOf_le {p : Nat → Prop} {m : Nat} (h : p m) : leastOf p ≤ m := by
  unfold leastOf
  rw [dif_pos ⟨m, h⟩]
  exact (Classical.choose_spec (exists_least p ⟨m, h⟩)).2 m h

theorem wp_weaken {P : Program} {c : Code} {a : Act} {w : World} {Q Q' : Exit → Act → World → Prop} (h : c.wp P Q a w) (hq : ∀ e a w, Q e a w → Q' e a w) : c.wp P Q' a w := fun b k cs => by
  obtain ⟨e, a', w', h1, h2⟩ := h b k cs
  exact ⟨e, a', w', hq e a' w' h1, h2⟩

theorem jumps_mono {J J' : Nat → Act → World → Prop} {Q : Exit → Act → World → Prop} (h : ∀ l a w, J l a w → J' l a w) : ∀ e a w, jumps J Q e a w → jumps J' Q e a w := by
  intro e a w he
  cases e <;> first | exact h _ _ _ he | exact he

theorem wp_skip_seq {P : Program} {c : Code} {a : Act} {w : World} {Q : Exit → Act → World → Prop} (h : c.wp P Q a w) : (Code.skip.seq c).wp P Q a w := wp_seq (wp_skip h)

/-- The same by a measure that the jumps bear: a pass may use what is known of passes of less. -/
theorem wp_scope_idx {P : Program} {a : Act} {w : World} {Q : Exit → Act → World → Prop} {c : Code} (J : Nat → Nat → Act → World → Prop)
    (first : c.wp P (jumps (fun l a w => ∃ m, J m l a w) Q) a w)
    (pass : ∀ n l a w, J n l a w → (∀ m, m < n → ∀ l' rest', findLabel c l' = some (Code.skip.seq rest') → ∀ a' w', J m l' a' w' → rest'.wp P (jumps (fun l'' a'' w'' => ∃ k, k < m ∧ J k l'' a'' w'') Q) a' w') →
      ∃ rest, findLabel c l = some (Code.skip.seq rest) ∧ rest.wp P (jumps (fun l' a' w' => ∃ m, m < n ∧ J m l' a' w') Q) a w) : (Code.scope c).wp P Q a w := by
  have all : ∀ n l a w, J n l a w → ∃ rest, findLabel c l = some (Code.skip.seq rest) ∧ rest.wp P (jumps (fun l' a' w' => ∃ m, m < n ∧ J m l' a' w') Q) a w := by
    intro n
    induction n using Nat.strongRecOn with
    | _ n ih =>
      intro l a w hJ
      refine pass n l a w hJ fun m hm l' rest' hf a' w' hJ' => ?_
      obtain ⟨rest'', hf', hw⟩ := ih m hm l' a' w' hJ'
      rw [hf] at hf'
      cases hf'
      exact hw
  refine wp_scope_any (fun l a w => ∃ m, J m l a w) (fun l a w => leastOf fun m => J m l a w) first fun l a w hJ => ?_
  have hn := leastOf_spec hJ
  obtain ⟨rest, hf, hw⟩ := all _ l a w hn
  exact ⟨_, hf, wp_skip_seq (wp_weaken hw (jumps_mono fun l' a' w' ⟨m, hm, hJ'⟩ => ⟨⟨m, hJ'⟩, Nat.lt_of_le_of_lt (leastOf_le (p := fun m => J m l' a' w') hJ') hm⟩))⟩

end Go.Proofs.YtjgedenoaocfjaaGreatDoor.Rxw
