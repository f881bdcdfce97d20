/- The automaton over a pattern, in plain numbers: its sets of states say what the pattern matches. -/
import Derived.Test.Qxb6601041aStar
namespace Go.Proofs.Qxb6601041a

def closeB (P : Nat → Int) (S : Nat → Bool) : Nat → Bool
  | 0 => S 0
  | k + 1 => S (k + 1) || (closeB P S k && P k == -2)

def rawB (P : Nat → Int) (c : Int) (S : Nat → Bool) : Nat → Bool
  | 0 => S 0 && P 0 == -2
  | k + 1 => (S (k + 1) && P (k + 1) == -2) || (S k && (P k != -2 && fitc (P k) c))

section
variable {A : Nat → Prop} {V : Nat → Int} {n : Nat} {P : Nat → Int}

/-- The states at i. -/
def NSet (A : Nat → Prop) (V : Nat → Int) (n : Nat) (P : Nat → Int) (i k : Nat) : Prop := Ent A V n P k i ∨ (P k = -2 ∧ ∃ q, q ≤ i ∧ Ent A V n P k q)

theorem nset_of_star {i k : Nat} (hk : P k = -2) : NSet A V n P i k ↔ ∃ q, q ≤ i ∧ Ent A V n P k q :=
  ⟨fun h => h.elim (fun h => ⟨i, Nat.le_refl _, h⟩) fun h => h.2, fun h => .inr ⟨hk, h⟩⟩

theorem nset_of_char {i k : Nat} (hk : P k ≠ -2) : NSet A V n P i k ↔ Ent A V n P k i :=
  ⟨fun h => h.elim id fun h => absurd h.1 hk, .inl⟩

theorem next_set {S : Nat → Bool} {i : Nat} (hA : ∀ a, A a → a ≤ i) (hi : i + 1 ≤ n) (hS : ∀ k, S k = true ↔ NSet A V n P i k) : ∀ k, closeB P (rawB P (V i) S) k = true ↔ NSet A V n P (i + 1) k
  | 0 => by
    by_cases h0 : P 0 = -2
    · simp only [closeB, rawB, h0, beq_self_eq_true, Bool.and_true]
      rw [hS, nset_of_star h0, nset_of_star h0]
      constructor
      · rintro ⟨q, h1, h2⟩; exact ⟨q, by omega, h2⟩
      · rintro ⟨q, h1, h2⟩; exact ⟨q, hA q h2.1, h2⟩
    · simp only [closeB, rawB]
      rw [nset_of_char h0]
      constructor
      · intro h; simp [h0] at h
      · intro h; have := hA _ h.1; omega
  | k + 1 => by
    have ih := next_set hA hi hS k
    have e1 : (closeB P (rawB P (V i) S) (k + 1) = true) ↔ ((P (k + 1) = -2 ∧ S (k + 1) = true) ∨ (P k ≠ -2 ∧ fitc (P k) (V i) = true ∧ S k = true)) ∨ (P k = -2 ∧ closeB P (rawB P (V i) S) k = true) := by
      simp only [closeB, rawB, Bool.or_eq_true, Bool.and_eq_true, beq_iff_eq, bne_iff_ne, ne_eq]
      constructor
      · rintro ((⟨a, b⟩ | ⟨a, b, c⟩) | ⟨a, b⟩)
        · exact .inl (.inl ⟨b, a⟩)
        · exact .inl (.inr ⟨b, c, a⟩)
        · exact .inr ⟨b, a⟩
      · rintro ((⟨a, b⟩ | ⟨a, b, c⟩) | ⟨a, b⟩)
        · exact .inl (.inl ⟨b, a⟩)
        · exact .inl (.inr ⟨c, a, b⟩)
        · exact .inr ⟨b, a⟩
    have e2 : Ent A V n P (k + 1) (i + 1) ↔ (P k ≠ -2 ∧ fitc (P k) (V i) = true ∧ S k = true) ∨ (P k = -2 ∧ closeB P (rawB P (V i) S) k = true) := by
      by_cases hk : P k = -2
      · rw [ent_star hk, ih, nset_of_star hk]
        simp [hk, hi]
      · rw [ent_char hk, hS, nset_of_char hk]
        simp only [hk, ne_eq, not_false_eq_true, true_and, false_and, or_false]
        constructor
        · rintro ⟨_, q, h1, h2, h3⟩
          have : q = i := by omega
          subst this
          exact ⟨h2, h3⟩
        · rintro ⟨h2, h3⟩; exact ⟨hi, i, rfl, h2, h3⟩
    rw [e1]
    unfold NSet
    rw [e2]
    constructor
    · rintro ((⟨a, b⟩ | h) | h)
      · obtain ⟨q, h1, h2⟩ := (nset_of_star a).1 ((hS _).1 b)
        exact .inr ⟨a, q, by omega, h2⟩
      · exact .inl (.inl h)
      · exact .inl (.inr h)
    · rintro (h | ⟨a, q, h1, h2⟩)
      · rcases h with h | h
        · exact .inl (.inr h)
        · exact .inr h
      · by_cases hq : q = i + 1
        · subst hq
          rcases e2.1 h2 with h | h
          · exact .inl (.inr h)
          · exact .inr h
        · exact .inl (.inl ⟨a, (hS _).2 ((nset_of_star a).2 ⟨q, by omega, h2⟩)⟩)

theorem ent_mono {A' : Nat → Prop} (h : ∀ a, A a → A' a) : ∀ {k p : Nat}, Ent A V n P k p → Ent A' V n P k p
  | 0, _, hp => ⟨h _ hp.1, hp.2⟩
  | _ + 1, _, ⟨h1, .inl ⟨h2, q, h3, h4⟩⟩ => ⟨h1, .inl ⟨h2, q, h3, ent_mono h h4⟩⟩
  | _ + 1, _, ⟨h1, .inr ⟨h2, q, h3, h5, h4⟩⟩ => ⟨h1, .inr ⟨h2, q, h3, h5, ent_mono h h4⟩⟩

/-- Only beginnings up to p count. -/
theorem ent_upto {A' : Nat → Prop} : ∀ {k p : Nat}, (∀ a, a ≤ p → A a → A' a) → Ent A V n P k p → Ent A' V n P k p
  | 0, p, h, hp => ⟨h p (Nat.le_refl _) hp.1, hp.2⟩
  | _ + 1, _, h, ⟨h1, .inl ⟨h2, q, h3, h4⟩⟩ => ⟨h1, .inl ⟨h2, q, h3, ent_upto (fun a ha => h a (by omega)) h4⟩⟩
  | _ + 1, _, h, ⟨h1, .inr ⟨h2, q, h3, h5, h4⟩⟩ => ⟨h1, .inr ⟨h2, q, h3, h5, ent_upto (fun a ha => h a (by omega)) h4⟩⟩

theorem nset_upto {A' : Nat → Prop} {i k : Nat} (h : ∀ a, a ≤ i → (A a ↔ A' a)) : NSet A V n P i k ↔ NSet A' V n P i k := by
  constructor
  · rintro (h1 | ⟨h2, q, h3, h4⟩)
    · exact .inl (ent_upto (fun a ha => (h a ha).1) h1)
    · exact .inr ⟨h2, q, h3, ent_upto (fun a ha => (h a (by omega)).1) h4⟩
  · rintro (h1 | ⟨h2, q, h3, h4⟩)
    · exact .inl (ent_upto (fun a ha => (h a ha).2) h1)
    · exact .inr ⟨h2, q, h3, ent_upto (fun a ha => (h a (by omega)).2) h4⟩

/-- A beginning at i is laid in. -/
theorem start_set {T : Nat → Bool} {i : Nat} (hi : i ≤ n) (hA : ∀ a, A a → a < i) (hT : ∀ k, T k = true ↔ NSet A V n P i k) : ∀ k, closeB P (fun k => k == 0 || T k) k = true ↔ NSet (fun a => A a ∨ a = i) V n P i k
  | 0 => by
    simp only [closeB, beq_self_eq_true, Bool.true_or, true_iff]
    exact .inl ⟨.inr rfl, hi⟩
  | k + 1 => by
    have ih := start_set hi hA hT k
    have e1 : (closeB P (fun k => k == 0 || T k) (k + 1) = true) ↔ T (k + 1) = true ∨ (P k = -2 ∧ closeB P (fun k => k == 0 || T k) k = true) := by
      simp only [closeB, Bool.or_eq_true, Bool.and_eq_true, beq_iff_eq]
      constructor
      · rintro ((h | h) | h)
        · omega
        · exact .inl h
        · exact .inr ⟨h.2, h.1⟩
      · rintro (h | h)
        · exact .inl (.inr h)
        · exact .inr ⟨h.2, h.1⟩
    have lt : ∀ {k p}, p < i → Ent (fun a => A a ∨ a = i) V n P k p → Ent A V n P k p := fun hp h => ent_upto (fun a ha h => h.elim id fun h => by omega) h
    have at_i : Ent (fun a => A a ∨ a = i) V n P (k + 1) i → T (k + 1) = true ∨ (P k = -2 ∧ closeB P (fun k => k == 0 || T k) k = true) := fun h => by
      by_cases hk : P k = -2
      · exact .inr ⟨hk, ih.2 ((nset_of_star hk).2 ((ent_star hk).1 h).2)⟩
      · obtain ⟨h1, q, h2, h3, h4⟩ := (ent_char hk).1 h
        exact .inl ((hT _).2 (.inl ((ent_char hk).2 ⟨h1, q, h2, h3, lt (by omega) h4⟩)))
    rw [e1]
    constructor
    · rintro (h | ⟨h1, h2⟩)
      · rcases (hT _).1 h with h | ⟨a, q, b, c⟩
        · exact .inl (ent_mono (fun a => .inl) h)
        · exact .inr ⟨a, q, b, ent_mono (fun a => .inl) c⟩
      · exact .inl ((ent_star h1).2 ⟨hi, (nset_of_star h1).1 (ih.1 h2)⟩)
    · rintro (h | ⟨a, q, b, c⟩)
      · exact at_i h
      · by_cases hq : q = i
        · subst hq; exact at_i c
        · exact .inl ((hT _).2 (.inr ⟨a, q, b, lt (by omega) c⟩))

theorem empty_set (k : Nat) : (false = true) ↔ NSet (fun _ => False) V n P 0 k := by
  constructor
  · intro h; cases h
  · have no : ∀ {k p}, ¬ Ent (fun _ => False) V n P k p := fun {k p} => by
      induction k generalizing p with
      | zero => exact fun h => h.1
      | succ k ih =>
        rintro ⟨_, ⟨_, q, _, h⟩ | ⟨_, q, _, _, h⟩⟩
        · exact ih h
        · exact ih h
    rintro (h | ⟨_, q, _, h⟩)
    · exact absurd h no
    · exact absurd h no
end
end Go.Proofs.Qxb6601041a
