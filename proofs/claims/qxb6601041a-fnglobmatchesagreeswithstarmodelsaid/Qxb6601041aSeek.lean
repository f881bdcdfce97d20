/- The search of a run in plain numbers: the bits of the state, and what they say. -/
import Derived.Test.Qxb6601041aPlain
namespace Go.Proofs.Qxb6601041a

/-- A character of a run fits a character of the value. -/
def fitc (c v : Int) : Bool := c == -1 || c == v

section
variable {m n fr : Nat} {C V : Nat → Int} {ok okE : Nat → Bool}

/-- The run fits at s, word edges and all. -/
def FitAt (m n fr : Nat) (C V : Nat → Int) (ok okE : Nat → Bool) (s : Nat) : Prop :=
  fr ≤ s ∧ s + m ≤ n ∧ ok s = true ∧ okE (s + m) = true ∧ ∀ k, k < m → fitc (C k) (V (s + k)) = true

/-- The first p + 1 characters of the run fit the p + 1 characters ahead of e. -/
def Pe (m n fr : Nat) (C V : Nat → Int) (ok : Nat → Bool) (e p : Nat) : Prop :=
  p < m ∧ fr + (p + 1) ≤ e ∧ e ≤ n ∧ ok (e - (p + 1)) = true ∧ ∀ k, k < p + 1 → fitc (C k) (V (e - (p + 1) + k)) = true

/-- No fit ends at j or ahead of it. -/
def NoFit (m n fr : Nat) (C V : Nat → Int) (ok okE : Nat → Bool) (j : Nat) : Prop := ∀ s, FitAt m n fr C V ok okE s → j < s + m

theorem pe_start (p : Nat) : ¬ Pe m n fr C V ok fr p := fun h => by have := h.2.1; omega

theorem nofit_start (hm : 0 < m) : NoFit m n fr C V ok okE fr := fun s h => by have := h.1; omega

theorem nofit_end {j : Nat} (h : NoFit m n fr C V ok okE j) (hj : n ≤ j) (s : Nat) : ¬ FitAt m n fr C V ok okE s := fun hs => by have h1 := h s hs; have h2 := hs.2.1; omega

/-- A fit that has begun ahead of e and not ended is seen in the bits. -/
theorem pe_of_fit {s e : Nat} (h : FitAt m n fr C V ok okE s) (h1 : s < e) (h2 : e ≤ s + m) : Pe m n fr C V ok e (e - s - 1) := by
  obtain ⟨a, b, c, _, d⟩ := h
  have e1 : e - (e - s - 1 + 1) = s := by omega
  refine ⟨by omega, by omega, by omega, by rw [e1]; exact c, fun k hk => ?_⟩
  rw [e1]
  exact d k (by omega)

theorem pe_back {e e' p : Nat} (h : Pe m n fr C V ok e' p) (h1 : e' - (p + 1) < e) (h2 : e ≤ e') : Pe m n fr C V ok e (e - (e' - (p + 1)) - 1) := by
  obtain ⟨a, b, c, d, f⟩ := h
  have e1 : e - (e - (e' - (p + 1)) - 1 + 1) = e' - (p + 1) := by omega
  refine ⟨by omega, by omega, by omega, by rw [e1]; exact d, fun k hk => ?_⟩
  rw [e1]
  exact f k (by omega)

theorem skip_pe {j j' : Nat} (h : ∀ p, ¬ Pe m n fr C V ok j p) (hj : j ≤ j') (hl : ∀ t, j ≤ t → t < j' → fitc (C 0) (V t) = false) : ∀ p, ¬ Pe m n fr C V ok j' p := by
  intro p hp
  by_cases hs : j' - (p + 1) < j
  · exact h _ (pe_back hp hs hj)
  · have h1 := hp.2.2.2.2 0 (by omega)
    have h2 := hl (j' - (p + 1)) (by omega) (by have := hp.2.1; omega)
    rw [Nat.add_zero] at h1
    rw [h1] at h2
    cases h2

theorem skip_nofit {j j' : Nat} (hm : 0 < m) (h : ∀ p, ¬ Pe m n fr C V ok j p) (hn : NoFit m n fr C V ok okE j) (hl : ∀ t, j ≤ t → t < j' → fitc (C 0) (V t) = false) : NoFit m n fr C V ok okE j' := by
  intro s hs
  have h1 := hn s hs
  by_cases h2 : s < j
  · exact absurd (pe_of_fit hs h2 (by omega)) (h _)
  · by_cases h3 : s < j'
    · have h4 := hs.2.2.2.2 0 hm
      have h5 := hl s (by omega) h3
      rw [Nat.add_zero] at h4
      rw [h4] at h5
      cases h5
    · omega

theorem pe_step {j : Nat} (hj : j < n) (hf : fr ≤ j) (hm : 0 < m) (p : Nat) : Pe m n fr C V ok (j + 1) p ↔ (if p = 0 then ok j = true else Pe m n fr C V ok j (p - 1)) ∧ (p < m ∧ fitc (C p) (V j) = true) := by
  by_cases hp : p = 0
  · subst hp
    rw [if_pos rfl]
    constructor
    · rintro ⟨_, _, _, h3, h4⟩
      refine ⟨by simpa using h3, hm, ?_⟩
      simpa using h4 0 (by omega)
    · rintro ⟨h1, _, h2⟩
      refine ⟨hm, by omega, by omega, by simpa using h1, fun k hk => ?_⟩
      have : k = 0 := by omega
      subst this
      simpa using h2
  · rw [if_neg hp]
    constructor
    · rintro ⟨h0, h1, h2, h3, h4⟩
      have e1 : j + 1 - (p + 1) = j - (p - 1 + 1) := by omega
      refine ⟨⟨by omega, by omega, by omega, by rw [← e1]; exact h3, fun k hk => by rw [← e1]; exact h4 k (by omega)⟩, h0, ?_⟩
      have := h4 p (by omega)
      rwa [show j + 1 - (p + 1) + p = j by omega] at this
    · rintro ⟨⟨h0, h1, h2, h3, h4⟩, h5, h6⟩
      have e1 : j + 1 - (p + 1) = j - (p - 1 + 1) := by omega
      refine ⟨h5, by omega, by omega, by rw [e1]; exact h3, fun k hk => ?_⟩
      by_cases hkp : k = p
      · subst hkp
        rwa [show j + 1 - (k + 1) + k = j by omega]
      · rw [e1]; exact h4 k (by omega)

theorem hit {j : Nat} (hm : 0 < m) (hn : NoFit m n fr C V ok okE j) (hp : Pe m n fr C V ok (j + 1) (m - 1)) (he : okE (j + 1) = true) :
    m ≤ j + 1 ∧ FitAt m n fr C V ok okE (j + 1 - m) ∧ ∀ s, FitAt m n fr C V ok okE s → j + 1 - m ≤ s := by
  obtain ⟨h0, h1, h2, h3, h4⟩ := hp
  have e1 : m - 1 + 1 = m := by omega
  rw [e1] at h1 h3 h4
  refine ⟨by omega, ⟨by omega, by omega, h3, by rw [show j + 1 - m + m = j + 1 by omega]; exact he, h4⟩, fun s hs => ?_⟩
  have := hn s hs
  omega

theorem miss {j : Nat} (hm : 0 < m) (hn : NoFit m n fr C V ok okE j) (hp : ¬ (Pe m n fr C V ok (j + 1) (m - 1) ∧ okE (j + 1) = true)) : NoFit m n fr C V ok okE (j + 1) := by
  intro s hs
  have h1 := hn s hs
  by_cases h2 : s + m = j + 1
  · refine absurd ⟨?_, ?_⟩ hp
    · have := pe_of_fit hs (e := j + 1) (by omega) (by omega)
      rwa [show j + 1 - s - 1 = m - 1 by omega] at this
    · rw [← h2]; exact hs.2.2.2.1
  · omega
end

/-! ### Words of 64 bits -/
def Bits (W : Nat) (S : Nat → Nat) (P : Nat → Prop) : Prop := ∀ i, i < W → S i < 2 ^ 64 ∧ ∀ b, b < 64 → ((S i).testBit b = true ↔ P (64 * i + b))

def carryW (c0 : Nat) (S : Nat → Nat) (i : Nat) : Nat := if i = 0 then c0 else S (i - 1) / 2 ^ 63
def stepW (x c mk : Nat) : Nat := (x * 2 % 2 ^ 64 ||| c) &&& mk

theorem testBit_one' (c b : Nat) (hc : c ≤ 1) : c.testBit b = (decide (b = 0) && decide (c = 1)) := by
  rcases Nat.lt_or_ge c 1 with h | h
  · have : c = 0 := by omega
    subst this
    simp
  · have : c = 1 := by omega
    subst this
    by_cases hb : b = 0
    · subst hb; decide
    · have : (1 : Nat).testBit b = false := Nat.testBit_lt_two_pow (by calc 1 < 2 ^ 1 := by decide
        _ ≤ 2 ^ b := Nat.pow_le_pow_right (by omega) (by omega))
      rw [this]; simp [hb]

theorem testBit_dbl (x b : Nat) (hb : b < 64) : (x * 2 % 2 ^ 64).testBit b = (decide (1 ≤ b) && x.testBit (b - 1)) := by
  rw [Nat.testBit_mod_two_pow, show x * 2 = x <<< 1 by rw [Nat.shiftLeft_eq], Nat.testBit_shiftLeft]
  simp [hb]

theorem stepW_lt (x c mk : Nat) (h : mk < 2 ^ 64) : stepW x c mk < 2 ^ 64 := Nat.and_lt_two_pow _ h

theorem top63 (x : Nat) (hx : x < 2 ^ 64) : x / 2 ^ 63 ≤ 1 ∧ (x / 2 ^ 63 = 1 ↔ x.testBit 63 = true) := by
  have h1 : x / 2 ^ 63 < 2 := (Nat.div_lt_iff_lt_mul (by decide)).2 (by omega)
  refine ⟨by omega, ?_⟩
  rw [Nat.testBit_eq_decide_div_mod_eq]
  simp only [decide_eq_true_eq]
  omega

theorem step_bits {W c0 : Nat} {S Mk : Nat → Nat} {P Q : Nat → Prop} (hS : Bits W S P) (hM : Bits W Mk Q) (hc : c0 ≤ 1) :
    Bits W (fun i => stepW (S i) (carryW c0 S i) (Mk i)) (fun p => (if p = 0 then c0 = 1 else P (p - 1)) ∧ Q p) := by
  intro i hi
  obtain ⟨m1, m2⟩ := hM i hi
  refine ⟨stepW_lt _ _ _ m1, fun b hb => ?_⟩
  unfold stepW
  rw [Nat.testBit_and, Nat.testBit_or, testBit_dbl _ _ hb]
  have hcl : carryW c0 S i ≤ 1 := by
    unfold carryW
    split
    · exact hc
    · exact (top63 _ (hS (i - 1) (by omega)).1).1
  rw [testBit_one' _ _ hcl]
  simp only [Bool.and_eq_true, Bool.or_eq_true, decide_eq_true_eq]
  rw [m2 b hb]
  apply and_congr_left
  intro _
  by_cases hb0 : b = 0
  · subst hb0
    by_cases hi0 : i = 0
    · subst hi0
      simp [carryW]
    · have h63 := (hS (i - 1) (by omega)).2 63 (by omega)
      have ht := (top63 _ (hS (i - 1) (by omega)).1).2
      rw [if_neg (by omega)]
      simp only [carryW, if_neg hi0]
      rw [ht, h63, show 64 * (i - 1) + 63 = 64 * i + 0 - 1 by omega]
      constructor
      · rintro (⟨h, _⟩ | ⟨_, h⟩)
        · omega
        · exact h
      · exact fun h => .inr ⟨trivial, h⟩
  · rw [if_neg (by omega)]
    have hb1 := (hS i hi).2 (b - 1) (by omega)
    rw [show 64 * i + (b - 1) = 64 * i + b - 1 by omega] at hb1
    rw [hb1]
    constructor
    · rintro (⟨_, h⟩ | ⟨h, _⟩)
      · exact h
      · exact absurd h hb0
    · exact fun h => .inl ⟨by omega, h⟩

theorem bits_zero (W : Nat) (P : Nat → Prop) (h : ∀ p, ¬ P p) : Bits W (fun _ => 0) P := fun i _ => ⟨Nat.two_pow_pos 64, fun b _ => by simp [h]⟩

theorem bits_none {W : Nat} {S : Nat → Nat} {P : Nat → Prop} (h : Bits W S P) (hz : ∀ i, i < W → S i = 0) (p : Nat) (hp : p < 64 * W) : ¬ P p := by
  have h1 := (h (p / 64) (by omega)).2 (p % 64) (by omega)
  rw [hz (p / 64) (by omega), Nat.div_add_mod] at h1
  simpa using h1

theorem Bits.congr {W : Nat} {S : Nat → Nat} {P Q : Nat → Prop} (h : Bits W S P) (e : ∀ p, P p ↔ Q p) : Bits W S Q := fun i hi => ⟨(h i hi).1, fun b hb => ((h i hi).2 b hb).trans (e _)⟩

theorem and_pow (x k : Nat) : (x &&& 2 ^ k ≠ 0) ↔ x.testBit k = true := by
  constructor
  · intro h
    by_cases hb : x.testBit k = true
    · exact hb
    · exfalso
      apply h
      apply Nat.eq_of_testBit_eq
      intro i
      rw [Nat.testBit_and, Nat.testBit_two_pow]
      by_cases hi : k = i
      · subst hi; simp at hb; simp [hb]
      · simp [hi]
  · intro h h0
    have : (x &&& 2 ^ k).testBit k = true := by rw [Nat.testBit_and, Nat.testBit_two_pow]; simp [h]
    rw [h0] at this
    simp at this

theorem top_bit {W m : Nat} {S : Nat → Nat} {P : Nat → Prop} (h : Bits W S P) (hm : 0 < m) (hW : W = (m + 63) / 64) : (S (W - 1) &&& 2 ^ ((m - 1) % 64) ≠ 0) ↔ P (m - 1) := by
  rw [and_pow]
  have h1 := (h (W - 1) (by omega)).2 ((m - 1) % 64) (by omega)
  rwa [show 64 * (W - 1) + (m - 1) % 64 = m - 1 by omega] at h1

/-! ### The row of masks of a character -/
def rowOf (zs : List Int) (c : Int) : Nat := if (litsOf zs).contains c = true then (litsOf zs).countP (· < c) else (litsOf zs).length

theorem rowOf_le (zs : List Int) (c : Int) : rowOf zs c ≤ (litsOf zs).length := by
  unfold rowOf
  split
  · exact List.countP_le_length
  · exact Nat.le_refl _

theorem mask_row {zs mk : List Int} {W : Nat} (h : MaskTo zs (litsOf zs) W mk zs.length 0) (c : Int) :
    Bits W (fun i => (mk.getD (rowOf zs c * W + i) 0).toNat) (fun p => p < zs.length ∧ fitc (zs.getD p 0) c = true) := by
  intro i hi
  have hle := rowOf_le zs c
  have hlt : rowOf zs c * W + i < mk.length := by rw [h.len]; exact row_lt hi hle
  refine ⟨by have := h.rng _ hlt; show (mk.getD (rowOf zs c * W + i) 0).toNat < 2 ^ 64; omega, fun b hb => ?_⟩
  rw [h.bit _ hle i hi b hb]
  simp only [Nat.not_lt_zero, false_and, or_false, Bool.and_eq_true, decide_eq_true_eq]
  apply and_congr_right
  intro hp
  unfold fitsRow fitc rowOf
  by_cases hc : (litsOf zs).contains c = true
  · rw [if_pos hc]
    have hm : c ∈ litsOf zs := by simpa using hc
    obtain ⟨h1, h2⟩ := count_at (litsOf_sorted zs) hm
    rw [h2]
    simp [h1]
  · rw [if_neg hc]
    simp only [Nat.lt_irrefl, decide_false, Bool.false_and, Bool.or_false, Bool.or_eq_true]
    constructor
    · exact fun h => .inl h
    · rintro (h | h)
      · exact h
      · have hz : zs.getD (64 * i + b) 0 = c := by simpa using h
        have hmem : c ∈ zs := by
          rw [← hz]
          simp [List.getD, hp]
        by_cases h1 : c = -1
        · rw [hz, h1]; rfl
        · exfalso
          apply hc
          simpa using (mem_litsOf zs c).2 ⟨hmem, h1⟩
end Go.Proofs.Qxb6601041a
