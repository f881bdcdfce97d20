/- What a pattern matches, and what the runs of a glob match: in plain numbers. -/
import Derived.Test.Qxb6601041aGlobs
import Derived.Test.Qxb6601041aFind0
namespace Go.Proofs.Qxb6601041a

section
variable (A : Nat → Prop) (V : Nat → Int) (n : Nat)

/-- A run fits at s. -/
def FitR (cs : List Int) (s : Nat) : Prop := s + cs.length ≤ n ∧ ∀ k, k < cs.length → fitc (cs.getD k 0) (V (s + k)) = true

/-- The runs, the last one first, fit one behind the other and end at p. -/
def EndR : List RD → Nat → Prop
  | [], p => A p
  | r :: rs, p => ∃ q s : Nat, EndR rs q ∧ ((rs = [] ∧ s = q) ∨ (rs ≠ [] ∧ (q : Int) + r.gap ≤ s)) ∧ FitR V n r.cs s ∧ p = s + r.cs.length

def EndOf (rs : List RD) (p : Nat) : Prop := EndR A V n rs.reverse p

/-- The first k elements of the pattern match a part that begins where A says and ends at p. -/
def Ent (P : Nat → Int) : Nat → Nat → Prop
  | 0, p => A p ∧ p ≤ n
  | k + 1, p => p ≤ n ∧ ((P k = -2 ∧ ∃ q, q ≤ p ∧ Ent P k q) ∨ (P k ≠ -2 ∧ ∃ q, p = q + 1 ∧ fitc (P k) (V q) = true ∧ Ent P k q))
end

section
variable {A : Nat → Prop} {V : Nat → Int} {n : Nat} {P : Nat → Int}

theorem endOf_one {r : RD} {p : Nat} : EndOf A V n [r] p ↔ ∃ a, A a ∧ FitR V n r.cs a ∧ p = a + r.cs.length := by
  unfold EndOf
  simp only [List.reverse_cons, List.reverse_nil, List.nil_append, EndR]
  constructor
  · rintro ⟨q, s, h1, ⟨_, rfl⟩ | ⟨h, _⟩, h2, h3⟩
    · exact ⟨_, h1, h2, h3⟩
    · exact absurd rfl h
  · rintro ⟨a, h1, h2, h3⟩
    exact ⟨a, a, h1, .inl ⟨trivial, rfl⟩, h2, h3⟩

theorem endOf_snoc {rs : List RD} {r : RD} (hr : rs ≠ []) {p : Nat} : EndOf A V n (rs ++ [r]) p ↔ ∃ q s : Nat, EndOf A V n rs q ∧ (q : Int) + r.gap ≤ s ∧ FitR V n r.cs s ∧ p = s + r.cs.length := by
  unfold EndOf
  rw [List.reverse_append, List.reverse_singleton, List.singleton_append]
  have hr' : rs.reverse ≠ [] := by simpa using hr
  simp only [EndR]
  constructor
  · rintro ⟨q, s, h1, ⟨h, _⟩ | ⟨_, h⟩, h2, h3⟩
    · exact absurd h hr'
    · exact ⟨q, s, h1, h, h2, h3⟩
  · rintro ⟨q, s, h1, h, h2, h3⟩
    exact ⟨q, s, h1, .inr ⟨hr', h⟩, h2, h3⟩

theorem no_more {rs : List RD} (hr : rs ≠ []) (h : ∀ p, ¬ EndOf A V n rs p) (xs : List RD) : ∀ p, ¬ EndOf A V n (rs ++ xs) p := by
  induction xs generalizing rs with
  | nil => simpa using h
  | cons x xs ih =>
    have e : rs ++ x :: xs = (rs ++ [x]) ++ xs := by simp
    rw [e]
    refine ih (by simp) fun p hp => ?_
    obtain ⟨q, s, h1, _⟩ := (endOf_snoc hr).1 hp
    exact h q h1

theorem ent_le : ∀ {k p : Nat}, Ent A V n P k p → p ≤ n
  | 0, _, h => h.2
  | _ + 1, _, h => h.1

theorem ent_star {k p : Nat} (hk : P k = -2) : Ent A V n P (k + 1) p ↔ p ≤ n ∧ ∃ q, q ≤ p ∧ Ent A V n P k q := by
  simp [Ent, hk]

theorem ent_char {k p : Nat} (hk : P k ≠ -2) : Ent A V n P (k + 1) p ↔ p ≤ n ∧ ∃ q, p = q + 1 ∧ fitc (P k) (V q) = true ∧ Ent A V n P k q := by
  simp [Ent, hk]

theorem ent_seg {st : Nat} (d : Nat) (hs : ∀ j, st ≤ j → j < st + d → P j ≠ -2) (p : Nat) : Ent A V n P (st + d) p ↔ ∃ q, Ent A V n P st q ∧ p = q + d ∧ p ≤ n ∧ ∀ j, j < d → fitc (P (st + j)) (V (q + j)) = true := by
  induction d generalizing p with
  | zero =>
    constructor
    · intro h; exact ⟨p, h, rfl, ent_le h, fun j hj => by omega⟩
    · rintro ⟨q, h, rfl, _, _⟩; exact h
  | succ d ih =>
    replace ih := fun p => ih (fun j h1 h2 => hs j h1 (by omega)) p
    rw [show st + (d + 1) = st + d + 1 by omega, ent_char (hs (st + d) (by omega) (by omega))]
    constructor
    · rintro ⟨hp, q, rfl, hf, he⟩
      obtain ⟨q', h1, rfl, h3, h4⟩ := (ih q).1 he
      refine ⟨q', h1, by omega, hp, fun j hj => ?_⟩
      rcases Nat.lt_succ_iff_lt_or_eq.1 hj with h | rfl
      · exact h4 j h
      · exact hf
    · rintro ⟨q, h1, rfl, hp, h4⟩
      exact ⟨hp, q + d, by omega, h4 d (by omega), (ih _).2 ⟨q, h1, rfl, by omega, fun j hj => h4 j (by omega)⟩⟩

theorem fitc_any (v : Int) : fitc (-1) v = true := by simp [fitc]

/-- What the compiler knows at the head of a part: the runs so far stand for the pattern so far. -/
def CI (P : Nat → Int) (st carry : Nat) (rs : List RD) : Prop :=
  (rs = [] ∧ st = 0 ∧ carry = 0) ∨ (rs ≠ [] ∧ ∀ A V n p, p ≤ n → (Ent A V n P st p ↔ ∃ q, EndOf A V n rs q ∧ q + carry ≤ p))

/-- The runs and the '?'s behind them stand for the pattern up to i. -/
def CM (P : Nat → Int) (i carry : Nat) (rs : List RD) : Prop :=
  rs ≠ [] ∧ ∀ A V n p, (Ent A V n P i p ↔ ∃ y, EndOf A V n rs y ∧ p = y + carry ∧ p ≤ n)

theorem ci_run {st carry i lo hi : Nat} {rs : List RD} {r : RD} (h : CI P st carry rs) (h1 : st ≤ lo) (h2 : lo ≤ hi) (h3 : hi ≤ i) (hs : ∀ j, st ≤ j → j < i → P j ≠ -2) (hf : rs = [] → lo = st) (hl : ∀ j, st ≤ j → j < lo → P j = -1) (hh : ∀ j, hi ≤ j → j < i → P j = -1)
    (hg : r.gap = ((carry + (lo - st) : Nat) : Int)) (hc : r.cs.length = hi - lo) (hcs : ∀ k, k < hi - lo → r.cs.getD k 0 = P (lo + k)) : CM P i (i - hi) (rs ++ [r]) := by
  refine ⟨by simp, fun A V n p => ?_⟩
  have hseg := ent_seg (A := A) (V := V) (n := n) (P := P) (st := st) (i - st) (fun j a b => hs j a (by omega)) p
  rw [show st + (i - st) = i by omega] at hseg
  rw [hseg]
  clear hseg
  have run : ∀ q, (∀ j, j < i - st → fitc (P (st + j)) (V (q + j)) = true) ↔ ∀ k, k < hi - lo → fitc (r.cs.getD k 0) (V (q + (lo - st) + k)) = true := fun q => by
    constructor
    · intro ha k hk
      rw [hcs k hk]
      have := ha (lo - st + k) (by omega)
      rw [show st + (lo - st + k) = lo + k by omega, show q + (lo - st + k) = q + (lo - st) + k by omega] at this
      exact this
    · intro ha j hj
      by_cases c1 : st + j < lo
      · rw [hl _ (by omega) c1]; exact fitc_any _
      · by_cases c2 : hi ≤ st + j
        · rw [hh _ c2 (by omega)]; exact fitc_any _
        · have := ha (st + j - lo) (by omega)
          rw [hcs _ (by omega), show lo + (st + j - lo) = st + j by omega, show q + (lo - st) + (st + j - lo) = q + j by omega] at this
          exact this
  rcases h with ⟨rfl, rfl, rfl⟩ | ⟨hne, hE⟩
  · have hlo := hf rfl
    subst hlo
    rw [List.nil_append]
    constructor
    · rintro ⟨q, hq, rfl, hp, hfit⟩
      have hfit' := (run q).1 hfit
      exact ⟨q + r.cs.length, endOf_one.2 ⟨q, hq.1, ⟨by omega, fun k hk => by have := hfit' k (by omega); simpa using this⟩, rfl⟩, by omega, hp⟩
    · rintro ⟨y, hy, rfl, hp⟩
      obtain ⟨a, ha, hfit, rfl⟩ := endOf_one.1 hy
      exact ⟨a, ⟨ha, by omega⟩, by omega, hp, (run a).2 fun k hk => by have := hfit.2 k (by omega); simpa using this⟩
  · constructor
    · rintro ⟨q, hq, rfl, hp, hfit⟩
      have hfit' := (run q).1 hfit
      obtain ⟨x, hx, hxq⟩ := (hE A V n q (by omega)).1 hq
      exact ⟨q + (lo - st) + r.cs.length, (endOf_snoc hne).2 ⟨x, q + (lo - st), hx, by rw [hg]; omega, ⟨by omega, fun k hk => hfit' k (by omega)⟩, rfl⟩, by omega, hp⟩
    · rintro ⟨y, hy, rfl, hp⟩
      obtain ⟨x, s, hx, hxs, hfit, rfl⟩ := (endOf_snoc hne).1 hy
      rw [hg] at hxs
      have e : s - (lo - st) + (lo - st) = s := by omega
      exact ⟨s - (lo - st), (hE A V n _ (by omega)).2 ⟨x, hx, by omega⟩, by omega, hp, (run _).2 fun k hk => by rw [e]; exact hfit.2 k (by omega)⟩

theorem cm_star {i carry : Nat} {rs : List RD} (h : CM P i carry rs) (hi : P i = -2) : CI P (i + 1) carry rs := by
  refine .inr ⟨h.1, fun A V n p hp => ?_⟩
  rw [ent_star hi]
  constructor
  · rintro ⟨_, q, hq, he⟩
    obtain ⟨y, hy, rfl, _⟩ := (h.2 A V n q).1 he
    exact ⟨y, hy, hq⟩
  · rintro ⟨y, hy, hq⟩
    exact ⟨hp, y + carry, hq, (h.2 A V n _).2 ⟨y, hy, rfl, by omega⟩⟩

theorem endOf_le {rs : List RD} (hr : rs ≠ []) {p : Nat} (h : EndOf A V n rs p) : p ≤ n := by
  rcases List.eq_nil_or_concat rs with rfl | ⟨xs, x, rfl⟩
  · exact absurd rfl hr
  · rw [List.concat_eq_append] at h
    rcases xs with _ | ⟨y, ys⟩
    · obtain ⟨a, _, hf, rfl⟩ := endOf_one.1 h; exact hf.1
    · obtain ⟨_, _, _, _, hf, rfl⟩ := (endOf_snoc (by simp)).1 h; exact hf.1

theorem cm_end {i : Nat} {rs : List RD} (h : CM P i 0 rs) (A : Nat → Prop) (V : Nat → Int) (n p : Nat) : Ent A V n P i p ↔ EndOf A V n rs p := by
  rw [h.2]
  constructor
  · rintro ⟨y, hy, rfl, _⟩; exact hy
  · intro hp; exact ⟨p, hp, rfl, endOf_le h.1 hp⟩

/-- The least end. -/
def Least (A : Nat → Prop) (V : Nat → Int) (n : Nat) (rs : List RD) (pos : Nat) : Prop := EndOf A V n rs pos ∧ ∀ p, EndOf A V n rs p → pos ≤ p
end

section
variable {vs : List Int} {bs : List Bool}

/-- What the automaton over the pattern accepts. -/
def MatchM (wd : Bool) (P : Nat → Int) (m : Nat) (vs : List Int) (bs : List Bool) : Prop :=
  if wd = true then ∃ p, Ent (fun a => beginsAt bs a = true) (fun k => vs.getD k 0) vs.length P m p ∧ endsAt bs vs.length p = true
  else Ent (fun a => a = 0) (fun k => vs.getD k 0) vs.length P m vs.length

/-- What the runs accept. -/
def MatchG (wd : Bool) (rs : List RD) (vs : List Int) (bs : List Bool) : Prop :=
  if wd = true then ∃ p, EndOf (fun a => beginsAt bs a = true) (fun k => vs.getD k 0) vs.length rs p ∧ endsAt bs vs.length p = true
  else EndOf (fun a => a = 0) (fun k => vs.getD k 0) vs.length rs vs.length

theorem match_same {wd : Bool} {P : Nat → Int} {m : Nat} {rs : List RD} (h : CM P m 0 rs) : MatchM wd P m vs bs ↔ MatchG wd rs vs bs := by
  unfold MatchM MatchG
  simp only [cm_end h]

theorem fitAt_iff {cs : List Int} {starts ends : Bool} {fr s : Nat} : FitAt cs.length vs.length fr (fun k => cs.getD k 0) (fun k => vs.getD k 0) (okS starts bs) (okE ends bs vs.length) s ↔ fr ≤ s ∧ okS starts bs s = true ∧ okE ends bs vs.length (s + cs.length) = true ∧ FitR (fun k => vs.getD k 0) vs.length cs s := by
  unfold FitAt FitR
  constructor
  · rintro ⟨h1, h2, h3, h4, h5⟩; exact ⟨h1, h3, h4, h2, h5⟩
  · rintro ⟨h1, h3, h4, h2, h5⟩; exact ⟨h1, h2, h3, h4, h5⟩

theorem okS_true {s : Nat} : okS true bs s = true ↔ beginsAt bs s = true := by simp [okS]
theorem okS_false {s : Nat} : okS false bs s = true := by simp [okS]
theorem okE_true {n e : Nat} : okE true bs n e = true ↔ endsAt bs n e = true := by simp [okE]
theorem okE_false {n e : Nat} : okE false bs n e = true := by simp [okE]

/-- One run, words. -/
theorem one_words {r : RD} {e : Option Nat} (h : FirstFit r.cs vs bs true true 0 e) : e.isSome = true ↔ MatchG true [r] vs bs := by
  unfold MatchG
  simp only [if_true]
  cases e with
  | none =>
    constructor
    · intro h; cases h
    · rintro ⟨p, hp, he⟩
      obtain ⟨a, ha, hf, rfl⟩ := endOf_one.1 hp
      exact absurd (fitAt_iff.2 ⟨Nat.zero_le _, okS_true.2 ha, okE_true.2 he, hf⟩) (h a)
  | some e =>
    obtain ⟨s, rfl, hs, _⟩ := h
    obtain ⟨_, h2, h3, h4⟩ := fitAt_iff.1 hs
    exact ⟨fun _ => ⟨_, endOf_one.2 ⟨s, okS_true.1 h2, h4, rfl⟩, okE_true.1 h3⟩, fun _ => rfl⟩

/-- One run, the whole value. -/
theorem one_whole {r : RD} : MatchG false [r] vs bs ↔ vs.length = r.cs.length ∧ FitR (fun k => vs.getD k 0) vs.length r.cs 0 := by
  unfold MatchG
  rw [if_neg (by simp), endOf_one]
  constructor
  · rintro ⟨a, rfl, hf, h⟩; exact ⟨by omega, hf⟩
  · rintro ⟨h, hf⟩; exact ⟨0, rfl, hf, by omega⟩

theorem first_words {r : RD} {e : Nat} (h : FirstFit r.cs vs bs true false 0 (some e)) : Least (fun a => beginsAt bs a = true) (fun k => vs.getD k 0) vs.length [r] e := by
  obtain ⟨s, rfl, hs, hm⟩ := h
  obtain ⟨_, h2, _, h4⟩ := fitAt_iff.1 hs
  refine ⟨endOf_one.2 ⟨s, okS_true.1 h2, h4, rfl⟩, fun p hp => ?_⟩
  obtain ⟨a, ha, hf, rfl⟩ := endOf_one.1 hp
  have := hm a (fitAt_iff.2 ⟨Nat.zero_le _, okS_true.2 ha, okE_false, hf⟩)
  omega

theorem first_words_no {r : RD} (h : FirstFit r.cs vs bs true false 0 none) : ∀ p, ¬ EndOf (fun a => beginsAt bs a = true) (fun k => vs.getD k 0) vs.length [r] p := fun p hp => by
  obtain ⟨a, ha, hf, rfl⟩ := endOf_one.1 hp
  exact h a (fitAt_iff.2 ⟨Nat.zero_le _, okS_true.2 ha, okE_false, hf⟩)

theorem first_whole {V : Nat → Int} {n : Nat} {r : RD} (h : FitR V n r.cs 0) : Least (fun a => a = 0) V n [r] r.cs.length := by
  refine ⟨endOf_one.2 ⟨0, rfl, h, by omega⟩, fun p hp => ?_⟩
  obtain ⟨a, _, _, rfl⟩ := endOf_one.1 hp
  omega

theorem first_whole_no {V : Nat → Int} {n : Nat} {r : RD} (h : ¬ FitR V n r.cs 0) : ∀ p, ¬ EndOf (fun a => a = 0) V n [r] p := fun p hp => by
  obtain ⟨a, rfl, hf, _⟩ := endOf_one.1 hp
  exact h hf

theorem least_next {A : Nat → Prop} {rs : List RD} {r : RD} {pos g e : Nat} (hr : rs ≠ []) (hg : r.gap = (g : Int)) (hl : Least A (fun k => vs.getD k 0) vs.length rs pos) (h : FirstFit r.cs vs bs false false (pos + g) (some e)) : Least A (fun k => vs.getD k 0) vs.length (rs ++ [r]) e := by
  obtain ⟨s, rfl, hs, hm⟩ := h
  obtain ⟨h1, _, _, h4⟩ := fitAt_iff.1 hs
  refine ⟨(endOf_snoc hr).2 ⟨pos, s, hl.1, by rw [hg]; omega, h4, rfl⟩, fun p hp => ?_⟩
  obtain ⟨q, s', hq, hqs, hf, rfl⟩ := (endOf_snoc hr).1 hp
  have := hl.2 q hq
  rw [hg] at hqs
  have := hm s' (fitAt_iff.2 ⟨by omega, okS_false, okE_false, hf⟩)
  omega

theorem least_next_no {A : Nat → Prop} {rs : List RD} {r : RD} {pos g : Nat} (hr : rs ≠ []) (hg : r.gap = (g : Int)) (hl : Least A (fun k => vs.getD k 0) vs.length rs pos) (h : FirstFit r.cs vs bs false false (pos + g) none) : ∀ p, ¬ EndOf A (fun k => vs.getD k 0) vs.length (rs ++ [r]) p := fun p hp => by
  obtain ⟨q, s', hq, hqs, hf, rfl⟩ := (endOf_snoc hr).1 hp
  have := hl.2 q hq
  rw [hg] at hqs
  exact h s' (fitAt_iff.2 ⟨by omega, okS_false, okE_false, hf⟩)

theorem last_words {rs : List RD} {r : RD} {pos g : Nat} {e : Option Nat} (hr : rs ≠ []) (hg : r.gap = (g : Int)) (hl : Least (fun a => beginsAt bs a = true) (fun k => vs.getD k 0) vs.length rs pos) (h : FirstFit r.cs vs bs false true (pos + g) e) : e.isSome = true ↔ MatchG true (rs ++ [r]) vs bs := by
  unfold MatchG
  simp only [if_true]
  cases e with
  | none =>
    constructor
    · intro h; cases h
    · rintro ⟨p, hp, he⟩
      obtain ⟨q, s', hq, hqs, hf, rfl⟩ := (endOf_snoc hr).1 hp
      have := hl.2 q hq
      rw [hg] at hqs
      exact absurd (fitAt_iff.2 ⟨by omega, okS_false, okE_true.2 he, hf⟩) (h s')
  | some e =>
    obtain ⟨s, rfl, hs, _⟩ := h
    obtain ⟨h1, _, h3, h4⟩ := fitAt_iff.1 hs
    exact ⟨fun _ => ⟨_, (endOf_snoc hr).2 ⟨pos, s, hl.1, by rw [hg]; omega, h4, rfl⟩, okE_true.1 h3⟩, fun _ => rfl⟩

theorem last_whole {rs : List RD} {r : RD} {pos g : Nat} (hr : rs ≠ []) (hg : r.gap = (g : Int)) (hl : Least (fun a => a = 0) (fun k => vs.getD k 0) vs.length rs pos) :
    MatchG false (rs ++ [r]) vs bs ↔ pos + g + r.cs.length ≤ vs.length ∧ FitR (fun k => vs.getD k 0) vs.length r.cs (vs.length - r.cs.length) := by
  unfold MatchG
  rw [if_neg (by simp), endOf_snoc hr]
  constructor
  · rintro ⟨q, s, hq, hqs, hf, he⟩
    have := hl.2 q hq
    rw [hg] at hqs
    exact ⟨by omega, by rw [show vs.length - r.cs.length = s by omega]; exact hf⟩
  · rintro ⟨h, hf⟩
    exact ⟨pos, _, hl.1, by rw [hg]; omega, hf, by omega⟩

theorem match_none {wd : Bool} {rs xs : List RD} (hr : rs ≠ []) (h : ∀ p, ¬ EndOf (fun a => if wd = true then beginsAt bs a = true else a = 0) (fun k => vs.getD k 0) vs.length rs p) : ¬ MatchG wd (rs ++ xs) vs bs := by
  have := no_more hr h xs
  unfold MatchG
  cases wd
  · simp only [Bool.false_eq_true, if_false] at this ⊢
    exact this _
  · simp only [if_true] at this ⊢
    rintro ⟨p, hp, _⟩
    exact this p hp
end
end Go.Proofs.Qxb6601041a
