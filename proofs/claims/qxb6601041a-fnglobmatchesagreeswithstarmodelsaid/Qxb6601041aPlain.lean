/- Plain laws: the lits of a run; the masks of a run, bit by bit. No Go in sight. -/
import Derived.Lib.SlicesCompact
import Derived.Laws.Bits64
namespace Go.Proofs.Qxb6601041a
open Go.Lib

/-- The characters of a run that are no '?'. -/
def keepLits (zs : List Int) : List Int := zs.filter (· != -1)

/-- The characters, sorted. -/
def srt (fs : List Int) : List Int := fs.mergeSort fun x y => decide (x ≤ y)

theorem srt_length (fs : List Int) : (srt fs).length = fs.length := List.length_mergeSort _

/-- What slices.Compact leaves in the row. -/
def cpt (fs : List Int) : List Int := compactUpTo fs.toArray fs.length

theorem cpt_le (fs : List Int) : (cpt fs).length ≤ fs.length := by
  unfold cpt compactUpTo
  rw [List.length_map]
  exact Nat.le_trans (List.length_filter_le _ _) (by simp)

/-- The lits of a run. -/
def litsOf (zs : List Int) : List Int := cpt (srt (keepLits zs))

theorem srt_sorted (fs : List Int) : (srt fs).Pairwise (· ≤ ·) := by
  have := List.pairwise_mergeSort (le := fun x y : Int => decide (x ≤ y)) (by intro a b c; simp; omega) (by intro a b; simp; omega) fs
  exact this.imp (by simp)

theorem mem_srt (fs : List Int) (x : Int) : x ∈ srt fs ↔ x ∈ fs := List.mem_mergeSort

theorem cpt_inv (d : Array Int) (hs : ∀ i j, i ≤ j → j < d.size → d[i]! ≤ d[j]!) : ∀ m, m ≤ d.size →
    (compactUpTo d m).Pairwise (· < ·) ∧ (∀ x, x ∈ compactUpTo d m ↔ ∃ j, j < m ∧ d[j]! = x) ∧ ∀ x, x ∈ compactUpTo d m → 0 < m ∧ x ≤ d[m - 1]!
  | 0, _ => by simp [compactUpTo]
  | m + 1, hm => by
    obtain ⟨h1, h2, h3⟩ := cpt_inv d hs m (by omega)
    rw [compactUpTo_succ]
    by_cases hk : keeps d m = true
    · simp only [hk, if_true]
      have hnew : ∀ x, x ∈ compactUpTo d m → x < d[m]! := by
        intro x hx
        obtain ⟨h0, hle⟩ := h3 x hx
        have := hs (m - 1) m (by omega) (by omega)
        have hne : d[m]! ≠ d[m - 1]! := by
          intro e
          have := keeps_neg (d := d) (m := m) h0 e
          rw [hk] at this
          cases this
        omega
      refine ⟨?_, ?_, ?_⟩
      · rw [List.pairwise_append]
        exact ⟨h1, by simp, fun x hx y hy => by simp at hy; rw [hy]; exact hnew x hx⟩
      · intro x
        rw [List.mem_append, h2]
        constructor
        · rintro (⟨j, hj, rfl⟩ | hx)
          · exact ⟨j, by omega, rfl⟩
          · simp at hx
            exact ⟨m, by omega, hx.symm⟩
        · rintro ⟨j, hj, rfl⟩
          by_cases e : j = m
          · subst e; right; simp
          · left; exact ⟨j, by omega, rfl⟩
      · intro x hx
        rw [List.mem_append] at hx
        refine ⟨by omega, ?_⟩
        rcases hx with hx | hx
        · have := hnew x hx
          simp only [Nat.add_sub_cancel]
          omega
        · simp at hx
          rw [hx]
          exact Int.le_refl _
    · have hk' : keeps d m = false := by simpa using hk
      simp only [hk', Bool.false_eq_true, if_false, List.append_nil]
      have hm0 : 0 < m := by
        rcases Nat.eq_zero_or_pos m with h | h
        · subst h
          have := keeps_lt_one d 0 (by omega)
          rw [hk'] at this
          cases this
        · exact h
      have heq : d[m]! = d[m - 1]! := by
        false_or_by_contra
        rename_i hne
        have := keeps_pos (d := d) (m := m) hne
        rw [hk'] at this
        cases this
      refine ⟨h1, ?_, ?_⟩
      · intro x
        rw [h2]
        constructor
        · rintro ⟨j, hj, rfl⟩
          exact ⟨j, by omega, rfl⟩
        · rintro ⟨j, hj, rfl⟩
          by_cases e : j = m
          · subst e; exact ⟨j - 1, by omega, heq.symm⟩
          · exact ⟨j, by omega, rfl⟩
      · intro x hx
        obtain ⟨_, hle⟩ := h3 x hx
        refine ⟨by omega, ?_⟩
        simp only [Nat.add_sub_cancel]
        omega

theorem toArray_get (fs : List Int) (i : Nat) (h : i < fs.length) : fs.toArray[i]! = fs[i] := by simp [h]

theorem cpt_facts (fs : List Int) (hs : fs.Pairwise (· ≤ ·)) : (cpt fs).Pairwise (· < ·) ∧ ∀ x, x ∈ cpt fs ↔ x ∈ fs := by
  have hsort : ∀ i j, i ≤ j → j < fs.toArray.size → fs.toArray[i]! ≤ fs.toArray[j]! := by
    intro i j hij hj
    have hj' : j < fs.length := by simpa using hj
    rw [toArray_get fs i (by omega), toArray_get fs j hj']
    rcases Nat.lt_or_ge i j with h | h
    · exact List.pairwise_iff_getElem.1 hs i j (by omega) hj' h
    · have : i = j := by omega
      subst this
      exact Int.le_refl _
  obtain ⟨h1, h2, _⟩ := cpt_inv fs.toArray hsort fs.length (by simp)
  refine ⟨h1, fun x => ?_⟩
  unfold cpt
  rw [h2]
  constructor
  · rintro ⟨j, hj, rfl⟩
    rw [toArray_get fs j hj]
    exact List.getElem_mem hj
  · intro hx
    obtain ⟨j, hj, rfl⟩ := List.getElem_of_mem hx
    exact ⟨j, hj, toArray_get fs j hj⟩

theorem litsOf_sorted (zs : List Int) : (litsOf zs).Pairwise (· < ·) := (cpt_facts _ (srt_sorted _)).1

theorem mem_litsOf (zs : List Int) (x : Int) : x ∈ litsOf zs ↔ x ∈ zs ∧ x ≠ -1 := by
  unfold litsOf
  rw [(cpt_facts _ (srt_sorted _)).2, mem_srt]
  unfold keepLits
  simp

theorem litsOf_length (zs : List Int) : (litsOf zs).length ≤ zs.length :=
  Nat.le_trans (cpt_le _) (by rw [srt_length]; exact List.length_filter_le _ _)

/-! ### The masks -/

theorem two_pow_u64 (k : Nat) : IntKind.u64.wrap ((2 : Int) ^ (k % 64)) = ((2 ^ (k % 64) : Nat) : Int) ∧ 2 ^ (k % 64) < 18446744073709551616 := by
  have h : (2 : Nat) ^ (k % 64) < 2 ^ 64 := Nat.pow_lt_pow_right (by omega) (by omega)
  have e : ((2 : Int) ^ (k % 64)) = ((2 ^ (k % 64) : Nat) : Int) := by push_cast; rfl
  rw [IntKind.wrap_u64, e]
  generalize (2 : Nat) ^ (k % 64) = p at h
  omega

/-- Does character number pos of the run fit row number row? -/
def fitsRow (zs ts : List Int) (row pos : Nat) : Bool := zs.getD pos 0 == -1 || (decide (row < ts.length) && zs.getD pos 0 == ts.getD row 0)

/-- The masks, all rows filled up to character k, the first R rows with character k too. -/
structure MaskTo (zs ts : List Int) (W : Nat) (mk : List Int) (k R : Nat) : Prop where
  len : mk.length = (ts.length + 1) * W
  rng : ∀ j, j < mk.length → 0 ≤ mk.getD j 0 ∧ mk.getD j 0 < 18446744073709551616
  bit : ∀ row, row ≤ ts.length → ∀ wd, wd < W → ∀ b, b < 64 → (mk.getD (row * W + wd) 0).toNat.testBit b = (decide (64 * wd + b < k ∨ (row < R ∧ 64 * wd + b = k)) && fitsRow zs ts row (64 * wd + b))

theorem mask_start (zs ts : List Int) (W : Nat) : MaskTo zs ts W (List.replicate ((ts.length + 1) * W) 0) 0 0 where
  len := by simp
  rng := fun j hj => by simp at hj; simp [List.getD, hj]
  bit := fun row _ wd _ b _ => by
    have : (List.replicate ((ts.length + 1) * W) (0 : Int)).getD (row * W + wd) 0 = 0 := by
      simp only [List.getD, List.getElem?_replicate]
      split <;> rfl
    rw [this]
    simp

theorem MaskTo.next {zs ts : List Int} {W : Nat} {mk : List Int} {k : Nat} (h : MaskTo zs ts W mk k (ts.length + 1)) : MaskTo zs ts W mk (k + 1) 0 :=
  ⟨h.len, h.rng, fun row hr wd hw b hb => by
    rw [h.bit row hr wd hw b hb]
    congr 1
    rw [decide_eq_decide]
    omega⟩

theorem row_word {W row wd row' wd' : Nat} (h1 : wd < W) (h2 : wd' < W) (h : row * W + wd = row' * W + wd') : row = row' ∧ wd = wd' := by
  have hr : row = row' := by
    rcases Nat.lt_trichotomy row row' with hl | hl | hl
    · have := Nat.mul_le_mul_right W (show row + 1 ≤ row' from hl)
      rw [Nat.add_mul, Nat.one_mul] at this
      omega
    · exact hl
    · have := Nat.mul_le_mul_right W (show row' + 1 ≤ row from hl)
      rw [Nat.add_mul, Nat.one_mul] at this
      omega
  subst hr
  exact ⟨rfl, by omega⟩

theorem row_lt {W row wd n : Nat} (h1 : wd < W) (h2 : row ≤ n) : row * W + wd < (n + 1) * W := by
  have := Nat.mul_le_mul_right W (show row + 1 ≤ n + 1 by omega)
  rw [Nat.add_mul, Nat.one_mul] at this
  omega

theorem getD_set (l : List Int) (i j : Nat) (x : Int) (hi : i < l.length) : (l.set i x).getD j 0 = if j = i then x else l.getD j 0 := by
  simp only [List.getD, List.getElem?_set]
  by_cases e : i = j
  · subst e; simp [hi]
  · simp [e, show ¬ j = i from fun h => e h.symm]

/-- One row's word takes bit k. -/
theorem mask_or {ts : List Int} {W : Nat} {mk : List Int} {k row : Nat} {x : Nat} (hlen : mk.length = (ts.length + 1) * W) (hk : k / 64 < W) (hrow : row ≤ ts.length) (hx : mk.getD (row * W + k / 64) 0 = (x : Int)) :
    ∀ row' wd b, wd < W → b < 64 →
      ((mk.set (row * W + k / 64) ((x ||| 2 ^ (k % 64) : Nat) : Int)).getD (row' * W + wd) 0).toNat.testBit b = ((mk.getD (row' * W + wd) 0).toNat.testBit b || decide (row' = row ∧ 64 * wd + b = k)) := by
  intro row' wd b hw hb
  have hlt : row * W + k / 64 < mk.length := by rw [hlen]; exact row_lt hk hrow
  rw [getD_set _ _ _ _ hlt]
  by_cases e : row' * W + wd = row * W + k / 64
  · obtain ⟨e1, e2⟩ := row_word hw hk e
    subst e1
    rw [if_pos e, e, hx]
    simp only [Int.toNat_natCast, Nat.testBit_or, Nat.testBit_two_pow]
    congr 1
    rw [decide_eq_decide]
    subst e2
    constructor
    · intro h
      exact ⟨trivial, by omega⟩
    · rintro ⟨_, h⟩
      omega
  · rw [if_neg e]
    have hf : ¬ (row' = row ∧ 64 * wd + b = k) := by
      rintro ⟨rfl, h⟩
      apply e
      have : wd = k / 64 := by omega
      rw [this]
    simp [hf]

theorem mask_or_rng {mk : List Int} {j x k : Nat} (hr : ∀ i, i < mk.length → 0 ≤ mk.getD i 0 ∧ mk.getD i 0 < 18446744073709551616) (hj : j < mk.length) (hx : x < 18446744073709551616) :
    ∀ i, i < (mk.set j ((x ||| 2 ^ (k % 64) : Nat) : Int)).length → 0 ≤ (mk.set j ((x ||| 2 ^ (k % 64) : Nat) : Int)).getD i 0 ∧ (mk.set j ((x ||| 2 ^ (k % 64) : Nat) : Int)).getD i 0 < 18446744073709551616 := by
  intro i hi
  rw [getD_set _ _ _ _ hj]
  by_cases e : i = j
  · rw [if_pos e]
    have : x ||| 2 ^ (k % 64) < 2 ^ 64 := Nat.or_lt_two_pow (by omega) (Nat.pow_lt_pow_right (by omega) (by omega))
    omega
  · rw [if_neg e]
    exact hr i (by simpa using hi)

/-- A '?' : row R takes its bit. -/
theorem MaskTo.any {zs ts : List Int} {W : Nat} {mk : List Int} {k R x : Nat} (h : MaskTo zs ts W mk k R) (hk : k / 64 < W) (hR : R ≤ ts.length) (hz : zs.getD k 0 = -1) (hx : mk.getD (R * W + k / 64) 0 = (x : Int)) :
    MaskTo zs ts W (mk.set (R * W + k / 64) ((x ||| 2 ^ (k % 64) : Nat) : Int)) k (R + 1) := by
  have hlt : R * W + k / 64 < mk.length := by rw [h.len]; exact row_lt hk hR
  have hx64 : x < 18446744073709551616 := by have := (h.rng _ hlt).2; rw [hx] at this; omega
  refine ⟨by simpa using h.len, mask_or_rng h.rng hlt hx64, fun row hr wd hw b hb => ?_⟩
  rw [mask_or h.len hk hR hx row wd b hw hb, h.bit row hr wd hw b hb]
  by_cases e : row = R ∧ 64 * wd + b = k
  · obtain ⟨rfl, e2⟩ := e
    have hf : fitsRow zs ts row (64 * wd + b) = true := by rw [e2]; unfold fitsRow; rw [hz]; simp
    rw [hf]
    simp [e2]
  · rw [decide_eq_false e, Bool.or_false]
    congr 1
    rw [decide_eq_decide]
    omega

/-- A character: its own row takes its bit; no other row has it. -/
theorem MaskTo.lit {zs ts : List Int} {W : Nat} {mk : List Int} {k r x : Nat} (h : MaskTo zs ts W mk k 0) (hs : ts.Pairwise (· < ·)) (hk : k / 64 < W) (hr : r < ts.length) (hz : zs.getD k 0 ≠ -1) (hr2 : ts.getD r 0 = zs.getD k 0) (hx : mk.getD (r * W + k / 64) 0 = (x : Int)) :
    MaskTo zs ts W (mk.set (r * W + k / 64) ((x ||| 2 ^ (k % 64) : Nat) : Int)) (k + 1) 0 := by
  have hlt : r * W + k / 64 < mk.length := by rw [h.len]; exact row_lt hk (by omega)
  have hx64 : x < 18446744073709551616 := by have := (h.rng _ hlt).2; rw [hx] at this; omega
  refine ⟨by simpa using h.len, mask_or_rng h.rng hlt hx64, fun row hrow wd hw b hb => ?_⟩
  rw [mask_or h.len hk (by omega) hx row wd b hw hb, h.bit row hrow wd hw b hb]
  by_cases e2 : 64 * wd + b = k
  · have hfit : fitsRow zs ts row (64 * wd + b) = decide (row = r) := by
      rw [e2]
      unfold fitsRow
      rw [← hr2] at hz ⊢
      have h1 : (ts.getD r 0 == -1) = false := by simpa using hz
      rw [h1, Bool.false_or]
      by_cases hrl : row < ts.length
      · rw [decide_eq_true hrl, Bool.true_and]
        rw [Bool.eq_iff_iff]
        simp only [beq_iff_eq, decide_eq_true_eq]
        constructor
        · intro he
          simp only [List.getD, List.getElem?_eq_getElem hrl, List.getElem?_eq_getElem hr, Option.getD_some] at he
          rcases Nat.lt_trichotomy row r with hl | hl | hl
          · have := List.pairwise_iff_getElem.1 hs row r hrl hr hl; omega
          · exact hl
          · have := List.pairwise_iff_getElem.1 hs r row hr hrl hl; omega
        · rintro rfl; rfl
      · rw [decide_eq_false hrl, Bool.false_and]
        symm
        rw [decide_eq_false]
        omega
    rw [hfit]
    by_cases er : row = r <;> simp [er, e2]
  · have h1 : ¬ (row = r ∧ 64 * wd + b = k) := fun h => e2 h.2
    rw [decide_eq_false h1, Bool.or_false]
    congr 1
    rw [decide_eq_decide]
    omega

/-- The place that a search of sorted lits answers. -/
theorem count_at {ts : List Int} (hs : ts.Pairwise (· < ·)) {x : Int} (hx : x ∈ ts) : ts.countP (· < x) < ts.length ∧ ts.getD (ts.countP (· < x)) 0 = x := by
  induction ts with
  | nil => cases hx
  | cons t ts ih =>
    rw [List.pairwise_cons] at hs
    by_cases e : x = t
    · subst e
      have h0 : ts.countP (· < x) = 0 := List.countP_eq_zero.2 fun y hy => by have := hs.1 y hy; simp; omega
      simp [h0]
    · have hm : x ∈ ts := by simpa [e] using hx
      have hlt : t < x := hs.1 x hm
      obtain ⟨h1, h2⟩ := ih hs.2 hm
      rw [List.countP_cons]
      simp only [hlt, decide_true, if_true, List.length_cons]
      exact ⟨by omega, by simpa using h2⟩

theorem lt_le {ts : List Int} (hs : ts.Pairwise (· < ·)) : ts.Pairwise (· ≤ ·) := hs.imp fun h => by omega
end Go.Proofs.Qxb6601041a
