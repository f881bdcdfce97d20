/- A region that draws its order, whose last operation writes a cell that the region's loads read: the loads may still be taken first, for the last operation waits for each of them. After Derived/OrdersHeld.lean: the condition S on the world need not hold behind the operations that 'fin' names. -/
import Derived.OrdersHeld
namespace Go.Proofs.Qxb6601041a

section
variable {P : Program} {ops : Array Oper} {Q : Exit → Act → World → Prop} {md : Region.Mode} {S : World → Prop} {fin : Nat → Bool}

/-- Whatever order is picked from here on, and S holds behind every operation but the last ones. -/
def wpAnyK (P : Program) (md : Region.Mode) (ops : Array Oper) (Q : Exit → Act → World → Prop) (S : World → Prop) (fin : Nat → Bool) : Nat → Array Bool → Act → World → Prop
  | 0, listed, a, w => Region.ready md ops listed = [] ∧ Q .normal a w
  | fuel + 1, listed, a, w =>
    (Region.ready md ops listed = [] → Q .normal a w) ∧
    ∀ i ∈ Region.ready md ops listed, wpOp P ops Q i (fun a' w' => (fin i = false → S w') ∧ wpAnyK P md ops Q S fin fuel (listed.setIfInBounds i true) a' w') a w

theorem wpAny_of_K : ∀ (fuel : Nat) (listed : Array Bool) (a : Act) (w : World), wpAnyK P md ops Q S fin fuel listed a w → wpAny P md ops Q fuel listed a w
  | 0, _, _, _, h => h
  | fuel + 1, _, _, _, h => ⟨h.1, fun i hi => wpOp_mono (fun a' w' h' => wpAny_of_K fuel _ a' w' h'.2) (h.2 i hi)⟩

theorem wpAnyK_first {i : Nat} {oi : Oper} {v : Value} (hi : ops[i]? = some oi) (hsel : ∀ (j : Nat) (o : Oper) cs b, ops[j]? = some o → o.op ≠ .select cs b)
    (hQ : ∀ c a w, Q (.panic c) (a.put oi.dst v) w → Q (.panic c) a w)
    (hfin : ∀ j oj, fin j = true → ops[j]? = some oj → ∃ e ∈ oj.after, Region.binds md e = true ∧ e.on = i) :
    ∀ (fuel : Nat) (listed : Array Bool) (a : Act) (w : World),
      (∀ j oj, ops[j]? = some oj → j ≠ i → listed.getD j true = false → (∀ e ∈ oj.after, Region.binds md e = true → e.on ≠ i) → oi.apart ops oj = true) →
      i ∈ Region.ready md ops listed → YieldsIf P ops S oi v a → S w →
      wpAnyK P md ops Q S fin fuel (listed.setIfInBounds i true) (a.put oi.dst v) w → wpAnyK P md ops Q S fin (fuel + 1) listed a w := by
  intro fuel
  induction fuel with
  | zero =>
    intro listed a w _ hr hy hS H
    refine ⟨fun h => (by rw [h] at hr; cases hr), fun j hj => ?_⟩
    by_cases hji : j = i
    · subst hji; exact hy.wpOp hi hS ⟨fun _ => hS, H⟩
    · have := ready_mono hj hji
      rw [H.1] at this
      cases this
  | succ fuel ih =>
    intro listed a w hfree hr hy hS H
    refine ⟨fun h => (by rw [h] at hr; cases hr), fun j hj => ?_⟩
    by_cases hji : j = i
    · subst hji; exact hy.wpOp hi hS ⟨fun _ => hS, H⟩
    · have h1 := H.2 j (ready_mono hj hji)
      obtain ⟨hjun, oj, hoj, hall⟩ := mem_ready.1 hj
      have hnot : ∀ e ∈ oj.after, Region.binds md e = true → e.on ≠ i := fun e he hb heq => by
        have h1 := hall e he hb
        have h0 := (mem_ready.1 hr).1
        rw [heq] at h1
        rcases Nat.lt_or_ge i listed.size with h' | h'
        · simp [h'] at h0 h1; rw [h0] at h1; cases h1
        · simp [Array.getElem?_eq_none h'] at h1
      have hnf : fin j = false := by
        cases hf : fin j with
        | false => rfl
        | true =>
          obtain ⟨e, he, hb, hon⟩ := hfin j oj hf hoj
          exact absurd hon (hnot e he hb)
      have h2 := wpOp_putIf hoj (hfree j oj hoj hji hjun hnot) (fun cs b => hsel i oi cs b hi) (fun cs b => hsel j oj cs b hoj) hQ hy h1
      have hfree' : ∀ k ok, ops[k]? = some ok → k ≠ i → (listed.setIfInBounds j true).getD k true = false →
          (∀ e ∈ ok.after, Region.binds md e = true → e.on ≠ i) → oi.apart ops ok = true := fun k ok hk hki hun hno => by
        refine hfree k ok hk hki ?_ hno
        by_cases hjk : j = k
        · subst hjk; exact hjun
        · rw [getD_set_ne true hjk] at hun; exact hun
      refine wpOp_mono (fun a' w' h3 => ⟨h3.2.1, ih (listed.setIfInBounds j true) a' w' hfree' (ready_mono hr (Ne.symm hji)) h3.1 (h3.2.1 hnf) ?_⟩) h2
      rw [Array.setIfInBounds_comm _ _ hji]
      exact h3.2.2

/-- Does operation number i wait for number j's end, whichever of the last ones j is? As a closed Bool. -/
def finWaits (md : Region.Mode) (ops : Array Oper) (fin : Nat → Bool) (i : Nat) : Bool :=
  (List.range ops.size).all fun j => !fin j || match ops[j]? with
    | some oj => oj.after.any fun e => Region.binds md e && e.on == i
    | none => true

theorem finWaits_spec {i : Nat} (h : finWaits md ops fin i = true) : ∀ j oj, fin j = true → ops[j]? = some oj → ∃ e ∈ oj.after, Region.binds md e = true ∧ e.on = i := by
  intro j oj hf hj
  have hlt : j < ops.size := (Array.getElem?_eq_some_iff.1 hj).1
  have h1 := List.all_eq_true.1 h j (List.mem_range.2 hlt)
  simp only [hf, Bool.not_true, Bool.false_or, hj] at h1
  obtain ⟨e, he, hb⟩ := Array.any_eq_true'.1 h1
  simp only [Bool.and_eq_true, beq_iff_eq] at hb
  exact ⟨e, he, hb.1, hb.2⟩

theorem wpAnyK_take {i : Nat} {oi : Oper} {v : Value} {fuel : Nat} {listed : Array Bool} {a : Act} {w : World} (hi : ops[i]? = some oi)
    (hs : Region.noSelect ops = true) (hf : Region.free md ops listed i = true) (hr : (Region.ready md ops listed).contains i = true) (hw : finWaits md ops fin i = true)
    (hQ : ∀ c a w, Q (.panic c) (a.put oi.dst v) w → Q (.panic c) a w) (hy : YieldsIf P ops S oi v a) (hS : S w)
    (h : wpAnyK P md ops Q S fin fuel (listed.setIfInBounds i true) (a.put oi.dst v) w) : wpAnyK P md ops Q S fin (fuel + 1) listed a w :=
  wpAnyK_first hi (Region.noSelect_spec hs) hQ (finWaits_spec hw) fuel listed a w (Region.free_spec hi hf) (by simpa using hr) hy hS h

/-- One operation alone can come up. -/
theorem wpAnyK_one {i : Nat} {oi : Oper} {fuel : Nat} {listed : Array Bool} {a : Act} {w : World} (hr : Region.ready md ops listed = [i]) (hi : ops[i]? = some oi)
    (h : ∀ K : Act → World → Prop, (∀ a' w', (fin i = false → S w') → wpAnyK P md ops Q S fin fuel (listed.setIfInBounds i true) a' w' → K a' w') → (if Region.wanted oi (yielded ops a.tmps) = true then Oper.wp P oi a w K Q else K (a.put oi.dst undef) w)) :
    wpAnyK P md ops Q S fin (fuel + 1) listed a w := by
  refine ⟨fun h0 => (by rw [hr] at h0; cases h0), fun j hj => ?_⟩
  rw [hr] at hj
  obtain rfl : j = i := by simpa using hj
  have h' := h (fun a' w' => (fin j = false → S w') ∧ wpAnyK P md ops Q S fin fuel (listed.setIfInBounds j true) a' w') (fun a' w' h1 h2 => ⟨h1, h2⟩)
  unfold wpOp
  simp only [hi]
  by_cases hw : Region.wanted oi (yielded ops a.tmps) = true
  · simp only [hw, if_true] at h' ⊢
    exact .inl h'
  · simp only [hw] at h' ⊢
    exact h'

theorem wpAnyK_done {listed : Array Bool} {a : Act} {w : World} (hr : Region.ready md ops listed = []) (h : Q .normal a w) :
    ∀ fuel, wpAnyK P md ops Q S fin fuel listed a w
  | 0 => ⟨hr, h⟩
  | _ + 1 => ⟨fun _ => h, by rw [hr]; simp⟩

theorem wp_region_K {id : Nat} {a : Act} {w : World} (S : World → Prop) (fin : Nat → Bool) (hm : P.follows .mixedOrders = true)
    (h : wpAnyK P .any ops Q S fin ops.size (Array.replicate ops.size false) a { w with drawn := w.drawn + 1 }) : (Code.region id ops true).wp P Q a w :=
  wp_region_any hm (wpAny_of_K _ _ _ _ h)
end
end Go.Proofs.Qxb6601041a
