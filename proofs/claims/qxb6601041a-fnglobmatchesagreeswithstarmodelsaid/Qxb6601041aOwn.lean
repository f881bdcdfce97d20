/- Laws of no program: append onto a slice that is owned, from whatever source, and append of zero values; the value that comes back written out as a slice. -/
import Derived.WalkKit
import Derived.Deep.AppendLies
import Derived.Lib.AppendZerosOnto
namespace Go.Proofs.Qxb6601041a
open Go.RowKit

/-- The block in which a slice lies. -/
def blockOf (a : Option Addr) : Option Nat := a.map (·.block)

theorem ownBlock_slice (a : Option Addr) (n k : Nat) : Value.ownBlock (.slice a n k) = blockOf a := by cases a <;> rfl

theorem own_form {w : World} {base : Nat} {e : TypeId} {size : Nat} {v : Value} {n : Nat} {xs : List Value} (h : w.ownsRow base e size v n xs) : ∃ a k, v = .slice a n k := by
  rcases h.2 with ⟨rfl, rfl⟩ | ⟨g, cap, cur, rfl, _⟩
  · exact ⟨none, 0, rfl⟩
  · exact ⟨_, _, rfl⟩

section
variable {P : Program} (w : World)

theorem run_append_src (base : Nat) (t ty e : TypeId) (i : TypeInfo) (z : Value) (size bytes : Nat) (ht : P.underlying t = some (.slice e)) (hi : P.info? e = some i) (hz : i.zero = some z)
    (hsize : i.size = size) (hby : i.bytes = bytes) (hzs : z.cells.size = size) (hsz : 0 < size)
    (a : Option Addr) (k n : Nat) (xs : List Value) (hown : w.ownsRow base e size (.slice a n k) n xs)
    (src : Option Addr) (m c : Nat) (news : List Value) (hl : news.length = m * size) (hnone : src = none → m = 0 ∧ c = 0) (hnews : ∀ ad, src = some ad → ∀ j u, news[j]? = some u → w.cell? (ad.add j) = some u) (h1 : ∀ u ∈ news, u.oneCell' = true)
    (h63 : n + m ≤ maxLen) (hbytes : (n + m) * bytes ≤ 140737488355328) (hbase : base ≤ w.heap.size) :
    ∃ a' k' w', (Builtin.append_ #[t, t] ty #[.slice a n k, .slice src m c]).run P w = .ok (.slice a' (n + m) k') w' ∧ w'.ownsRow base e size (.slice a' (n + m) k') (n + m) (xs ++ news) ∧
      w.grownBy w' (blockOf a) ∧ (blockOf a' = blockOf a ∨ blockOf a' = some w.heap.size) := by
  cases src with
  | none =>
    obtain ⟨rfl, rfl⟩ := hnone rfl
    have hn : news = [] := List.eq_nil_of_length_eq_zero (by simpa using hl)
    subst hn
    have hr := run_append_owned_none (P := P) w base t ty e i size ht hi _ n xs hown
    exact ⟨a, k, w, by simpa using hr, by simpa using hown, World.grownBy.refl _ _, .inl rfl⟩
  | some ad =>
    obtain ⟨v', w', hr, h2, h3, _, h5⟩ := run_append_own_at (P := P) w base t ty e i z size bytes ht hi hz hsize hby hzs hsz _ n xs hown ad m c news hl (hnews ad rfl) h1 h63 hbytes hbase
    obtain ⟨a', k', rfl⟩ := own_form h2
    rw [ownBlock_slice] at h3
    rw [ownBlock_slice, ownBlock_slice] at h5
    exact ⟨a', k', w', hr, h2, h3, h5⟩

theorem run_append_zeros (base : Nat) (t tn ty e : TypeId) (i : TypeInfo) (z : Value) (bytes : Nat) (kn kq : IntKind) (ht : P.underlying t = some (.slice e)) (htn : P.underlying tn = some (.int kn)) (hi : P.info? e = some i) (hz : i.zero = some z)
    (hsize : i.size = 1) (hby : i.bytes = bytes) (hzs : z.cells = #[z]) (hz1 : z.oneCell' = true)
    (a : Option Addr) (k n : Nat) (xs : List Value) (hown : w.ownsRow base e 1 (.slice a n k) n xs) (m : Nat)
    (h63 : n + m ≤ maxLen) (hbytes : (n + m) * bytes ≤ 140737488355328) (hbase : base ≤ w.heap.size) :
    ∃ a' k' w', (Builtin.append_ #[t, tn] ty #[.slice a n k, .int kq (m : Int)]).run P w = .ok (.slice a' (n + m) k') w' ∧ w'.ownsRow base e 1 (.slice a' (n + m) k') (n + m) (xs ++ List.replicate m z) ∧
      w.grownBy w' (blockOf a) ∧ (blockOf a' = blockOf a ∨ blockOf a' = some w.heap.size) := by
  subst hby
  have hsmall : n + m ≤ 9223372036854775807 := by simp only [maxLen] at h63; omega
  have hxl : xs.length = n := by simpa using hown.1
  have hlen : (xs ++ List.replicate m z).length = (n + m) * 1 := by simp [hxl]
  have hw : IntKind.i64.wrap (m : Int) = m := by rw [IntKind.wrap_i64]; omega
  have hneg : ¬ ((m : Int) < 0) := by omega
  have hmb : m * i.bytes ≤ (n + m) * i.bytes := Nat.mul_le_mul_right _ (by omega)
  have h48i : ¬ (281474976710656 < (m : Int) * (i.bytes : Int)) := by
    rw [← Int.natCast_mul]
    omega
  by_cases hm : m = 0
  · subst hm
    have hw0 : IntKind.i64.wrap 0 = 0 := by rw [IntKind.wrap_i64]; omega
    refine ⟨a, k, w, ?_, by simpa using hown, World.grownBy.refl _ _, .inl rfl⟩
    rcases hown.2 with ⟨hv, rfl⟩ | ⟨g, cap, cur, hv, _, _, hnc, _⟩
    · simp only [Value.slice.injEq] at hv
      obtain ⟨rfl, _, rfl⟩ := hv
      simp [Builtin.append_, run_underlying ht, run_underlying htn, sizeOf, typeInfo, hi, asInt, asIntOf, hw0]
    · simp only [Value.slice.injEq] at hv
      obtain ⟨rfl, _, rfl⟩ := hv
      simp [Builtin.append_, run_underlying ht, run_underlying htn, sizeOf, typeInfo, hi, asInt, asIntOf, hw0, hnc, storeCells]
  have hzc : Builtin.zeroCells z.cells m = (List.replicate m z).toArray := by
    rw [hzs]
    apply Array.ext
    · simp [Builtin.zeroCells]
    · intro j h1 h2
      simp [Builtin.zeroCells, Nat.mod_one]
  have grows : k < n + m → ∃ a' k' w', (Builtin.append_ #[t, tn] ty #[.slice a n k, .int kq (m : Int)]).run P w = .ok (.slice a' (n + m) k') w' ∧ w'.ownsRow base e 1 (.slice a' (n + m) k') (n + m) (xs ++ List.replicate m z) ∧
      w.grownBy w' (blockOf a) ∧ (blockOf a' = blockOf a ∨ blockOf a' = some w.heap.size) := fun hk => by
    have hfirst : (Builtin.firstCells i.size n (.slice a n k)).run P w.drew = .ok xs.toArray w.drew := by
      rcases hown.2 with ⟨hv, rfl⟩ | ⟨g, cap, cur, hv, hb, hg, hnc, hcm, hcs, htake⟩
      · simp only [Value.slice.injEq] at hv
        obtain ⟨rfl, _, rfl⟩ := hv
        have : xs = [] := List.eq_nil_of_length_eq_zero hxl
        subst this
        simp [Builtin.firstCells]
      · simp only [Value.slice.injEq] at hv
        obtain ⟨rfl, _, rfl⟩ := hv
        exact run_firstCells_some (P := P) w.drew i.size n ⟨g, 0, none⟩ n k xs (by rw [hsize]; simpa using hxl) (fun j u hu => by
          have := hown.cells (g := g) rfl j u hu
          exact this)
    have hr := Lib.run_append_grow_zeros (P := P) w t tn ty e i z kq kn ht htn hi hz a n k xs hfirst m (by omega) (by omega) hk (by omega) (by omega) (growslice_fits (by omega) hbytes)
    have hge := grownCap_ge w (n + m) k e
    refine ⟨_, _, _, hr, ⟨hlen, .inr ⟨w.heap.size, _, _, rfl, hbase, heap_alloc_new w.drew _, hge, grownCap_le_maxLen w (n + m) k e h63, ?_, ?_⟩⟩, ⟨rfl, rfl, rfl, by simp, fun b hb _ => Below.heap_alloc w.drew _ b hb⟩, .inr rfl⟩
    · simp only [Array.size_append, List.size_toArray, size_zeroCells, hzs, hxl]
      simp
      omega
    · rw [hzc, ← hlen]
      simp only [Array.toList_append]
      exact List.take_left
  rcases hown.2 with ⟨hv, rfl⟩ | ⟨g, cap, cur, hv, hb, hg, hnc, hcm, hcs, htake⟩
  · simp only [Value.slice.injEq] at hv
    obtain ⟨rfl, _, rfl⟩ := hv
    exact grows (by omega)
  · simp only [Value.slice.injEq] at hv
    obtain ⟨rfl, _, rfl⟩ := hv
    by_cases hroom : n + m ≤ k
    · have hst := run_storeCells_at P g (n * i.size) e (List.replicate m z) 0 cur w hg (by simp [hsize]; omega) (fun u hu => by rw [List.eq_of_mem_replicate hu]; exact hz1)
      simp only [Nat.add_zero] at hst
      rw [hsize] at hst
      simp only [Nat.mul_one] at hst
      have hr : (Builtin.append_ #[t, tn] ty #[.slice (some ⟨g, 0, none⟩) n k, .int kq (m : Int)]).run P w =
          .ok (.slice (some ⟨g, 0, none⟩) (n + m) k) (w.setRow g (cur.toList.take n ++ List.replicate m z ++ cur.toList.drop (n + m)).toArray) := by
        have hns : ¬ (m * i.size = 0) := by rw [hsize]; omega
        have hzv : ∀ w, (zeroValue e).run P w = .ok z w := fun w => by simp [zeroValue, typeInfo, hi, hz]
        simp [Builtin.append_, run_underlying ht, run_underlying htn, sizeOf, typeInfo, hi, asInt, asIntOf, hw, hneg, h48i, hroom, hm, hzv, hzc, hsize, Addr.add_lit, hst]
      refine ⟨_, _, _, hr, ⟨hlen, .inr ⟨g, k, _, rfl, hb, setRow_heap w g cur _ e _ hg, hroom, hcm, ?_, ?_⟩⟩, ⟨rfl, rfl, rfl, by simp, fun b _ hk => setRow_other w g b _ (fun e => hk (by simp [blockOf, e]))⟩, .inl rfl⟩
      · simp only [List.size_toArray, List.length_append, List.length_take, List.length_drop, Array.length_toList, List.length_replicate]
        omega
      · simp only [Nat.mul_one] at htake
        rw [htake, ← hlen]
        exact List.take_left
    · exact grows (by omega)

variable {w}

theorem wp_append_src {o : Oper} {a : Act} {K : Act → World → Prop} {Q : Exit → Act → World → Prop} (s x : Operand) (t : TypeId)
    (ho : o.op = .call { callee := .builtin .append, args := #[s, x], argTypes := #[t, t] })
    (base : Nat) (e : TypeId) (i : TypeInfo) (z : Value) (size bytes : Nat) (ht : P.underlying t = some (.slice e)) (hi : P.info? e = some i) (hz : i.zero = some z)
    (hsize : i.size = size) (hby : i.bytes = bytes) (hzs : z.cells.size = size) (hsz : 0 < size)
    (aa : Option Addr) (k n : Nat) (xs : List Value) (hs : a.eval s = .slice aa n k) (hown : w.ownsRow base e size (.slice aa n k) n xs)
    (src : Option Addr) (m c : Nat) (news : List Value) (hx : a.eval x = .slice src m c) (hl : news.length = m * size) (hnone : src = none → m = 0 ∧ c = 0) (hnews : ∀ ad, src = some ad → ∀ j u, news[j]? = some u → w.cell? (ad.add j) = some u) (h1 : ∀ u ∈ news, u.oneCell' = true)
    (h63 : n + m ≤ maxLen) (hbytes : (n + m) * bytes ≤ 140737488355328) (hbase : base ≤ w.heap.size)
    (h : ∀ a' k' w', w'.ownsRow base e size (.slice a' (n + m) k') (n + m) (xs ++ news) → w.grownBy w' (blockOf aa) → (blockOf a' = blockOf aa ∨ blockOf a' = some w.heap.size) → K (a.put o.dst (.slice a' (n + m) k')) w') : o.wp P a w K Q := by
  obtain ⟨a', k', w', hr, h2, h3, h4⟩ := run_append_src (P := P) w base t o.type e i z size bytes ht hi hz hsize hby hzs hsz aa k n xs hown src m c news hl hnone hnews h1 h63 hbytes hbase
  unfold Oper.wp execOp
  simp only [ho, resolve, invoke, builtin, Sem.run_bind, Sem.run_pure, Result.andThen_ok, List.map_toArray, List.map_cons, List.map_nil, hs, hx, hr]
  exact h a' k' w' h2 h3 h4

theorem wpList_append_src {ops : Array Oper} {rest : List Oper} {o : Oper} {a : Act} {Q : Exit → Act → World → Prop} (hgd : o.guard = none) (s x : Operand) (t : TypeId)
    (ho : o.op = .call { callee := .builtin .append, args := #[s, x], argTypes := #[t, t] })
    (base : Nat) (e : TypeId) (i : TypeInfo) (z : Value) (size bytes : Nat) (ht : P.underlying t = some (.slice e)) (hi : P.info? e = some i) (hz : i.zero = some z)
    (hsize : i.size = size) (hby : i.bytes = bytes) (hzs : z.cells.size = size) (hsz : 0 < size)
    (aa : Option Addr) (k n : Nat) (xs : List Value) (hs : a.eval s = .slice aa n k) (hown : w.ownsRow base e size (.slice aa n k) n xs)
    (src : Option Addr) (m c : Nat) (news : List Value) (hx : a.eval x = .slice src m c) (hl : news.length = m * size) (hnone : src = none → m = 0 ∧ c = 0) (hnews : ∀ ad, src = some ad → ∀ j u, news[j]? = some u → w.cell? (ad.add j) = some u) (h1 : ∀ u ∈ news, u.oneCell' = true)
    (h63 : n + m ≤ maxLen) (hbytes : (n + m) * bytes ≤ 140737488355328) (hbase : base ≤ w.heap.size)
    (h : ∀ a' k' w', w'.ownsRow base e size (.slice a' (n + m) k') (n + m) (xs ++ news) → w.grownBy w' (blockOf aa) → (blockOf a' = blockOf aa ∨ blockOf a' = some w.heap.size) → wpList P ops Q rest (a.put o.dst (.slice a' (n + m) k')) w') : wpList P ops Q (o :: rest) a w :=
  wpList_plain hgd fun _ hK => wp_append_src s x t ho base e i z size bytes ht hi hz hsize hby hzs hsz aa k n xs hs hown src m c news hx hl hnone hnews h1 h63 hbytes hbase fun a' k' w' h2 h3 h4 => hK _ _ (h a' k' w' h2 h3 h4)

theorem step_append_src {ops : Array Oper} {o : Oper} {a : Act} {K : Act → World → Prop} {Q : Exit → Act → World → Prop} {E : Prop} (hgd : o.guard = none) (s x : Operand) (t : TypeId)
    (ho : o.op = .call { callee := .builtin .append, args := #[s, x], argTypes := #[t, t] })
    (base : Nat) (e : TypeId) (i : TypeInfo) (z : Value) (size bytes : Nat) (ht : P.underlying t = some (.slice e)) (hi : P.info? e = some i) (hz : i.zero = some z)
    (hsize : i.size = size) (hby : i.bytes = bytes) (hzs : z.cells.size = size) (hsz : 0 < size)
    (aa : Option Addr) (k n : Nat) (xs : List Value) (hs : a.eval s = .slice aa n k) (hown : w.ownsRow base e size (.slice aa n k) n xs)
    (src : Option Addr) (m c : Nat) (news : List Value) (hx : a.eval x = .slice src m c) (hl : news.length = m * size) (hnone : src = none → m = 0 ∧ c = 0) (hnews : ∀ ad, src = some ad → ∀ j u, news[j]? = some u → w.cell? (ad.add j) = some u) (h1 : ∀ u ∈ news, u.oneCell' = true)
    (h63 : n + m ≤ maxLen) (hbytes : (n + m) * bytes ≤ 140737488355328) (hbase : base ≤ w.heap.size)
    (h : ∀ a' k' w', w'.ownsRow base e size (.slice a' (n + m) k') (n + m) (xs ++ news) → w.grownBy w' (blockOf aa) → (blockOf a' = blockOf aa ∨ blockOf a' = some w.heap.size) → K (a.put o.dst (.slice a' (n + m) k')) w') :
    if Region.wanted o (yielded ops a.tmps) = true then Oper.wp P o a w K Q else E := by
  have hw : Region.wanted o (yielded ops a.tmps) = true := by simp [Region.wanted, hgd]
  rw [if_pos hw]
  exact wp_append_src s x t ho base e i z size bytes ht hi hz hsize hby hzs hsz aa k n xs hs hown src m c news hx hl hnone hnews h1 h63 hbytes hbase h

/-- A call of a Go function of one argument at a step of a region that draws its order. -/
theorem step_call1 {ops : Array Oper} {o : Oper} {a : Act} {K : Act → World → Prop} {Q : Exit → Act → World → Prop} {E : Prop} (hgd : o.guard = none) (f : Nat) (x : Operand) (ts : Array TypeId)
    (ho : o.op = .call { callee := .value (.func f), args := #[x], argTypes := ts }) (v : Value) (hx : a.eval x = v) (hent : ∀ args w, (callFunc f args).run P w = .ok (.enter f args) w)
    {R : Ending → World → Prop} (c : Calls P f #[v] w R) (h : ∀ e w', R e w' → ∃ r, e = .returned r ∧ K (a.put o.dst r) w') :
    if Region.wanted o (yielded ops a.tmps) = true then Oper.wp P o a w K Q else E := by
  have hw : Region.wanted o (yielded ops a.tmps) = true := by simp [Region.wanted, hgd]
  rw [if_pos hw]
  have hfn : a.eval (.func f) = .func (.func f) #[] #[] := rfl
  have hr : (execOp a.eval o).run P w = .ok (.enter f #[v]) w := by
    generalize a.eval = ev at hx hfn ⊢
    simp [execOp, ho, resolve, invoke, hfn, hx, Deferred.ofValue, hent]
  unfold Oper.wp
  rw [hr, Oper.upon_enter]
  refine c.mono fun e w' hR => ?_
  obtain ⟨r, rfl, hK⟩ := h e w' hR
  exact hK

theorem wpList_append_zeros {ops : Array Oper} {rest : List Oper} {o : Oper} {a : Act} {Q : Exit → Act → World → Prop} (hgd : o.guard = none) (s x : Operand) (t tn : TypeId)
    (ho : o.op = .call { callee := .builtin .append, args := #[s, x], argTypes := #[t, tn] })
    (base : Nat) (e : TypeId) (i : TypeInfo) (z : Value) (bytes : Nat) (kn kq : IntKind) (ht : P.underlying t = some (.slice e)) (htn : P.underlying tn = some (.int kn)) (hi : P.info? e = some i) (hz : i.zero = some z)
    (hsize : i.size = 1) (hby : i.bytes = bytes) (hzs : z.cells = #[z]) (hz1 : z.oneCell' = true)
    (aa : Option Addr) (k n : Nat) (xs : List Value) (hs : a.eval s = .slice aa n k) (hown : w.ownsRow base e 1 (.slice aa n k) n xs) (M : Int) (m : Nat) (hx : a.eval x = .int kq M) (hM : M = (m : Int))
    (h63 : n + m ≤ maxLen) (hbytes : (n + m) * bytes ≤ 140737488355328) (hbase : base ≤ w.heap.size)
    (h : ∀ a' k' w', w'.ownsRow base e 1 (.slice a' (n + m) k') (n + m) (xs ++ List.replicate m z) → w.grownBy w' (blockOf aa) → (blockOf a' = blockOf aa ∨ blockOf a' = some w.heap.size) → wpList P ops Q rest (a.put o.dst (.slice a' (n + m) k')) w') : wpList P ops Q (o :: rest) a w := by
  subst hM
  refine wpList_plain hgd fun K hK => ?_
  obtain ⟨a', k', w', hr, h2, h3, h4⟩ := run_append_zeros (P := P) w base t tn o.type e i z bytes kn kq ht htn hi hz hsize hby hzs hz1 aa k n xs hown m h63 hbytes hbase
  unfold Oper.wp execOp
  simp only [ho, resolve, invoke, builtin, Sem.run_bind, Sem.run_pure, Result.andThen_ok, List.map_toArray, List.map_cons, List.map_nil, hs, hx, hr]
  exact hK _ _ (h a' k' w' h2 h3 h4)
end
end Go.Proofs.Qxb6601041a
