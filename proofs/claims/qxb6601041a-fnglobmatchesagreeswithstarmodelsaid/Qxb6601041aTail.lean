/- The lits' tail: sorted, then compacted, in place: the library's two calls as the glob sees them. -/
import Derived.Test.Qxb6601041aGlob
import Derived.Test.Qxb6601041aPlain
import Derived.Test.Qxb6601041aSrtTop
namespace Go.Proofs.Qxb6601041a
open Go.RowKit Go.Lib Go.Sort

/-- Where the part of a row from 'from' on begins, if it has n elements. -/
def Tail (al : Option Addr) (fr n : Nat) (p : Option Addr) : Prop := n = 0 ∨ ∃ g, al = some ⟨g, 0, none⟩ ∧ p = some ⟨g, fr, none⟩

theorem own_some {w : World} {base : Nat} {e : TypeId} {size : Nat} {a : Option Addr} {k n : Nat} {xs : List Value} (h : w.ownsRow base e size (.slice a n k) n xs) (hn : 0 < n) :
    ∃ g cur, a = some ⟨g, 0, none⟩ ∧ base ≤ g ∧ w.heap[g]? = some (.cells cur e (0, 0)) ∧ n ≤ k ∧ k ≤ maxLen ∧ cur.size = k * size ∧ cur.toList.take (n * size) = xs := by
  rcases h.2 with ⟨_, h0⟩ | ⟨g, cap, cur, hv, hb, hg, h1, h2, h3, h4⟩
  · omega
  · simp only [Value.slice.injEq] at hv
    obtain ⟨rfl, _, rfl⟩ := hv
    exact ⟨g, cur, rfl, hb, hg, h1, h2, h3, h4⟩

theorem own_le {w : World} {base : Nat} {e : TypeId} {size : Nat} {a : Option Addr} {k n : Nat} {xs : List Value} (h : w.ownsRow base e size (.slice a n k) n xs) : n ≤ k := by
  rcases h.2 with ⟨hv, h0⟩ | ⟨g, cap, cur, hv, hb, hg, h1, h2, h3, h4⟩
  · omega
  · simp only [Value.slice.injEq] at hv
    omega

/-- The slice 'x[fr:]' of an owned row. -/
theorem tail_of {w : World} {base : Nat} {e : TypeId} {a : Option Addr} {k n fr : Nat} {xs : List Value} (h : w.ownsRow base e 1 (.slice a n k) n xs) (hf : fr ≤ n) :
    ∃ p, (if k = fr then a else a.map fun x => x.add fr) = p ∧ Tail a fr (n - fr) p := by
  refine ⟨_, rfl, ?_⟩
  by_cases h0 : n - fr = 0
  · exact .inl h0
  · obtain ⟨g, cur, rfl, _, _, hk, _⟩ := own_some h (by omega)
    refine .inr ⟨g, rfl, ?_⟩
    rw [if_neg (by omega)]
    simp [Addr.add]
    omega

/-- An owned row cut short. -/
theorem own_cut {w : World} {base : Nat} {e : TypeId} {a : Option Addr} {k n : Nat} {xs ys : List Value} (h : w.ownsRow base e 1 (.slice a n k) n (xs ++ ys)) : w.ownsRow base e 1 (.slice a xs.length k) xs.length xs := by
  have hl : xs.length + ys.length = n := by simpa using h.1
  refine ⟨by simp, ?_⟩
  rcases h.2 with ⟨hv, h0⟩ | ⟨g, cap, cur, hv, hb, hg, h1, h2, h3, h4⟩
  · simp only [Value.slice.injEq] at hv
    obtain ⟨rfl, _, rfl⟩ := hv
    have hx : xs.length = 0 := by omega
    exact .inl ⟨by rw [hx], hx⟩
  · simp only [Value.slice.injEq] at hv
    obtain ⟨rfl, _, rfl⟩ := hv
    refine .inr ⟨g, k, cur, rfl, hb, hg, by omega, h2, h3, ?_⟩
    rw [Nat.mul_one] at h4 ⊢
    have e : (cur.toList.take n).take xs.length = cur.toList.take xs.length := by rw [List.take_take]; congr 1; omega
    rw [← e, h4]
    simp

theorem tail_holds {w : World} {base g n k : Nat} {ls fs : List Int} (h : w.ownsRow base 21 1 (.slice (some ⟨g, 0, none⟩) n k) n ((ls ++ fs).map (Value.int .i32))) : Holds (Value.int .i32) w g ls.length fs.toArray := by
  have hl : ls.length + fs.length = n := by simpa using h.1
  intro j hj
  have hj' : j < fs.length := by simpa using hj
  have hc := h.cellAt (ls.length + j) (by omega)
  refine ⟨?_, h.frozenAt _⟩
  rw [hc]
  rw [List.map_append, List.getElem?_append_right (by simp)]
  simp [hj']

theorem put_block {w : World} {g off : Nat} {d : Array Int} {cur : Array Value} {e : TypeId} (hg : w.heap[g]? = some (.cells cur e (0, 0))) : (putRow (Value.int .i32) w g off d).heap[g]? = some (.cells (putCells (Value.int .i32) off d cur) e (0, 0)) := by
  simp [putRow, mapBlock, Array.getElem?_modify, hg, onCells]

theorem put_other {w : World} {g off k : Nat} {d : Array Int} (hk : k ≠ g) : (putRow (Value.int .i32) w g off d).heap[k]? = w.heap[k]? := by
  simp [putRow, mapBlock, Array.getElem?_modify, show ¬ g = k from fun e => hk e.symm]

theorem put_take {ls fs ds : List Int} {cur : Array Value} (hcur : cur.toList.take (ls.length + fs.length) = (ls ++ fs).map (Value.int .i32)) (hd : ds.length = fs.length) :
    (putCells (Value.int .i32) ls.length ds.toArray cur).toList.take (ls.length + fs.length) = (ls ++ ds).map (Value.int .i32) := by
  apply List.ext_getElem?
  intro j
  have hsz : ls.length + fs.length ≤ cur.size := by
    have := congrArg List.length hcur
    simp at this
    omega
  rw [List.getElem?_take]
  by_cases hj : j < ls.length + fs.length
  · rw [if_pos hj]
    have hc : cur.toList[j]? = ((ls ++ fs).map (Value.int .i32))[j]? := by rw [← hcur, List.getElem?_take, if_pos hj]
    simp only [putCells, Array.getElem?_toList, Array.getElem?_mapIdx]
    rw [Array.getElem?_toList] at hc
    rw [hc]
    by_cases h1 : j < ls.length
    · rw [List.map_append, List.getElem?_append_left (by simpa using h1), List.map_append, List.getElem?_append_left (by simpa using h1)]
      have h2 : ¬ (ls.length ≤ j ∧ j < ls.length + ds.length) := by omega
      simp [h1, h2]
    · rw [List.map_append, List.getElem?_append_right (by simpa using h1), List.map_append, List.getElem?_append_right (by simpa using h1)]
      have h2 : ls.length ≤ j ∧ j < ls.length + ds.length := by omega
      have h3 : j - ls.length < fs.length := by omega
      have h4 : j - ls.length < ds.length := by omega
      simp [h2, h3, h4]
  · rw [if_neg hj, List.getElem?_eq_none (by simp; omega)]

theorem news_new (w : World) (cs : List Value) (t : TypeId) : ∀ ad, some (⟨w.heap.size, 0, none⟩ : Addr) = some ad → ∀ j u, cs[j]? = some u → (w.alloc (.cells cs.toArray t)).drew.cell? (ad.add j) = some u := by
  intro ad had j u hu
  obtain rfl := Option.some.inj had
  exact World.news_of_block (w := w.alloc (.cells cs.toArray t)) (heap_alloc_new w _) j u (by simpa using hu)

theorem wrap_i32 {x : Int} (h1 : -2147483648 ≤ x) (h2 : x ≤ 2147483647) : IntKind.i32.wrap x = x := by
  rw [IntKind.wrap_i32]
  omega

theorem row_news {w wr : World} {bg : Nat} {a : Option Addr} {zs : List Int} (hz : Row .i32 w a zs) (hzb : ∀ x, blockOf a = some x → x < bg) (hb : RowKit.Below bg w wr) :
    ∀ ad, a = some ad → ∀ j u, (zs.map (Value.int .i32))[j]? = some u → wr.cell? (ad.add j) = some u := by
  intro ad had j u hu
  have hj : j < zs.length := by simpa using (List.getElem?_eq_some_iff.1 hu).1
  rcases hz with rfl | ⟨b, off, rfl, hc⟩
  · simp at hj
  · obtain rfl := Option.some.inj had
    rw [Addr.add_lit, hb.cell (p := ⟨b, off + j, none⟩) (hzb b rfl), hc j hj]
    simpa [hj] using hu

section
variable {w : World} {bg : Nat} {wd : Bool} {cs ls ms : List Int} {ss : List Value} {ns : Nat} {ac : Option Addr} {kc : Nat} {al : Option Addr} {kl : Nat} {am : Option Addr} {km : Nat} {az : Option Addr} {kz : Nat}

/-- The tail of the lits' row written anew; draws; new blocks. -/
theorem Gl.put {fs ds : List Int} (h : Gl w bg wd cs (ls ++ fs) ms ss ns ac kc al kl am km az kz) (g n : Nat) (os : Array Obj) (hal : al = some ⟨g, 0, none⟩) (hd : ds.length = fs.length) :
    Gl (grow (putRow (Value.int .i32) (Sort.ahead w n) g ls.length ds.toArray) os) bg wd cs (ls ++ ds) ms ss ns ac kc al kl am km az kz ∧ Below bg w (grow (putRow (Value.int .i32) (Sort.ahead w n) g ls.length ds.toArray) os) := by
  subst hal
  have hlt := own_lt h.ol g rfl
  have hold : ∀ x, x < w.heap.size → (grow (putRow (Value.int .i32) (Sort.ahead w n) g ls.length ds.toArray) os).heap[x]? = (putRow (Value.int .i32) (Sort.ahead w n) g ls.length ds.toArray).heap[x]? := fun x hx => heap_grow_old _ os (by simpa using hx)
  have hoth : ∀ x, x < w.heap.size → x ≠ g → (grow (putRow (Value.int .i32) (Sort.ahead w n) g ls.length ds.toArray) os).heap[x]? = w.heap[x]? := fun x hx hne => by rw [hold x hx, put_other hne]; rfl
  have hlen : (ls ++ ds).length = (ls ++ fs).length := by simp [hd]
  have hside : ∀ {e size} {a : Option Addr} {k m : Nat} {xs : List Value}, w.ownsRow (bg + 1) e size (.slice a m k) m xs → Sep a (some ⟨g, 0, none⟩) → (grow (putRow (Value.int .i32) (Sort.ahead w n) g ls.length ds.toArray) os).ownsRow (bg + 1) e size (.slice a m k) m xs := fun ho hs =>
    own_keep ho fun x hx => hoth x (own_lt ho x hx).2 (fun e => hs x hx (by rw [e]; rfl))
  refine ⟨⟨?_, hside h.oc h.cl, ?_, hside h.om h.lm.symm, hside h.os h.lz.symm, h.cl, h.cm, h.cz, h.lm, h.lz, h.mz⟩, ?_⟩
  · rw [hoth bg h.lt (by omega), h.blk, hlen]
  · rw [hlen]
    refine ⟨by simp [hd], ?_⟩
    rcases h.ol.2 with ⟨hv, _⟩ | ⟨g', cap, cur, hv, hb, hg, h1, h2, h3, h4⟩
    · cases hv
    · simp only [Value.slice.injEq, Option.some.injEq, Addr.mk.injEq, and_true] at hv
      obtain ⟨rfl, _, rfl⟩ := hv
      refine .inr ⟨g, kl, _, rfl, hb, (hold g hlt.2).trans (put_block (w := Sort.ahead w n) hg), h1, h2, by simpa [putCells] using h3, ?_⟩
      rw [Nat.mul_one, List.length_append] at h4 ⊢
      exact put_take h4 hd
  · exact ⟨rfl, rfl, rfl, by simp [grow], fun x hx => hoth x (by have := h.lt; omega) (by omega)⟩

theorem Gl.cutL {ys : List Int} (h : Gl w bg wd cs (ls ++ ys) ms ss ns ac kc al kl am km az kz) : w.ownsRow (bg + 1) 21 1 (.slice al ls.length kl) ls.length (ls.map (Value.int .i32)) := by
  have := h.ol
  rw [List.map_append] at this
  simpa using own_cut this

theorem Gl.newsL {ys zs : List Int} {n : Nat} {p : Option Addr} (h : Gl w bg wd cs (ls ++ (ys ++ zs)) ms ss ns ac kc al kl am km az kz) (hp : Tail al ls.length n p) (hn : ys.length ≤ n) :
    ∀ ad, p = some ad → ∀ j u, (ys.map (Value.int .i32))[j]? = some u → w.cell? (ad.add j) = some u := by
  intro ad had j u hu
  have hj : j < ys.length := by simpa using (List.getElem?_eq_some_iff.1 hu).1
  rcases hp with h0 | ⟨g, rfl, rfl⟩
  · omega
  · obtain rfl := Option.some.inj had
    rw [Addr.add_lit, h.ol.cellAt (ls.length + j) (by simp; omega), List.map_append, List.getElem?_append_right (by simp)]
    simp only [List.length_map, Nat.add_sub_cancel_left]
    rw [List.map_append, List.getElem?_append_left (by simpa using hj)]
    exact hu

/-- The tail of the lits as a slice's elements. -/
theorem Gl.rowL {ys : List Int} {p : Option Addr} (h : Gl w bg wd cs (ls ++ ys) ms ss ns ac kc al kl am km az kz) (hp : Tail al ls.length ys.length p) : Row .i32 w p ys := by
  rcases hp with h0 | ⟨g, rfl, rfl⟩
  · exact .inl (List.eq_nil_of_length_eq_zero h0)
  · refine .inr ⟨g, ls.length, rfl, fun j hj => ?_⟩
    rw [h.ol.cellAt (ls.length + j) (by simp; omega), List.map_append, List.getElem?_append_right (by simp)]
    simp [hj]

/-- One word of the masks' tail: read, and written. -/
theorem Gl.wordM {g : Nat} {ys : List Int} (h : Gl w bg wd cs ls (ms ++ ys) ss ns ac kc al kl (some ⟨g, 0, none⟩) km az kz) (j : Nat) (hj : j < ys.length) :
    w.cell? ⟨g, ms.length + j, none⟩ = some (.int .u64 (ys.getD j 0)) ∧ w.frozen? ⟨g, ms.length + j, none⟩ = false := by
  refine ⟨?_, h.om.frozenAt _⟩
  rw [h.om.cellAt (ms.length + j) (by simp; omega), List.map_append, List.getElem?_append_right (by simp)]
  simp [hj]

theorem Gl.storeM {g : Nat} {ys : List Int} (h : Gl w bg wd cs ls (ms ++ ys) ss ns ac kc al kl (some ⟨g, 0, none⟩) km az kz) (j : Nat) (x : Int) :
    Gl (w.setCell ⟨g, ms.length + j, none⟩ (.int .u64 x)) bg wd cs ls (ms ++ ys.set j x) ss ns ac kc al kl (some ⟨g, 0, none⟩) km az kz ∧ Below bg w (w.setCell ⟨g, ms.length + j, none⟩ (.int .u64 x)) := by
  have hg := own_lt h.om g rfl
  obtain ⟨ho, hgr⟩ := h.om.stored (ms.length + j) (.int .u64 x)
  have hb : Below bg w (w.setCell ⟨g, ms.length + j, none⟩ (.int .u64 x)) := (Below.refl bg w).setCell (by simp; omega) _
  have hgr' : w.grownBy (w.setCell ⟨g, ms.length + j, none⟩ (.int .u64 x)) (blockOf (some ⟨g, 0, none⟩)) := hgr
  refine ⟨⟨?_, own_grown h.oc hgr' h.cm, own_grown h.ol hgr' h.lm, ?_, own_grown h.os hgr' h.mz.symm, h.cl, h.cm, h.cz, h.lm, h.lz, h.mz⟩, hb⟩
  · rw [hgr.block bg h.lt (by simp; omega), h.blk]
    simp
  · have e : ((ms ++ ys).map (Value.int .u64)).set (ms.length + j) (.int .u64 x) = (ms ++ ys.set j x).map (Value.int .u64) := by
      simp only [List.map_append, List.map_set]
      rw [List.set_append_right _ _ (by simp)]
      simp
    rw [e] at ho
    have e2 : (ms ++ ys.set j x).length = (ms ++ ys).length := by simp
    rw [e2]
    exact ho

theorem Gl.noneL {p : Option Addr} (h : Gl w bg wd cs ls ms ss ns ac kc al kl am km az kz) {fr n : Nat} (hp : Tail al fr n p) (he : (if kl = fr then al else al.map fun x => x.add fr) = p) : p = none → n = 0 ∧ kl - fr = 0 := by
  intro hnone
  have hal : al = none := by
    subst hnone
    by_cases hk : kl = fr
    · simpa [hk] using he
    · simpa [hk] using he
  subst hal
  rcases h.ol.2 with ⟨hv, _⟩ | ⟨g, cap, cur, hv, _⟩
  · simp only [Value.slice.injEq] at hv
    refine ⟨?_, by omega⟩
    rcases hp with h0 | ⟨g, hg, _⟩
    · exact h0
    · cases hg
  · simp at hv

def TailSorted (bg : Nat) (w : World) (G : World → Prop) (e : Ending) (w' : World) : Prop := e = .returned (.tuple #[]) ∧ G w' ∧ Below bg w w'

theorem sort_tail {fs : List Int} {p : Option Addr} (c : Nat) (h : Gl w bg wd cs (ls ++ fs) ms ss ns ac kc al kl am km az kz) (hp : Tail al ls.length fs.length p) (hf : fs.length ≤ 1024) :
    Calls Try.prog 49 #[.slice p fs.length c] w (TailSorted bg w fun w' => Gl w' bg wd cs (ls ++ srt fs) ms ss ns ac kc al kl am km az kz) := by
  by_cases h0 : fs = []
  · subst h0
    refine (Srt.Sort_int_nil p c w).mono ?_
    rintro e w' ⟨rfl, rfl⟩
    exact ⟨rfl, by simpa [srt] using h, Below.refl _ _⟩
  · rcases hp with h1 | ⟨g, rfl, rfl⟩
    · exact absurd (List.eq_nil_of_length_eq_zero h1) h0
    · refine (Srt.slices_Sort_int g ls.length c fs w (tail_holds h.ol) (own_lt h.ol g rfl).2 (by omega)).mono ?_
      rintro e w' ⟨rfl, n, os, rfl⟩
      have := h.put (ds := srt fs) g n os rfl (srt_length fs)
      exact ⟨rfl, this.1, this.2⟩

def TailCut (bg : Nat) (v : Value) (w : World) (G : World → Prop) (e : Ending) (w' : World) : Prop := e = .returned v ∧ G w' ∧ Below bg w w'

theorem compact_tail {fs : List Int} {p : Option Addr} (c : Nat) (h : Gl w bg wd cs (ls ++ fs) ms ss ns ac kc al kl am km az kz) (hp : Tail al ls.length fs.length p) (hf : fs.length ≤ 1024) (hc : fs.length ≤ c) :
    Calls Try.prog 50 #[.slice p fs.length c] w (TailCut bg (.slice p (cpt fs).length c) w fun w' => Gl w' bg wd cs (ls ++ (cpt fs ++ List.replicate (fs.length - (cpt fs).length) 0)) ms ss ns ac kc al kl am km az kz) := by
  by_cases h0 : fs = []
  · subst h0
    refine (compact_nil p c w).mono ?_
    rintro e w' ⟨rfl, rfl⟩
    exact ⟨rfl, by simpa [cpt, compactUpTo] using h, Below.refl _ _⟩
  · rcases hp with h1 | ⟨g, rfl, rfl⟩
    · exact absurd (List.eq_nil_of_length_eq_zero h1) h0
    · have hcc := compact_any g ls.length c fs.toArray w (tail_holds h.ol) (by simp; omega) (by simpa using hc)
      simp only [List.size_toArray] at hcc
      refine hcc.mono ?_
      rintro e w' ⟨rfl, q, rfl⟩
      have := h.put (ds := cpt fs ++ List.replicate (fs.length - (cpt fs).length) 0) g q #[] rfl (by have := cpt_le fs; simp; omega)
      rw [grow_empty] at this
      exact ⟨rfl, this.1, this.2⟩
end
end Go.Proofs.Qxb6601041a
