/- A glob in memory: its struct's block, and the four rows that it owns. -/
import Derived.Test.Qxb6601041aOwn
import Derived.Test.Qxb6601041aLib
namespace Go.Proofs.Qxb6601041a
open Go.RowKit

/-- Two slices that lie in no common block. -/
def Sep (a b : Option Addr) : Prop := ∀ x, blockOf a = some x → blockOf b ≠ some x

theorem Sep.symm {a b : Option Addr} (h : Sep a b) : Sep b a := fun x h1 h2 => h x h2 h1

/-- The glob behind ⟨bg, 0⟩: chars, lits, masks, spans, words. -/
structure Gl (w : World) (bg : Nat) (wd : Bool) (cs ls ms : List Int) (ss : List Value) (ns : Nat) (ac : Option Addr) (kc : Nat) (al : Option Addr) (kl : Nat) (am : Option Addr) (km : Nat) (az : Option Addr) (kz : Nat) : Prop where
  blk : w.heap[bg]? = some (.cells #[.slice ac cs.length kc, .slice al ls.length kl, .slice am ms.length km, .slice az ns kz, .bool wd] 62 (0, 0))
  oc : w.ownsRow (bg + 1) 21 1 (.slice ac cs.length kc) cs.length (cs.map (Value.int .i32))
  ol : w.ownsRow (bg + 1) 21 1 (.slice al ls.length kl) ls.length (ls.map (Value.int .i32))
  om : w.ownsRow (bg + 1) 65 1 (.slice am ms.length km) ms.length (ms.map (Value.int .u64))
  os : w.ownsRow (bg + 1) 69 4 (.slice az ns kz) ns ss
  cl : Sep ac al
  cm : Sep ac am
  cz : Sep ac az
  lm : Sep al am
  lz : Sep al az
  mz : Sep am az

theorem own_lt {w : World} {base : Nat} {e : TypeId} {size : Nat} {a : Option Addr} {k n : Nat} {xs : List Value} (h : w.ownsRow base e size (.slice a n k) n xs) : ∀ x, blockOf a = some x → base ≤ x ∧ x < w.heap.size := by
  intro x hx
  exact h.lt x (by rw [ownBlock_slice]; exact hx)

theorem own_keep {w w' : World} {base : Nat} {e : TypeId} {size : Nat} {a : Option Addr} {k n : Nat} {xs : List Value} (h : w.ownsRow base e size (.slice a n k) n xs) (hb : ∀ x, blockOf a = some x → w'.heap[x]? = w.heap[x]?) : w'.ownsRow base e size (.slice a n k) n xs := by
  refine ⟨h.1, ?_⟩
  rcases h.2 with hn | ⟨g, cap, cur, hv, hb', hg, rest⟩
  · exact .inl hn
  · refine .inr ⟨g, cap, cur, hv, hb', ?_, rest⟩
    simp only [Value.slice.injEq] at hv
    rw [hb g (by rw [hv.1]; rfl)]
    exact hg

theorem own_grown {w w' : World} {base : Nat} {e : TypeId} {size : Nat} {a b : Option Addr} {k n : Nat} {xs : List Value} (h : w.ownsRow base e size (.slice a n k) n xs) (hg : w.grownBy w' (blockOf b)) (hs : Sep a b) : w'.ownsRow base e size (.slice a n k) n xs :=
  own_keep h fun x hx => hg.block x (own_lt h x hx).2 (fun e => hs x hx e.symm)

theorem sep_new {w : World} {base : Nat} {e : TypeId} {size : Nat} {a b b' : Option Addr} {k n : Nat} {xs : List Value} (h : w.ownsRow base e size (.slice a n k) n xs) (hs : Sep a b) (hat : blockOf b' = blockOf b ∨ blockOf b' = some w.heap.size) : Sep a b' := by
  intro x hx hy
  rcases hat with hat | hat
  · exact hs x hx (by rw [← hat]; exact hy)
  · rw [hat] at hy
    have := (own_lt h x hx).2
    simp at hy
    omega

section
variable {w : World} {bg : Nat} {wd : Bool} {cs ls ms : List Int} {ss : List Value} {ns : Nat} {ac : Option Addr} {kc : Nat} {al : Option Addr} {kl : Nat} {am : Option Addr} {km : Nat} {az : Option Addr} {kz : Nat}

theorem Gl.lt (h : Gl w bg wd cs ls ms ss ns ac kc al kl am km az kz) : bg < w.heap.size := (Array.getElem?_eq_some_iff.1 h.blk).1

theorem Gl.keep {w' : World} (h : Gl w bg wd cs ls ms ss ns ac kc al kl am km az kz) (hb : ∀ k, bg ≤ k → k < w.heap.size → w'.heap[k]? = w.heap[k]?) : Gl w' bg wd cs ls ms ss ns ac kc al kl am km az kz :=
  ⟨by rw [hb bg (Nat.le_refl _) h.lt]; exact h.blk, own_keep h.oc fun x hx => hb x (by have := own_lt h.oc x hx; omega) (own_lt h.oc x hx).2, own_keep h.ol fun x hx => hb x (by have := own_lt h.ol x hx; omega) (own_lt h.ol x hx).2,
    own_keep h.om fun x hx => hb x (by have := own_lt h.om x hx; omega) (own_lt h.om x hx).2, own_keep h.os fun x hx => hb x (by have := own_lt h.os x hx; omega) (own_lt h.os x hx).2, h.cl, h.cm, h.cz, h.lm, h.lz, h.mz⟩

theorem Gl.alloc (h : Gl w bg wd cs ls ms ss ns ac kc al kl am km az kz) (o : Obj) : Gl (w.alloc o) bg wd cs ls ms ss ns ac kc al kl am km az kz := h.keep fun k _ hk => Below.heap_alloc w o k hk
theorem Gl.drew (h : Gl w bg wd cs ls ms ss ns ac kc al kl am km az kz) : Gl w.drew bg wd cs ls ms ss ns ac kc al kl am km az kz := h.keep fun _ _ _ => rfl
theorem Gl.drewN (h : Gl w bg wd cs ls ms ss ns ac kc al kl am km az kz) (n : Nat) : Gl (w.drewN n) bg wd cs ls ms ss ns ac kc al kl am km az kz := h.keep fun _ _ _ => rfl
theorem Gl.below {B : Nat} {w' : World} (h : Gl w bg wd cs ls ms ss ns ac kc al kl am km az kz) (hb : Below B w w') (hB : w.heap.size ≤ B) : Gl w' bg wd cs ls ms ss ns ac kc al kl am km az kz := h.keep fun k _ hk => hb.block k (by omega)

theorem Gl.cells (h : Gl w bg wd cs ls ms ss ns ac kc al kl am km az kz) : w.cell? ⟨bg, 0, none⟩ = some (.slice ac cs.length kc) ∧ w.cell? ⟨bg, 1, none⟩ = some (.slice al ls.length kl) ∧ w.cell? ⟨bg, 2, none⟩ = some (.slice am ms.length km) ∧ w.cell? ⟨bg, 3, none⟩ = some (.slice az ns kz) ∧ w.cell? ⟨bg, 4, none⟩ = some (.bool wd) := by
  simp [World.cell?, h.blk]

theorem Gl.frozen (h : Gl w bg wd cs ls ms ss ns ac kc al kl am km az kz) (j : Nat) : w.frozen? ⟨bg, j, none⟩ = false := by
  simp [World.frozen?, h.blk]

theorem set_block {w : World} {b j : Nat} {c : Array Value} {e : TypeId} (h : w.heap[b]? = some (.cells c e (0, 0))) (v : Value) : (w.setCell ⟨b, j, none⟩ v).heap[b]? = some (.cells (c.setIfInBounds j v) e (0, 0)) := by
  simp [World.setCell, Array.getElem?_modify, h]

theorem Gl.setC {w1 : World} {cs' : List Int} {ac' : Option Addr} {kc' : Nat} {n' : Nat} (h : Gl w bg wd cs ls ms ss ns ac kc al kl am km az kz) (hown : w1.ownsRow (bg + 1) 21 1 (.slice ac' n' kc') n' (cs'.map (Value.int .i32))) (hn : n' = cs'.length) (hg : w.grownBy w1 (blockOf ac)) (hat : blockOf ac' = blockOf ac ∨ blockOf ac' = some w.heap.size) :
    Gl (w1.setCell ⟨bg, 0, none⟩ (.slice ac' n' kc')) bg wd cs' ls ms ss ns ac' kc' al kl am km az kz ∧ Below bg w (w1.setCell ⟨bg, 0, none⟩ (.slice ac' n' kc')) := by
  subst hn
  have hne : some bg ≠ blockOf ac := fun e => by have := (own_lt h.oc bg e.symm).1; omega
  have hblk1 := (hg.block bg h.lt hne).trans h.blk
  have hge : ∀ x, blockOf ac = some x → bg ≤ x := fun x hx => by have := (own_lt h.oc x hx).1; omega
  refine ⟨⟨?_, ?_, ?_, ?_, ?_, ?_, ?_, ?_, ?_, ?_, ?_⟩, ?_⟩
  · rw [set_block hblk1]
    rfl
  · exact ownsRow_setCell_below hown (Nat.lt_succ_self _) _
  · exact ownsRow_setCell_below (own_grown h.ol hg h.cl.symm) (Nat.lt_succ_self _) _
  · exact ownsRow_setCell_below (own_grown h.om hg h.cm.symm) (Nat.lt_succ_self _) _
  · exact ownsRow_setCell_below (own_grown h.os hg h.cz.symm) (Nat.lt_succ_self _) _
  · exact (sep_new h.ol h.cl.symm hat).symm
  · exact (sep_new h.om h.cm.symm hat).symm
  · exact (sep_new h.os h.cz.symm hat).symm
  · exact h.lm
  · exact h.lz
  · exact h.mz
  · exact (((Below.refl bg w).grown hg (Nat.le_of_lt h.lt) (fun x hx => hge x hx)).setCell (by simp) _)

theorem Gl.setL {w1 : World} {ls' : List Int} {al' : Option Addr} {kl' : Nat} {n' : Nat} (h : Gl w bg wd cs ls ms ss ns ac kc al kl am km az kz) (hown : w1.ownsRow (bg + 1) 21 1 (.slice al' n' kl') n' (ls'.map (Value.int .i32))) (hn : n' = ls'.length) (hg : w.grownBy w1 (blockOf al)) (hat : blockOf al' = blockOf al ∨ blockOf al' = some w.heap.size) :
    Gl (w1.setCell ⟨bg, 1, none⟩ (.slice al' n' kl')) bg wd cs ls' ms ss ns ac kc al' kl' am km az kz ∧ Below bg w (w1.setCell ⟨bg, 1, none⟩ (.slice al' n' kl')) := by
  subst hn
  have hne : some bg ≠ blockOf al := fun e => by have := (own_lt h.ol bg e.symm).1; omega
  have hblk1 := (hg.block bg h.lt hne).trans h.blk
  have hge : ∀ x, blockOf al = some x → bg ≤ x := fun x hx => by have := (own_lt h.ol x hx).1; omega
  refine ⟨⟨?_, ?_, ?_, ?_, ?_, ?_, ?_, ?_, ?_, ?_, ?_⟩, ?_⟩
  · rw [set_block hblk1]
    rfl
  · exact ownsRow_setCell_below (own_grown h.oc hg h.cl) (Nat.lt_succ_self _) _
  · exact ownsRow_setCell_below hown (Nat.lt_succ_self _) _
  · exact ownsRow_setCell_below (own_grown h.om hg h.lm.symm) (Nat.lt_succ_self _) _
  · exact ownsRow_setCell_below (own_grown h.os hg h.lz.symm) (Nat.lt_succ_self _) _
  · exact sep_new h.oc h.cl hat
  · exact h.cm
  · exact h.cz
  · exact (sep_new h.om h.lm.symm hat).symm
  · exact (sep_new h.os h.lz.symm hat).symm
  · exact h.mz
  · exact (((Below.refl bg w).grown hg (Nat.le_of_lt h.lt) (fun x hx => hge x hx)).setCell (by simp) _)

theorem Gl.setM {w1 : World} {ms' : List Int} {am' : Option Addr} {km' : Nat} {n' : Nat} (h : Gl w bg wd cs ls ms ss ns ac kc al kl am km az kz) (hown : w1.ownsRow (bg + 1) 65 1 (.slice am' n' km') n' (ms'.map (Value.int .u64))) (hn : n' = ms'.length) (hg : w.grownBy w1 (blockOf am)) (hat : blockOf am' = blockOf am ∨ blockOf am' = some w.heap.size) :
    Gl (w1.setCell ⟨bg, 2, none⟩ (.slice am' n' km')) bg wd cs ls ms' ss ns ac kc al kl am' km' az kz ∧ Below bg w (w1.setCell ⟨bg, 2, none⟩ (.slice am' n' km')) := by
  subst hn
  have hne : some bg ≠ blockOf am := fun e => by have := (own_lt h.om bg e.symm).1; omega
  have hblk1 := (hg.block bg h.lt hne).trans h.blk
  have hge : ∀ x, blockOf am = some x → bg ≤ x := fun x hx => by have := (own_lt h.om x hx).1; omega
  refine ⟨⟨?_, ?_, ?_, ?_, ?_, ?_, ?_, ?_, ?_, ?_, ?_⟩, ?_⟩
  · rw [set_block hblk1]
    rfl
  · exact ownsRow_setCell_below (own_grown h.oc hg h.cm) (Nat.lt_succ_self _) _
  · exact ownsRow_setCell_below (own_grown h.ol hg h.lm) (Nat.lt_succ_self _) _
  · exact ownsRow_setCell_below hown (Nat.lt_succ_self _) _
  · exact ownsRow_setCell_below (own_grown h.os hg h.mz.symm) (Nat.lt_succ_self _) _
  · exact h.cl
  · exact sep_new h.oc h.cm hat
  · exact h.cz
  · exact sep_new h.ol h.lm hat
  · exact h.lz
  · exact (sep_new h.os h.mz.symm hat).symm
  · exact (((Below.refl bg w).grown hg (Nat.le_of_lt h.lt) (fun x hx => hge x hx)).setCell (by simp) _)

theorem Gl.setS {w1 : World} {ss' : List Value} {az' : Option Addr} {kz' : Nat} {ns' : Nat}  (h : Gl w bg wd cs ls ms ss ns ac kc al kl am km az kz) (hown : w1.ownsRow (bg + 1) 69 4 (.slice az' ns' kz') ns' ss') (hg : w.grownBy w1 (blockOf az)) (hat : blockOf az' = blockOf az ∨ blockOf az' = some w.heap.size) :
    Gl (w1.setCell ⟨bg, 3, none⟩ (.slice az' ns' kz')) bg wd cs ls ms ss' ns' ac kc al kl am km az' kz' ∧ Below bg w (w1.setCell ⟨bg, 3, none⟩ (.slice az' ns' kz')) := by
  have hne : some bg ≠ blockOf az := fun e => by have := (own_lt h.os bg e.symm).1; omega
  have hblk1 := (hg.block bg h.lt hne).trans h.blk
  have hge : ∀ x, blockOf az = some x → bg ≤ x := fun x hx => by have := (own_lt h.os x hx).1; omega
  refine ⟨⟨?_, ?_, ?_, ?_, ?_, ?_, ?_, ?_, ?_, ?_, ?_⟩, ?_⟩
  · rw [set_block hblk1]
    rfl
  · exact ownsRow_setCell_below (own_grown h.oc hg h.cz) (Nat.lt_succ_self _) _
  · exact ownsRow_setCell_below (own_grown h.ol hg h.lz) (Nat.lt_succ_self _) _
  · exact ownsRow_setCell_below (own_grown h.om hg h.mz) (Nat.lt_succ_self _) _
  · exact ownsRow_setCell_below hown (Nat.lt_succ_self _) _
  · exact h.cl
  · exact h.cm
  · exact sep_new h.oc h.cz hat
  · exact h.lm
  · exact sep_new h.ol h.lz hat
  · exact sep_new h.om h.mz hat
  · exact (((Below.refl bg w).grown hg (Nat.le_of_lt h.lt) (fun x hx => hge x hx)).setCell (by simp) _)

theorem Gl.far {w1 : World} {b : Option Addr} (h : Gl w bg wd cs ls ms ss ns ac kc al kl am km az kz) (hb : ∀ x, blockOf b = some x → bg + 1 ≤ x) (hg : w.grownBy w1 (blockOf b)) (j : Nat) : w1.cell? ⟨bg, j, none⟩ = w.cell? ⟨bg, j, none⟩ ∧ w1.frozen? ⟨bg, j, none⟩ = false := by
  have hne : some bg ≠ blockOf b := fun e => by have := hb bg e.symm; omega
  have hblk1 := hg.block bg h.lt hne
  exact ⟨World.cell?_of_block hblk1, by rw [World.frozen?_of_block hblk1]; exact h.frozen j⟩

end
end Go.Proofs.Qxb6601041a
