/- (*run).find: a run that is not empty: what the walk needs to know of the world. -/
import Derived.Test.Qxb6601041aFind0
namespace Go.Proofs.Qxb6601041a
open Go.RowKit

/-- Only block g differs. -/
def OnlyAt (g : Nat) (w w' : World) : Prop := Below g w w' ∧ ∀ x, x ≠ g → w'.heap[x]? = w.heap[x]?

theorem OnlyAt.refl (g : Nat) (w : World) : OnlyAt g w w := ⟨Below.refl _ _, fun _ _ => rfl⟩
theorem OnlyAt.drewN {g : Nat} {w w' : World} (h : OnlyAt g w w') (n : Nat) : OnlyAt g w (w'.drewN n) := ⟨below_drewN h.1 n, h.2⟩
theorem OnlyAt.set {g : Nat} {w w' : World} (h : OnlyAt g w w') (j : Nat) (v : Value) : OnlyAt g w (w'.setCell ⟨g, j, none⟩ v) :=
  ⟨h.1.setCell (by simp) v, fun x hx => (Below.heap_setCell _ _ _ _ (by simpa using hx)).trans (h.2 x hx)⟩
theorem OnlyAt.cell {g : Nat} {w w' : World} (h : OnlyAt g w w') {p : Addr} (hp : p.block ≠ g) : w'.cell? p = w.cell? p := World.cell?_of_block (w := w) (h.2 p.block hp)

/-- What find reads, and does not write. -/
structure See (w : World) (br bf : Nat) (pc : Option Addr) (kc W : Nat) (pl : Option Addr) (kl : Nat) (pm : Option Addr) (km : Nat) (cs mk : List Int) (va : Option Addr) (vc : Nat) (wa : Option Addr) (wc : Nat) (vs : List Int) (bs : List Bool) : Prop where
  b1 : w.cell? ⟨br, 1, none⟩ = some (.slice pc cs.length kc)
  b2 : w.cell? ⟨br, 2, none⟩ = some (.int .i64 W)
  b3 : w.cell? ⟨br, 3, none⟩ = some (.slice pl (litsOf cs).length kl)
  b4 : w.cell? ⟨br, 4, none⟩ = some (.slice pm mk.length km)
  fo : FoR w bf va vc wa wc vs bs
  rows : Row .i32 w pc cs ∧ Row .i32 w pl (litsOf cs) ∧ Row .u64 w pm mk

section
variable {w w1 : World} {br bf : Nat} {gap : Int} {pc : Option Addr} {kc W : Nat} {pl : Option Addr} {kl : Nat} {pm : Option Addr} {km : Nat} {cs mk : List Int} {va : Option Addr} {vc : Nat} {wa : Option Addr} {wc : Nat} {sa : Option Addr} {sl sc : Nat} {vs : List Int} {bs : List Bool}

/-- Behind 'state', and behind every store into the scratch. -/
theorem see_of {g : Nat} (hR : RunIn w br bf gap pc kc W pl kl pm km cs mk) (hF : Fo w1 bf va vc wa wc (some ⟨g, 0, none⟩) sl sc vs bs) (hb : Below bf w w1) (hbr : w1.heap[br]? = w.heap[br]?) (hg : bf < g) (hne : br ≠ g) :
    ∀ wr, OnlyAt g w1 wr → See wr br bf pc kc W pl kl pm km cs mk va vc wa wc vs bs := by
  intro wr ho
  have hbw : Below bf w wr := hb.trans (ho.1.mono (by omega))
  have blk : wr.heap[br]? = some (.cells #[.int .i64 gap, .slice pc cs.length kc, .int .i64 W, .slice pl (litsOf cs).length kl, .slice pm mk.length km] 56 (0, 0)) := (ho.2 br hne).trans (hbr.trans hR.blk)
  have h1 : Below bf w1 wr := ho.1.mono (by omega)
  exact ⟨by simp [World.cell?, blk], by simp [World.cell?, blk], by simp [World.cell?, blk], by simp [World.cell?, blk],
    ⟨(ho.cell (p := ⟨bf, 0, none⟩) (by simp; omega)).trans hF.toR.c0, (ho.cell (p := ⟨bf, 1, none⟩) (by simp; omega)).trans hF.toR.c1, hF.rv.under h1 hF.lv, hF.rb.under h1 hF.lb⟩, hR.rows wr hbw⟩

theorem fo_only {g : Nat} {f : Nat → Value} (hF : Fo w1 bf va vc wa wc (some ⟨g, 0, none⟩) sl sc vs bs) (hg : bf < g) {wr : World} (ho : OnlyAt g w1 wr) (hrow : wr.rowIs g 65 sc f) : Fo wr bf va vc wa wc (some ⟨g, 0, none⟩) sl sc vs bs := by
  have h1 : Below bf w1 wr := ho.1.mono (by omega)
  exact ⟨(ho.2 bf (by omega)).trans hF.blk, hF.rv.under h1 hF.lv, hF.rb.under h1 hF.lb, hF.lv, hF.lb, hF.cv, .inr ⟨g, f, rfl, hg, hrow⟩⟩
end
end Go.Proofs.Qxb6601041a
