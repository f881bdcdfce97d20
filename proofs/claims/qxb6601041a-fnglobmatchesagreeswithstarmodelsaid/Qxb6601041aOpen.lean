/- A slice of runes as it comes in. -/
import Derived.Test.Qxb6601041aLib
namespace Go.Proofs.Qxb6601041a
open Go.RowKit

/-- What the row hands of a slice of integers: it is nil, or it leads to a row of 'cap' cells. -/
def IsRow (k : IntKind) (w : World) (a : Option Addr) (len cap : Nat) (zs : List Int) : Prop :=
  (a = none ∧ len = 0 ∧ cap = 0 ∧ zs = []) ∨
  ∃ x, a = some x ∧ len ≤ cap ∧ cap ≤ maxLen ∧ zs.length = cap ∧ (∀ i, i < zs.length → w.cell? (x.add i) = some (.int k (zs.getD i 0))) ∧ ∀ n ∈ zs, (Lit.int k n).wf = true

/-- Its elements. -/
theorem IsRow.row {k : IntKind} {w : World} {a : Option Addr} {len cap : Nat} {zs : List Int} (h : IsRow k w a len cap zs) :
    ∃ ps : List Int, ps.length = len ∧ Row k w a ps ∧ (a = none → ps = [] ∧ cap = 0) ∧ len ≤ maxLen ∧ (∀ n ∈ ps, (Lit.int k n).wf = true) ∧ len ≤ cap := by
  rcases h with ⟨rfl, rfl, rfl, rfl⟩ | ⟨x, rfl, h1, h2, h3, h4, h5⟩
  · exact ⟨[], rfl, .inl rfl, fun _ => ⟨rfl, rfl⟩, Nat.zero_le _, (fun n hn => by cases hn), Nat.le_refl _⟩
  · refine ⟨zs.take len, by simp; omega, ?_, (fun h => by cases h), by omega, fun n hn => h5 n (List.mem_of_mem_take hn), h1⟩
    by_cases h0 : len = 0
    · exact .inl (by simp [h0])
    · obtain ⟨b, off, spot⟩ := x
      have hspot : spot = none := by simpa [Addr.add] using World.cell?_spot (h4 0 (by omega))
      subst hspot
      refine .inr ⟨b, off, rfl, fun j hj => ?_⟩
      have hj' : j < len := by simp at hj; omega
      have e : (⟨b, off, none⟩ : Addr).add j = ⟨b, off + j, none⟩ := by
        by_cases hz : j = 0
        · subst hz; simp [Addr.add]
        · simp [Addr.add, hz]
      have := h4 j (by omega)
      rw [e] at this
      rw [this]
      simp [List.getD, hj']
end Go.Proofs.Qxb6601041a
