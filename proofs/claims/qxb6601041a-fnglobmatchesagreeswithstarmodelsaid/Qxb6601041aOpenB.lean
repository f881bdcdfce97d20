/- A slice of booleans as it comes in. -/
import Derived.Test.Qxb6601041aOpen
import Derived.Test.Qxb6601041aFolded
namespace Go.Proofs.Qxb6601041a
open Go.RowKit

/-- What the row hands of a slice of booleans. -/
def IsBRow (w : World) (a : Option Addr) (len cap : Nat) : Prop :=
  (a = none ∧ len = 0 ∧ cap = 0) ∨
  ∃ (x : Addr) (B : Nat → Bool), a = some x ∧ len ≤ cap ∧ cap ≤ maxLen ∧ ∀ i, i < cap → w.cell? (x.add i) = some (.bool (B i))

/-- Its elements. -/
theorem IsBRow.row {w : World} {a : Option Addr} {len cap : Nat} (h : IsBRow w a len cap) :
    ∃ bs : List Bool, bs.length = len ∧ BRow w a bs ∧ (a = none → bs = []) ∧ len ≤ maxLen := by
  rcases h with ⟨rfl, rfl, rfl⟩ | ⟨x, B, rfl, h1, h2, h4⟩
  · exact ⟨[], rfl, .inl rfl, fun _ => rfl, Nat.zero_le _⟩
  · refine ⟨(List.range len).map B, by simp, ?_, (fun h => by cases h), by omega⟩
    by_cases h0 : len = 0
    · exact .inl (by simp [h0])
    · obtain ⟨b, off, spot⟩ := x
      have hspot : spot = none := by simpa [Addr.add] using World.cell?_spot (h4 0 (by omega))
      subst hspot
      refine .inr ⟨b, off, rfl, fun j hj => ?_⟩
      have hj' : j < len := by simpa using hj
      have e : (⟨b, off, none⟩ : Addr).add j = ⟨b, off + j, none⟩ := by
        by_cases hz : j = 0
        · subst hz; simp [Addr.add]
        · simp [Addr.add, hz]
      have := h4 j (by omega)
      rw [e] at this
      rw [this]
      simp [List.getD, hj']

theorem top_i64 {n : Int} (h : (Lit.int .i64 n).wf = true) : n ≤ 9223372036854775807 := by
  unfold Lit.wf at h
  rw [Bool.and_eq_true] at h
  exact of_decide_eq_true h.2
end Go.Proofs.Qxb6601041a
