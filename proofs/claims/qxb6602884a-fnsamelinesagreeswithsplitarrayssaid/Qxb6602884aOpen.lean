/- A slice of lines, as it comes in, opened. -/
import Derived.Test.Qxb6602884aRows
import Derived.Test.Qxb6602884aBase
import Derived.ProofKit
import Derived.Deep.SlicePairs
import Derived.Below
import Derived.ChangeOld
namespace Go.Proofs.Qxb6602884a
open Go.ChangeShapes Go.WideShapes Go.ChangeAt Go.RowKit

theorem own : ownKnob Try.prog.godebug = none := by kernel_rfl
theorem laidOut : laidOutB Try.prog = true := by kernel_rfl
theorem cells37 : Try.prog.cellsOf 37 = 2 := by kernel_rfl
theorem cells9 : Try.prog.cellsOf 9 = 1 := by kernel_rfl
theorem cells2 : Try.prog.cellsOf 2 = 1 := by kernel_rfl

theorem open_lines {H : Type} {enc : TypeId × Value → H} {W : World} {a : Option Addr} {len cap : Nat} {d : DataW H} {p : List MemPlace}
    (h : DataW.Trod enc Try.prog W 0 (fun _ => true) true 22 (.slice a len cap) d p) :
    ∃ (S : Nat → ByteArray) (Q : Nat → Int), Lines W a len S Q ∧ (a = none → len = 0) ∧ len ≤ maxLen ∧ (∀ i, i < len → (S i).size ≤ maxLen) ∧ ∀ i, i < len → (Lit.int .i64 (Q i)).wf = true := by
  obtain ⟨fuel, hf⟩ := h
  rcases Deep.open_slice_pairs Try.underlying22 Try.underlying37 cells37 rfl rfl cells9 cells2 hf with ⟨hcs, _⟩ | ⟨x, l, c, m, n, V0, V1, D0, D1, P0, P1, hcs, _, hl, hm, hmm, _, hx⟩
  · simp [Value.cells] at hcs
    obtain ⟨rfl, rfl, rfl⟩ := hcs
    exact ⟨fun _ => ByteArray.empty, fun _ => 0, .inl rfl, fun _ => rfl, Nat.zero_le _, fun i hi => absurd hi (Nat.not_lt_zero _), fun i hi => absurd hi (Nat.not_lt_zero _)⟩
  · simp [Value.cells] at hcs
    obtain ⟨rfl, rfl, rfl⟩ := hcs
    obtain rfl : m = cap := by simpa using hmm
    have hS : ∀ i, i < len → ∃ s : ByteArray, V0 i = .string s ∧ s.size ≤ maxLen := fun i hi => by
      obtain ⟨s, e, _, hs⟩ := DataW.trod_string Try.underlying9 (hx i (by omega)).2.2.1
      exact ⟨s, by simpa using e, hs⟩
    have hQ : ∀ i, i < len → ∃ q : Int, V1 i = .int .i64 q ∧ (Lit.int .i64 q).wf = true := fun i hi => by
      obtain ⟨q, e, _, hq⟩ := DataW.trod_int Try.underlying2 (hx i (by omega)).2.2.2
      exact ⟨q, by simpa using e, hq⟩
    have : Inhabited ByteArray := ⟨ByteArray.empty⟩
    obtain ⟨S, hS⟩ := Deep.choose_lt hS
    obtain ⟨Q, hQ⟩ := Deep.choose_lt hQ
    refine ⟨S, Q, ?_, fun h => (by cases h), by omega, fun i hi => (hS i hi).2, fun i hi => (hQ i hi).2⟩
    by_cases h0 : len = 0
    · exact .inl h0
    · obtain ⟨b, off, spot⟩ := x
      have hspot : spot = none := by simpa [Addr.add] using World.cell?_spot (hx 0 (by omega)).1
      subst hspot
      refine .inr ⟨b, off, rfl, fun i hi => ?_⟩
      obtain ⟨e0, e1, _⟩ := hx i (by omega)
      rw [add_plain, (hS i hi).1] at e0
      rw [add_plain, (hQ i hi).1] at e1
      exact ⟨e0, by rw [Nat.add_assoc]; exact e1⟩
end Go.Proofs.Qxb6602884a
