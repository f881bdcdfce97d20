/- The walk of splitLines: two new rows, the skus and the quantities. -/
import Derived.Test.Qxb6602884aHold
namespace Go.Proofs.Qxb6602884a
open Go.RowKit

/-- The cells that the two calls of 'make' lay, under names of their own. -/
def srow (n : Nat) : Array Value := madeCells #[.string ByteArray.empty] n
def qrow (n : Nat) : Array Value := madeCells #[.int .i64 0] n

theorem info9 : (Try.prog.info? 9).map (fun i => (i.zero, i.size, i.bytes)) = some (some (.string ByteArray.empty), 1, 16) := by kernel_rfl
theorem info2 : (Try.prog.info? 2).map (fun i => (i.zero, i.size, i.bytes)) = some (some (.int .i64 0), 1, 8) := by kernel_rfl

theorem make33 (n : Nat) (h : n ≤ 65536) (w : World) :
    (Instr.makeSlice 33 (.int .i64 (n : Int)) (.int .i64 (n : Int))).run Try.prog w = .ok (.slice (some ⟨w.heap.size, 0, none⟩) n n) (w.alloc (.cells (srow n) 9)) :=
  run_make_row' (P := Try.prog) 33 9 (.string ByteArray.empty) 16 Try.underlying33 info9 rfl .i64 .i64 n (by omega) (by omega) w
theorem make34 (n : Nat) (h : n ≤ 65536) (w : World) :
    (Instr.makeSlice 34 (.int .i64 (n : Int)) (.int .i64 (n : Int))).run Try.prog w = .ok (.slice (some ⟨w.heap.size, 0, none⟩) n n) (w.alloc (.cells (qrow n) 2)) :=
  run_make_row' (P := Try.prog) 34 2 (.int .i64 0) 8 Try.underlying34 info2 rfl .i64 .i64 n (by omega) (by omega) w

/-- What a round leaves: the two rows, filled up to k. -/
def SplitAt (w : World) (len k : Nat) (S : Nat → ByteArray) (Q : Nat → Int) (wr : World) : Prop :=
  Below w.heap.size w wr ∧ w.heap.size + 2 ≤ wr.heap.size ∧ ∃ f g : Nat → Value, wr.rowIs w.heap.size 9 len f ∧ wr.rowIs (w.heap.size + 1) 2 len g ∧ (∀ j, j < k → f j = .string (S j)) ∧ ∀ j, j < k → g j = .int .i64 (Q j)

theorem split_start (w : World) (len : Nat) (S : Nat → ByteArray) (Q : Nat → Int) : SplitAt w len 0 S Q ((w.alloc (.cells (srow len) 9)).alloc (.cells (qrow len) 2)) := by
  refine ⟨((Below.refl _ _).alloc (Nat.le_refl _) _).alloc (by simp) _, by simp, _, (fun _ => .int .i64 0), (World.rowIs_made w (.string ByteArray.empty) len 9).alloc _, ?_, fun j hj => absurd hj (Nat.not_lt_zero _), fun j hj => absurd hj (Nat.not_lt_zero _)⟩
  have := World.rowIs_made (w.alloc (.cells (srow len) 9)) (.int .i64 0) len 2
  rw [World.size_alloc] at this
  exact this

theorem split_step {w wr : World} {len k : Nat} {S : Nat → ByteArray} {Q : Nat → Int} (hlt : k < len) (h : SplitAt w len k S Q wr) :
    SplitAt w len (k + 1) S Q (((wr.setCell ⟨w.heap.size, k, none⟩ (.string (S k))).setCell ⟨w.heap.size + 1, k, none⟩ (.int .i64 (Q k))).alloc (.cells #[.string (S k), .int .i64 (Q k)] 31)).drew := by
  obtain ⟨hbel, hsz, f, g, hf, hg, hfk, hgk⟩ := h
  refine ⟨(((hbel.setCell (by simp) _).setCell (by simp) _).alloc (by simp [World.setCell]; omega) _).drew, by simp [World.setCell]; omega, _, _,
    (((hf.set k (.string (S k))).setOther (by simp) _).alloc _).drew, (((hg.setOther (by simp) _).set k (.int .i64 (Q k))).alloc _).drew, fun j hj => ?_, fun j hj => ?_⟩
  · rcases Nat.lt_succ_iff_lt_or_eq.1 hj with h | rfl
    · simp only [show ¬ j = k by omega, if_false]; exact hfk j h
    · simp
  · rcases Nat.lt_succ_iff_lt_or_eq.1 hj with h | rfl
    · simp only [show ¬ j = k by omega, if_false]; exact hgk j h
    · simp

def Split (n : Nat) (S : Nat → ByteArray) (Q : Nat → Int) (w : World) (e : Ending) (w' : World) : Prop :=
  ∃ b b', e = .returned (.tuple #[.slice (some ⟨b, 0, none⟩) n n, .slice (some ⟨b', 0, none⟩) n n]) ∧ (∀ i, i < n → w'.cell? ⟨b, i, none⟩ = some (.string (S i))) ∧ (∀ i, i < n → w'.cell? ⟨b', i, none⟩ = some (.int .i64 (Q i))) ∧ Below w.heap.size w w'

set_option maxHeartbeats 400000 in
theorem split_any (a : Option Addr) (len cap : Nat) (S : Nat → ByteArray) (Q : Nat → Int) (w : World) (hL : Lines w a len S Q) (hlen : len ≤ 65536) :
    Calls Try.prog 18 #[.slice a len cap] w (Split len S Q w) := by
  have hmk := make33 len hlen
  have hmk' := make34 len hlen
  have hst := split_start w len S Q
  go_enter Try.func18, Try.ntmps18
  go_wp2
  go_loopw [14] (fun i wr => ∃ (k : Nat), k ≤ len ∧ i = .int .i64 k ∧ SplitAt w len k S Q wr) (fun i _ => len - (intOf i).toNat)
  case atStart => exact ⟨0, Nat.zero_le _, rfl, hst⟩
  case round =>
    obtain ⟨k, hk, rfl, hsp⟩ := hrel
    by_cases hlt : k < len
    · obtain h0 | ⟨b, off, rfl, hc⟩ := hL
      · omega
      obtain ⟨c0, c1⟩ := hc k hlt
      have hsp' := hsp
      obtain ⟨hbel, hsz, f, g, hf, hg, _, _⟩ := hsp'
      have hl : b < w.heap.size := cell_lt c0
      rw [← hbel.cell (p := ⟨b, off + k * 2, none⟩) hl] at c0
      rw [← hbel.cell (p := ⟨b, off + k * 2 + 1, none⟩) hl] at c1
      have d0 := hf.cell (i := k) hlt
      have d1 := hg.cell (i := k) hlt
      have f0 := hf.frozen k
      have f1 := hg.frozen k
      have g0 : w.heap.size < wr.heap.size := hf.lt
      have g1 : w.heap.size + 1 < wr.heap.size := hg.lt
      clear hc hst hbel hf hg hsz
      go_wp2
      go_region
      go_wp2
      go_roundw
      case rel => exact ⟨k + 1, by omega, by go_num, split_step hlt hsp⟩
      case measure => simp [intOf]; omega
    · obtain ⟨hbel, hsz, f, g, hf, hg, hfk, hgk⟩ := hsp
      go_wp2
      go_ret2
      exact ⟨w.heap.size, w.heap.size + 1, rfl, fun i hi => by rw [hf.cell hi, hfk i (by omega)], fun i hi => by rw [hg.cell hi, hgk i (by omega)], hbel⟩

set_option maxHeartbeats 400000 in
theorem zzsplit_any (a : Option Addr) (len cap : Nat) (S : Nat → ByteArray) (Q : Nat → Int) (w : World) (hL : Lines w a len S Q) (hlen : len ≤ 65536) :
    Calls Try.prog 13 #[.slice a len cap] w (Split len S Q w) := by
  have c := fun cap => split_any a len cap S Q w hL hlen
  clear hL
  go_enter Try.func13, Try.ntmps13
  go_wp2_with (go_at_call 18; refine (c _).mono ?_; rintro e w' ⟨b, b', rfl, h1, h2, h3⟩)
  go_ret2
  exact ⟨b, b', rfl, h1, h2, h3⟩
end Go.Proofs.Qxb6602884a
