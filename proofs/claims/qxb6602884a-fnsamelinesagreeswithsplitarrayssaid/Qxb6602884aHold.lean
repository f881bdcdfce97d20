/- The walk of toHold: a copy of the lines in new memory. -/
import Derived.Test.Qxb6602884aSame
import Derived.Deep.OwnRows
namespace Go.Proofs.Qxb6602884a
open Go.RowKit

theorem cell_lt {w : World} {a : Addr} {v : Value} (h : w.cell? a = some v) : a.block < w.heap.size := by
  by_cases hb : a.block < w.heap.size
  · exact hb
  · simp [World.cell?, Array.getElem?_eq_none (Nat.le_of_not_lt hb)] at h

theorem Lines.kept {w w' : World} {a : Option Addr} {n : Nat} {S : Nat → ByteArray} {Q : Nat → Int} (h : Lines w a n S Q) (hb : Below w.heap.size w w') : Lines w' a n S Q := by
  rcases h with h | ⟨b, off, rfl, hc⟩
  · exact .inl h
  · refine .inr ⟨b, off, rfl, fun i hi => ?_⟩
    obtain ⟨c0, c1⟩ := hc i hi
    have hl : b < w.heap.size := cell_lt c0
    exact ⟨by rw [hb.cell (p := ⟨b, off + i * 2, none⟩) hl]; exact c0, by rw [hb.cell (p := ⟨b, off + i * 2 + 1, none⟩) hl]; exact c1⟩

/-- The cells that 'make' lays, under a name of their own. -/
def zrow (n : Nat) : Array Value := madeCells #[.string ByteArray.empty, .int .i64 0] (n * 2)

theorem size_zrow (n : Nat) : (zrow n).size = n * 2 := size_madeCells _ _

theorem info31 : (Try.prog.info? 31).map (fun i => (i.zero, i.size, i.bytes)) = some (some (.agg #[.string ByteArray.empty, .int .i64 0]), 2, 24) := by kernel_rfl

theorem make31 (n : Nat) (h : n ≤ 65536) (w : World) :
    (Instr.makeSlice 26 (.int .i64 (n : Int)) (.int .i64 (n : Int))).run Try.prog w = .ok (.slice (some ⟨w.heap.size, 0, none⟩) n n) (w.alloc (.cells (zrow n) 31)) := by
  obtain ⟨i, hi, hzz⟩ := Option.map_eq_some_iff.1 info31
  simp only [Prod.mk.injEq] at hzz
  obtain ⟨hz, hs, hb⟩ := hzz
  have hr := run_make (P := Try.prog) w 26 31 i _ Try.underlying26 hi hz .i64 .i64 n n (by omega) (Int.le_refl _) (by rw [hb]; omega) (by omega)
  simp only [Int.toNat_natCast, hs] at hr
  exact hr

theorem hold_step {w wr : World} {len k : Nat} {S : Nat → ByteArray} {Q : Nat → Int} {f : Nat → Value} (hlt : k < len) (hbel : Below w.heap.size w wr) (hsz : wr.heap.size = w.heap.size + 1)
    (hrow : wr.rowIs w.heap.size 31 (len * 2) f) (hall : ∀ j, j < k → f (j * 2) = .string (S j) ∧ f (j * 2 + 1) = .int .i64 (Q j)) :
    ∃ (k' : Nat) (f : Nat → Value), k' ≤ len ∧ Value.int .i64 ((k : Int) + 1) = .int .i64 (k' : Nat) ∧
      Below w.heap.size w ((wr.setCell ⟨w.heap.size, k * 2, none⟩ (.string (S k))).setCell ⟨w.heap.size, k * 2 + 1, none⟩ (.int .i64 (Q k))).drew ∧
      ((wr.setCell ⟨w.heap.size, k * 2, none⟩ (.string (S k))).setCell ⟨w.heap.size, k * 2 + 1, none⟩ (.int .i64 (Q k))).drew.heap.size = w.heap.size + 1 ∧
      ((wr.setCell ⟨w.heap.size, k * 2, none⟩ (.string (S k))).setCell ⟨w.heap.size, k * 2 + 1, none⟩ (.int .i64 (Q k))).drew.rowIs w.heap.size 31 (len * 2) f ∧
      ∀ j, j < k' → f (j * 2) = .string (S j) ∧ f (j * 2 + 1) = .int .i64 (Q j) := by
  refine ⟨k + 1, _, by omega, by go_num, ((hbel.setCell (by simp) _).setCell (by simp) _).drew, by simpa [World.setCell] using hsz, ((hrow.set (k * 2) (.string (S k))).set (k * 2 + 1) (.int .i64 (Q k))).drew, fun j hj => ?_⟩
  rcases Nat.lt_succ_iff_lt_or_eq.1 hj with h | rfl
  · obtain ⟨e0, e1⟩ := hall j h
    simp only [show ¬ j * 2 = k * 2 + 1 by omega, show ¬ j * 2 = k * 2 by omega, show ¬ j * 2 + 1 = k * 2 + 1 by omega, show ¬ j * 2 + 1 = k * 2 by omega, if_false]
    exact ⟨e0, e1⟩
  · simp

def Held (n : Nat) (S : Nat → ByteArray) (Q : Nat → Int) (w : World) (e : Ending) (w' : World) : Prop :=
  ∃ a cap, e = .returned (.slice a n cap) ∧ Lines w' a n S Q ∧ Below w.heap.size w w'

set_option maxHeartbeats 400000 in
theorem hold_any (a : Option Addr) (len cap : Nat) (S : Nat → ByteArray) (Q : Nat → Int) (w : World) (hL : Lines w a len S Q) (hnil : a = none → len = 0) (hlen : len ≤ 65536) :
    Calls Try.prog 9 #[.slice a len cap] w (Held len S Q w) := by
  have hnl := fun (w : World) (a : Option Addr) (n c : Nat) => Lib.run_eql_slice_nil (P := Try.prog) w 22 37 a n c 0 0 Try.underlying22
  rcases a with _ | x
  · obtain rfl := hnil rfl
    go_enter Try.func9, Try.ntmps9
    go_wp2
    go_ret
    exact ⟨none, 0, rfl, .inl rfl, Below.refl _ _⟩
  · have hmk := make31 len hlen
    go_enter Try.func9, Try.ntmps9
    go_wp2
    go_loopw [4] (fun i wr => ∃ (k : Nat) (f : Nat → Value), k ≤ len ∧ i = .int .i64 k ∧ Below w.heap.size w wr ∧ wr.heap.size = w.heap.size + 1 ∧ wr.rowIs w.heap.size 31 (len * 2) f ∧ ∀ j, j < k → f (j * 2) = .string (S j) ∧ f (j * 2 + 1) = .int .i64 (Q j)) (fun i _ => len - (intOf i).toNat)
    case atStart =>
      refine ⟨0, fun j => (zrow len)[j]?.getD (.bool false), Nat.zero_le _, rfl, (Below.refl _ _).alloc (Nat.le_refl _) _, by simp, ?_, fun i hi => absurd hi (Nat.not_lt_zero _)⟩
      have := World.rowIs_alloc w (zrow len) 31 (fun j => (zrow len)[j]?.getD (.bool false)) (fun i hi => by simp [hi])
      rwa [size_zrow] at this
    case round =>
      obtain ⟨k, f, hk, rfl, hbel, hsz, hrow, hall⟩ := hrel
      by_cases hlt : k < len
      · obtain h0 | ⟨b, off, hx, hc⟩ := hL
        · omega
        obtain rfl : x = ⟨b, off, none⟩ := by simpa using hx
        obtain ⟨c0, c1⟩ := hc k hlt
        have hl : b < w.heap.size := cell_lt c0
        rw [← hbel.cell (p := ⟨b, off + k * 2, none⟩) hl] at c0
        rw [← hbel.cell (p := ⟨b, off + k * 2 + 1, none⟩) hl] at c1
        have d0 := hrow.cell (i := k * 2) (by omega)
        have d1 := hrow.cell (i := k * 2 + 1) (by omega)
        have f0 := hrow.frozen (k * 2)
        have f1 := hrow.frozen (k * 2 + 1)
        have HA : Hid (∀ j, j < k → f (j * 2) = .string (S j) ∧ f (j * 2 + 1) = .int .i64 (Q j)) := hall
        clear hc hall hx
        go_wp2
        go_region
        go_wp2
        go_roundw
        case rel => exact hold_step hlt hbel hsz hrow HA.out
        case measure => simp [intOf]; omega
      · go_wp2
        go_ret
        exact ⟨_, _, rfl, .inr ⟨w.heap.size, 0, rfl, fun i hi => ⟨by rw [Nat.zero_add, hrow.cell (by omega), (hall i (by omega)).1], by rw [Nat.zero_add, hrow.cell (by omega), (hall i (by omega)).2]⟩⟩, hbel⟩
end Go.Proofs.Qxb6602884a
