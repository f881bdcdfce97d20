/- The library's sort at rune: walks turned by program (wip/tools/reaim_sort.py) from the kit's worked walks at int to this program. -/
import Derived.Test.Qxb6601041aSrtIns
import Derived.Test.Qxb6601041aSrtHeap
import Derived.Test.Qxb6601041aSrtPiv
import Derived.Test.Qxb6601041aSrtBrk
import Derived.Test.Qxb6601041aSrtPeq
import Derived.Test.Qxb6601041aSrtPar
import Derived.Test.Qxb6601041aSrtPdq
import Derived.Sort.AssemblyPlain
namespace Go.Proofs.Qxb6601041a
open Go.RowKit Go.Sort

def pdqWalk_int : Prop := ∀ (blk off cap a b limit : Nat) (d : Array Int) (w : World), Holds (Value.int .i32) w blk off d → blk < w.heap.size → a ≤ b → b ≤ d.size → d.size < 4611686018427387904 → limit < 4611686018427387904 → Below ltInt a b d →
  Calls Try.prog 52 #[.slice (some ⟨blk, off, none⟩) d.size cap, .int .i64 a, .int .i64 b, .int .i64 limit] w fun e w' =>
    e = .returned (.tuple #[]) ∧ ∃ n os, w' = grow (putRow (Value.int .i32) (Sort.ahead w n) blk off (Sort.pdq ltInt d a b limit true true)) os

set_option maxRecDepth 100000 in
theorem Srt.Sort_int (hpdq : pdqWalk_int) (blk off cap : Nat) (d : Array Int) (w : World) (hH : Holds (Value.int .i32) w blk off d) (hblk : blk < w.heap.size) (hsz : d.size < 4611686018427387904) :
    Calls Try.prog 49 #[.slice (some ⟨blk, off, none⟩) d.size cap] w fun e w' => e = .returned (.tuple #[]) ∧ ∃ n os, w' = grow (putRow (Value.int .i32) (Sort.ahead w n) blk off (Sort.sort ltInt d)) os := by
  have HH : Hid (Holds (Value.int .i32) w blk off d) := hH
  clear hH
  have hLen : ∀ w, Calls Try.prog 53 #[.int .u64 (d.size : Int)] w fun e w' => e = .returned (.int .i64 (bitsLen d.size : Nat)) ∧ w' = w := fun w => by
    have h := Srt.bits_Len (d.size : Int) w (by omega) (by omega)
    rwa [Int.toNat_natCast, bitLen_eq _ (by omega)] at h
  have hk : bitsLen d.size ≤ 62 := (bitsLen_le_iff d.size 62).2 (by omega)
  go_enter Try.func49, Try.ntmps49
  go_wp2_with (first
    | (go_at_call 53; refine (hLen _).mono ?_; rintro e w' ⟨rfl, rfl⟩)
    | (go_at_call 52; refine (hpdq blk off cap 0 d.size (bitsLen d.size) d _ (by exact HH.out) (by exact hblk) (Nat.zero_le _) (Nat.le_refl _) hsz (by omega) (Or.inl rfl)).mono ?_; rintro e w' ⟨rfl, n, os, rfl⟩))
  go_end0
  exact ⟨rfl, n, os, rfl⟩

theorem Srt.insertionSort_int_nil (p : Option Addr) (cap : Nat) (w : World) :
    Calls Try.prog 56 #[.slice p 0 cap, .int .i64 0, .int .i64 0] w fun e w' => e = .returned (.tuple #[]) ∧ w' = w := by
  go_enter Try.func56, Try.ntmps56
  go_wp2
  refine wp_loop_rounds 1 ?_
  rw [rounds_succ]
  go_wp2
  go_end0
  exact ⟨rfl, rfl⟩

set_option maxRecDepth 100000 in
theorem Srt.pdqsort_int_nil (p : Option Addr) (cap : Nat) (w : World) :
    Calls Try.prog 52 #[.slice p 0 cap, .int .i64 0, .int .i64 0, .int .i64 0] w fun e w' => e = .returned (.tuple #[]) ∧ w' = w := by
  go_enter Try.func52, Try.ntmps52
  go_wp2
  refine wp_loop_rounds 1 ?_
  rw [rounds_succ]
  go_wp2_with (first | (go_at_call 56; refine (Srt.insertionSort_int_nil p cap _).mono ?_; rintro e w' ⟨rfl, rfl⟩))
  refine bodyPost_ret (results_none rfl _ _ _) rfl ?_      -- an explicit 'return' in a function without results
  exact ⟨rfl, rfl⟩

set_option maxRecDepth 100000 in
theorem Srt.Sort_int_nil (p : Option Addr) (cap : Nat) (w : World) :
    Calls Try.prog 49 #[.slice p 0 cap] w fun e w' => e = .returned (.tuple #[]) ∧ w' = w := by
  have hLen : ∀ w, Calls Try.prog 53 #[.int .u64 0] w fun e w' => e = .returned (.int .i64 0) ∧ w' = w := fun w => Srt.bits_Len 0 w (by omega) (by omega)
  go_enter Try.func49, Try.ntmps49
  go_wp2_with (first
    | (go_at_call 53; refine (hLen _).mono ?_; rintro e w' ⟨rfl, rfl⟩)
    | (go_at_call 52; refine (Srt.pdqsort_int_nil p cap _).mono ?_; rintro e w' ⟨rfl, rfl⟩))
  go_end0
  exact ⟨rfl, rfl⟩

/-! ### At int -/
theorem callees13 : Callees13 where
  ins := Srt.insertionSort_int
  brk := Srt.breakPatterns_int
  piv := Srt.choosePivot_int
  par := Srt.partialInsertionSort_int
  peq := Srt.partitionEqualOrdered_int
  prt := Srt.partitionOrdered_int

theorem plain13 : Plain13 where
  swo := swo_ltInt
  ins := insertionSort_holds
  par := partialInsertionSort_holds
  prt := partition_holds _
  peq := partitionEqual_holds _
  pdq := pdq_sorts _

theorem pdqWalkInt : pdqWalk_int := fun blk off cap a b limit d w hH hb hab hbd hsz hl hB =>
  Srt.pdqsort_int callees13 plain13 (b - a + 1) blk off cap a b limit d w (by omega) hH hb hab hbd hsz hl hB

theorem sort_int_eq (zs : List Int) : Sort.sort ltInt zs.toArray = (zs.mergeSort fun x y => decide (x ≤ y)).toArray := by
  rw [← sortInt zs]

theorem Srt.slices_Sort_int (blk off cap : Nat) (zs : List Int) (w : World) (hH : Holds (Value.int .i32) w blk off zs.toArray) (hblk : blk < w.heap.size) (hsz : zs.length < 4611686018427387904) :
    Calls Try.prog 49 #[.slice (some ⟨blk, off, none⟩) zs.length cap] w fun e w' =>
      e = .returned (.tuple #[]) ∧ ∃ n os, w' = grow (putRow (Value.int .i32) (Sort.ahead w n) blk off (zs.mergeSort fun x y => decide (x ≤ y)).toArray) os := by
  have h := Srt.Sort_int pdqWalkInt blk off cap zs.toArray w hH hblk (by simpa using hsz)
  rw [sort_int_eq] at h
  simpa using h

end Go.Proofs.Qxb6601041a
