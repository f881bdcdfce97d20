/- The law FnSplitLinesExact, walked out of the contracts. -/
import Derived.Test.Qxb6602884aSplit
import Derived.Test.Qxb6602884aEquiv
namespace Go.Proofs.Qxb6602884a
open Go.RowKit

set_option maxHeartbeats 400000 in
theorem exact_any (a : Option Addr) (la ca : Nat) (S : Nat → ByteArray) (Q : Nat → Int) (w : World)
    (hA : Lines w a la S Q) (na : a = none → la = 0) (ma : la ≤ maxLen) (sa : ∀ i, i < la → (S i).size ≤ maxLen) :
    Calls Try.prog 5 #[.slice a la ca] w (Ends w) := by
  have hn33 := fun (w : World) (a : Option Addr) (n c : Nat) => Lib.run_eql_slice_nil (P := Try.prog) w 33 9 a n c 0 0 Try.underlying33
  have hn34 := fun (w : World) (a : Option Addr) (n c : Nat) => Lib.run_eql_slice_nil (P := Try.prog) w 34 2 a n c 0 0 Try.underlying34
  go_enter Try.func5, Try.ntmps5
  go_wp2_with fail
  refine (bytes1_any a la ca S Q w hA ma sa).mono ?_
  rintro e w' ⟨r, rfl, rfl⟩
  cases r
  · go_wp2
    go_ret
    exact ⟨rfl, Below.refl _ _⟩
  go_wp2_with fail
  refine (tooBig_any a la ca S Q 0 _ hA ma sa (by omega) (by omega)).mono ?_
  rintro e w' ⟨t1, g1, rfl, hg1, rfl⟩
  cases g1
  case true =>
    go_wp2
    go_ret
    exact ⟨rfl, Below.refl _ _⟩
  obtain ⟨la6, t10, t11⟩ := hg1 rfl
  clear hg1
  go_wp2_with fail
  refine (hold_any a la ca S Q _ hA na la6).mono ?_
  rintro e w1 ⟨p1, q1, rfl, h1, b1⟩
  go_wp2_with fail
  refine (zzsplit_any p1 la q1 S Q w1 h1 la6).mono ?_
  rintro e w2 ⟨x, y, rfl, hx, hy, b2⟩
  have b12 := b1.trans (b2.mono b1.size)
  have hA2 := hA.kept b12
  clear b2 b1 hA h1
  go_wp2
  go_loopw [7] (fun i wr => ∃ (k n : Nat), k ≤ la ∧ i = .int .i64 k ∧ wr = w2.drewN n) (fun i _ => la - (intOf i).toNat)
  case atStart => exact ⟨0, 0, Nat.zero_le _, rfl, rfl⟩
  case round =>
    obtain ⟨k, n, hk, rfl, rfl⟩ := hrel
    by_cases hlt : k < la
    · obtain h0 | ⟨b, off, rfl, hc⟩ := hA2
      · omega
      obtain ⟨c0, c1⟩ := hc k hlt
      have cx := hx k hlt
      have cy := hy k hlt
      clear hc hx hy
      go_wp2
      go_quiet (fail)
      go_wp2
      go_roundw
      case rel => exact ⟨k + 1, n + nq, by omega, by go_num, rfl⟩
      case measure => simp [intOf]; omega
    · go_wp2
      go_ret
      exact ⟨rfl, below_drewN b12 _⟩
end Go.Proofs.Qxb6602884a
