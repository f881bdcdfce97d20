/- The bounds on the total length. -/
import Derived.Test.Qxb6601041aSmall
namespace Go.Proofs.Qxb6601041a
open Go.RowKit

set_option maxHeartbeats 400000 in
theorem bytes20 (a b c : Option Addr) (na ca nb cb nc cc : Nat) (fr : Int) (s1 s2 : Bool) (w : World) (ha : na ≤ maxLen) (hb : nb ≤ maxLen) (hc : nc ≤ maxLen) :
    Calls Try.prog 20 #[.slice a na ca, .slice b nb cb, .slice c nc cc, .int .i64 fr, .bool s1, .bool s2] w (SomeBool w) := by
  unfold maxLen at *
  by_cases h1 : 1048576 < na
  · go_enter Try.func20, Try.ntmps20
    go_wp2
    go_ret
    exact ⟨_, rfl, rfl⟩
  by_cases h2 : 1048576 < nb
  · go_enter Try.func20, Try.ntmps20
    go_wp2
    go_ret
    exact ⟨_, rfl, rfl⟩
  by_cases h3 : 1048576 < na + nb
  · go_enter Try.func20, Try.ntmps20
    go_wp2
    go_ret
    exact ⟨_, rfl, rfl⟩
  by_cases h4 : 1048576 < nc
  · go_enter Try.func20, Try.ntmps20
    go_wp2
    go_ret
    exact ⟨_, rfl, rfl⟩
  by_cases h5 : 1048576 < na + nb + nc
  · go_enter Try.func20, Try.ntmps20
    go_wp2
    go_ret
    exact ⟨_, rfl, rfl⟩
  go_enter Try.func20, Try.ntmps20
  go_wp2
  go_ret
  exact ⟨_, rfl, rfl⟩

set_option maxHeartbeats 400000 in
theorem bytes24 (a b c : Option Addr) (na ca nb cb nc cc : Nat) (fr : Int) (s1 s2 : Bool) (w : World) (ha : na ≤ maxLen) (hb : nb ≤ maxLen) (hc : nc ≤ maxLen) :
    Calls Try.prog 24 #[.slice a na ca, .slice b nb cb, .slice c nc cc, .int .i64 fr, .bool s1, .bool s2] w (SomeBool w) := by
  unfold maxLen at *
  by_cases h1 : 1048576 < na
  · go_enter Try.func24, Try.ntmps24
    go_wp2
    go_ret
    exact ⟨_, rfl, rfl⟩
  by_cases h2 : 1048576 < nb
  · go_enter Try.func24, Try.ntmps24
    go_wp2
    go_ret
    exact ⟨_, rfl, rfl⟩
  by_cases h3 : 1048576 < na + nb
  · go_enter Try.func24, Try.ntmps24
    go_wp2
    go_ret
    exact ⟨_, rfl, rfl⟩
  by_cases h4 : 1048576 < nc
  · go_enter Try.func24, Try.ntmps24
    go_wp2
    go_ret
    exact ⟨_, rfl, rfl⟩
  by_cases h5 : 1048576 < na + nb + nc
  · go_enter Try.func24, Try.ntmps24
    go_wp2
    go_ret
    exact ⟨_, rfl, rfl⟩
  go_enter Try.func24, Try.ntmps24
  go_wp2
  go_ret
  exact ⟨_, rfl, rfl⟩

set_option maxHeartbeats 400000 in
theorem bytes11 (a b c : Option Addr) (na ca nb cb nc cc : Nat) (s1 : Bool) (w : World) (ha : na ≤ maxLen) (hb : nb ≤ maxLen) (hc : nc ≤ maxLen) :
    Calls Try.prog 11 #[.slice a na ca, .slice b nb cb, .slice c nc cc, .bool s1] w (SomeBool w) := by
  unfold maxLen at *
  by_cases h1 : 1048576 < na
  · go_enter Try.func11, Try.ntmps11
    go_wp2
    go_ret
    exact ⟨_, rfl, rfl⟩
  by_cases h2 : 1048576 < nb
  · go_enter Try.func11, Try.ntmps11
    go_wp2
    go_ret
    exact ⟨_, rfl, rfl⟩
  by_cases h3 : 1048576 < na + nb
  · go_enter Try.func11, Try.ntmps11
    go_wp2
    go_ret
    exact ⟨_, rfl, rfl⟩
  by_cases h4 : 1048576 < nc
  · go_enter Try.func11, Try.ntmps11
    go_wp2
    go_ret
    exact ⟨_, rfl, rfl⟩
  by_cases h5 : 1048576 < na + nb + nc
  · go_enter Try.func11, Try.ntmps11
    go_wp2
    go_ret
    exact ⟨_, rfl, rfl⟩
  go_enter Try.func11, Try.ntmps11
  go_wp2
  go_ret
  exact ⟨_, rfl, rfl⟩

end Go.Proofs.Qxb6601041a
