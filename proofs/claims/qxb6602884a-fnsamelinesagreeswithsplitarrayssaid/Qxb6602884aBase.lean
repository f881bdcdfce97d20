/- Walks of the bounds: linesTooBig and the three zzBytes functions. They read, and the world stays as it was. -/
import Derived.Test.Qxb6602884aProg
import Derived.WalkKit
import Derived.WalkSpells
import Derived.WalkLawsBesides
namespace Go.Proofs.Qxb6602884a
open Go.RowKit

/-- What the walk is told of a slice of lines: element i is the pair of a string and a number. -/
def Lines (w : World) (a : Option Addr) (n : Nat) (S : Nat → ByteArray) (Q : Nat → Int) : Prop :=
  n = 0 ∨ ∃ b off, a = some ⟨b, off, none⟩ ∧ ∀ i, i < n → w.cell? ⟨b, off + i * 2, none⟩ = some (.string (S i)) ∧ w.cell? ⟨b, off + i * 2 + 1, none⟩ = some (.int .i64 (Q i))

def TB (len : Nat) (w : World) (e : Ending) (w' : World) : Prop :=
  ∃ (t' : Int) (big : Bool), e = .returned (.tuple #[.int .i64 t', .bool big]) ∧ (big = false → len ≤ 65536 ∧ 0 ≤ t' ∧ t' ≤ 1048576) ∧ w' = w

theorem TB.big {len : Nat} {w : World} {e : Ending} (t : Int) (h : e = .returned (.tuple #[.int .i64 t, .bool true])) : TB len w e w := ⟨t, true, h, (fun h => by cases h), rfl⟩
theorem TB.small {len : Nat} {w : World} {e : Ending} (t : Int) (h : e = .returned (.tuple #[.int .i64 t, .bool false])) (h1 : len ≤ 65536) (h2 : 0 ≤ t) (h3 : t ≤ 1048576) : TB len w e w := ⟨t, false, h, fun _ => ⟨h1, h2, h3⟩, rfl⟩

set_option maxHeartbeats 400000 in
theorem tooBig_any (a : Option Addr) (len cap : Nat) (S : Nat → ByteArray) (Q : Nat → Int) (t : Int) (w : World) (hL : Lines w a len S Q) (hlen : len ≤ maxLen) (hS : ∀ i, i < len → (S i).size ≤ maxLen)
    (ht0 : -9223372036854775808 ≤ t) (ht1 : t ≤ 9223372036854775807) :
    Calls Try.prog 8 #[.slice a len cap, .int .i64 t] w (TB len w) := by
  unfold maxLen at *
  by_cases h1 : t < 0
  · go_enter Try.func8, Try.ntmps8
    go_wp2
    go_ret2
    exact TB.big t rfl
  by_cases h2 : 1048576 < t
  · go_enter Try.func8, Try.ntmps8
    go_wp2
    go_ret2
    exact TB.big t rfl
  by_cases h3 : 65536 < len
  · go_enter Try.func8, Try.ntmps8
    go_wp2
    go_ret2
    exact TB.big t rfl
  by_cases h4 : 1048576 < t + 24 * len
  · go_enter Try.func8, Try.ntmps8
    go_wp2
    go_ret2
    exact TB.big _ rfl
  go_enter Try.func8, Try.ntmps8
  go_wp2
  go_loop [1, 6] (fun t' i => ∃ (k : Nat) (z : Int), k ≤ len ∧ i = .int .i64 k ∧ t' = .int .i64 z ∧ 0 ≤ z ∧ z ≤ 1048576) (fun _ i => len - (intOf i).toNat)
  case atStart => exact ⟨0, _, Nat.zero_le _, rfl, rfl, by omega, by omega⟩
  case round =>
    obtain ⟨k, z, hk, rfl, rfl, hz0, hz1⟩ := hrel
    by_cases hlt : k < len
    · obtain h0 | ⟨b, off, rfl, hc⟩ := hL
      · omega
      obtain ⟨c0, c1⟩ := hc k hlt
      have hs := hS k hlt
      clear hc hS
      go_wp2
      · go_ret2
        exact TB.big _ rfl
      · go_ret2
        exact TB.big _ rfl
      · go_round
        case rel => exact ⟨k + 1, _, by omega, by go_num, rfl, by omega, by omega⟩
        case measure => simp [intOf]; omega
    · go_wp2
      go_ret2
      exact TB.small z rfl (by omega) hz0 hz1

/-- It answers some bool; the world is as it was. -/
def SomeBool (w : World) (e : Ending) (w' : World) : Prop := ∃ b : Bool, e = .returned (.bool b) ∧ w' = w

set_option maxHeartbeats 400000 in
theorem bytes1_any (a : Option Addr) (len cap : Nat) (S : Nat → ByteArray) (Q : Nat → Int) (w : World) (hL : Lines w a len S Q) (hlen : len ≤ maxLen) (hS : ∀ i, i < len → (S i).size ≤ maxLen) :
    Calls Try.prog 12 #[.slice a len cap] w (SomeBool w) := by
  unfold maxLen at *
  by_cases h1 : 1048576 < len
  · go_enter Try.func12, Try.ntmps12
    go_wp2
    go_ret
    exact ⟨_, rfl, rfl⟩
  go_enter Try.func12, Try.ntmps12
  go_wp2
  go_loop [3, 4] (fun t i => ∃ (k : Nat) (z : Int), k ≤ len ∧ i = .int .i64 k ∧ t = .int .i64 z ∧ 0 ≤ z ∧ z ≤ 1048576) (fun _ i => len - (intOf i).toNat)
  case atStart => exact ⟨0, _, Nat.zero_le _, rfl, rfl, by omega, by omega⟩
  case round =>
    obtain ⟨k, z, hk, rfl, rfl, hz0, hz1⟩ := hrel
    by_cases hlt : k < len
    · obtain h0 | ⟨b, off, rfl, hc⟩ := hL
      · omega
      obtain ⟨c0, c1⟩ := hc k hlt
      have hs := hS k hlt
      clear hc hS
      go_wp2
      · go_ret
        exact ⟨_, rfl, rfl⟩
      · go_ret
        exact ⟨_, rfl, rfl⟩
      · go_round
        case rel => exact ⟨k + 1, _, by omega, by go_num, rfl, by omega, by omega⟩
        case measure => simp [intOf]; omega
    · go_wp2
      go_ret
      exact ⟨_, rfl, rfl⟩

set_option maxHeartbeats 1000000 in
theorem bytes2_any (a0 : Option Addr) (len0 cap0 : Nat) (S0 : Nat → ByteArray) (Q0 : Nat → Int) (a1 : Option Addr) (len1 cap1 : Nat) (S1 : Nat → ByteArray) (Q1 : Nat → Int) (w : World) (hL0 : Lines w a0 len0 S0 Q0) (hlen0 : len0 ≤ maxLen) (hS0 : ∀ i, i < len0 → (S0 i).size ≤ maxLen) (hL1 : Lines w a1 len1 S1 Q1) (hlen1 : len1 ≤ maxLen) (hS1 : ∀ i, i < len1 → (S1 i).size ≤ maxLen) :
    Calls Try.prog 14 #[.slice a0 len0 cap0, .slice a1 len1 cap1] w (SomeBool w) := by
  unfold maxLen at *
  by_cases h1 : 1048576 < len0
  · go_enter Try.func14, Try.ntmps14
    go_wp2
    go_ret
    exact ⟨_, rfl, rfl⟩
  go_enter Try.func14, Try.ntmps14
  go_wp2
  go_loop [5, 6] (fun t i => ∃ (k : Nat) (z : Int), k ≤ len0 ∧ i = .int .i64 k ∧ t = .int .i64 z ∧ 0 ≤ z ∧ z ≤ 1048576) (fun _ i => len0 - (intOf i).toNat)
  case atStart => exact ⟨0, _, Nat.zero_le _, rfl, rfl, by omega, by omega⟩
  case round =>
    obtain ⟨k, z, hk, rfl, rfl, hz0, hz1⟩ := hrel
    by_cases hlt : k < len0
    · obtain h0 | ⟨b, off, rfl, hc⟩ := hL0
      · omega
      obtain ⟨c0, c1⟩ := hc k hlt
      have hs := hS0 k hlt
      clear hc hS0
      go_wp2
      · go_ret
        exact ⟨_, rfl, rfl⟩
      · go_ret
        exact ⟨_, rfl, rfl⟩
      · go_round
        case rel => exact ⟨k + 1, _, by omega, by go_num, rfl, by omega, by omega⟩
        case measure => simp [intOf]; omega
    · clear hL0 hS0
      by_cases g1 : 1048576 < len1
      · go_wp2
        go_ret
        exact ⟨_, rfl, rfl⟩
      by_cases f1 : 1048576 < z + len1
      · go_wp2
        go_ret
        exact ⟨_, rfl, rfl⟩
      go_wp2
      go_loop [5, 7] (fun t i => ∃ (k : Nat) (z : Int), k ≤ len1 ∧ i = .int .i64 k ∧ t = .int .i64 z ∧ 0 ≤ z ∧ z ≤ 1048576) (fun _ i => len1 - (intOf i).toNat)
      case atStart => exact ⟨0, _, Nat.zero_le _, rfl, rfl, by omega, by omega⟩
      case round =>
        obtain ⟨k, z, hk, rfl, rfl, hz0, hz1⟩ := hrel
        by_cases hlt : k < len1
        · obtain h0 | ⟨b, off, rfl, hc⟩ := hL1
          · omega
          obtain ⟨c0, c1⟩ := hc k hlt
          have hs := hS1 k hlt
          clear hc hS1
          go_wp2
          · go_ret
            exact ⟨_, rfl, rfl⟩
          · go_ret
            exact ⟨_, rfl, rfl⟩
          · go_round
            case rel => exact ⟨k + 1, _, by omega, by go_num, rfl, by omega, by omega⟩
            case measure => simp [intOf]; omega
        · clear hL1 hS1
          go_wp2
          go_ret
          exact ⟨_, rfl, rfl⟩

set_option maxHeartbeats 1000000 in
theorem bytes3_any (a0 : Option Addr) (len0 cap0 : Nat) (S0 : Nat → ByteArray) (Q0 : Nat → Int) (a1 : Option Addr) (len1 cap1 : Nat) (S1 : Nat → ByteArray) (Q1 : Nat → Int) (a2 : Option Addr) (len2 cap2 : Nat) (S2 : Nat → ByteArray) (Q2 : Nat → Int) (w : World) (hL0 : Lines w a0 len0 S0 Q0) (hlen0 : len0 ≤ maxLen) (hS0 : ∀ i, i < len0 → (S0 i).size ≤ maxLen) (hL1 : Lines w a1 len1 S1 Q1) (hlen1 : len1 ≤ maxLen) (hS1 : ∀ i, i < len1 → (S1 i).size ≤ maxLen) (hL2 : Lines w a2 len2 S2 Q2) (hlen2 : len2 ≤ maxLen) (hS2 : ∀ i, i < len2 → (S2 i).size ≤ maxLen) :
    Calls Try.prog 7 #[.slice a0 len0 cap0, .slice a1 len1 cap1, .slice a2 len2 cap2] w (SomeBool w) := by
  unfold maxLen at *
  by_cases h1 : 1048576 < len0
  · go_enter Try.func7, Try.ntmps7
    go_wp2
    go_ret
    exact ⟨_, rfl, rfl⟩
  go_enter Try.func7, Try.ntmps7
  go_wp2
  go_loop [7, 8] (fun t i => ∃ (k : Nat) (z : Int), k ≤ len0 ∧ i = .int .i64 k ∧ t = .int .i64 z ∧ 0 ≤ z ∧ z ≤ 1048576) (fun _ i => len0 - (intOf i).toNat)
  case atStart => exact ⟨0, _, Nat.zero_le _, rfl, rfl, by omega, by omega⟩
  case round =>
    obtain ⟨k, z, hk, rfl, rfl, hz0, hz1⟩ := hrel
    by_cases hlt : k < len0
    · obtain h0 | ⟨b, off, rfl, hc⟩ := hL0
      · omega
      obtain ⟨c0, c1⟩ := hc k hlt
      have hs := hS0 k hlt
      clear hc hS0
      go_wp2
      · go_ret
        exact ⟨_, rfl, rfl⟩
      · go_ret
        exact ⟨_, rfl, rfl⟩
      · go_round
        case rel => exact ⟨k + 1, _, by omega, by go_num, rfl, by omega, by omega⟩
        case measure => simp [intOf]; omega
    · clear hL0 hS0
      by_cases g1 : 1048576 < len1
      · go_wp2
        go_ret
        exact ⟨_, rfl, rfl⟩
      by_cases f1 : 1048576 < z + len1
      · go_wp2
        go_ret
        exact ⟨_, rfl, rfl⟩
      go_wp2
      go_loop [7, 9] (fun t i => ∃ (k : Nat) (z : Int), k ≤ len1 ∧ i = .int .i64 k ∧ t = .int .i64 z ∧ 0 ≤ z ∧ z ≤ 1048576) (fun _ i => len1 - (intOf i).toNat)
      case atStart => exact ⟨0, _, Nat.zero_le _, rfl, rfl, by omega, by omega⟩
      case round =>
        obtain ⟨k, z, hk, rfl, rfl, hz0, hz1⟩ := hrel
        by_cases hlt : k < len1
        · obtain h0 | ⟨b, off, rfl, hc⟩ := hL1
          · omega
          obtain ⟨c0, c1⟩ := hc k hlt
          have hs := hS1 k hlt
          clear hc hS1
          go_wp2
          · go_ret
            exact ⟨_, rfl, rfl⟩
          · go_ret
            exact ⟨_, rfl, rfl⟩
          · go_round
            case rel => exact ⟨k + 1, _, by omega, by go_num, rfl, by omega, by omega⟩
            case measure => simp [intOf]; omega
        · clear hL1 hS1
          by_cases g2 : 1048576 < len2
          · go_wp2
            go_ret
            exact ⟨_, rfl, rfl⟩
          by_cases f2 : 1048576 < z + len2
          · go_wp2
            go_ret
            exact ⟨_, rfl, rfl⟩
          go_wp2
          go_loop [7, 10] (fun t i => ∃ (k : Nat) (z : Int), k ≤ len2 ∧ i = .int .i64 k ∧ t = .int .i64 z ∧ 0 ≤ z ∧ z ≤ 1048576) (fun _ i => len2 - (intOf i).toNat)
          case atStart => exact ⟨0, _, Nat.zero_le _, rfl, rfl, by omega, by omega⟩
          case round =>
            obtain ⟨k, z, hk, rfl, rfl, hz0, hz1⟩ := hrel
            by_cases hlt : k < len2
            · obtain h0 | ⟨b, off, rfl, hc⟩ := hL2
              · omega
              obtain ⟨c0, c1⟩ := hc k hlt
              have hs := hS2 k hlt
              clear hc hS2
              go_wp2
              · go_ret
                exact ⟨_, rfl, rfl⟩
              · go_ret
                exact ⟨_, rfl, rfl⟩
              · go_round
                case rel => exact ⟨k + 1, _, by omega, by go_num, rfl, by omega, by omega⟩
                case measure => simp [intOf]; omega
            · clear hL2 hS2
              go_wp2
              go_ret
              exact ⟨_, rfl, rfl⟩

end Go.Proofs.Qxb6602884a
