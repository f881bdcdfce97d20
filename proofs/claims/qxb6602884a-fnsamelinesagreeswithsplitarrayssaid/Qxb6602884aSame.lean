/- The walk of sameLines: it answers whether the two lists of lines are alike, line by line. -/
import Derived.Test.Qxb6602884aBase
import Derived.Laws.StructEq
import Derived.Deep.QuietTactic
import Derived.BigQuiet
namespace Go.Proofs.Qxb6602884a
open Go.RowKit

/-- The text's '!=' on two lines, as a Bool of its own. -/
def neB (s : ByteArray) (q : Int) (s' : ByteArray) (q' : Int) : Bool := !(s.toList == s'.toList && q == q')

theorem neB_false {s s' : ByteArray} {q q' : Int} : neB s q s' q' = false ↔ s = s' ∧ q = q' := by
  unfold neB
  rw [Bool.not_eq_false', Bool.and_eq_true, beq_iff_eq, beq_iff_eq]
  refine and_congr_left fun _ => ⟨fun h => ?_, fun h => by rw [h]⟩
  rw [ByteArray.toList_eq, ByteArray.toList_eq] at h
  obtain ⟨⟨x⟩⟩ := s
  obtain ⟨⟨y⟩⟩ := s'
  simp at h
  rw [h]

theorem neqLine (s s' : ByteArray) (q q' : Int) (w : World) :
    Sem.run Try.prog (binOp .neq 31 (.agg #[.string s, .int .i64 q]) (.agg #[.string s', .int .i64 q'])) w = .ok (.bool (neB s q s' q')) w := by
  have u9 := Try.underlying9
  have u2 := Try.underlying2
  have hS : Try.prog.underlying 31 = some (.struct (Try.prog.fieldsOf 31)) := by kernel_rfl
  have hp : Try.prog.stoodInHeld 31 = false := by kernel_rfl
  rw [run_neq_struct, show (10000 : Nat) = 9999 + 1 from rfl, run_equalIn_agg w 9999 31 _ _ hS hp]
  simp only [Program.fieldsOf, Try.underlying31]
  go_simp
  unfold neB
  by_cases h1 : s.toList = s'.toList <;> by_cases h2 : q = q' <;> simp [h1, h2]

theorem drewN_drewN (w : World) (n m : Nat) : (w.drewN n).drewN m = w.drewN (n + m) := by
  simp [World.drewN, Nat.add_assoc]

def Same (p : Prop) (w : World) (e : Ending) (w' : World) : Prop := ∃ r : Bool, e = .returned (.bool r) ∧ (r = true ↔ p) ∧ ∃ n, w' = w.drewN n

theorem Same.no {p : Prop} {w w' : World} {e : Ending} (h : e = .returned (.bool false)) (hp : ¬ p) (hw : ∃ n, w' = w.drewN n) : Same p w e w' := ⟨false, h, by simp [hp], hw⟩
theorem Same.yes {p : Prop} {w w' : World} {e : Ending} (h : e = .returned (.bool true)) (hp : p) (hw : ∃ n, w' = w.drewN n) : Same p w e w' := ⟨true, h, by simp [hp], hw⟩

def Alike (len len' : Nat) (S S' : Nat → ByteArray) (Q Q' : Nat → Int) : Prop := len = len' ∧ ∀ i, i < len → S i = S' i ∧ Q i = Q' i

set_option maxHeartbeats 400000 in
theorem same_any (a a' : Option Addr) (len cap len' cap' : Nat) (S S' : Nat → ByteArray) (Q Q' : Nat → Int) (w : World) (hL : Lines w a len S Q) (hL' : Lines w a' len' S' Q') (hlen : len ≤ maxLen) (hlen' : len' ≤ maxLen) :
    Calls Try.prog 17 #[.slice a len cap, .slice a' len' cap'] w (Same (Alike len len' S S' Q Q') w) := by
  unfold maxLen at *
  by_cases h1 : len = len'
  · subst h1
    have hg : ∀ (x y : Operand) (xs ys : Array Value) (w : World), (eqGuard .neq 31 x y (.agg xs) (.agg ys)).run Try.prog w = .ok () w := fun x y xs ys w => run_eqGuard_agg w .neq 31 x y xs ys (by kernel_rfl)
    have hn := neqLine
    go_enter Try.func17, Try.ntmps17
    go_wp2
    go_loopw [13] (fun i wr => ∃ (k n : Nat), k ≤ len ∧ i = .int .i64 k ∧ wr = w.drewN n ∧ ∀ i, i < k → S i = S' i ∧ Q i = Q' i) (fun i _ => len - (intOf i).toNat)
    case atStart => exact ⟨0, 0, Nat.zero_le _, rfl, rfl, fun i hi => absurd hi (Nat.not_lt_zero _)⟩
    case round =>
      obtain ⟨k, n, hk, rfl, rfl, hall⟩ := hrel
      by_cases hlt : k < len
      · obtain h0 | ⟨b, off, rfl, hc⟩ := hL
        · omega
        obtain h0 | ⟨b', off', rfl, hc'⟩ := hL'
        · omega
        obtain ⟨c0, c1⟩ := hc k hlt
        obtain ⟨c0', c1'⟩ := hc' k hlt
        have HA : Hid (∀ i, i < k → S i = S' i ∧ Q i = Q' i) := hall
        clear hc hc' hall
        go_wp2
        go_quiet (fail)
        go_wp2
        · have hne : neB (S k) (Q k) (S' k) (Q' k) = true := by assumption
          go_ret
          refine Same.no rfl (fun h => ?_) ⟨n + nq, drewN_drewN w n nq⟩
          rw [neB_false.2 (h.2 k hlt)] at hne
          cases hne
        · have hne : neB (S k) (Q k) (S' k) (Q' k) = false := by assumption
          go_roundw
          case rel =>
            refine ⟨k + 1, n + nq, by omega, by go_num, rfl, fun i hi => ?_⟩
            rcases Nat.lt_succ_iff_lt_or_eq.1 hi with h | rfl
            · exact HA.out i h
            · exact neB_false.1 hne
          case measure => simp [intOf]; omega
      · go_wp2
        go_ret
        exact Same.yes rfl ⟨rfl, fun i hi => hall i (by omega)⟩ ⟨n, rfl⟩
  · have h2 : ((len : Int) == (len' : Int)) = false := by simp; omega
    go_enter Try.func17, Try.ntmps17
    go_wp2
    go_ret
    exact Same.no rfl (fun h => h1 h.1) ⟨0, rfl⟩
end Go.Proofs.Qxb6602884a
