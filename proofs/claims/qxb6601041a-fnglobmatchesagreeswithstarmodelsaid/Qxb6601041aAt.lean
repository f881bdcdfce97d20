/- (*run).at: does a run fit at a place. -/
import Derived.Test.Qxb6601041aFits
import Derived.Test.Qxb6601041aStar
namespace Go.Proofs.Qxb6601041a
open Go.RowKit

def fitB (cs vs : List Int) (s : Nat) : Bool := decide (s + cs.length ≤ vs.length) && fitsAt cs vs s

theorem fitB_iff {cs vs : List Int} {s : Nat} : fitB cs vs s = true ↔ FitR (fun k => vs.getD k 0) vs.length cs s := by
  unfold fitB FitR
  rw [Bool.and_eq_true, decide_eq_true_iff, fitsAt_iff]

set_option maxHeartbeats 1000000 in
set_option maxRecDepth 1000000 in
theorem at_any (w : World) (br bf : Nat) (pc : Option Addr) (kc : Nat) (cs : List Int) (va : Option Addr) (vc : Nat) (wa : Option Addr) (wk : Nat) (vs : List Int) (bs : List Bool) (a1 : w.cell? ⟨br, 1, none⟩ = some (.slice pc cs.length kc)) (hr : Row .i32 w pc cs) (hF : FoR w bf va vc wa wk vs bs) (i : Nat) (hm : cs.length ≤ 1024) (hn : vs.length ≤ 1024) (hi : i ≤ 1000000) :
    Calls Try.prog 43 #[.pointer (some ⟨br, 0, none⟩), .pointer (some ⟨bf, 0, none⟩), .int .i64 i] w (Says (fitB cs vs i) w) := by
  have a2 := hF.c0
  obtain ⟨n, hn'⟩ : ∃ n, n = vs.length := ⟨_, rfl⟩
  obtain ⟨m, hm'⟩ : ∃ m, m = cs.length := ⟨_, rfl⟩
  obtain ⟨F, hF'⟩ : ∃ F : Nat → Int, ∀ t, F t = cs.getD t 0 := ⟨_, fun _ => rfl⟩
  obtain ⟨G, hG⟩ : ∃ G : Nat → Int, ∀ t, G t = vs.getD (i + t) 0 := ⟨_, fun _ => rfl⟩
  have HCX : Hid (m = 0 ∨ ∃ b off, pc = some ⟨b, off, none⟩ ∧ ∀ j, j < m → w.cell? ⟨b, off + j, none⟩ = some (.int .i32 (F j))) := by
    rcases hr with h0 | h
    · exact .inl (by rw [hm', h0]; rfl)
    · exact .inr (by simp only [hF']; rw [hm']; exact h)
  have HCY : Hid (n = 0 ∨ ∃ b off, va = some ⟨b, off, none⟩ ∧ ∀ j, i + j < n → w.cell? ⟨b, off + (i + j), none⟩ = some (.int .i32 (G j))) := by
    rcases hF.rv with h0 | ⟨b, off, e, h⟩
    · exact .inl (by rw [hn', h0]; rfl)
    · exact .inr ⟨b, off, e, fun j hj => by rw [hG]; exact h (i + j) (by omega)⟩
  have hfit : fitB cs vs i = true ↔ i + m ≤ n ∧ ∀ k, k < m → fitc (F k) (G k) = true := by
    unfold fitB
    rw [Bool.and_eq_true, decide_eq_true_iff, fitsAt_iff, ← hm', ← hn']
    simp only [hF', hG]
  rw [← hm'] at a1 hm
  rw [← hn'] at a2 hn
  generalize fitB cs vs i = r at hfit ⊢
  clear hr hF hn' hm' hF' hG
  by_cases him : i + m ≤ n
  · have no : Hid (∀ k, k < m → F k ≠ -1 → F k ≠ G k → r = false) := fun k hk h1 h2 => by
      cases r
      · rfl
      · have := (hfit.1 rfl).2 k hk
        unfold fitc at this
        simp [h1, h2] at this
    have yes : Hid ((∀ i, i < m → fitc (F i) (G i) = true) → r = true) := fun h => hfit.2 ⟨him, h⟩
    clear hfit
    go_enter Try.func43, Try.ntmps43
    go_wp2_with fail
    go_quiet (fail)
    go_wp2_with fail
    go_loopw [27] (fun t wr => ∃ (k q : Nat), k ≤ m ∧ t = .int .i64 k ∧ wr = w.drewN q ∧ ∀ i, i < k → fitc (F i) (G i) = true) (fun t _ => m - (intOf t).toNat)
    case atStart => exact ⟨0, nq, Nat.zero_le _, rfl, rfl, fun i hi => absurd hi (Nat.not_lt_zero _)⟩
    case round =>
      obtain ⟨k, q, hk, rfl, rfl, hall⟩ := hrel
      have HA : Hid (∀ i, i < k → fitc (F i) (G i) = true) := hall
      clear hall
      by_cases hlt : k < m
      · obtain h0 | ⟨b1, o1, rfl, hc1⟩ := HCX.out
        · omega
        obtain h0 | ⟨b2, o2, rfl, hc2⟩ := HCY.out
        · omega
        have c1 := hc1 k hlt
        have hkm : i + k < n := by omega
        have c2 := hc2 k hkm
        have HN' : Hid (F k ≠ -1 → F k ≠ G k → r = false) := no.out k hlt
        have HS : Hid (fitc (F k) (G k) = true → ∀ i, i < k + 1 → fitc (F i) (G i) = true) := fun h i hi => by
          rcases Nat.lt_succ_iff_lt_or_eq.1 hi with h' | rfl
          · exact HA.out i h'
          · exact h
        have HFC : Hid (fitc (F k) (G k) = (F k == -1 || F k == G k)) := rfl
        clear hc1 hc2 HA
        generalize F k = x at c1 HN' HS HFC
        generalize G k = y at c2 HN' HS HFC
        by_cases hx1 : x = -1
        · subst hx1
          have HSS : Hid (∀ i, i < k + 1 → fitc (F i) (G i) = true) := HS.out (by rw [HFC.out]; rfl)
          clear HS HFC HN'
          go_wp2_with fail
          go_roundw
          case rel => exact ⟨k + 1, q, by omega, by go_num, rfl, HSS.out⟩
          case measure => simp [intOf]; omega
        · have hx2 : (x != -1) = true := by simpa using hx1
          by_cases hxy : x = y
          · subst hxy
            have HSS : Hid (∀ i, i < k + 1 → fitc (F i) (G i) = true) := HS.out (by rw [HFC.out]; simp)
            clear HS HFC HN'
            go_wp2_with fail
            go_roundw
            case rel => exact ⟨k + 1, q, by omega, by go_num, rfl, HSS.out⟩
            case measure => simp [intOf]; omega
          · have hx3 : (x != y) = true := by simpa using hxy
            have HR : Hid (r = false) := HN'.out hx1 hxy
            clear HS HFC HN'
            go_wp2_with fail
            go_ret
            exact ⟨by rw [HR.out]; rfl, q, rfl⟩
      · have HR : Hid (r = true) := yes.out fun i hi => HA.out i (by omega)
        go_wp2_with fail
        go_ret
        exact ⟨by rw [HR.out]; rfl, q, rfl⟩
  · have him2 : n < i + m := by omega
    have HR : Hid (r = false) := by
      show r = false
      cases r
      · rfl
      · exact absurd (hfit.1 rfl).1 him
    clear hfit HCX HCY
    go_enter Try.func43, Try.ntmps43
    go_wp2_with fail
    go_quiet (fail)
    go_wp2_with fail
    go_ret
    exact ⟨by rw [HR.out]; rfl, nq, rfl⟩
end Go.Proofs.Qxb6601041a
