/- The model of the search: a run fits at a place. -/
import Derived.Test.Qxb6601041aSmall
import Derived.Test.Qxb6601041aSeek
namespace Go.Proofs.Qxb6601041a
open Go.RowKit

def fitsAt (cs vs : List Int) (s : Nat) : Bool := (List.range cs.length).all fun k => fitc (cs.getD k 0) (vs.getD (s + k) 0)

theorem fitsAt_iff {cs vs : List Int} {s : Nat} : fitsAt cs vs s = true ↔ ∀ k, k < cs.length → fitc (cs.getD k 0) (vs.getD (s + k) 0) = true := by
  unfold fitsAt
  simp

set_option maxHeartbeats 1000000 in
theorem fits_any (a b : Option Addr) (ca cb : Nat) (cs vs : List Int) (w : World) (hx : Row .i32 w a cs) (hy : Row .i32 w b vs) (s : Nat) (hs : s + cs.length ≤ vs.length) (hl : vs.length ≤ 1000000) :
    Calls Try.prog 40 #[.slice a cs.length ca, .slice b vs.length cb, .int .i64 s] w (Says (fitsAt cs vs s) w) := by
  obtain ⟨n, hn⟩ : ∃ n, n = cs.length := ⟨_, rfl⟩
  obtain ⟨m, hm⟩ : ∃ m, m = vs.length := ⟨_, rfl⟩
  obtain ⟨F, hF⟩ : ∃ F : Nat → Int, ∀ t, F t = cs.getD t 0 := ⟨_, fun _ => rfl⟩
  obtain ⟨G, hG⟩ : ∃ G : Nat → Int, ∀ t, G t = vs.getD (s + t) 0 := ⟨_, fun _ => rfl⟩
  have hcx : n = 0 ∨ ∃ b off, a = some ⟨b, off, none⟩ ∧ ∀ j, j < n → w.cell? ⟨b, off + j, none⟩ = some (.int .i32 (F j)) := by
    rcases hx with rfl | h
    · exact .inl hn
    · exact .inr (by simp only [hF]; rw [hn]; exact h)
  have hcy : m = 0 ∨ ∃ b' off, b = some ⟨b', off, none⟩ ∧ ∀ j, j < n → w.cell? ⟨b', off + (s + j), none⟩ = some (.int .i32 (G j)) := by
    rcases hy with rfl | ⟨b', off, rfl, h⟩
    · exact .inl hm
    · exact .inr ⟨b', off, rfl, fun j hj => by rw [hG]; exact h (s + j) (by omega)⟩
  have hr : fitsAt cs vs s = true ↔ ∀ k, k < n → fitc (F k) (G k) = true := by
    rw [fitsAt_iff, ← hn]
    simp only [hF, hG]
  rw [← hn] at hs ⊢
  rw [← hm] at hs hl ⊢
  generalize fitsAt cs vs s = r at hr ⊢
  clear hx hy hn hm hF hG
  have no : Hid (∀ k, k < n → F k ≠ -1 → F k ≠ G k → r = false) := fun k hk h1 h2 => by
    cases r
    · rfl
    · have := hr.1 rfl k hk
      unfold fitc at this
      simp [h1, h2] at this
  have yes : Hid ((∀ i, i < n → fitc (F i) (G i) = true) → r = true) := hr.2
  clear hr
  go_enter Try.func40, Try.ntmps40
  go_wp2
  go_loopw [7] (fun i wr => ∃ (k q : Nat), k ≤ n ∧ i = .int .i64 k ∧ wr = w.drewN q ∧ ∀ i, i < k → fitc (F i) (G i) = true) (fun i _ => n - (intOf i).toNat)
  case atStart => exact ⟨0, 0, Nat.zero_le _, rfl, rfl, fun i hi => absurd hi (Nat.not_lt_zero _)⟩
  case round =>
    obtain ⟨k, q, hk, rfl, rfl, hall⟩ := hrel
    have HA : Hid (∀ i, i < k → fitc (F i) (G i) = true) := hall
    clear hall
    by_cases hlt : k < n
    · obtain h0 | ⟨b1, o1, rfl, hc1⟩ := hcx
      · omega
      obtain h0 | ⟨b2, o2, rfl, hc2⟩ := hcy
      · omega
      have c1 := hc1 k hlt
      have c2 := hc2 k hlt
      have hkm : s + k < m := by omega
      have HN := fun h1 h2 => no.out k hlt h1 h2
      have HN' : Hid (F k ≠ -1 → F k ≠ G k → r = false) := HN
      have HS : Hid (fitc (F k) (G k) = true → ∀ i, i < k + 1 → fitc (F i) (G i) = true) := fun h i hi => by
        rcases Nat.lt_succ_iff_lt_or_eq.1 hi with h' | rfl
        · exact HA.out i h'
        · exact h
      have HFC : Hid (fitc (F k) (G k) = (F k == -1 || F k == G k)) := rfl
      clear hc1 hc2 HN HA
      generalize F k = x at c1 HN' HS HFC
      generalize G k = y at c2 HN' HS HFC
      by_cases hx1 : x = -1
      · subst hx1
        have HS2 := HS.out (by rw [HFC.out]; rfl)
        have HSS : Hid (∀ i, i < k + 1 → fitc (F i) (G i) = true) := HS2
        clear HS HFC HN' HS2
        go_wp2
        go_quiet (fail)
        go_wp2
        go_roundw
        case rel => exact ⟨k + 1, q + nq, by omega, by go_num, rfl, HSS.out⟩
        case measure => simp [intOf]; omega
      · have hx2 : (x != -1) = true := by simpa using hx1
        by_cases hxy : x = y
        · subst hxy
          have HSS : Hid (∀ i, i < k + 1 → fitc (F i) (G i) = true) := HS.out (by rw [HFC.out]; simp)
          clear HS HFC HN'
          go_wp2
          go_quiet (fail)
          go_wp2
          go_roundw
          case rel => exact ⟨k + 1, q + nq, by omega, by go_num, rfl, HSS.out⟩
          case measure => simp [intOf]; omega
        · have hx3 : (x != y) = true := by simpa using hxy
          have HR : Hid (r = false) := HN'.out hx1 hxy
          clear HS HFC HN'
          go_wp2
          go_quiet (fail)
          go_wp2
          go_ret
          exact ⟨by rw [HR.out]; rfl, q + nq, World.drewN_drewN ..⟩
    · have HR : Hid (r = true) := yes.out fun i hi => HA.out i (by omega)
      go_wp2
      go_ret
      exact ⟨by rw [HR.out]; rfl, q, rfl⟩
end Go.Proofs.Qxb6601041a
