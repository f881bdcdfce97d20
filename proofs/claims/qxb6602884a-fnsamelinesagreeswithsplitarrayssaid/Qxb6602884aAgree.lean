/- eqStrings, eqInt64s, and the law FnSameLinesAgreesWithSplitArrays, walked out of the contracts. -/
import Derived.Test.Qxb6602884aSplit
import Derived.Test.Qxb6602884aEquiv
namespace Go.Proofs.Qxb6602884a
open Go.RowKit

def AlikeS (len len' : Nat) (S S' : Nat → ByteArray) : Prop := len = len' ∧ ∀ i, i < len → S i = S' i
def AlikeQ (len len' : Nat) (Q Q' : Nat → Int) : Prop := len = len' ∧ ∀ i, i < len → Q i = Q' i

theorem str_ne {s s' : ByteArray} (h : (!s.toList == s'.toList) = true) : s ≠ s' := fun e => by subst e; simp at h
theorem str_eq {s s' : ByteArray} (h : (!s.toList == s'.toList) = false) : s = s' := by
  have := (neB_false (s := s) (s' := s') (q := 0) (q' := 0)).1 (by unfold neB; simpa using h)
  exact this.1
theorem int_ne {q q' : Int} (h : (q != q') = true) : q ≠ q' := by simpa using h
theorem int_eq {q q' : Int} (h : (q != q') = false) : q = q' := by simpa using h

set_option maxHeartbeats 400000 in
theorem eqs_any (b b' len len' : Nat) (S S' : Nat → ByteArray) (w : World) (hx : ∀ i, i < len → w.cell? ⟨b, i, none⟩ = some (.string (S i))) (hy : ∀ i, i < len' → w.cell? ⟨b', i, none⟩ = some (.string (S' i))) (hlen : len ≤ 65536) (hlen' : len' ≤ 65536) :
    Calls Try.prog 15 #[.slice (some ⟨b, 0, none⟩) len len, .slice (some ⟨b', 0, none⟩) len' len'] w (Same (AlikeS len len' S S') w) := by
  by_cases h1 : len = len'
  · subst h1
    go_enter Try.func15, Try.ntmps15
    go_wp2
    go_loopw [5] (fun i wr => ∃ (k n : Nat), k ≤ len ∧ i = .int .i64 k ∧ wr = w.drewN n ∧ ∀ i, i < k → S i = S' i) (fun i _ => len - (intOf i).toNat)
    case atStart => exact ⟨0, 0, Nat.zero_le _, rfl, rfl, fun i hi => absurd hi (Nat.not_lt_zero _)⟩
    case round =>
      obtain ⟨k, n, hk, rfl, rfl, hall⟩ := hrel
      by_cases hlt : k < len
      · have c0 := hx k hlt
        have c1 := hy k hlt
        have HA : Hid (∀ i, i < k → S i = S' i) := hall
        clear hx hy hall
        go_wp2
        go_quiet (fail)
        go_wp2
        · have hne : (!(S k).toList == (S' k).toList) = true := by assumption
          go_ret
          exact Same.no rfl (fun h => str_ne hne (h.2 k hlt)) ⟨n + nq, drewN_drewN w n nq⟩
        · have hne : (!(S k).toList == (S' k).toList) = false := by assumption
          go_roundw
          case rel =>
            refine ⟨k + 1, n + nq, by omega, by go_num, rfl, fun i hi => ?_⟩
            rcases Nat.lt_succ_iff_lt_or_eq.1 hi with h | rfl
            · exact HA.out i h
            · exact str_eq hne
          case measure => simp [intOf]; omega
      · go_wp2
        go_ret
        exact Same.yes rfl ⟨rfl, fun i hi => hall i (by omega)⟩ ⟨n, rfl⟩
  · have h2 : ((len : Int) == (len' : Int)) = false := by simp; omega
    go_enter Try.func15, Try.ntmps15
    go_wp2
    go_ret
    exact Same.no rfl (fun h => h1 h.1) ⟨0, rfl⟩

set_option maxHeartbeats 400000 in
theorem eqi_any (b b' len len' : Nat) (Q Q' : Nat → Int) (w : World) (hx : ∀ i, i < len → w.cell? ⟨b, i, none⟩ = some (.int .i64 (Q i))) (hy : ∀ i, i < len' → w.cell? ⟨b', i, none⟩ = some (.int .i64 (Q' i))) (hlen : len ≤ 65536) (hlen' : len' ≤ 65536) :
    Calls Try.prog 16 #[.slice (some ⟨b, 0, none⟩) len len, .slice (some ⟨b', 0, none⟩) len' len'] w (Same (AlikeQ len len' Q Q') w) := by
  by_cases h1 : len = len'
  · subst h1
    go_enter Try.func16, Try.ntmps16
    go_wp2
    go_loopw [5] (fun i wr => ∃ (k n : Nat), k ≤ len ∧ i = .int .i64 k ∧ wr = w.drewN n ∧ ∀ i, i < k → Q i = Q' i) (fun i _ => len - (intOf i).toNat)
    case atStart => exact ⟨0, 0, Nat.zero_le _, rfl, rfl, fun i hi => absurd hi (Nat.not_lt_zero _)⟩
    case round =>
      obtain ⟨k, n, hk, rfl, rfl, hall⟩ := hrel
      by_cases hlt : k < len
      · have c0 := hx k hlt
        have c1 := hy k hlt
        have HA : Hid (∀ i, i < k → Q i = Q' i) := hall
        clear hx hy hall
        go_wp2
        go_quiet (fail)
        go_wp2
        · have hne : (Q k != Q' k) = true := by assumption
          go_ret
          exact Same.no rfl (fun h => int_ne hne (h.2 k hlt)) ⟨n + nq, drewN_drewN w n nq⟩
        · have hne : (Q k != Q' k) = false := by assumption
          go_roundw
          case rel =>
            refine ⟨k + 1, n + nq, by omega, by go_num, rfl, fun i hi => ?_⟩
            rcases Nat.lt_succ_iff_lt_or_eq.1 hi with h | rfl
            · exact HA.out i h
            · exact int_eq hne
          case measure => simp [intOf]; omega
      · go_wp2
        go_ret
        exact Same.yes rfl ⟨rfl, fun i hi => hall i (by omega)⟩ ⟨n, rfl⟩
  · have h2 : ((len : Int) == (len' : Int)) = false := by simp; omega
    go_enter Try.func16, Try.ntmps16
    go_wp2
    go_ret
    exact Same.no rfl (fun h => h1 h.1) ⟨0, rfl⟩

theorem alike_iff (n m : Nat) (S T : Nat → ByteArray) (Q R : Nat → Int) : Alike n m S T Q R ↔ AlikeS n m S T ∧ AlikeQ n m Q R :=
  ⟨fun h => ⟨⟨h.1, fun i hi => (h.2 i hi).1⟩, ⟨h.1, fun i hi => (h.2 i hi).2⟩⟩, fun h => ⟨h.1.1, fun i hi => ⟨h.1.2 i hi, h.2.2 i hi⟩⟩⟩

theorem same_says {p : Prop} {r : Bool} (hr : r = true ↔ p) {w w' : World} {e : Ending} (h : Same p w e w') : Says r w e w' := by
  obtain ⟨r', rfl, hr', n, rfl⟩ := h
  have : r' = r := by cases r <;> cases r' <;> simp_all
  subst this
  exact ⟨rfl, n, rfl⟩

set_option maxHeartbeats 1000000 in
theorem agree_any (a b : Option Addr) (la ca lb cb : Nat) (S T : Nat → ByteArray) (Q R : Nat → Int) (w : World)
    (hA : Lines w a la S Q) (hB : Lines w b lb T R) (na : a = none → la = 0) (nb : b = none → lb = 0)
    (ma : la ≤ maxLen) (mb : lb ≤ maxLen) (sa : ∀ i, i < la → (S i).size ≤ maxLen) (sb : ∀ i, i < lb → (T i).size ≤ maxLen) :
    Calls Try.prog 6 #[.slice a la ca, .slice b lb cb] w (Ends w) := by
  go_enter Try.func6, Try.ntmps6
  go_wp2_with fail
  refine (bytes2_any a la ca S Q b lb cb T R w hA ma sa hB mb sb).mono ?_
  rintro e w' ⟨r, rfl, rfl⟩
  cases r
  · go_wp2
    go_ret
    exact ⟨rfl, Below.refl _ _⟩
  go_wp2_with fail
  refine (tooBig_any a la ca S Q 0 _ hA ma sa (by omega) (by omega)).mono ?_
  rintro e w' ⟨t1, g1, rfl, hg1, rfl⟩
  cases g1
  case true =>
    go_wp2
    go_ret
    exact ⟨rfl, Below.refl _ _⟩
  obtain ⟨la6, t10, t11⟩ := hg1 rfl
  go_wp2_with fail
  refine (tooBig_any b lb cb T R t1 _ hB mb sb (by omega) (by omega)).mono ?_
  rintro e w' ⟨t2, g2, rfl, hg2, rfl⟩
  cases g2
  case true =>
    go_wp2
    go_ret
    exact ⟨rfl, Below.refl _ _⟩
  obtain ⟨lb6, t20, t21⟩ := hg2 rfl
  clear hg1 hg2
  go_wp2_with fail
  refine (hold_any a la ca S Q _ hA na la6).mono ?_
  rintro e w1 ⟨p1, q1, rfl, h1, b1⟩
  go_wp2_with fail
  refine (hold_any b lb cb T R w1 (hB.kept b1) nb lb6).mono ?_
  rintro e w2 ⟨p2, q2, rfl, h2, b2⟩
  have b12 := b1.trans (b2.mono b1.size)
  replace h1 := h1.kept b2
  clear b2 b1 hA hB
  obtain ⟨rs, hrs⟩ := bool_of (AlikeS la lb S T)
  obtain ⟨rq, hrq⟩ := bool_of (AlikeQ la lb Q R)
  have hab : (rs && rq) = true ↔ Alike la lb S T Q R := by rw [alike_iff, Bool.and_eq_true, hrs, hrq]
  have k12 := zzsame_any p1 p2 la q1 lb q2 S T Q R (rs && rq) hab w2 h1 h2 ma mb
  have ks := fun b b' w hx hy => (eqs_any b b' la lb S T w hx hy la6 lb6).mono fun e w' h => same_says hrs h
  have kq := fun b b' w hx hy => (eqi_any b b' la lb Q R w hx hy la6 lb6).mono fun e w' h => same_says hrq h
  clear hab hrs hrq na nb sa sb ma mb
  cases rs
  all_goals
    cases rq
    all_goals
      go_wp2_with fail
      refine k12.mono ?_
      rintro e w3 ⟨rfl, n1, rfl⟩
      go_wp2_with fail
      refine (zzsplit_any p1 la q1 S Q _ (h1.drewN n1) la6).mono ?_
      rintro e w3 ⟨x1, y1, rfl, hx1, hy1, b3⟩
      go_wp2_with fail
      refine (zzsplit_any p2 lb q2 T R w3 ((h2.drewN n1).kept b3) lb6).mono ?_
      rintro e w4 ⟨x2, y2, rfl, hx2, hy2, b4⟩
      have b13 : Below w'.heap.size w' w3 := (below_drewN b12 n1).trans (b3.mono (by simpa using b12.size))
      have b14 := b13.trans (b4.mono b13.size)
      replace hx1 : ∀ i, i < la → w4.cell? ⟨x1, i, none⟩ = some (.string (S i)) := fun i hi => by rw [b4.cell (p := ⟨x1, i, none⟩) (cell_lt (hx1 i hi))]; exact hx1 i hi
      replace hy1 : ∀ i, i < la → w4.cell? ⟨y1, i, none⟩ = some (.int .i64 (Q i)) := fun i hi => by rw [b4.cell (p := ⟨y1, i, none⟩) (cell_lt (hy1 i hi))]; exact hy1 i hi
      have HK := ks x1 x2 w4 hx1 hx2
      have HQ := fun n => kq y1 y2 (w4.drewN n) hy1 hy2
      clear b3 b4 b13 hx1 hx2 hy1 hy2 ks kq k12
      go_wp2_with fail
      refine HK.mono ?_
      rintro e w5 ⟨rfl, n2, rfl⟩
      first
        | (go_wp2_with fail
           refine (HQ n2).mono ?_
           rintro e w5 ⟨rfl, n3, rfl⟩
           go_wp2
           go_ret
           exact ⟨rfl, below_drewN b14 _⟩)
        | (go_wp2
           go_ret
           exact ⟨rfl, below_drewN b14 _⟩)
end Go.Proofs.Qxb6602884a
