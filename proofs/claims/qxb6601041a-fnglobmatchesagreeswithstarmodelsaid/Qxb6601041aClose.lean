/- The automaton's two small functions. -/
import Derived.Test.Qxb6601041aNfa
import Derived.Test.Qxb6601041aFind1
namespace Go.Proofs.Qxb6601041a
open Go.RowKit

/-- A row of booleans in its own block: cells 0 .. m. -/
def BSet (w : World) (g m : Nat) (S : Nat → Bool) : Prop := ∃ f, w.rowIs g 4 (m + 1) f ∧ ∀ k, k ≤ m → f k = .bool (S k)

theorem BSet.lt {w : World} {g m : Nat} {S : Nat → Bool} (h : BSet w g m S) : g < w.heap.size := by obtain ⟨f, h, _⟩ := h; exact h.lt
theorem BSet.cell {w : World} {g m : Nat} {S : Nat → Bool} (h : BSet w g m S) {k : Nat} (hk : k ≤ m) : w.cell? ⟨g, k, none⟩ = some (.bool (S k)) := by obtain ⟨f, h, h'⟩ := h; rw [h.cell (by omega), h' k hk]
theorem BSet.frozen {w : World} {g m : Nat} {S : Nat → Bool} (h : BSet w g m S) (k : Nat) : w.frozen? ⟨g, k, none⟩ = false := by obtain ⟨f, h, _⟩ := h; exact h.frozen k
theorem BSet.set {w : World} {g m : Nat} {S : Nat → Bool} (h : BSet w g m S) (i : Nat) (b : Bool) : BSet (w.setCell ⟨g, i, none⟩ (.bool b)) g m (fun k => if k = i then b else S k) := by
  obtain ⟨f, h, h'⟩ := h
  refine ⟨_, h.set i (.bool b), fun k hk => ?_⟩
  by_cases hki : k = i
  · simp [hki]
  · simp [hki, h' k hk]
theorem BSet.congr {w : World} {g m : Nat} {S T : Nat → Bool} (h : BSet w g m S) (e : ∀ k, k ≤ m → S k = T k) : BSet w g m T := by
  obtain ⟨f, h, h'⟩ := h
  exact ⟨f, h, fun k hk => by rw [h' k hk, e k hk]⟩
theorem BSet.other {w w' : World} {g m : Nat} {S : Nat → Bool} (h : BSet w g m S) {g' : Nat} (ho : OnlyAt g' w w') (hne : g ≠ g') : BSet w' g m S := by
  obtain ⟨f, h, h'⟩ := h
  exact ⟨f, h.of_block (ho.2 g hne), h'⟩
theorem OnlyAt.trans {g : Nat} {a b c : World} (h : OnlyAt g a b) (k : OnlyAt g b c) : OnlyAt g a c := ⟨h.1.trans k.1, fun x hx => (k.2 x hx).trans (h.2 x hx)⟩

/-- What a writer of one row leaves. -/
def Wrote (g m : Nat) (S : Nat → Bool) (w : World) (e : Ending) (w' : World) : Prop := e = .returned (.tuple #[]) ∧ OnlyAt g w w' ∧ BSet w' g m S

/-- The states closed up to k. -/
def half (P : Nat → Int) (S : Nat → Bool) (k j : Nat) : Bool := if j ≤ k then closeB P S j else S j

theorem half_step {P : Nat → Int} {S : Nat → Bool} {k : Nat} {b : Bool} (hb : (closeB P S k && P k == -2) = b) (j : Nat) : half P S (k + 1) j = if b = true ∧ j = k + 1 then true else half P S k j := by
  unfold half
  by_cases hj : j = k + 1
  · subst hj
    simp only [Nat.le_refl, if_true, closeB, hb, Nat.not_succ_le_self, if_false, and_true]
    cases b <;> simp
  · by_cases hjk : j ≤ k
    · simp [hjk, hj, show j ≤ k + 1 by omega]
    · simp [hjk, hj, show ¬ j ≤ k + 1 by omega]

set_option maxHeartbeats 1000000 in
set_option maxRecDepth 1000000 in
theorem close_any (a : Option Addr) (ca : Nat) (ps : List Int) (g cg : Nat) (S : Nat → Bool) (w : World) (hp : Row .i32 w a ps) (hpb : ∀ x, blockOf a = some x → x < g) (hS : BSet w g ps.length S) (hl : ps.length ≤ 1000000) :
    Calls Try.prog 36 #[.slice a ps.length ca, .slice (some ⟨g, 0, none⟩) (ps.length + 1) cg] w (Wrote g ps.length (closeB (fun k => ps.getD k 0) S) w) := by
  obtain ⟨P, hP⟩ : ∃ P : Nat → Int, P = fun k => ps.getD k 0 := ⟨_, rfl⟩
  obtain ⟨m, hm⟩ : ∃ m, m = ps.length := ⟨_, rfl⟩
  have hcell : m = 0 ∨ ∃ b off, a = some ⟨b, off, none⟩ ∧ b < g ∧ ∀ j, j < m → w.cell? ⟨b, off + j, none⟩ = some (.int .i32 (P j)) := by
    rcases hp with rfl | ⟨b, off, rfl, h⟩
    · exact .inl hm
    · exact .inr ⟨b, off, rfl, hpb b rfl, by rw [hP, hm]; exact h⟩
  rw [← hP]
  rw [← hm] at hS hl ⊢
  have HE : Hid (∀ wr, OnlyAt g w wr → BSet wr g m (half P S m) → Wrote g m (closeB P S) w (.returned (.tuple #[])) wr) := fun wr h1 h2 => ⟨rfl, h1, h2.congr fun k hk => by simp [half, hk]⟩
  have H0 : Hid (BSet w g m (half P S 0)) := hS.congr fun k hk => by
    unfold half
    by_cases h0 : k ≤ 0
    · obtain rfl : k = 0 := by omega
      simp [closeB]
    · simp [h0]
  generalize Wrote g m (closeB P S) w = Post at HE ⊢
  clear hS hP hm hp hpb
  go_enter Try.func36, Try.ntmps36
  go_wp2_with fail
  go_loopw [4] (fun i wr => ∃ (k : Nat), k ≤ m ∧ i = .int .i64 k ∧ OnlyAt g w wr ∧ BSet wr g m (half P S k)) (fun i _ => m - (intOf i).toNat)
  case atStart => exact ⟨0, Nat.zero_le _, rfl, OnlyAt.refl _ _, H0.out⟩
  case round =>
    obtain ⟨k, hk, rfl, ho, hB⟩ := hrel
    have HO : Hid (OnlyAt g w wr) := ho
    have HB : Hid (BSet wr g m (half P S k)) := hB
    clear H0
    by_cases hlt : k < m
    · obtain h0 | ⟨b, off, rfl, hbg, hc⟩ := hcell
      · omega
      have c1 := hc k hlt
      rw [← ho.cell (p := ⟨b, off + k, none⟩) (by simp; omega)] at c1
      have c2 : wr.cell? ⟨g, k, none⟩ = some (.bool (closeB P S k)) := by have := hB.cell (Nat.le_of_lt hlt); simpa [half] using this
      have c3 : wr.cell? ⟨g, k + 1, none⟩ = some (.bool (half P S k (k + 1))) := hB.cell (by omega)
      have f3 := hB.frozen (k + 1)
      have HST : Hid (∀ b j, (closeB P S k && P k == -2) = b → half P S (k + 1) j = if b = true ∧ j = k + 1 then true else half P S k j) := fun b j h => half_step h j
      clear hc ho hB HE
      generalize closeB P S k = x at c2 HST
      generalize P k = y at c1 HST
      generalize half P S k (k + 1) = z at c3
      cases x
      · have HBN : Hid (BSet wr g m (half P S (k + 1))) := HB.out.congr fun j _ => by rw [HST.out false j (by simp)]; simp
        clear HST HB
        go_wp2_with fail
        go_roundw
        case rel => exact ⟨k + 1, by omega, by go_num, HO.out, HBN.out⟩
        case measure => simp [intOf]; omega
      · by_cases hy : y = -2
        · subst hy
          have HBN : Hid (BSet (wr.setCell ⟨g, k + 1, none⟩ (.bool true)) g m (half P S (k + 1))) := (HB.out.set (k + 1) true).congr fun j _ => by rw [HST.out true j (by simp)]; simp
          clear HST HB
          go_wp2_with fail
          go_roundw
          case rel => exact ⟨k + 1, by omega, by go_num, HO.out.set _ _, HBN.out⟩
          case measure => simp [intOf]; omega
        · have hy2 : (y == -2) = false := by simpa using hy
          have HBN : Hid (BSet wr g m (half P S (k + 1))) := HB.out.congr fun j _ => by rw [HST.out false j (by simp [hy])]; simp
          clear HST HB
          go_wp2_with fail
          go_roundw
          case rel => exact ⟨k + 1, by omega, by go_num, HO.out, HBN.out⟩
          case measure => simp [intOf]; omega
    · obtain rfl : k = m := by omega
      have HPost : Hid (Post (.returned (.tuple #[])) wr) := HE.out wr HO.out HB.out
      clear HE HB hB ho hcell
      go_wp2_with fail
      go_end0
      exact HPost.out

/-- What the elements ahead of k have laid into the next set. -/
def rawTo (P : Nat → Int) (c : Int) (S : Nat → Bool) (k j : Nat) : Bool :=
  (decide (j < k) && (S j && P j == -2)) || (decide (0 < j ∧ j - 1 < k) && (S (j - 1) && (P (j - 1) != -2 && fitc (P (j - 1)) c)))

theorem rawTo_zero {P : Nat → Int} {c : Int} {S : Nat → Bool} (j : Nat) : rawTo P c S 0 j = false := by simp [rawTo]

theorem rawTo_all {P : Nat → Int} {c : Int} {S : Nat → Bool} {m : Nat} (hm : P m ≠ -2) {j : Nat} (hj : j ≤ m) : rawTo P c S m j = rawB P c S j := by
  unfold rawTo
  rcases j with _ | j
  · by_cases h0 : 0 < m
    · simp [rawB, h0]
    · obtain rfl : m = 0 := by omega
      simp [rawB, hm]
  · by_cases h0 : j + 1 < m
    · simp [rawB, h0, show j < m by omega]
    · obtain rfl : m = j + 1 := by omega
      simp [rawB, hm]

theorem rawTo_step {P : Nat → Int} {c : Int} {S : Nat → Bool} {k : Nat} {a b : Bool} (ha : (S k && P k == -2) = a) (hb : (S k && (P k != -2 && fitc (P k) c)) = b) (j : Nat) : rawTo P c S (k + 1) j = if (a = true ∧ j = k) ∨ (b = true ∧ j = k + 1) then true else rawTo P c S k j := by
  unfold rawTo
  by_cases h1 : j = k
  · subst h1
    rw [ha]
    have e1 : decide (0 < j ∧ j - 1 < j + 1) = decide (0 < j ∧ j - 1 < j) := by
      apply decide_eq_decide.2; omega
    rw [e1]
    cases a <;> simp
  · by_cases h2 : j = k + 1
    · subst h2
      rw [Nat.add_sub_cancel, hb]
      cases b
      · simp; intro h; omega
      · simp
    · have e1 : decide (j < k + 1) = decide (j < k) := by apply decide_eq_decide.2; omega
      have e2 : decide (0 < j ∧ j - 1 < k + 1) = decide (0 < j ∧ j - 1 < k) := by apply decide_eq_decide.2; omega
      rw [e1, e2]
      simp [h1, h2]

set_option maxHeartbeats 1000000 in
set_option maxRecDepth 1000000 in
theorem step_any (a : Option Addr) (ca : Nat) (ps : List Int) (g1 c1 g2 c2 : Nat) (S T : Nat → Bool) (c : Int) (w : World) (hp : Row .i32 w a ps) (hpb : ∀ x, blockOf a = some x → x < g1 ∧ x < g2) (hS : BSet w g1 ps.length S) (hT : BSet w g2 ps.length T) (hne : g1 ≠ g2) (hl : ps.length ≤ 1000000) :
    Calls Try.prog 37 #[.slice a ps.length ca, .slice (some ⟨g1, 0, none⟩) (ps.length + 1) c1, .slice (some ⟨g2, 0, none⟩) (ps.length + 1) c2, .int .i32 c] w (Wrote g2 ps.length (closeB (fun k => ps.getD k 0) (rawB (fun k => ps.getD k 0) c S)) w) := by
  have HC : Hid (∀ wr T, OnlyAt g2 w wr → BSet wr g2 ps.length T → Calls Try.prog 36 #[.slice a ps.length ca, .slice (some ⟨g2, 0, none⟩) (ps.length + 1) c2] wr (Wrote g2 ps.length (closeB (fun k => ps.getD k 0) T) wr)) := fun wr T ho hT =>
    close_any a ca ps g2 c2 T wr (hp.under ho.1 fun x hx => (hpb x hx).2) (fun x hx => (hpb x hx).2) hT hl
  obtain ⟨P, hP⟩ : ∃ P : Nat → Int, P = fun k => ps.getD k 0 := ⟨_, rfl⟩
  obtain ⟨m, hm⟩ : ∃ m, m = ps.length := ⟨_, rfl⟩
  have hPm : P m ≠ -2 := by rw [hP, hm]; simp
  have hcell : m = 0 ∨ ∃ b off, a = some ⟨b, off, none⟩ ∧ b ≠ g2 ∧ ∀ j, j < m → w.cell? ⟨b, off + j, none⟩ = some (.int .i32 (P j)) := by
    rcases hp with rfl | ⟨b, off, rfl, h⟩
    · exact .inl hm
    · exact .inr ⟨b, off, rfl, by have := (hpb b rfl).2; omega, by rw [hP, hm]; exact h⟩
  rw [← hP] at HC ⊢
  rw [← hm] at hS hT hl HC ⊢
  have HE : Hid (∀ wr w' e, OnlyAt g2 w wr → Wrote g2 m (closeB P (rawTo P c S m)) wr e w' → e = .returned (.tuple #[]) ∧ Wrote g2 m (closeB P (rawB P c S)) w (.returned (.tuple #[])) w') := fun wr w' e h1 h2 => by
    obtain ⟨rfl, h3, h4⟩ := h2
    refine ⟨rfl, rfl, h1.trans h3, h4.congr fun k hk => ?_⟩
    clear h4
    induction k with
    | zero => simp only [closeB]; exact rawTo_all hPm hk
    | succ k ih => simp only [closeB]; rw [ih (by omega), rawTo_all hPm hk]
  have HS : Hid (BSet w g1 m S) := hS
  have HT0 : Hid (BSet w g2 m (fun j => if j < 0 then false else T j)) := hT.congr fun k _ => by simp
  have HCELL : Hid (m = 0 ∨ ∃ b off, a = some ⟨b, off, none⟩ ∧ b ≠ g2 ∧ ∀ j, j < m → w.cell? ⟨b, off + j, none⟩ = some (.int .i32 (P j))) := hcell
  generalize Wrote g2 m (closeB P (rawB P c S)) w = Post at HE ⊢
  clear hS hT hP hm hp hpb hPm hcell
  go_enter Try.func37, Try.ntmps37
  go_wp2_with fail
  go_loopw [8] (fun i wr => ∃ (k : Nat), k ≤ m + 1 ∧ i = .int .i64 k ∧ OnlyAt g2 w wr ∧ BSet wr g2 m (fun j => if j < k then false else T j)) (fun i _ => m + 1 - (intOf i).toNat)
  case atStart => exact ⟨0, Nat.zero_le _, rfl, OnlyAt.refl _ _, HT0.out⟩
  case round =>
    obtain ⟨k, hk, rfl, ho, hB⟩ := hrel
    have HO : Hid (OnlyAt g2 w wr) := ho
    have HB : Hid (BSet wr g2 m (fun j => if j < k then false else T j)) := hB
    clear HT0
    by_cases hlt : k ≤ m
    · have c3 := hB.cell hlt
      have f3 := hB.frozen k
      have HBN : Hid (BSet (wr.setCell ⟨g2, k, none⟩ (.bool false)) g2 m (fun j => if j < k + 1 then false else T j)) := (hB.set k false).congr fun j _ => by
        by_cases h1 : j = k
        · simp [h1]
        · by_cases h2 : j < k
          · simp [h1, h2, show j < k + 1 by omega]
          · simp [h1, h2, show ¬ j < k + 1 by omega]
      generalize (if k < k then false else T k) = z at c3
      clear ho hB HB HE HC HS HCELL
      go_wp2_with fail
      go_roundw
      case rel => exact ⟨k + 1, by omega, by go_num, HO.out.set _ _, HBN.out⟩
      case measure => simp [intOf]; omega
    · obtain rfl : k = m + 1 := by omega
      have HB0 : Hid (BSet wr g2 m (rawTo P c S 0)) := hB.congr fun j hj => by rw [rawTo_zero]; simp [show j < m + 1 by omega]
      clear HB hB ho
      rename_i w0
      generalize wr = w1 at HO HB0 ⊢
      go_wp2_with fail
      go_loopw [9] (fun i wr => ∃ (k : Nat), k ≤ m ∧ i = .int .i64 k ∧ OnlyAt g2 w wr ∧ BSet wr g2 m (rawTo P c S k)) (fun i _ => m - (intOf i).toNat)
      case atStart => exact ⟨0, Nat.zero_le _, rfl, HO.out, HB0.out⟩
      case round =>
        obtain ⟨k, hk, rfl, ho, hB⟩ := hrel
        have HO2 : Hid (OnlyAt g2 w wr) := ho
        have HB : Hid (BSet wr g2 m (rawTo P c S k)) := hB
        clear HB0 HO
        by_cases hlt : k < m
        · obtain h0 | ⟨b, off, rfl, hbg, hc⟩ := HCELL.out
          · omega
          have k1 := hc k hlt
          rw [← ho.cell (p := ⟨b, off + k, none⟩) (by simpa using hbg)] at k1
          have k2 : wr.cell? ⟨g1, k, none⟩ = some (.bool (S k)) := (ho.cell (p := ⟨g1, k, none⟩) (by simpa using hne)).trans (HS.out.cell (Nat.le_of_lt hlt))
          have k3 := hB.cell (Nat.le_of_lt hlt)
          have f3 := hB.frozen k
          have k4 : wr.cell? ⟨g2, k + 1, none⟩ = some (.bool (rawTo P c S k (k + 1))) := hB.cell (by omega)
          have f4 := hB.frozen (k + 1)
          have HST : Hid (∀ a b j, (S k && P k == -2) = a → (S k && (P k != -2 && (P k == -1 || P k == c))) = b → rawTo P c S (k + 1) j = if (a = true ∧ j = k) ∨ (b = true ∧ j = k + 1) then true else rawTo P c S k j) := fun a b j h1 h2 => rawTo_step h1 h2 j
          clear hc ho hB HE HC HS HCELL
          generalize S k = x at k2 HST
          generalize P k = y at k1 HST
          generalize rawTo P c S k k = z3 at k3
          generalize rawTo P c S k (k + 1) = z4 at k4
          cases x
          · have HBN : Hid (BSet wr g2 m (rawTo P c S (k + 1))) := HB.out.congr fun j _ => by rw [HST.out false false j (by simp) (by simp)]; simp
            clear HST HB
            go_wp2_with fail
            go_roundw
            case rel => exact ⟨k + 1, by omega, by go_num, HO2.out, HBN.out⟩
            case measure => simp [intOf]; omega
          · by_cases hy : y = -2
            · subst hy
              have HBN : Hid (BSet (wr.setCell ⟨g2, k, none⟩ (.bool true)) g2 m (rawTo P c S (k + 1))) := (HB.out.set k true).congr fun j _ => by rw [HST.out true false j (by simp) (by simp)]; simp
              clear HST HB
              go_wp2_with fail
              go_roundw
              case rel => exact ⟨k + 1, by omega, by go_num, HO2.out.set _ _, HBN.out⟩
              case measure => simp [intOf]; omega
            · have hy2 : (y == -2) = false := by simpa using hy
              obtain ⟨f, hf⟩ : ∃ f, (y == -1 || y == c) = f := ⟨_, rfl⟩
              cases f
              · have hf1 : (y == -1) = false := by cases h : (y == -1) <;> simp_all
                have hf2 : (y == c) = false := by cases h : (y == c) <;> simp_all
                have HBN : Hid (BSet wr g2 m (rawTo P c S (k + 1))) := HB.out.congr fun j _ => by rw [HST.out false false j (by simp [hy]) (by simp [hf1, hf2])]; simp
                clear HST HB hf hy
                go_wp2_with fail
                go_roundw
                case rel => exact ⟨k + 1, by omega, by go_num, HO2.out, HBN.out⟩
                case measure => simp [intOf]; omega
              · have HBN : Hid (BSet (wr.setCell ⟨g2, k + 1, none⟩ (.bool true)) g2 m (rawTo P c S (k + 1))) := (HB.out.set (k + 1) true).congr fun j _ => by rw [HST.out false true j (by simp [hy]) (by rw [hf]; simp [hy])]; simp
                have hf3 : (y == -1) = true ∨ ((y == -1) = false ∧ (y == c) = true) := by
                  cases h : (y == -1)
                  · exact .inr ⟨rfl, by simpa [h] using hf⟩
                  · exact .inl rfl
                clear HST HB hf hy
                rcases hf3 with hf1 | ⟨hf1, hf2⟩
                · go_wp2_with fail
                  go_roundw
                  case rel => exact ⟨k + 1, by omega, by go_num, HO2.out.set _ _, HBN.out⟩
                  case measure => simp [intOf]; omega
                · go_wp2_with fail
                  go_roundw
                  case rel => exact ⟨k + 1, by omega, by go_num, HO2.out.set _ _, HBN.out⟩
                  case measure => simp [intOf]; omega
        · obtain rfl : k = m := by omega
          have HCC : Hid (Calls Try.prog 36 #[.slice a k ca, .slice (some ⟨g2, 0, none⟩) (k + 1) c2] wr (Wrote g2 k (closeB P (rawTo P c S k)) wr)) := HC.out wr _ ho hB
          clear HC HB hB ho HCELL HS
          go_wp2_with fail
          refine Calls.mono HCC.out ?_
          intro e w' he
          obtain ⟨rfl, hpost⟩ := HE.out wr w' e HO2.out he
          have HPost : Hid (Post (.returned (.tuple #[])) w') := hpost
          clear hpost he HE HCC
          go_wp2_with fail
          go_end0
          exact HPost.out
end Go.Proofs.Qxb6601041a
