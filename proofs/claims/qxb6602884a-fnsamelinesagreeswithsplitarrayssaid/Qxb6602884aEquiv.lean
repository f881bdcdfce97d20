/- The law FnSameLinesIsEquivalence, walked out of the contracts. -/
import Derived.Test.Qxb6602884aHold
namespace Go.Proofs.Qxb6602884a
open Go.RowKit

def Ends (w : World) (e : Ending) (w' : World) : Prop := e = .returned (.bool true) ∧ Below w.heap.size w w'

def Says (r : Bool) (w : World) (e : Ending) (w' : World) : Prop := e = .returned (.bool r) ∧ ∃ n, w' = w.drewN n

set_option maxHeartbeats 400000 in
theorem zzsame_any (a a' : Option Addr) (len cap len' cap' : Nat) (S S' : Nat → ByteArray) (Q Q' : Nat → Int) (r : Bool) (hr : r = true ↔ Alike len len' S S' Q Q') (w : World) (hL : Lines w a len S Q) (hL' : Lines w a' len' S' Q') (hlen : len ≤ maxLen) (hlen' : len' ≤ maxLen) :
    Calls Try.prog 10 #[.slice a len cap, .slice a' len' cap'] w (Says r w) := by
  have c : ∀ cap cap', Calls Try.prog 17 #[.slice a len cap, .slice a' len' cap'] w (Says r w) := fun cap cap' => (same_any a a' len cap len' cap' S S' Q Q' w hL hL' hlen hlen').mono (by
    rintro e w' ⟨r', rfl, hr', n, rfl⟩
    have : r' = r := by cases r <;> cases r' <;> simp_all
    subst this
    exact ⟨rfl, n, rfl⟩)
  clear hL hL' hr
  go_enter Try.func10, Try.ntmps10
  go_wp2_with (go_at_call 17; refine (c _ _).mono ?_; rintro e w' ⟨rfl, n, rfl⟩)
  go_ret
  exact ⟨rfl, n, rfl⟩

theorem Alike.refl (n : Nat) (S : Nat → ByteArray) (Q : Nat → Int) : Alike n n S S Q Q := ⟨rfl, fun _ _ => ⟨rfl, rfl⟩⟩
theorem Alike.symm {n m : Nat} {S T : Nat → ByteArray} {Q R : Nat → Int} (h : Alike n m S T Q R) : Alike m n T S R Q := ⟨h.1.symm, fun i hi => ⟨(h.2 i (by rw [h.1]; exact hi)).1.symm, (h.2 i (by rw [h.1]; exact hi)).2.symm⟩⟩
theorem Alike.trans {n m k : Nat} {S T U : Nat → ByteArray} {Q R V : Nat → Int} (h : Alike n m S T Q R) (g : Alike m k T U R V) : Alike n k S U Q V :=
  ⟨h.1.trans g.1, fun i hi => ⟨(h.2 i hi).1.trans (g.2 i (by rw [← h.1]; exact hi)).1, (h.2 i hi).2.trans (g.2 i (by rw [← h.1]; exact hi)).2⟩⟩

theorem Lines.drewN {w : World} {a : Option Addr} {n : Nat} {S : Nat → ByteArray} {Q : Nat → Int} (h : Lines w a n S Q) (k : Nat) : Lines (w.drewN k) a n S Q := h

theorem bool_of (p : Prop) : ∃ r : Bool, r = true ↔ p := by
  classical
  exact ⟨decide p, by simp⟩

set_option maxHeartbeats 1000000 in
theorem equiv_any (a b c : Option Addr) (la ca lb cb lc cc : Nat) (S T U : Nat → ByteArray) (Q R V : Nat → Int) (w : World)
    (hA : Lines w a la S Q) (hB : Lines w b lb T R) (hC : Lines w c lc U V) (na : a = none → la = 0) (nb : b = none → lb = 0) (nc : c = none → lc = 0)
    (ma : la ≤ maxLen) (mb : lb ≤ maxLen) (mc : lc ≤ maxLen) (sa : ∀ i, i < la → (S i).size ≤ maxLen) (sb : ∀ i, i < lb → (T i).size ≤ maxLen) (sc : ∀ i, i < lc → (U i).size ≤ maxLen) :
    Calls Try.prog 3 #[.slice a la ca, .slice b lb cb, .slice c lc cc] w (Ends w) := by
  go_enter Try.func3, Try.ntmps3
  go_wp2_with fail
  refine (bytes3_any a la ca S Q b lb cb T R c lc cc U V w hA ma sa hB mb sb hC mc sc).mono ?_
  rintro e w' ⟨r, rfl, rfl⟩
  cases r
  · go_wp2
    go_ret
    exact ⟨rfl, Below.refl _ _⟩
  go_wp2_with fail
  refine (tooBig_any a la ca S Q 0 _ hA ma sa (by omega) (by omega)).mono ?_
  rintro e w' ⟨t1, g1, rfl, hg1, rfl⟩
  cases g1
  case true =>
    go_wp2
    go_ret
    exact ⟨rfl, Below.refl _ _⟩
  obtain ⟨la6, t10, t11⟩ := hg1 rfl
  go_wp2_with fail
  refine (tooBig_any b lb cb T R t1 _ hB mb sb (by omega) (by omega)).mono ?_
  rintro e w' ⟨t2, g2, rfl, hg2, rfl⟩
  cases g2
  case true =>
    go_wp2
    go_ret
    exact ⟨rfl, Below.refl _ _⟩
  obtain ⟨lb6, t20, t21⟩ := hg2 rfl
  go_wp2_with fail
  refine (tooBig_any c lc cc U V t2 _ hC mc sc (by omega) (by omega)).mono ?_
  rintro e w' ⟨t3, g3, rfl, hg3, rfl⟩
  cases g3
  case true =>
    go_wp2
    go_ret
    exact ⟨rfl, Below.refl _ _⟩
  obtain ⟨lc6, t30, t31⟩ := hg3 rfl
  clear hg1 hg2 hg3
  go_wp2_with fail
  refine (hold_any a la ca S Q _ hA na la6).mono ?_
  rintro e w1 ⟨p1, q1, rfl, h1, b1⟩
  go_wp2_with fail
  refine (hold_any a la ca S Q w1 (hA.kept b1) na la6).mono ?_
  rintro e w2 ⟨p2, q2, rfl, h2, b2⟩
  have b12 := b1.trans (b2.mono b1.size)
  replace h1 := h1.kept b2
  clear b2
  go_wp2_with fail
  refine (hold_any b lb cb T R w2 (hB.kept b12) nb lb6).mono ?_
  rintro e w3 ⟨p3, q3, rfl, h3, b3⟩
  have b13 := b12.trans (b3.mono b12.size)
  replace h1 := h1.kept b3
  replace h2 := h2.kept b3
  clear b3 b12
  go_wp2_with fail
  refine (hold_any c lc cc U V w3 (hC.kept b13) nc lc6).mono ?_
  rintro e w4 ⟨p4, q4, rfl, h4, b4⟩
  have b14 := b13.trans (b4.mono b13.size)
  replace h1 := h1.kept b4
  replace h2 := h2.kept b4
  replace h3 := h3.kept b4
  clear b4 b13 hA hB hC
  obtain ⟨ab, hab⟩ := bool_of (Alike la lb S T Q R)
  obtain ⟨bc, hbc⟩ := bool_of (Alike lb lc T U R V)
  have hba : ab = true ↔ Alike lb la T S R Q := hab.trans ⟨Alike.symm, Alike.symm⟩
  have k11 := fun w h => zzsame_any p1 p1 la q1 la q1 S S Q Q true ⟨fun _ => Alike.refl _ _ _, fun _ => rfl⟩ w h h ma ma
  have k12 := fun w h h' => zzsame_any p1 p2 la q1 la q2 S S Q Q true ⟨fun _ => Alike.refl _ _ _, fun _ => rfl⟩ w h h' ma ma
  have k13 := fun w h h' => zzsame_any p1 p3 la q1 lb q3 S T Q R ab hab w h h' ma mb
  have k31 := fun w h h' => zzsame_any p3 p1 lb q3 la q1 T S R Q ab hba w h h' mb ma
  have k34 := fun w h h' => zzsame_any p3 p4 lb q3 lc q4 T U R V bc hbc w h h' mb mc
  have hac : Hid (ab = true → bc = true → ∀ w, Lines w p1 la S Q → Lines w p4 lc U V → Calls Try.prog 10 #[.slice p1 la q1, .slice p4 lc q4] w (Says true w)) := fun x y w h h' =>
    zzsame_any p1 p4 la q1 lc q4 S U Q V true ⟨fun _ => (hab.1 x).trans (hbc.1 y), fun _ => rfl⟩ w h h' ma mc
  clear hab hbc hba na nb nc sa sb sc ma mb mc
  go_wp2_with fail
  refine (k11 w4 h1).mono ?_
  rintro e w5 ⟨rfl, n1, rfl⟩
  go_wp2_with fail
  refine (k12 _ (h1.drewN n1) (h2.drewN n1)).mono ?_
  rintro e w5 ⟨rfl, n2, rfl⟩
  go_wp2_with fail
  refine (k13 _ (h1.drewN _) (h3.drewN _)).mono ?_
  rintro e w5 ⟨rfl, n3, rfl⟩
  go_wp2_with fail
  refine (k31 _ (h3.drewN _) (h1.drewN _)).mono ?_
  rintro e w5 ⟨rfl, n4, rfl⟩
  cases ab
  · go_wp2_with fail
    refine (k13 _ (h1.drewN _) (h3.drewN _)).mono ?_
    rintro e w5 ⟨rfl, n5, rfl⟩
    go_wp2
    go_ret
    exact ⟨rfl, below_drewN b14 _⟩
  · go_wp2_with fail
    refine (k13 _ (h1.drewN _) (h3.drewN _)).mono ?_
    rintro e w5 ⟨rfl, n5, rfl⟩
    go_wp2_with fail
    refine (k34 _ (h3.drewN _) (h4.drewN _)).mono ?_
    rintro e w5 ⟨rfl, n6, rfl⟩
    cases bc
    · go_wp2
      go_ret
      exact ⟨rfl, below_drewN b14 _⟩
    · go_wp2_with fail
      refine (hac.out (by trivial) (by trivial) _ (h1.drewN _) (h4.drewN _)).mono ?_
      rintro e w5 ⟨rfl, n7, rfl⟩
      go_wp2
      go_ret
      exact ⟨rfl, below_drewN b14 _⟩
end Go.Proofs.Qxb6602884a
