/- Searching again from where the found part begins. -/
import Derived.Test.Qxb6601041aFinds
import Derived.Test.Qxb6601041aBytes
import Derived.Test.Qxb6601041aPrefix
namespace Go.Proofs.Qxb6601041a
open Go.RowKit

set_option maxHeartbeats 4000000 in
set_option maxRecDepth 1000000 in
set_option linter.unusedVariables false in
theorem resume_walk (a0 a1 a2 : Option Addr) (c0 c1 c2 : Nat) (cs vs : List Int) (bs : List Bool) (fr : Int) (starts ends : Bool) (w : World) (h0 : Row .i32 w a0 cs) (n0 : a0 = none → cs = [] ∧ c0 = 0) (l0 : cs.length ≤ maxLen)
    (h1 : Row .i32 w a1 vs) (n1 : a1 = none → vs = [] ∧ c1 = 0) (l1 : vs.length ≤ maxLen) (h2 : BRow w a2 bs) (n2 : a2 = none → bs = []) (l2 : bs.length ≤ maxLen) (hfr : fr ≤ 9223372036854775807) :
    Calls Try.prog 7 #[.slice a0 cs.length c0, .slice a1 vs.length c1, .slice a2 bs.length c2, .int .i64 fr, .bool starts, .bool ends] w (Good w) := by
  have B20 := bytes24 a0 a1 a2 cs.length c0 vs.length c1 bs.length c2 fr starts ends w l0 l1 l2
  have CL0 := fun h => clone_any a0 c0 cs w h0 n0 h
  have CL1 : ∀ w1, Below w.heap.size w w1 → vs.length ≤ 1048576 → Calls Try.prog 12 #[.slice a1 vs.length c1] w1 (Cloned .i32 vs w1) := fun w1 hb h => clone_any a1 c1 vs w1 (h1.kept hb) n1 h
  have CL2 : ∀ w1, Below w.heap.size w w1 → bs.length ≤ 1048576 → Calls Try.prog 13 #[.slice a2 bs.length c2] w1 (ClonedB bs w1) := fun w1 hb h => cloneB_any a2 c2 bs w1 (h2.kept hb) n2 h
  clear h0 n0 h1 n1 h2 n2
  obtain ⟨m, hm⟩ : ∃ m, m = cs.length := ⟨_, rfl⟩
  obtain ⟨n, hn⟩ : ∃ n, n = vs.length := ⟨_, rfl⟩
  obtain ⟨l, hl⟩ : ∃ l, l = bs.length := ⟨_, rfl⟩
  rw [← hm] at l0 B20 CL0 ⊢
  rw [← hn] at l1 B20 CL1 ⊢
  rw [← hl] at l2 B20 CL2 ⊢
  unfold maxLen at l0 l1 l2
  have HC0 : Hid (m ≤ 1048576 → Calls Try.prog 12 #[.slice a0 m c0] w (Cloned .i32 cs w)) := CL0
  have HC1 : Hid (∀ w1, Below w.heap.size w w1 → n ≤ 1048576 → Calls Try.prog 12 #[.slice a1 n c1] w1 (Cloned .i32 vs w1)) := CL1
  have HC2 : Hid (∀ w1, Below w.heap.size w w1 → l ≤ 1048576 → Calls Try.prog 13 #[.slice a2 l c2] w1 (ClonedB bs w1)) := CL2
  clear CL0 CL1 CL2
  have HN : Hid (m = cs.length ∧ n = vs.length ∧ l = bs.length) := ⟨hm, hn, hl⟩
  clear hm hn hl
  go_enter Try.func7, Try.ntmps7
  go_wp2_with fail
  refine B20.mono ?_
  rintro e w1 ⟨b, rfl, hw⟩
  have hw := hw.symm
  subst hw
  clear B20
  cases b
  · go_wp2_with fail
    go_ret
    exact ⟨rfl, Below.refl _ _⟩
  by_cases k0 : 262144 < m
  · go_wp2_with fail
    go_ret
    exact ⟨rfl, Below.refl _ _⟩
  by_cases k1 : 262144 < n
  · go_wp2_with fail
    go_ret
    exact ⟨rfl, Below.refl _ _⟩
  by_cases k2 : 1048576 < l
  · go_wp2_with fail
    go_ret
    exact ⟨rfl, Below.refl _ _⟩
  by_cases k3 : 1048576 < 4 * m + 4 * n + l
  · go_wp2_with fail
    go_ret
    exact ⟨rfl, Below.refl _ _⟩
  by_cases k4 : 1024 < m
  · go_wp2_with fail
    go_ret
    exact ⟨rfl, Below.refl _ _⟩
  by_cases k5 : 1024 < n
  · go_wp2_with fail
    go_ret
    exact ⟨rfl, Below.refl _ _⟩
  by_cases k6 : l = n
  case neg =>
    have hne : ((l : Int) != (n : Int)) = true := by simp; omega
    go_wp2_with fail
    go_ret
    exact ⟨rfl, Below.refl _ _⟩
  subst k6
  by_cases k7 : fr < 0
  · go_wp2_with fail
    go_ret
    exact ⟨rfl, Below.refl _ _⟩
  obtain ⟨f, rfl⟩ : ∃ f : Nat, fr = (f : Int) := ⟨fr.toNat, by omega⟩
  go_wp2_with fail
  refine (HC0.out (by omega)).mono ?_
  rintro e w2 ⟨p, cp, rfl, r1, np, hb2, bp, cpl⟩
  have s2 := hb2.size
  have HP : Hid (Row .i32 w2 p cs ∧ (p = none → cs = [] ∧ cp = 0) ∧ (∀ x, blockOf p = some x → x < w2.heap.size)) := ⟨r1, np, bp⟩
  rw [← HN.out.1] at cpl ⊢
  clear r1 np bp HC0
  go_wp2_with fail
  refine (HC1.out w2 hb2 (by omega)).mono ?_
  rintro e w3 ⟨q, cq, rfl, r1, nq, hb3, bq, cql⟩
  have s3 := hb3.size
  have HQ : Hid (Row .i32 w3 q vs ∧ (q = none → vs = [] ∧ cq = 0) ∧ (∀ x, blockOf q = some x → x < w3.heap.size)) := ⟨r1, nq, bq⟩
  rw [← HN.out.2.1] at cql ⊢
  clear r1 nq bq HC1
  have hb23 : Below w.heap.size w w3 := hb2.trans (hb3.mono s2)
  go_wp2_with fail
  refine (HC2.out w3 hb23 (by omega)).mono ?_
  rintro e w4 ⟨d, cd, rfl, r1, hb4, bd⟩
  have s4 := hb4.size
  have HD : Hid (BRow w4 d bs ∧ (∀ x, blockOf d = some x → x < w4.heap.size)) := ⟨r1, bd⟩
  rw [← HN.out.2.2]
  clear r1 bd HC2
  have HB : Hid (Below w.heap.size w w4) := hb23.trans (hb4.mono (by omega))
  have HR : Hid (∀ w', Below w4.heap.size w4 w' → Row .i32 w' p cs ∧ Row .i32 w' q vs ∧ BRow w' d bs) := fun w' hw' => ⟨HP.out.1.under ((hb3.trans (hb4.mono s3)).trans (hw'.mono (by omega))) HP.out.2.2, HQ.out.1.under (hb4.trans (hw'.mono s4)) HQ.out.2.2, HD.out.1.under hw' HD.out.2⟩
  have HBp : Hid (∀ x, blockOf p = some x → x < w4.heap.size) := fun x hx => by have := HP.out.2.2 x hx; omega
  have HBq : Hid (∀ x, blockOf q = some x → x < w4.heap.size) := fun x hx => by have := HQ.out.2.2 x hx; omega
  have HBd : Hid (∀ x, blockOf d = some x → x < w4.heap.size) := HD.out.2
  have HPn : Hid (p = none → cs = [] ∧ cp = 0) := HP.out.2.1
  clear HP HQ HD hb2 hb3 hb4 hb23 s2 s3 s4 k0 k1 k2 k3 l0 l1 l2
  have HO : Hid (Calls Try.prog 21 #[.slice p m cp] w4 (OneRun cs w4)) := by
    have := onerun_any p cp cs w4 (HR.out w4 (Below.refl _ _)).1 HBp.out HPn.out (by rw [← HN.out.1]; omega)
    rwa [← HN.out.1] at this
  go_wp2_with fail
  refine Calls.mono HO.out ?_
  rintro e w5 ⟨rfl, hb5, mk, hG⟩
  have s5 := hb5.size
  have HG : Hid (Below w4.heap.size w4 w5 ∧ IsG w5 w4.heap.size false [⟨0, cs, mk⟩]) := ⟨hb5, hG⟩
  obtain ⟨bg, hbg⟩ : ∃ bg, w4.heap.size = bg := ⟨_, rfl⟩
  have HBG : Hid (w4.heap.size = bg) := hbg
  have HFo : Hid (Calls Try.prog 16 #[.slice q l cq, .slice d l cd] w5 (NewFolded q cq d cd vs bs w5)) := by
    have h3 := HR.out w5 hb5
    have := newfolded_any w5 q cq d cd vs bs h3.2.1 h3.2.2 (fun x hx => Nat.lt_of_lt_of_le (HBq.out x hx) s5) (fun x hx => Nat.lt_of_lt_of_le (HBd.out x hx) s5) (by rw [← HN.out.2.1]; exact cql)
    rwa [← HN.out.2.1, ← HN.out.2.2] at this
  rw [hbg] at HG s5 ⊢
  clear hb5 hG hbg HO HPn HBp HBq HBd
  go_wp2_with fail
  refine Calls.mono HFo.out ?_
  rintro e w6 ⟨rfl, hF, hb6⟩
  obtain ⟨bf, hbf⟩ : ∃ bf, w5.heap.size = bf := ⟨_, rfl⟩
  have HF : Hid (Fo w6 bf q cq d cd none 0 0 vs bs ∧ Below bf w5 w6 ∧ w5.heap.size = bf ∧ bg ≤ bf) := by rw [← hbf]; exact ⟨hF, hb6, rfl, s5⟩
  rw [hbf]
  clear hF hb6 hbf s5 HFo
  have HZ : Hid (∀ (wx : World) (fr : Nat) (sa : Option Addr) (sl sc : Nat), Below bf w6 wx → Fo wx bf q cq d cd sa sl sc vs bs → fr ≤ 9223372036854775807 → Calls Try.prog 22 #[.pointer (some ⟨bg, 0, none⟩), .int .i64 0, .pointer (some ⟨bf, 0, none⟩), .int .i64 fr, .bool starts, .bool ends] wx (FindGot bf q cq d cd cs vs bs starts ends fr wx)) := fun wx fr sa sl sc hb hF hfr =>
    zzfind_any bg wx w5 false [] [] ⟨0, cs, mk⟩ HG.out.2 (by rw [HF.out.2.2.1]; exact HF.out.2.1.trans hb) (by rw [List.nil_append, chars_one]; have := HN.out.1; simp only []; omega) (by simp) bf q cq d cd sa sl sc vs bs hF (by rw [HF.out.2.2.1]; exact Nat.le_refl _) (by rw [← HN.out.2.1]; omega) (by rw [← HN.out.2.1, ← HN.out.2.2]) fr hfr starts ends
  have HW : Hid (∀ wx, Below bf w6 wx → Below w4.heap.size w4 wx) := fun wx hx => by rw [HBG.out]; exact (HG.out.1).trans ((HF.out.2.1.trans hx).mono HF.out.2.2.2)
  have HBB : Hid (∀ wx, Below bf w6 wx → Below w.heap.size w wx) := fun wx hx => HB.out.trans ((HW.out wx hx).mono HB.out.size)
  have HZ1 : Hid (Calls Try.prog 22 #[.pointer (some ⟨bg, 0, none⟩), .int .i64 0, .pointer (some ⟨bf, 0, none⟩), .int .i64 f, .bool starts, .bool ends] w6 (FindGot bf q cq d cd cs vs bs starts ends f w6)) := HZ.out w6 f none 0 0 (Below.refl _ _) HF.out.1 (by omega)
  clear HG HF HB
  go_wp2_with fail
  refine Calls.mono HZ1.out ?_
  rintro e w7 ⟨r, rfl, hff, hb7, sa, sl, sc, hF7⟩
  have HFF : Hid (FirstFit cs vs bs starts ends f r ∧ Below bf w6 w7 ∧ Fo w7 bf q cq d cd sa sl sc vs bs) := ⟨hff, hb7, hF7⟩
  clear hff hb7 hF7 HZ1
  cases r with
  | none =>
    have HB7 : Hid (Below w.heap.size w w7) := HBB.out w7 HFF.out.2.1
    clear HFF HZ HW HBB HR
    go_wp2_with fail
    go_ret
    exact ⟨rfl, HB7.out⟩
  | some t =>
    obtain ⟨s, hs⟩ : ∃ s, t = s + m ∧ f ≤ s ∧ t ≤ l ∧ FirstFit cs vs bs starts ends s (some t) ∧ ∀ r, FirstFit cs vs bs starts ends (s + 1) r → r.isSome = true → t < r.getD 0 := by
      obtain ⟨s, e1, h2, h3⟩ := HFF.out.1
      have hm := HN.out.1
      have hl := HN.out.2.1
      have hsn := h2.2.1
      refine ⟨s, by rw [hm]; exact e1, h2.1, by omega, ⟨s, e1, ⟨Nat.le_refl _, h2.2⟩, fun s' hs' => hs'.1⟩, ?_⟩
      intro r hr hsome
      cases r with
      | none => cases hsome
      | some t' =>
        obtain ⟨s', e1', h2', _⟩ := hr
        have := h2'.1
        show t < t'
        omega
    obtain ⟨rfl, hs1, hs2, hs3, hs4⟩ := hs
    have HS3 : Hid (FirstFit cs vs bs starts ends s (some (s + m))) := hs3
    have HS4 : Hid (∀ r, FirstFit cs vs bs starts ends (s + 1) r → r.isSome = true → s + m < r.getD 0) := hs4
    have HZ2 : Hid (Calls Try.prog 22 #[.pointer (some ⟨bg, 0, none⟩), .int .i64 0, .pointer (some ⟨bf, 0, none⟩), .int .i64 s, .bool starts, .bool ends] w7 (FindGot bf q cq d cd cs vs bs starts ends s w7)) := HZ.out w7 s sa sl sc HFF.out.2.1 HFF.out.2.2 (by omega)
    clear hs3 hs4
    have hsub : ((s + m : Nat) : Int) - (m : Int) = (s : Int) := by omega
    have hcast : ((Option.getD (some (s + m)) 0 : Nat) : Int) = ((s + m : Nat) : Int) := rfl
    have hsome : (some (s + m)).isSome = true := rfl
    rw [hcast, hsome]
    clear hcast hsome
    obtain ⟨t, ht⟩ : ∃ t : Nat, t = s + m := ⟨_, rfl⟩
    have HT : Hid (t = s + m) := ht
    rw [← ht] at hs2 HS3 HS4 hsub ⊢
    have ht2 : t ≤ 1024 := by omega
    clear ht
    go_wp2_with fail
    refine Calls.mono HZ2.out ?_
    rintro e w8 ⟨r, rfl, hff, hb8, sa', sl', sc', hF8⟩
    have hrr := first_unique hff HS3.out
    subst hrr
    have HF8 : Hid (Below bf w6 w8 ∧ Fo w8 bf q cq d cd sa' sl' sc' vs bs) := ⟨HFF.out.2.1.trans hb8, hF8⟩
    have hcast : ((Option.getD (some t) 0 : Nat) : Int) = (t : Int) := rfl
    have hsome : (some t).isSome = true := rfl
    rw [hcast, hsome]
    clear hcast hsome hff hb8 hF8 HS3 HZ2 HFF
    have HZ3 : Hid (Calls Try.prog 22 #[.pointer (some ⟨bg, 0, none⟩), .int .i64 0, .pointer (some ⟨bf, 0, none⟩), .int .i64 ((s : Int) + 1), .bool starts, .bool ends] w8 (FindGot bf q cq d cd cs vs bs starts ends (s + 1) w8)) := HZ.out w8 (s + 1) sa' sl' sc' HF8.out.1 HF8.out.2 (by omega)
    go_wp2_with fail
    refine Calls.mono HZ3.out ?_
    rintro e w9 ⟨r, rfl, hff, hb9, _⟩
    have HB9 : Hid (Below w.heap.size w w9) := HBB.out w9 (HF8.out.1.trans hb9)
    have H4 := HS4.out r hff
    clear hff hb9 HS4 HZ3 HF8 HZ HW HBB HR
    cases r with
    | none =>
      clear H4
      go_wp2_with fail
      go_ret
      exact ⟨rfl, HB9.out⟩
    | some t' =>
      have H4 : t < t' := H4 rfl
      have hcast : ((Option.getD (some t') 0 : Nat) : Int) = (t' : Int) := rfl
      have hsome : (some t').isSome = true := rfl
      rw [hcast, hsome]
      clear hcast hsome
      go_wp2_with fail
      go_ret
      exact ⟨rfl, HB9.out⟩
end Go.Proofs.Qxb6601041a
