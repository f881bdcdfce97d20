/- A compiled glob matches what the automaton over its pattern accepts. -/
import Derived.Test.Qxb6601041aMatched
import Derived.Test.Qxb6601041aCompile
import Derived.Test.Qxb6601041aModelW
import Derived.Test.Qxb6601041aBytes
import Derived.Test.Qxb6601041aPrefix
namespace Go.Proofs.Qxb6601041a
open Go.RowKit

/-- The model, words or not. -/
theorem model_any (a va wa : Option Addr) (ca vc wk : Nat) (ps vs : List Int) (bs : List Bool) (wd : Bool) (w : World) (hp : Row .i32 w a ps) (hpb : ∀ x, blockOf a = some x → x < w.heap.size) (hv : Row .i32 w va vs) (hvb : ∀ x, blockOf va = some x → x < w.heap.size) (hw : BRow w wa bs) (hwb : ∀ x, blockOf wa = some x → x < w.heap.size) (hl : ps.length ≤ 1024) (hn : vs.length ≤ 1024) (hbl : bs.length = vs.length) :
    Calls Try.prog 17 #[.slice a ps.length ca, .slice va vs.length vc, .slice wa bs.length wk, .bool wd] w (Tell (MatchM wd (fun k => ps.getD k 0) ps.length vs bs) w) := by
  cases wd
  · exact model_whole a va wa ca vc wk bs.length ps vs bs w hp hpb hv hvb hl hn
  · exact model_words a va wa ca vc wk ps vs bs w hp hpb hv hvb hw hwb hl hn hbl

set_option maxHeartbeats 4000000 in
set_option maxRecDepth 1000000 in
set_option linter.unusedVariables false in
theorem match_walk (a0 a1 a2 : Option Addr) (c0 c1 c2 : Nat) (cs vs : List Int) (bs : List Bool) (wd : Bool) (w : World) (h0 : Row .i32 w a0 cs) (n0 : a0 = none → cs = [] ∧ c0 = 0) (l0 : cs.length ≤ maxLen)
    (h1 : Row .i32 w a1 vs) (n1 : a1 = none → vs = [] ∧ c1 = 0) (l1 : vs.length ≤ maxLen) (h2 : BRow w a2 bs) (n2 : a2 = none → bs = []) (l2 : bs.length ≤ maxLen) :
    Calls Try.prog 3 #[.slice a0 cs.length c0, .slice a1 vs.length c1, .slice a2 bs.length c2, .bool wd] w (Good w) := by
  have B20 := bytes11 a0 a1 a2 cs.length c0 vs.length c1 bs.length c2 wd w l0 l1 l2
  have CL0 := fun h => clone_any a0 c0 cs w h0 n0 h
  have CL1 : ∀ w1, Below w.heap.size w w1 → vs.length ≤ 1048576 → Calls Try.prog 12 #[.slice a1 vs.length c1] w1 (Cloned .i32 vs w1) := fun w1 hb h => clone_any a1 c1 vs w1 (h1.kept hb) n1 h
  have CL2 : ∀ w1, Below w.heap.size w w1 → bs.length ≤ 1048576 → Calls Try.prog 13 #[.slice a2 bs.length c2] w1 (ClonedB bs w1) := fun w1 hb h => cloneB_any a2 c2 bs w1 (h2.kept hb) n2 h
  clear h0 n0 h1 n1 h2 n2
  obtain ⟨m, hm⟩ : ∃ m, m = cs.length := ⟨_, rfl⟩
  obtain ⟨n, hn⟩ : ∃ n, n = vs.length := ⟨_, rfl⟩
  obtain ⟨l, hl⟩ : ∃ l, l = bs.length := ⟨_, rfl⟩
  rw [← hm] at l0 B20 CL0 ⊢
  rw [← hn] at l1 B20 CL1 ⊢
  rw [← hl] at l2 B20 CL2 ⊢
  unfold maxLen at l0 l1 l2
  have HC0 : Hid (m ≤ 1048576 → Calls Try.prog 12 #[.slice a0 m c0] w (Cloned .i32 cs w)) := CL0
  have HC1 : Hid (∀ w1, Below w.heap.size w w1 → n ≤ 1048576 → Calls Try.prog 12 #[.slice a1 n c1] w1 (Cloned .i32 vs w1)) := CL1
  have HC2 : Hid (∀ w1, Below w.heap.size w w1 → l ≤ 1048576 → Calls Try.prog 13 #[.slice a2 l c2] w1 (ClonedB bs w1)) := CL2
  clear CL0 CL1 CL2
  have HN : Hid (m = cs.length ∧ n = vs.length ∧ l = bs.length) := ⟨hm, hn, hl⟩
  clear hm hn hl
  go_enter Try.func3, Try.ntmps3
  go_wp2_with fail
  refine B20.mono ?_
  rintro e w1 ⟨b, rfl, hw⟩
  have hw := hw.symm
  subst hw
  clear B20
  cases b
  · go_wp2_with fail
    go_ret
    exact ⟨rfl, Below.refl _ _⟩
  by_cases k0 : 262144 < m
  · go_wp2_with fail
    go_ret
    exact ⟨rfl, Below.refl _ _⟩
  by_cases k1 : 262144 < n
  · go_wp2_with fail
    go_ret
    exact ⟨rfl, Below.refl _ _⟩
  by_cases k2 : 1048576 < l
  · go_wp2_with fail
    go_ret
    exact ⟨rfl, Below.refl _ _⟩
  by_cases k3 : 1048576 < 4 * m + 4 * n + l
  · go_wp2_with fail
    go_ret
    exact ⟨rfl, Below.refl _ _⟩
  by_cases k4 : 1024 < m
  · go_wp2_with fail
    go_ret
    exact ⟨rfl, Below.refl _ _⟩
  by_cases k5 : 1024 < n
  · go_wp2_with fail
    go_ret
    exact ⟨rfl, Below.refl _ _⟩
  by_cases k6 : l = n
  case neg =>
    have hne : ((l : Int) != (n : Int)) = true := by simp; omega
    go_wp2_with fail
    go_ret
    exact ⟨rfl, Below.refl _ _⟩
  subst k6
  go_wp2_with fail
  refine (HC0.out (by omega)).mono ?_
  rintro e w2 ⟨p, cp, rfl, r1, np, hb2, bp, cpl⟩
  have s2 := hb2.size
  have HP : Hid (Row .i32 w2 p cs ∧ (p = none → cs = [] ∧ cp = 0) ∧ (∀ x, blockOf p = some x → x < w2.heap.size)) := ⟨r1, np, bp⟩
  rw [← HN.out.1] at cpl ⊢
  clear r1 np bp HC0
  go_wp2_with fail
  refine (HC1.out w2 hb2 (by omega)).mono ?_
  rintro e w3 ⟨q, cq, rfl, r1, nq, hb3, bq, cql⟩
  have s3 := hb3.size
  have HQ : Hid (Row .i32 w3 q vs ∧ (q = none → vs = [] ∧ cq = 0) ∧ (∀ x, blockOf q = some x → x < w3.heap.size)) := ⟨r1, nq, bq⟩
  rw [← HN.out.2.1] at cql ⊢
  clear r1 nq bq HC1
  have hb23 : Below w.heap.size w w3 := hb2.trans (hb3.mono s2)
  go_wp2_with fail
  refine (HC2.out w3 hb23 (by omega)).mono ?_
  rintro e w4 ⟨d, cd, rfl, r1, hb4, bd⟩
  have s4 := hb4.size
  have HD : Hid (BRow w4 d bs ∧ (∀ x, blockOf d = some x → x < w4.heap.size)) := ⟨r1, bd⟩
  rw [← HN.out.2.2]
  clear r1 bd HC2
  have HB : Hid (Below w.heap.size w w4) := hb23.trans (hb4.mono (by omega))
  have HR : Hid (∀ w', Below w4.heap.size w4 w' → Row .i32 w' p cs ∧ Row .i32 w' q vs ∧ BRow w' d bs) := fun w' hw' => ⟨HP.out.1.under ((hb3.trans (hb4.mono s3)).trans (hw'.mono (by omega))) HP.out.2.2, HQ.out.1.under (hb4.trans (hw'.mono s4)) HQ.out.2.2, HD.out.1.under hw' HD.out.2⟩
  have HBp : Hid (∀ x, blockOf p = some x → x < w4.heap.size) := fun x hx => by have := HP.out.2.2 x hx; omega
  have HBq : Hid (∀ x, blockOf q = some x → x < w4.heap.size) := fun x hx => by have := HQ.out.2.2 x hx; omega
  have HBd : Hid (∀ x, blockOf d = some x → x < w4.heap.size) := HD.out.2
  have HPn : Hid (p = none → cs = [] ∧ cp = 0) := HP.out.2.1
  clear HP HQ HD hb2 hb3 hb4 hb23 s2 s3 s4 k0 k1 k2 k3 l0 l1 l2
  have HO : Hid (Calls Try.prog 14 #[.slice p m cp, .bool wd] w4 (Compiled (fun k => cs.getD k 0) cs.length wd w4)) := by
    have := compile_any p cp cs wd w4 (HR.out w4 (Below.refl _ _)).1 HBp.out HPn.out (by rw [← HN.out.1]; omega) (by rw [← HN.out.1]; omega)
    rwa [← HN.out.1] at this ⊢
  go_wp2_with fail
  refine Calls.mono HO.out ?_
  rintro e w5 ⟨rfl, hb5, rs, hG, hgood⟩
  have s5 := hb5.size
  have HG : Hid (Below w4.heap.size w4 w5 ∧ IsG w5 w4.heap.size wd rs ∧ Good14 (fun k => cs.getD k 0) cs.length rs) := ⟨hb5, hG, hgood⟩
  obtain ⟨bg, hbg⟩ : ∃ bg, w4.heap.size = bg := ⟨_, rfl⟩
  have HBG : Hid (w4.heap.size = bg) := hbg
  have HFo : Hid (Calls Try.prog 16 #[.slice q l cq, .slice d l cd] w5 (NewFolded q cq d cd vs bs w5)) := by
    have h3 := HR.out w5 hb5
    have := newfolded_any w5 q cq d cd vs bs h3.2.1 h3.2.2 (fun x hx => Nat.lt_of_lt_of_le (HBq.out x hx) s5) (fun x hx => Nat.lt_of_lt_of_le (HBd.out x hx) s5) (by rw [← HN.out.2.1]; exact cql)
    rwa [← HN.out.2.1, ← HN.out.2.2] at this
  rw [hbg] at HG s5 ⊢
  clear hb5 hG hgood hbg HO HPn
  go_wp2_with fail
  refine Calls.mono HFo.out ?_
  rintro e w6 ⟨rfl, hF, hb6⟩
  obtain ⟨bf, hbf⟩ : ∃ bf, w5.heap.size = bf := ⟨_, rfl⟩
  have HF : Hid (Fo w6 bf q cq d cd none 0 0 vs bs ∧ Below bf w5 w6 ∧ w5.heap.size = bf ∧ bg ≤ bf) := by rw [← hbf]; exact ⟨hF, hb6, rfl, s5⟩
  rw [hbf]
  clear hF hb6 hbf s5 HFo
  have HZ : Hid (Calls Try.prog 15 #[.pointer (some ⟨bg, 0, none⟩), .pointer (some ⟨bf, 0, none⟩)] w6 (Match wd rs vs bs bf w6)) := zzmatches_any w5 w6 bg bf wd rs HG.out.2.2.ne HG.out.2.1 HG.out.2.2.cs HG.out.2.2.len HG.out.2.2.gap (by rw [HF.out.2.2.1]; exact HF.out.2.1) (by rw [HF.out.2.2.1]; exact Nat.le_refl _) q cq d cd none 0 0 vs bs HF.out.1 (by rw [← HN.out.2.1]; omega) (by rw [← HN.out.2.1, ← HN.out.2.2])
  have HW : Hid (∀ wx, Below bf w6 wx → Below w4.heap.size w4 wx) := fun wx hx => by rw [HBG.out]; exact (HG.out.1).trans ((HF.out.2.1.trans hx).mono HF.out.2.2.2)
  have HCM : Hid (CM (fun k => cs.getD k 0) cs.length 0 rs) := HG.out.2.2.cm
  clear HG HF
  go_wp2_with fail
  refine Calls.mono HZ.out ?_
  rintro e w7 ⟨b, rfl, hb, hb7⟩
  have HB7 : Hid (Below w.heap.size w w7 ∧ Below w4.heap.size w4 w7) := ⟨HB.out.trans ((HW.out w7 hb7).mono HB.out.size), HW.out w7 hb7⟩
  have HBM : Hid (b = true ↔ MatchM wd (fun k => cs.getD k 0) cs.length vs bs) := by
    show b = true ↔ _
    rw [hb, match_same HCM.out]
  have HM : Hid (Calls Try.prog 17 #[.slice p m cp, .slice q l cq, .slice d l cd, .bool wd] w7 (Tell (MatchM wd (fun k => cs.getD k 0) cs.length vs bs) w7)) := by
    have h3 := HR.out w7 HB7.out.2
    have h4 := HB7.out.2.size
    have := model_any p q d cp cq cd cs vs bs wd w7 h3.1 (fun x hx => Nat.lt_of_lt_of_le (HBp.out x hx) h4) h3.2.1 (fun x hx => Nat.lt_of_lt_of_le (HBq.out x hx) h4) h3.2.2 (fun x hx => Nat.lt_of_lt_of_le (HBd.out x hx) h4) (by rw [← HN.out.1]; omega) (by rw [← HN.out.2.1]; omega) (by rw [← HN.out.2.1, ← HN.out.2.2])
    rw [← HN.out.1, ← HN.out.2.1, ← HN.out.2.2] at this
    rw [← HN.out.1]
    exact this
  clear hb hb7 HZ HW HCM HR HBp HBq HBd HB
  go_wp2_with fail
  refine Calls.mono HM.out ?_
  rintro e w8 ⟨b', rfl, hb', hb8⟩
  have hbb : b' = b := by
    have h1 := HBM.out
    rw [← hb'] at h1
    cases b <;> cases b' <;> simp_all
  subst hbb
  have HB8 : Hid (Below w.heap.size w w8) := HB7.out.1.trans (hb8.mono HB7.out.1.size)
  clear hb' hb8 HBM HM HB7 HN
  cases b'
  · go_wp2_with fail
    go_ret
    exact ⟨rfl, HB8.out⟩
  · go_wp2_with fail
    go_ret
    exact ⟨rfl, HB8.out⟩
end Go.Proofs.Qxb6601041a
