/- Two runs added read back as they are laid out. -/
import Derived.Test.Qxb6601041aLaid
import Derived.Test.Qxb6601041aPrefix
namespace Go.Proofs.Qxb6601041a
open Go.RowKit

set_option maxHeartbeats 4000000 in
set_option maxRecDepth 1000000 in
theorem two_walk (a0 a2 : Option Addr) (c0 c2 : Nat) (ps qs : List Int) (g h : Int) (w : World) (h0 : Row .i32 w a0 ps) (n0 : a0 = none → ps = [] ∧ c0 = 0) (l0 : ps.length ≤ maxLen)
    (h2 : Row .i32 w a2 qs) (n2 : a2 = none → qs = [] ∧ c2 = 0) (l2 : qs.length ≤ maxLen) :
    Calls Try.prog 9 #[.int .i64 g, .slice a0 ps.length c0, .int .i64 h, .slice a2 qs.length c2] w (Good w) := by
  have B31 := bytes26 a0 a2 ps.length c0 qs.length c2 g h w l0 l2
  have CL0 := fun h => clone_any a0 c0 ps w h0 n0 h
  have CL2 : ∀ w1, Below w.heap.size w w1 → qs.length ≤ 1048576 → Calls Try.prog 12 #[.slice a2 qs.length c2] w1 (Cloned .i32 qs w1) := fun w1 hb h => clone_any a2 c2 qs w1 (h2.kept hb) n2 h
  clear h0 n0 h2 n2
  obtain ⟨n, hn⟩ : ∃ n, n = ps.length := ⟨_, rfl⟩
  obtain ⟨m, hm⟩ : ∃ m, m = qs.length := ⟨_, rfl⟩
  rw [← hn] at l0 B31 CL0 ⊢
  rw [← hm] at l2 B31 CL2 ⊢
  unfold maxLen at l0 l2
  have HC0 : Hid (n ≤ 1048576 → Calls Try.prog 12 #[.slice a0 n c0] w (Cloned .i32 ps w)) := CL0
  have HC2 : Hid (∀ w1, Below w.heap.size w w1 → m ≤ 1048576 → Calls Try.prog 12 #[.slice a2 m c2] w1 (Cloned .i32 qs w1)) := CL2
  clear CL0 CL2
  have HN : Hid (n = ps.length ∧ m = qs.length) := ⟨hn, hm⟩
  clear hn hm
  go_enter Try.func9, Try.ntmps9
  go_wp2_with fail
  refine B31.mono ?_
  rintro e w1 ⟨b, rfl, hw⟩
  have hw := hw.symm
  subst hw
  clear B31
  cases b
  · go_wp2_with fail
    go_ret
    exact ⟨rfl, Below.refl _ _⟩
  by_cases k1 : 262144 < n
  · go_wp2_with fail
    go_ret
    exact ⟨rfl, Below.refl _ _⟩
  by_cases k2 : 262144 < m
  · go_wp2_with fail
    go_ret
    exact ⟨rfl, Below.refl _ _⟩
  by_cases k3 : 1048576 < 4 * n + 4 * m
  · go_wp2_with fail
    go_ret
    exact ⟨rfl, Below.refl _ _⟩
  by_cases k4 : 1024 < n
  · go_wp2_with fail
    go_ret
    exact ⟨rfl, Below.refl _ _⟩
  by_cases k5 : 1024 < m
  · go_wp2_with fail
    go_ret
    exact ⟨rfl, Below.refl _ _⟩
  by_cases k6 : g < -2147483648
  · go_wp2_with fail
    go_ret
    exact ⟨rfl, Below.refl _ _⟩
  by_cases k7 : 2147483647 < g
  · go_wp2_with fail
    go_ret
    exact ⟨rfl, Below.refl _ _⟩
  by_cases k8 : h < -2147483648
  · go_wp2_with fail
    go_ret
    exact ⟨rfl, Below.refl _ _⟩
  by_cases k9 : 2147483647 < h
  · go_wp2_with fail
    go_ret
    exact ⟨rfl, Below.refl _ _⟩
  go_wp2_with fail
  refine (HC0.out (by omega)).mono ?_
  rintro e w2 ⟨p, cp, rfl, r1, np, hb2, bp, cpl⟩
  clear HC0
  have s2 := hb2.size
  have HP : Hid (Row .i32 w2 p ps ∧ (p = none → ps = [] ∧ cp = 0) ∧ (∀ x, blockOf p = some x → x < w2.heap.size) ∧ n = ps.length) := ⟨r1, np, bp, HN.out.1⟩
  clear r1 np bp cpl
  rw [← HN.out.1]
  go_wp2_with fail
  refine (HC2.out w2 hb2 (by omega)).mono ?_
  rintro e w3 ⟨q, cq, rfl, r1, nq, hb3, bq, cql⟩
  clear HC2
  have s3 := hb3.size
  have HQ : Hid (Row .i32 w3 q qs ∧ (q = none → qs = [] ∧ cq = 0) ∧ (∀ x, blockOf q = some x → x < w3.heap.size) ∧ m = qs.length) := ⟨r1, nq, bq, HN.out.2⟩
  clear r1 nq bq cql
  rw [← HN.out.2]
  go_wp2_with fail
  refine (newglob_any w3 false).mono ?_
  rintro e w4 ⟨rfl, hG4, hb4⟩
  have HW : Hid (Below w.heap.size w w3) := hb2.trans (hb3.mono s2)
  obtain ⟨bg, hbg⟩ : ∃ bg, w3.heap.size = bg := ⟨_, rfl⟩
  rw [hbg] at hG4 hb4 ⊢
  have HP4 : Hid (∀ wr, Below bg w4 wr → Row .i32 wr p ps) := fun wr hwr => HP.out.1.under ((hb3.mono (Nat.le_refl _)).trans ((hb4.trans hwr).mono (by omega))) HP.out.2.2.1
  have HQ4 : Hid (∀ wr, Below bg w4 wr → Row .i32 wr q qs) := fun wr hwr => HQ.out.1.under (hb4.trans hwr) (by rw [← hbg]; exact HQ.out.2.2.1)
  have HPb : Hid (∀ x, blockOf p = some x → x < bg) := fun x hx => by have := HP.out.2.2.1 x hx; omega
  have HQb : Hid (∀ x, blockOf q = some x → x < bg) := fun x hx => by rw [← hbg]; exact HQ.out.2.2.1 x hx
  have HPn : Hid (p = none → ps = [] ∧ cp = 0) := HP.out.2.1
  have HQn : Hid (q = none → qs = [] ∧ cq = 0) := HQ.out.2.1
  have HB : Hid (∀ wr, Below bg w4 wr → Below w.heap.size w wr) := fun wr hwr => HW.out.trans ((hb4.trans hwr).mono (by omega))
  have HG4 : Hid (IsG w4 bg false []) := hG4
  clear HP HQ HW hb2 hb3 hb4 hG4 hbg s2 s3
  clear k1 k2 k3 l0 l2
  go_wp2_with fail
  have hA := zzadd_any bg g p cp ps w4 false [] HG4.out (HP4.out w4 (Below.refl _ _)) HPb.out HPn.out (by have := HN.out.1; omega) (by simp [chars]) (by simp) (by omega) (by omega)
  rw [← HN.out.1] at hA
  refine hA.mono ?_
  clear hA
  rintro e w5 ⟨rfl, hb5, ws, hG5⟩
  have HG5 : Hid (Below bg w4 w5 ∧ IsG w5 bg false [⟨g, ps, ws⟩]) := ⟨hb5, hG5⟩
  clear hb5 hG5
  go_wp2_with fail
  have hA := zzadd_any bg h q cq qs w5 false [⟨g, ps, ws⟩] HG5.out.2 (HQ4.out w5 HG5.out.1) HQb.out HQn.out (by have := HN.out.2; omega) (by rw [chars_one]; have := HN.out.1; simp only []; omega) (by simp) (by omega) (by omega)
  rw [← HN.out.2] at hA
  refine hA.mono ?_
  clear hA
  rintro e w6 ⟨rfl, hb6, ws', hG6⟩
  have HG6 : Hid (Below bg w4 w6 ∧ IsG w6 bg false ([⟨g, ps, ws⟩] ++ [⟨h, qs, ws'⟩])) := ⟨HG5.out.1.trans hb6, hG6⟩
  have HR6 : Hid (Row .i32 w6 p ps ∧ Row .i32 w6 q qs) := ⟨HP4.out w6 HG6.out.1, HQ4.out w6 HG6.out.1⟩
  have HB6 : Hid (Below w.heap.size w w6) := HB.out w6 HG6.out.1
  have HCS : Hid ((chars ([⟨g, ps, ws⟩] ++ [⟨h, qs, ws'⟩])).length ≤ 1000000) := by
    show (chars ([⟨g, ps, ws⟩] ++ [⟨h, qs, ws'⟩])).length ≤ 1000000
    rw [chars_snoc, chars_one]
    have := HN.out
    simp only []
    omega
  clear hb6 hG6
  go_wp2_with fail
  refine (numruns_any bg w6 false _ HG6.out.2).mono ?_
  rintro e w7 ⟨rfl, j7, rfl⟩
  have hlen : (([(⟨g, ps, ws⟩ : RD)] ++ [(⟨h, qs, ws'⟩ : RD)]).length : Int) = 2 := by simp
  rw [hlen]
  clear hlen
  go_wp2_with fail
  have hL0 : Calls Try.prog 30 #[.pointer (some ⟨bg, 0, none⟩), .int .i64 0, .int .i64 g, .slice p n cp] (w6.drewN j7) (Laid (w6.drewN j7)) := by
    have := laid_any bg (w6.drewN j7) false [] [⟨h, qs, ws'⟩] ⟨g, ps, ws⟩ (HG6.out.2.drewN j7) HCS.out (by simp) p cp (HR6.out.1.drewN j7)
    simp only [] at this
    rw [← HN.out.1] at this
    exact this
  refine hL0.mono ?_
  clear hL0
  rintro e w8 ⟨rfl, hb8⟩
  have hb8' : Below w6.heap.size w6 w8 := (below_drewN (Below.refl _ w6) j7).trans hb8
  have HG8 : Hid (IsG w8 bg false ([⟨g, ps, ws⟩] ++ [⟨h, qs, ws'⟩]) ∧ Row .i32 w8 q qs ∧ Below w.heap.size w w8) := ⟨HG6.out.2.kept hb8', HR6.out.2.kept hb8', HB6.out.trans (hb8'.mono HB6.out.size)⟩
  clear hb8 hb8'
  go_wp2_with fail
  have hL1 : Calls Try.prog 30 #[.pointer (some ⟨bg, 0, none⟩), .int .i64 1, .int .i64 h, .slice q m cq] w8 (Laid w8) := by
    have := laid_any bg w8 false [⟨g, ps, ws⟩] [] ⟨h, qs, ws'⟩ HG8.out.1 HCS.out (by simp) q cq HG8.out.2.1
    simp only [] at this
    rw [← HN.out.2] at this
    exact this
  refine hL1.mono ?_
  clear hL1
  rintro e w9 ⟨rfl, hb9⟩
  have HB9 : Hid (Below w.heap.size w w9) := HG8.out.2.2.trans (hb9.mono HG8.out.2.2.size)
  clear hb9
  go_wp2_with fail
  go_ret
  exact ⟨rfl, HB9.out⟩
end Go.Proofs.Qxb6601041a
