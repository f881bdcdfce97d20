/- A run added behind others reads back as the same run added to an empty glob. -/
import Derived.Test.Qxb6601041aGlobs
namespace Go.Proofs.Qxb6601041a
open Go.RowKit

/-- The masks are what their characters say. -/
theorem mask_unique {zs ts : List Int} {W : Nat} {mk mk' : List Int} {k : Nat} (h : MaskTo zs ts W mk k 0) (h' : MaskTo zs ts W mk' k 0) : mk = mk' := by
  have hl : mk.length = mk'.length := by rw [h.len, h'.len]
  refine list_same.2 ⟨hl, fun j hj => ?_⟩
  have hW : 0 < W := by
    rcases Nat.eq_zero_or_pos W with h0 | h0
    · rw [h.len, h0] at hj; simp at hj
    · exact h0
  obtain ⟨r1, r2⟩ := h.rng j hj
  obtain ⟨s1, s2⟩ := h'.rng j (by omega)
  have hrow : j / W ≤ ts.length := by
    have : j / W < ts.length + 1 := (Nat.div_lt_iff_lt_mul hW).2 (by rw [← h.len]; exact hj)
    omega
  have hj2 : j / W * W + j % W = j := by rw [Nat.mul_comm]; exact Nat.div_add_mod j W
  have key : (mk.getD j 0).toNat = (mk'.getD j 0).toNat := by
    apply Nat.eq_of_testBit_eq
    intro b
    by_cases hb : b < 64
    · have e1 := h.bit (j / W) hrow (j % W) (Nat.mod_lt _ hW) b hb
      have e2 := h'.bit (j / W) hrow (j % W) (Nat.mod_lt _ hW) b hb
      rw [hj2] at e1 e2
      rw [e1, e2]
    · have lt : ∀ x : Int, 0 ≤ x → x < 18446744073709551616 → x.toNat.testBit b = false := fun x h1 h2 => by
        apply Nat.testBit_lt_two_pow
        calc x.toNat < 2 ^ 64 := by omega
          _ ≤ 2 ^ b := Nat.pow_le_pow_right (by omega) (by omega)
      rw [lt _ r1 r2, lt _ s1 s2]
  omega

def Good (w : World) (e : Ending) (w' : World) : Prop := e = .returned (.bool true) ∧ Below w.heap.size w w'

theorem chars_snoc (rs : List RD) (r : RD) : (chars (rs ++ [r])).length = (chars rs).length + r.cs.length := by rw [chars_append, chars_one, List.length_append]

set_option maxHeartbeats 4000000 in
set_option maxRecDepth 1000000 in
theorem prefix_walk (a0 a2 : Option Addr) (c0 c2 : Nat) (ps qs : List Int) (g : Int) (w : World) (h0 : Row .i32 w a0 ps) (n0 : a0 = none → ps = [] ∧ c0 = 0) (l0 : ps.length ≤ maxLen)
    (h2 : Row .i32 w a2 qs) (n2 : a2 = none → qs = [] ∧ c2 = 0) (l2 : qs.length ≤ maxLen) :
    Calls Try.prog 10 #[.slice a0 ps.length c0, .int .i64 g, .slice a2 qs.length c2] w (Good w) := by
  have B31 := bytes31 a0 a2 ps.length c0 qs.length c2 g w l0 l2
  have CL0 := fun h => clone_any a0 c0 ps w h0 n0 h
  have CL2 : ∀ w1, Below w.heap.size w w1 → qs.length ≤ 1048576 → Calls Try.prog 12 #[.slice a2 qs.length c2] w1 (Cloned .i32 qs w1) := fun w1 hb h => clone_any a2 c2 qs w1 (h2.kept hb) n2 h
  clear h0 n0 h2 n2
  obtain ⟨n, hn⟩ : ∃ n, n = ps.length := ⟨_, rfl⟩
  obtain ⟨m, hm⟩ : ∃ m, m = qs.length := ⟨_, rfl⟩
  rw [← hn] at l0 B31 CL0 ⊢
  rw [← hm] at l2 B31 CL2 ⊢
  unfold maxLen at l0 l2
  have HC0 : Hid (n ≤ 1048576 → Calls Try.prog 12 #[.slice a0 n c0] w (Cloned .i32 ps w)) := CL0
  have HC2 : Hid (∀ w1, Below w.heap.size w w1 → m ≤ 1048576 → Calls Try.prog 12 #[.slice a2 m c2] w1 (Cloned .i32 qs w1)) := CL2
  clear CL0 CL2
  have HN : Hid (n = ps.length ∧ m = qs.length) := ⟨hn, hm⟩
  clear hn hm
  go_enter Try.func10, Try.ntmps10
  go_wp2_with fail
  refine B31.mono ?_
  rintro e w1 ⟨b, rfl, hw⟩
  have hw := hw.symm
  subst hw
  clear B31
  cases b
  · go_wp2_with fail
    go_ret
    exact ⟨rfl, Below.refl _ _⟩
  by_cases k1 : 262144 < n
  · go_wp2_with fail
    go_ret
    exact ⟨rfl, Below.refl _ _⟩
  by_cases k2 : 262144 < m
  · go_wp2_with fail
    go_ret
    exact ⟨rfl, Below.refl _ _⟩
  by_cases k3 : 1048576 < 4 * n + 4 * m
  · go_wp2_with fail
    go_ret
    exact ⟨rfl, Below.refl _ _⟩
  by_cases k4 : 1024 < n
  · go_wp2_with fail
    go_ret
    exact ⟨rfl, Below.refl _ _⟩
  by_cases k5 : 1024 < m
  · go_wp2_with fail
    go_ret
    exact ⟨rfl, Below.refl _ _⟩
  by_cases k6 : g < -2147483648
  · go_wp2_with fail
    go_ret
    exact ⟨rfl, Below.refl _ _⟩
  by_cases k7 : 2147483647 < g
  · go_wp2_with fail
    go_ret
    exact ⟨rfl, Below.refl _ _⟩
  go_wp2_with fail
  refine (HC0.out (by omega)).mono ?_
  rintro e w2 ⟨p, cp, rfl, r1, np, hb2, bp, cpl⟩
  clear HC0
  have s2 := hb2.size
  have HP : Hid (Row .i32 w2 p ps ∧ (p = none → ps = [] ∧ cp = 0) ∧ (∀ x, blockOf p = some x → x < w2.heap.size) ∧ n = ps.length) := ⟨r1, np, bp, HN.out.1⟩
  rw [← HN.out.1] at cpl
  clear r1 np bp
  rw [← HN.out.1]
  go_wp2_with fail
  refine (HC2.out w2 hb2 (by omega)).mono ?_
  rintro e w3 ⟨q, cq, rfl, r1, nq, hb3, bq, cql⟩
  clear HC2
  have s3 := hb3.size
  have HQ : Hid (Row .i32 w3 q qs ∧ (q = none → qs = [] ∧ cq = 0) ∧ (∀ x, blockOf q = some x → x < w3.heap.size) ∧ m = qs.length) := ⟨r1, nq, bq, HN.out.2⟩
  rw [← HN.out.2] at cql
  clear r1 nq bq
  rw [← HN.out.2]
  go_wp2_with fail
  refine (newglob_any w3 false).mono ?_
  rintro e w4 ⟨rfl, hG4, hb4⟩
  have HW : Hid (Below w.heap.size w w3) := hb2.trans (hb3.mono s2)
  obtain ⟨bg, hbg⟩ : ∃ bg, w3.heap.size = bg := ⟨_, rfl⟩
  rw [hbg] at hG4 hb4 ⊢
  have HP4 : Hid (∀ wr, Below bg w4 wr → Row .i32 wr p ps) := fun wr hwr => HP.out.1.under ((hb3.mono (Nat.le_refl _)).trans ((hb4.trans hwr).mono (by omega))) HP.out.2.2.1
  have HQ4 : Hid (∀ wr, Below bg w4 wr → Row .i32 wr q qs) := fun wr hwr => HQ.out.1.under (hb4.trans hwr) (by rw [← hbg]; exact HQ.out.2.2.1)
  have HPb : Hid (∀ x, blockOf p = some x → x < bg) := fun x hx => by have := HP.out.2.2.1 x hx; omega
  have HQb : Hid (∀ x, blockOf q = some x → x < bg) := fun x hx => by rw [← hbg]; exact HQ.out.2.2.1 x hx
  have HPn : Hid (p = none → ps = [] ∧ cp = 0) := HP.out.2.1
  have HQn : Hid (q = none → qs = [] ∧ cq = 0) := HQ.out.2.1
  have HB : Hid (∀ wr, Below bg w4 wr → Below w.heap.size w wr) := fun wr hwr => HW.out.trans ((hb4.trans hwr).mono (by omega))
  have HG4 : Hid (IsG w4 bg false []) := hG4
  clear HP HQ HW hb2 hb3 hb4 hG4 hbg s2 s3
  clear k1 k2 k3 l0 l2
  go_wp2_with fail
  go_loopw [8, 9] (fun s i wr => ∃ (st k : Nat) (rs : List RD), st ≤ k ∧ k ≤ n + 1 ∧ s = .int .i64 st ∧ i = .int .i64 k ∧ rs.length ≤ st ∧ (chars rs).length ≤ st ∧ Below bg w4 wr ∧ IsG wr bg false rs) (fun _ i _ => n + 1 - (intOf i).toNat)
  case atStart => exact ⟨0, 0, [], Nat.le_refl _, Nat.zero_le _, rfl, rfl, Nat.le_refl _, Nat.le_refl _, Below.refl _ _, HG4.out⟩
  case round =>
    obtain ⟨st, k, rs, hst, hk, rfl, rfl, hrs, hcs, hbw, hGw⟩ := hrel
    clear HG4
    have HGw : Hid (Below bg w4 wr ∧ IsG wr bg false rs) := ⟨hbw, hGw⟩
    clear hbw hGw
    have HAdd : Hid (k ≤ n → Calls Try.prog 28 #[.pointer (some ⟨bg, 0, none⟩), .int .i64 ((k : Int) - st), .slice (if cp = st then p else p.map fun x => x.add st) (k - st) (cp - st)] wr (Added bg wr false rs ((k : Int) - st) ((ps.drop st).take (k - st)))) := fun hkn => by
      have hl : ((ps.drop st).take (k - st)).length = k - st := by simp; have := HN.out.1; omega
      have := zzadd_any bg ((k : Int) - st) (if cp = st then p else p.map fun x => x.add st) (cp - st) ((ps.drop st).take (k - st)) wr false rs HGw.out.2 ((HP4.out wr HGw.out.1).part (by have := HN.out.1; omega) hst (by have := HN.out.1; omega)) (part_block HPb.out)
        (fun h => by obtain ⟨h1, h2⟩ := HPn.out (part_none h); rw [h1]; exact ⟨by simp, by omega⟩) (by omega) (by omega) (by omega) (by omega) (by omega)
      rw [hl] at this
      exact this
    by_cases hkn : k < n
    · obtain ⟨y, hy⟩ : ∃ y, y = ps.getD k 0 := ⟨_, rfl⟩
      obtain hp0 | ⟨b, off, hpe, hcell⟩ := HP4.out wr HGw.out.1
      · have := HN.out.1; rw [hp0] at this; simp at this; omega
      have c0 := hcell k (by rw [← HN.out.1]; exact hkn)
      rw [← hy] at c0
      subst hpe
      have hne : cp ≠ st := by omega
      have hkc : k ≤ cp := by omega
      clear hcell hy
      by_cases hy2 : y = -2
      · subst hy2
        have HA2 : Hid (Calls Try.prog 28 #[.pointer (some ⟨bg, 0, none⟩), .int .i64 ((k : Int) - st), .slice (some ⟨b, off + st, none⟩) (k - st) (cp - st)] wr (Added bg wr false rs ((k : Int) - st) ((ps.drop st).take (k - st)))) := by
          have := HAdd.out (by omega)
          rw [if_neg hne] at this
          have e : (⟨b, off, none⟩ : Addr).add st = ⟨b, off + st, none⟩ := by simp [Addr.add]
          rw [Option.map_some, e] at this
          exact this
        clear HAdd
        go_wp2_with fail
        refine HA2.out.mono ?_
        rintro e w5 ⟨rfl, hb5, ws, hG5⟩
        have HG5 : Hid (Below bg wr w5 ∧ IsG w5 bg false (rs ++ [⟨(k : Int) - st, (ps.drop st).take (k - st), ws⟩])) := ⟨hb5, hG5⟩
        clear hb5 hG5 HA2
        go_wp2_with fail
        go_roundw
        case rel => exact ⟨k + 1, k + 1, _, by omega, by omega, by go_num, by go_num, by rw [List.length_append, List.length_singleton]; omega, by rw [chars_snoc]; simp; omega, HGw.out.1.trans HG5.out.1, HG5.out.2⟩
        case measure => simp [intOf]; omega
      · have hy3 : (y != -2) = true := by simpa using hy2
        clear HAdd
        go_wp2_with fail
        go_roundw
        case rel => exact ⟨st, k + 1, rs, by omega, by omega, rfl, by go_num, hrs, hcs, HGw.out.1, HGw.out.2⟩
        case measure => simp [intOf]; omega
    · by_cases hkn2 : k = n
      · subst hkn2
        obtain ⟨p', hp'⟩ : ∃ p', (if cp = st then p else p.map fun x => x.add st) = p' := ⟨_, rfl⟩
        rw [hp'] at HAdd
        have hkc : k ≤ cp := by omega
        go_wp2_with fail
        refine (HAdd.out (Nat.le_refl _)).mono ?_
        rintro e w5 ⟨rfl, hb5, ws, hG5⟩
        have HG5 : Hid (Below bg wr w5 ∧ IsG w5 bg false (rs ++ [⟨(k : Int) - st, (ps.drop st).take (k - st), ws⟩])) := ⟨hb5, hG5⟩
        clear hb5 hG5 HAdd
        go_wp2_with fail
        go_roundw
        case rel => exact ⟨k + 1, k + 1, _, by omega, by omega, by go_num, by go_num, by rw [List.length_append, List.length_singleton]; omega, by rw [chars_snoc]; simp; omega, HGw.out.1.trans HG5.out.1, HG5.out.2⟩
        case measure => simp [intOf]
      · have hkn3 : k = n + 1 := by omega
        subst hkn3
        clear HAdd
        go_wp2_with fail
        have hA := zzadd_any bg g q cq qs wr false rs HGw.out.2 (HQ4.out wr HGw.out.1) HQb.out HQn.out (by have := HN.out.2; omega) (by omega) (by omega) (by omega) (by omega)
        rw [← HN.out.2] at hA
        refine hA.mono ?_
        clear hA
        rintro e w5 ⟨rfl, hb5, ws, hG5⟩
        have HG5 : Hid (Below bg w4 w5 ∧ IsG w5 bg false (rs ++ [⟨g, qs, ws⟩])) := ⟨HGw.out.1.trans hb5, hG5⟩
        clear hb5 hG5
        go_wp2_with fail
        refine (newglob_any w5 false).mono ?_
        rintro e w6 ⟨rfl, hG6, hb6⟩
        have HG6 : Hid (Below w5.heap.size w5 w6 ∧ IsG w6 w5.heap.size false []) := ⟨hb6, hG6⟩
        clear hG6 hb6
        obtain ⟨bh, hbh⟩ : ∃ bh, w5.heap.size = bh := ⟨_, rfl⟩
        have HBH : Hid (w5.heap.size = bh ∧ bg < bh) := ⟨hbh, by rw [← hbh]; exact HG5.out.2.lt⟩
        rw [hbh] at HG6 ⊢
        clear hbh
        go_wp2_with fail
        have hA := zzadd_any bh g q cq qs w6 false [] HG6.out.2 (HQ4.out w6 (HG5.out.1.trans (HG6.out.1.mono (Nat.le_of_lt HBH.out.2)))) (fun x hx => Nat.lt_trans (HQb.out x hx) HBH.out.2) HQn.out (by have := HN.out.2; omega) (by simp [chars]) (by simp) (by omega) (by omega)
        rw [← HN.out.2] at hA
        refine hA.mono ?_
        clear hA
        rintro e w7 ⟨rfl, hb7, ws', hG7⟩
        have HG7 : Hid (Below bh w5 w7 ∧ IsG w7 bh false [⟨g, qs, ws'⟩]) := ⟨HG6.out.1.trans hb7, hG7⟩
        have HGG : Hid (IsG w7 bg false (rs ++ [⟨g, qs, ws⟩])) := HG5.out.2.kept (by rw [HBH.out.1]; exact HG7.out.1)
        have HB7 : Hid (Below w.heap.size w w7) := HB.out w7 (HG5.out.1.trans (HG7.out.1.mono (Nat.le_of_lt HBH.out.2)))
        clear hb7 hG7 HG6
        go_wp2_with fail
        refine (numruns_any bg w7 false _ HGG.out).mono ?_
        rintro e w8 ⟨rfl, j8, rfl⟩
        have hlen : ((rs ++ [(⟨g, qs, ws⟩ : RD)]).length : Int) = (rs.length : Int) + 1 := by simp
        rw [hlen]
        clear hlen
        go_wp2_with fail
        have hP := parts_any bg (w7.drewN j8) false rs [] ⟨g, qs, ws⟩ (HGG.out.drewN j8) (by rw [chars_snoc]; have := HN.out.2; simp only []; omega) (by simp; omega)
        refine hP.mono ?_
        clear hP
        rintro e w9 ⟨pc, kc, pl, kl, pm, km, rfl, hc1, hl1, hm1, hb9⟩
        have h8 : (w7.drewN j8).heap.size = w7.heap.size := rfl
        rw [h8] at hb9
        have hb9' : Below w7.heap.size w7 w9 := (below_drewN (Below.refl _ w7) j8).trans hb9
        have HG9 : Hid (IsG w9 bh false [⟨g, qs, ws'⟩]) := HG7.out.2.kept hb9'
        have s9 := hb9'.size
        have HR : Hid (Row .i32 w9 pc qs ∧ Row .i32 w9 pl (litsOf qs) ∧ Row .u64 w9 pm ws ∧ Below w7.heap.size w7 w9) := ⟨hc1, hl1, hm1, hb9'⟩
        clear hc1 hl1 hm1 hb9 hb9' h8
        go_wp2_with fail
        have hP : Calls Try.prog 32 #[.pointer (some ⟨bh, 0, none⟩), .int .i64 0] w9 (Parts g qs (litsOf qs) ws' w9) := parts_any bh w9 false [] [] ⟨g, qs, ws'⟩ HG9.out (by rw [List.nil_append, chars_one]; have := HN.out.2; simp only []; omega) (by simp)
        refine hP.mono ?_
        clear hP
        rintro e w10 ⟨pc', kc', pl', kl', pm', km', rfl, hc2, hl2, hm2, hb10⟩
        have HR2 : Hid (Row .i32 w10 pc' qs ∧ Row .i32 w10 pl' (litsOf qs) ∧ Row .u64 w10 pm' ws' ∧ Row .i32 w10 pc qs ∧ Row .i32 w10 pl (litsOf qs) ∧ Row .u64 w10 pm ws) := ⟨hc2, hl2, hm2, HR.out.1.kept hb10, HR.out.2.1.kept hb10, HR.out.2.2.1.kept hb10⟩
        have HB10 : Hid (Below w.heap.size w w10) := HB7.out.trans ((HR.out.2.2.2.mono (HB7.out.size)).trans (hb10.mono (Nat.le_trans HB7.out.size s9)))
        have HM : Hid (ws = ws') := mask_unique (HGG.out.1 ⟨g, qs, ws⟩ (by simp)).mask (HG7.out.2.1 ⟨g, qs, ws'⟩ (by simp)).mask
        have HL : Hid ((litsOf qs).length ≤ 1000000000 ∧ qs.length ≤ 1000000000 ∧ ws.length ≤ 1000000000 ∧ ws'.length ≤ 1000000000) := by
          have h1 := litsOf_length qs
          have h2 := (HGG.out.1 ⟨g, qs, ws⟩ (by simp)).mlen
          have h3 := (HG7.out.2.1 ⟨g, qs, ws'⟩ (by simp)).mlen
          have h4 := HN.out.2
          simp only [] at h2 h3
          exact ⟨by omega, by omega, by omega, by omega⟩
        clear HR HG9 HGG HB7 HG7 HG5 hb10 hc2 hl2 hm2
        go_wp2_with fail
        refine (same_runes pc pc' kc kc' qs qs true (by simp) w10 HR2.out.2.2.2.1 HR2.out.1 HL.out.2.1 HL.out.2.1).mono ?_
        rintro e w11 ⟨rfl, j11, rfl⟩
        go_wp2_with fail
        refine (same_runes pl pl' kl kl' (litsOf qs) (litsOf qs) true (by simp) (w10.drewN j11) (HR2.out.2.2.2.2.1.drewN _) (HR2.out.2.1.drewN _) HL.out.1 HL.out.1).mono ?_
        rintro e w12 ⟨rfl, j12, rfl⟩
        go_wp2_with fail
        refine (same_words pm pm' km km' ws ws' true (by simp [HM.out]) (w10.drewN (j11 + j12)) (HR2.out.2.2.2.2.2.drewN _) (HR2.out.2.2.1.drewN _) HL.out.2.2.1 HL.out.2.2.2).mono ?_
        rintro e w13 ⟨rfl, j13, rfl⟩
        go_wp2_with fail
        go_ret
        exact ⟨rfl, below_drewN HB10.out _⟩
end Go.Proofs.Qxb6601041a
