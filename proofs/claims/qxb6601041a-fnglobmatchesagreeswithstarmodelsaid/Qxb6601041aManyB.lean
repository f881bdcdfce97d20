/- (*glob).matches over two runs or more, walked (made by wip/tools/gen_many.py). -/
import Derived.Test.Qxb6601041aMatches
namespace Go.Proofs.Qxb6601041a
open Go.RowKit

set_option maxHeartbeats 4000000 in
set_option maxRecDepth 1000000 in
set_option linter.unusedVariables false in
theorem match_many_whole (w0 w : World) (bg bf : Nat) (r0 rl : RD) (mid : List RD) (hG : IsG w0 bg false (r0 :: (mid ++ [rl]))) (hcs : (chars (r0 :: (mid ++ [rl]))).length ≤ 1000000) (hrs : (r0 :: (mid ++ [rl])).length ≤ 10000) (hgap : ∀ r ∈ r0 :: (mid ++ [rl]), ∃ g : Nat, r.gap = (g : Int) ∧ g ≤ 100000) (hb0 : Below w0.heap.size w0 w) (hbf : w0.heap.size ≤ bf) (va : Option Addr) (vc : Nat) (wa : Option Addr) (wk : Nat) (sa : Option Addr) (sl sc : Nat) (vs : List Int) (bs : List Bool) (hF : Fo w bf va vc wa wk sa sl sc vs bs) (hn : vs.length ≤ 1024) (hbl : bs.length = vs.length) :
    Calls Try.prog 35 #[.pointer (some ⟨bg, 0, none⟩), .pointer (some ⟨bf, 0, none⟩)] w (Match false (r0 :: (mid ++ [rl])) vs bs bf w) := by
  have HRun : Hid (∀ xs y ys wr, r0 :: (mid ++ [rl]) = xs ++ y :: ys → Below w0.heap.size w0 wr → Calls Try.prog 38 #[.pointer (some ⟨bg, 0, none⟩), .int .i64 xs.length] wr (RunHand w0 y wr)) := fun xs y ys wr he hb => by
    rw [he] at hG hcs hrs
    exact run_hands bg false xs ys y hG hb hcs hrs
  have HGap : Hid (∀ r ∈ r0 :: (mid ++ [rl]), ∃ g : Nat, r.gap = (g : Int) ∧ g ≤ 100000) := hgap
  obtain ⟨az, kz, hcells⟩ := glob_cells hG
  obtain ⟨K, hK⟩ : ∃ K, K = mid.length + 1 := ⟨_, rfl⟩
  have hKl : (r0 :: (mid ++ [rl])).length = K + 1 := by rw [hK]; simp
  have c3 : w.cell? ⟨bg, 3, none⟩ = some (.slice az (K + 1) kz) := by rw [← hKl]; exact (hcells w hb0).1
  have hK1 : 1 ≤ K := by omega
  have hK2 : K ≤ 10000 := by omega
  have hKne : ((K : Int) + 1 == 1) = false := by simp; omega
  have HG4 : Hid (∀ W, Below w0.heap.size w0 W → W.cell? ⟨bg, 4, none⟩ = some (.bool false)) := fun W hW => (hcells W hW).2
  have HFo : Hid (Fo w bf va vc wa wk sa sl sc vs bs) := hF
  have HB0 : Hid (Below w0.heap.size w0 w) := hb0
  have HBF : Hid (w0.heap.size ≤ bf ∧ vs.length ≤ 1024 ∧ bs.length = vs.length) := ⟨hbf, hn, hbl⟩
  have HR : Hid (∀ b w', (b = true ↔ MatchG false (r0 :: (mid ++ [rl])) vs bs) → Below bf w w' → Match false (r0 :: (mid ++ [rl])) vs bs bf w (.returned (.bool b)) w') := fun b w' h1 h2 => ⟨b, rfl, h1, h2⟩
  have HKE : Hid (K = mid.length + 1) := hK
  have HC0 : Hid (∀ wr, Below w0.heap.size w0 wr → Calls Try.prog 38 #[.pointer (some ⟨bg, 0, none⟩), .int .i64 0] wr (RunHand w0 r0 wr)) := fun wr hb => HRun.out [] r0 (mid ++ [rl]) wr rfl hb
  have HCL : Hid (∀ wr, Below w0.heap.size w0 wr → Calls Try.prog 38 #[.pointer (some ⟨bg, 0, none⟩), .int .i64 K] wr (RunHand w0 rl wr)) := fun wr hb => by
    have := HRun.out (r0 :: mid) rl [] wr (by simp) hb
    rwa [List.length_cons, ← hK] at this
  generalize Match false (r0 :: (mid ++ [rl])) vs bs bf w = Post at HR ⊢
  clear hcells hG hF hb0 hbl hbf hK hKl hgap hcs hrs
  go_enter Try.func35, Try.ntmps35
  go_wp2_with fail
  refine Calls.mono (HC0.out w HB0.out) ?_
  rintro e w1 ⟨pc, kc, pl, kl, pm, km, rfl, hh, hb1⟩
  have HH1 : Hid (Hands w0 r0 pc pl pm km ∧ Below w.heap.size w w1) := ⟨hh, hb1⟩
  have HB1 : Hid (Below w0.heap.size w0 w1) := under_size HB0.out hb1
  obtain ⟨g0, hg0, _⟩ := HGap.out r0 (by simp)
  have HG0 : Hid (r0.gap = (g0 : Int)) := hg0
  rw [hg0]
  clear hh hb1 HC0 hg0
  go_wp2_with fail
  refine Calls.mono (HCL.out w1 HB1.out) ?_
  rintro e w2 ⟨pc', kc', pl', kl', pm', km', rfl, hh, hb2⟩
  obtain ⟨gl, hgl, hgl2⟩ := HGap.out rl (by simp)
  have HGL : Hid (rl.gap = (gl : Int)) := hgl
  rw [hgl]
  clear hgl
  have hb2' : Below w.heap.size w w2 := HH1.out.2.trans (hb2.mono HH1.out.2.size)
  obtain ⟨w3, hw3, HA, HL⟩ := lay_two (w := w) (kc := kc) (kl := kl) (kc' := kc') (kl' := kl') HG0.out HGL.out HH1.out.1 hh (HFo.out.kept hb2') (under_size HB1.out hb2) (hb2'.mono (Nat.le_of_lt HFo.out.lt))
  clear hh hb2 hb2' HFo HH1 HB0 HB1 HCL c3
  go_upto_region 3 with fail
  obtain ⟨b1, hb1⟩ : ∃ b1, w2.heap.size = b1 := ⟨_, rfl⟩
  rw [hb1] at HA HL ⊢
  clear hw3 hb1
  have c4 := HG4.out w3 HA.out.old
  have d1 : w3.cell? ⟨b1, 1, none⟩ = some (.slice pc r0.cs.length kc) := HA.out.run.c1
  have HNO : Hid (∀ xs ys w', r0 :: (mid ++ [rl]) = xs ++ ys → xs ≠ [] → (∀ p, ¬ EndOf (fun a => a = 0) (fun k => vs.getD k 0) vs.length xs p) → Below bf w w' → Post (.returned (.bool false)) w') := fun xs ys w' he hne hno hb => HR.out false w' (by
    rw [he]
    refine ⟨fun h => by (cases h), fun h => absurd h ?_⟩
    refine match_none hne ?_
    simpa using hno) hb
  have HFC : Hid (Calls Try.prog 43 #[.pointer (some ⟨b1, 0, none⟩), .pointer (some ⟨bf, 0, none⟩), .int .i64 0] w3 (Says (fitB r0.cs vs 0) w3)) := at_at HA.out.run HA.out.old HA.out.fo HBF.out.2.1 0 (by omega)
  obtain ⟨m0, hm0⟩ : ∃ m0, m0 = r0.cs.length := ⟨_, rfl⟩
  have HM0 : Hid (m0 = r0.cs.length ∧ m0 ≤ 1024) := ⟨hm0, by rw [hm0]; exact HA.out.run.2.2.2.len⟩
  have hm02 := HM0.out.2
  rw [← hm0] at d1 ⊢
  clear hm0
  go_wp2_with fail
  refine Calls.mono HFC.out ?_
  rintro e w4 ⟨rfl, q4, rfl⟩
  have HL4 : Hid (Beside w0 w (w3.drewN q4) bf va vc wa wk vs bs (b1 + 1) rl pc' kc' pl' kl' pm' km' sa sl sc) := HL.out.kept (below_drewN (Below.refl _ _) q4)
  obtain ⟨w4, hw4⟩ : ∃ w4, w3.drewN q4 = w4 := ⟨_, rfl⟩
  rw [hw4] at HL4 ⊢
  clear hw4
  obtain ⟨z, hz⟩ : ∃ z, fitB r0.cs vs 0 = z := ⟨_, rfl⟩
  have HZ : Hid (fitB r0.cs vs 0 = z) := hz
  rw [hz]
  clear hz
  cases z
  · have HP : Hid (Post (.returned (.bool false)) w4) := HNO.out [r0] (mid ++ [rl]) w4 rfl (by simp) (first_whole_no fun h => by rw [← fitB_iff, HZ.out] at h; cases h) HL4.out.bel
    clear HFC HR HNO HA HL HZ
    go_wp2_with fail
    exact HP.out
  · have HLE : Hid (Least (fun a => a = 0) (fun k => vs.getD k 0) vs.length [r0] m0) := by
      rw [HM0.out.1]
      exact first_whole (fitB_iff.1 HZ.out)
    have hpos : m0 ≤ vs.length := endOf_le (by simp) HLE.out.1
    obtain ⟨pos, hpos'⟩ : ∃ pos, m0 = pos := ⟨_, rfl⟩
    subst hpos'
    obtain ⟨sa4, hsa4⟩ : ∃ sa4, sa = sa4 := ⟨_, rfl⟩
    obtain ⟨sl4, hsl4⟩ : ∃ sl4, sl = sl4 := ⟨_, rfl⟩
    obtain ⟨sc4, hsc4⟩ : ∃ sc4, sc = sc4 := ⟨_, rfl⟩
    rw [hsa4, hsl4, hsc4] at HL4
    clear hsa4 hsl4 hsc4
    clear HFC HA HL HZ HM0 c4 d1
    go_wp2_with fail
    go_loopw [10, 13] (fun s i wr => ∃ (k p : Nat) (xs ys : List RD) (sa : Option Addr) (sl sc : Nat), r0 :: mid = xs ++ ys ∧ xs.length = k ∧ xs ≠ [] ∧ k ≤ K ∧ p ≤ vs.length ∧ s = .int .i64 p ∧ i = .int .i64 k ∧ Least (fun a => a = 0) (fun k => vs.getD k 0) vs.length xs p ∧ Beside w0 w wr bf va vc wa wk vs bs (b1 + 1) rl pc' kc' pl' kl' pm' km' sa sl sc) (fun _ i _ => K - (intOf i).toNat)
    case atStart => exact ⟨1, m0, [r0], mid, sa4, sl4, sc4, rfl, rfl, by simp, hK1, hpos, rfl, rfl, HLE.out, HL4.out⟩
    case round =>
      obtain ⟨k, p, xs, ys, sa5, sl5, sc5, hxy, hxk, hxs, hk, hp, rfl, rfl, hle, hS⟩ := hrel
      have HX : Hid (r0 :: mid = xs ++ ys ∧ xs.length = k ∧ xs ≠ []) := ⟨hxy, hxk, hxs⟩
      have HLP : Hid (Least (fun a => a = 0) (fun k => vs.getD k 0) vs.length xs p) := hle
      have HS : Hid (Beside w0 w wr bf va vc wa wk vs bs (b1 + 1) rl pc' kc' pl' kl' pm' km' sa5 sl5 sc5) := hS
      have hlen : xs.length + ys.length = K := by rw [← List.length_append, ← hxy, List.length_cons, HKE.out]
      clear hxy hxk hxs hle hS HLE HL4
      by_cases hlt : k < K
      · obtain ⟨y, ys', hys⟩ : ∃ y ys', ys = y :: ys' := by
          cases ys with
          | nil => simp at hlen; have := HX.out.2.1; omega
          | cons y ys' => exact ⟨y, ys', rfl⟩
        subst hys
        clear hlen
        have HFull : Hid (r0 :: (mid ++ [rl]) = xs ++ y :: (ys' ++ [rl])) := by
          show r0 :: (mid ++ [rl]) = xs ++ y :: (ys' ++ [rl])
          rw [← List.cons_append, HX.out.1]; simp
        have HCR : Hid (Calls Try.prog 38 #[.pointer (some ⟨bg, 0, none⟩), .int .i64 k] wr (RunHand w0 y wr)) := by
          have := HRun.out xs y (ys' ++ [rl]) wr HFull.out HS.out.old
          rwa [HX.out.2.1] at this
        obtain ⟨gy, hgy, hgy2⟩ := HGap.out y (by rw [HFull.out]; simp)
        have HGY : Hid (y.gap = (gy : Int)) := hgy
        clear hgy
        go_wp2_with fail
        refine Calls.mono HCR.out ?_
        rintro e w5 ⟨qc, jc, ql, jl, qm, jm, rfl, hh, hb5⟩
        rw [HGY.out]
        obtain ⟨w6, hw6, HA6, HS6⟩ := lay_one (kc := jc) (kl := jl) HGY.out hh (HS.out.kept hb5)
        obtain ⟨b6, hb6⟩ : ∃ b6, w5.heap.size = b6 := ⟨_, rfl⟩
        rw [hb6] at HA6
        clear hh hb5 HCR HS
        have d0 : w6.cell? ⟨b6, 0, none⟩ = some (.int .i64 gy) := by rw [HA6.out.run.c0, HGY.out]
        have HFC : Hid (Calls Try.prog 39 #[.pointer (some ⟨b6, 0, none⟩), .pointer (some ⟨bf, 0, none⟩), .int .i64 ((p : Int) + (gy : Int)), .bool false, .bool false] w6 (FindGotK bf va vc wa wk sa5 y.cs vs bs false false (p + gy) w6)) := by
          have := find_at HA6.out.run HA6.out.old HBF.out.1 HA6.out.fo HA6.out.lt HA6.out.ne HBF.out.2.1 HBF.out.2.2 (p + gy) (by omega) false false
          rwa [Int.natCast_add] at this
        go_wp2_with fail
        refine Calls.mono HFC.out ?_
        rintro e w7 ⟨q, rfl, hff, hb7, sa7, sl7, sc7, hF7, hk7⟩
        have HS7 : Hid (Beside w0 w w7 bf va vc wa wk vs bs (b1 + 1) rl pc' kc' pl' kl' pm' km' sa7 sl7 sc7) := HS6.out.found HBF.out.1 hF7 hb7 hk7
        cases q with
        | none =>
          have HP : Hid (Post (.returned (.bool false)) w7) := HNO.out (xs ++ [y]) (ys' ++ [rl]) w7 (by rw [HFull.out]; simp) (by simp) (least_next_no HX.out.2.2 HGY.out HLP.out hff) HS7.out.bel
          clear hff hb7 hF7 hk7 HFC HR HNO HA6 HS6 HS7 hw6 hb6 d0
          go_wp2_with fail
          exact HP.out
        | some t =>
          have HLT : Hid (Least (fun a => a = 0) (fun k => vs.getD k 0) vs.length (xs ++ [y]) t) := least_next HX.out.2.2 HGY.out HLP.out hff
          have htn : t ≤ vs.length := endOf_le (by simp) HLT.out.1
          have hcast : ((Option.getD (some t) 0 : Nat) : Int) = (t : Int) := rfl
          have hsome : (some t).isSome = true := rfl
          rw [hcast, hsome]
          clear hff hb7 hF7 hk7 HFC HA6 HS6 hw6 hb6 d0 hcast hsome
          go_wp2_with fail
          go_roundw
          case rel => exact ⟨k + 1, t, xs ++ [y], ys', sa7, sl7, sc7, by rw [HX.out.1]; simp, by simp [HX.out.2.1], by simp, by omega, htn, rfl, by go_num, HLT.out, HS7.out⟩
          case measure => simp [intOf]; omega
      · obtain rfl : k = K := by omega
        obtain rfl : ys = [] := by
          cases ys with
          | nil => rfl
          | cons y ys' => simp at hlen; have := HX.out.2.1; omega
        have HFull : Hid (r0 :: (mid ++ [rl]) = xs ++ [rl]) := by
          show r0 :: (mid ++ [rl]) = xs ++ [rl]
          rw [← List.cons_append, HX.out.1]; simp
        have c4 := HG4.out wr HS.out.old
        have d0 : wr.cell? ⟨b1 + 1, 0, none⟩ = some (.int .i64 gl) := by rw [HS.out.run.c0, HGL.out]
        clear hlen HNO HRun
        have d1 : wr.cell? ⟨b1 + 1, 1, none⟩ = some (.slice pc' rl.cs.length kc') := HS.out.run.c1
        have d2 : wr.cell? ⟨bf, 0, none⟩ = some (.slice va vs.length vc) := HS.out.fo.toR.c0
        have hml : rl.cs.length ≤ 1024 := HS.out.run.2.2.2.len
        have HLW : Hid (MatchG false (r0 :: (mid ++ [rl])) vs bs ↔ p + gl + rl.cs.length ≤ vs.length ∧ fitB rl.cs vs (vs.length - rl.cs.length) = true) := by
          show MatchG false (r0 :: (mid ++ [rl])) vs bs ↔ _
          rw [HFull.out, last_whole HX.out.2.2 HGL.out HLP.out, fitB_iff]
        have HAT : Hid (∀ q, Calls Try.prog 43 #[.pointer (some ⟨b1 + 1, 0, none⟩), .pointer (some ⟨bf, 0, none⟩), .int .i64 ((vs.length - rl.cs.length : Nat) : Int)] (wr.drewN q) (Says (fitB rl.cs vs (vs.length - rl.cs.length)) (wr.drewN q))) := fun q => at_at (HS.out.kept (below_drewN (Below.refl _ _) q)).run (HS.out.kept (below_drewN (Below.refl _ _) q)).old (HS.out.fo.drewN q) HBF.out.2.1 _ (by omega)
        have HBW : Hid (∀ q, Below bf w (wr.drewN q)) := fun q => below_drewN HS.out.bel q
        clear HS HX HLP HFull HBF
        generalize fitB rl.cs vs (vs.length - rl.cs.length) = f at HLW HAT
        obtain ⟨n, hn'⟩ : ∃ n, n = vs.length := ⟨_, rfl⟩
        obtain ⟨ml, hml'⟩ : ∃ ml, ml = rl.cs.length := ⟨_, rfl⟩
        have HNM : Hid (n = vs.length ∧ ml = rl.cs.length) := ⟨hn', hml'⟩
        rw [← hn'] at d2 hn HLW HAT hp
        rw [← hml'] at d1 hml HLW HAT
        clear hn' hml'
        by_cases hge : p + gl + ml ≤ n
        · have hst : ((n - ml : Nat) : Int) = (n : Int) - (ml : Int) := by omega
          rw [hst] at HAT
          have HP : Hid (∀ q, Post (.returned (.bool f)) (wr.drewN q)) := fun q => HR.out f _ (by rw [HLW.out]; simp [hge]) (HBW.out q)
          clear HLW HR HBW hst
          have hge2 : (p : Int) + (gl : Int) ≤ (n : Int) - (ml : Int) := by omega
          go_wp2_with fail
          go_quiet (fail)
          go_wp2_with fail
          refine Calls.mono (HAT.out _) ?_
          rintro e w8 ⟨rfl, q8, rfl⟩
          go_wp2_with fail
          exact HP.out _
        · have HP : Hid (∀ q, Post (.returned (.bool false)) (wr.drewN q)) := fun q => HR.out false _ (by rw [HLW.out]; simp [hge]) (HBW.out q)
          clear HLW HR HBW HAT
          have hge2 : ¬ (p : Int) + (gl : Int) ≤ (n : Int) - (ml : Int) := by omega
          go_wp2_with fail
          go_quiet (fail)
          go_wp2_with fail
          exact HP.out _

end Go.Proofs.Qxb6601041a
