/- (*glob).matches over two runs or more, walked (made by wip/tools/gen_many.py). -/
import Derived.Test.Qxb6601041aMatches
namespace Go.Proofs.Qxb6601041a
open Go.RowKit

set_option maxHeartbeats 4000000 in
set_option maxRecDepth 1000000 in
set_option linter.unusedVariables false in
theorem match_many_words (w0 w : World) (bg bf : Nat) (r0 rl : RD) (mid : List RD) (hG : IsG w0 bg true (r0 :: (mid ++ [rl]))) (hcs : (chars (r0 :: (mid ++ [rl]))).length ≤ 1000000) (hrs : (r0 :: (mid ++ [rl])).length ≤ 10000) (hgap : ∀ r ∈ r0 :: (mid ++ [rl]), ∃ g : Nat, r.gap = (g : Int) ∧ g ≤ 100000) (hb0 : Below w0.heap.size w0 w) (hbf : w0.heap.size ≤ bf) (va : Option Addr) (vc : Nat) (wa : Option Addr) (wk : Nat) (sa : Option Addr) (sl sc : Nat) (vs : List Int) (bs : List Bool) (hF : Fo w bf va vc wa wk sa sl sc vs bs) (hn : vs.length ≤ 1024) (hbl : bs.length = vs.length) :
    Calls Try.prog 35 #[.pointer (some ⟨bg, 0, none⟩), .pointer (some ⟨bf, 0, none⟩)] w (Match true (r0 :: (mid ++ [rl])) vs bs bf w) := by
  have HRun : Hid (∀ xs y ys wr, r0 :: (mid ++ [rl]) = xs ++ y :: ys → Below w0.heap.size w0 wr → Calls Try.prog 38 #[.pointer (some ⟨bg, 0, none⟩), .int .i64 xs.length] wr (RunHand w0 y wr)) := fun xs y ys wr he hb => by
    rw [he] at hG hcs hrs
    exact run_hands bg true xs ys y hG hb hcs hrs
  have HGap : Hid (∀ r ∈ r0 :: (mid ++ [rl]), ∃ g : Nat, r.gap = (g : Int) ∧ g ≤ 100000) := hgap
  obtain ⟨az, kz, hcells⟩ := glob_cells hG
  obtain ⟨K, hK⟩ : ∃ K, K = mid.length + 1 := ⟨_, rfl⟩
  have hKl : (r0 :: (mid ++ [rl])).length = K + 1 := by rw [hK]; simp
  have c3 : w.cell? ⟨bg, 3, none⟩ = some (.slice az (K + 1) kz) := by rw [← hKl]; exact (hcells w hb0).1
  have hK1 : 1 ≤ K := by omega
  have hK2 : K ≤ 10000 := by omega
  have hKne : ((K : Int) + 1 == 1) = false := by simp; omega
  have HG4 : Hid (∀ W, Below w0.heap.size w0 W → W.cell? ⟨bg, 4, none⟩ = some (.bool true)) := fun W hW => (hcells W hW).2
  have HFo : Hid (Fo w bf va vc wa wk sa sl sc vs bs) := hF
  have HB0 : Hid (Below w0.heap.size w0 w) := hb0
  have HBF : Hid (w0.heap.size ≤ bf ∧ vs.length ≤ 1024 ∧ bs.length = vs.length) := ⟨hbf, hn, hbl⟩
  have HR : Hid (∀ b w', (b = true ↔ MatchG true (r0 :: (mid ++ [rl])) vs bs) → Below bf w w' → Match true (r0 :: (mid ++ [rl])) vs bs bf w (.returned (.bool b)) w') := fun b w' h1 h2 => ⟨b, rfl, h1, h2⟩
  have HKE : Hid (K = mid.length + 1) := hK
  have HC0 : Hid (∀ wr, Below w0.heap.size w0 wr → Calls Try.prog 38 #[.pointer (some ⟨bg, 0, none⟩), .int .i64 0] wr (RunHand w0 r0 wr)) := fun wr hb => HRun.out [] r0 (mid ++ [rl]) wr rfl hb
  have HCL : Hid (∀ wr, Below w0.heap.size w0 wr → Calls Try.prog 38 #[.pointer (some ⟨bg, 0, none⟩), .int .i64 K] wr (RunHand w0 rl wr)) := fun wr hb => by
    have := HRun.out (r0 :: mid) rl [] wr (by simp) hb
    rwa [List.length_cons, ← hK] at this
  generalize Match true (r0 :: (mid ++ [rl])) vs bs bf w = Post at HR ⊢
  clear hcells hG hF hb0 hbl hbf hK hKl hgap hcs hrs
  go_enter Try.func35, Try.ntmps35
  go_wp2_with fail
  refine Calls.mono (HC0.out w HB0.out) ?_
  rintro e w1 ⟨pc, kc, pl, kl, pm, km, rfl, hh, hb1⟩
  have HH1 : Hid (Hands w0 r0 pc pl pm km ∧ Below w.heap.size w w1) := ⟨hh, hb1⟩
  have HB1 : Hid (Below w0.heap.size w0 w1) := under_size HB0.out hb1
  obtain ⟨g0, hg0, _⟩ := HGap.out r0 (by simp)
  have HG0 : Hid (r0.gap = (g0 : Int)) := hg0
  rw [hg0]
  clear hh hb1 HC0 hg0
  go_wp2_with fail
  refine Calls.mono (HCL.out w1 HB1.out) ?_
  rintro e w2 ⟨pc', kc', pl', kl', pm', km', rfl, hh, hb2⟩
  obtain ⟨gl, hgl, hgl2⟩ := HGap.out rl (by simp)
  have HGL : Hid (rl.gap = (gl : Int)) := hgl
  rw [hgl]
  clear hgl
  have hb2' : Below w.heap.size w w2 := HH1.out.2.trans (hb2.mono HH1.out.2.size)
  obtain ⟨w3, hw3, HA, HL⟩ := lay_two (w := w) (kc := kc) (kl := kl) (kc' := kc') (kl' := kl') HG0.out HGL.out HH1.out.1 hh (HFo.out.kept hb2') (under_size HB1.out hb2) (hb2'.mono (Nat.le_of_lt HFo.out.lt))
  clear hh hb2 hb2' HFo HH1 HB0 HB1 HCL c3
  go_upto_region 3 with fail
  obtain ⟨b1, hb1⟩ : ∃ b1, w2.heap.size = b1 := ⟨_, rfl⟩
  rw [hb1] at HA HL ⊢
  clear hw3 hb1
  have c4 := HG4.out w3 HA.out.old
  have d1 : w3.cell? ⟨b1, 1, none⟩ = some (.slice pc r0.cs.length kc) := HA.out.run.c1
  have HNO : Hid (∀ xs ys w', r0 :: (mid ++ [rl]) = xs ++ ys → xs ≠ [] → (∀ p, ¬ EndOf (fun a => beginsAt bs a = true) (fun k => vs.getD k 0) vs.length xs p) → Below bf w w' → Post (.returned (.bool false)) w') := fun xs ys w' he hne hno hb => HR.out false w' (by
    rw [he]
    refine ⟨fun h => by (cases h), fun h => absurd h ?_⟩
    refine match_none hne ?_
    simpa using hno) hb
  have HFC : Hid (Calls Try.prog 39 #[.pointer (some ⟨b1, 0, none⟩), .pointer (some ⟨bf, 0, none⟩), .int .i64 0, .bool true, .bool false] w3 (FindGotK bf va vc wa wk sa r0.cs vs bs true false 0 w3)) := find_at HA.out.run HA.out.old HBF.out.1 HA.out.fo HA.out.lt HA.out.ne HBF.out.2.1 HBF.out.2.2 0 (by omega) true false
  go_wp2_with fail
  refine Calls.mono HFC.out ?_
  rintro e w4 ⟨q, rfl, hff, hb4, sa4, sl4, sc4, hF4, hk4⟩
  have HL4 : Hid (Beside w0 w w4 bf va vc wa wk vs bs (b1 + 1) rl pc' kc' pl' kl' pm' km' sa4 sl4 sc4) := HL.out.found HBF.out.1 hF4 hb4 hk4
  cases q with
  | none =>
    have HP : Hid (Post (.returned (.bool false)) w4) := HNO.out [r0] (mid ++ [rl]) w4 rfl (by simp) (first_words_no hff) HL4.out.bel
    clear hff hb4 hF4 hk4 HFC HR HNO HA HL
    go_wp2_with fail
    exact HP.out
  | some pos =>
    have HLE : Hid (Least (fun a => beginsAt bs a = true) (fun k => vs.getD k 0) vs.length [r0] pos) := first_words hff
    have hpos : pos ≤ vs.length := endOf_le (by simp) HLE.out.1
    have hcast : ((Option.getD (some pos) 0 : Nat) : Int) = (pos : Int) := rfl
    have hsome : (some pos).isSome = true := rfl
    rw [hcast, hsome]
    clear hff hb4 hF4 hk4 HFC HA HL hcast hsome c4 d1
    go_wp2_with fail
    go_loopw [10, 13] (fun s i wr => ∃ (k p : Nat) (xs ys : List RD) (sa : Option Addr) (sl sc : Nat), r0 :: mid = xs ++ ys ∧ xs.length = k ∧ xs ≠ [] ∧ k ≤ K ∧ p ≤ vs.length ∧ s = .int .i64 p ∧ i = .int .i64 k ∧ Least (fun a => beginsAt bs a = true) (fun k => vs.getD k 0) vs.length xs p ∧ Beside w0 w wr bf va vc wa wk vs bs (b1 + 1) rl pc' kc' pl' kl' pm' km' sa sl sc) (fun _ i _ => K - (intOf i).toNat)
    case atStart => exact ⟨1, pos, [r0], mid, sa4, sl4, sc4, rfl, rfl, by simp, hK1, hpos, rfl, rfl, HLE.out, HL4.out⟩
    case round =>
      obtain ⟨k, p, xs, ys, sa5, sl5, sc5, hxy, hxk, hxs, hk, hp, rfl, rfl, hle, hS⟩ := hrel
      have HX : Hid (r0 :: mid = xs ++ ys ∧ xs.length = k ∧ xs ≠ []) := ⟨hxy, hxk, hxs⟩
      have HLP : Hid (Least (fun a => beginsAt bs a = true) (fun k => vs.getD k 0) vs.length xs p) := hle
      have HS : Hid (Beside w0 w wr bf va vc wa wk vs bs (b1 + 1) rl pc' kc' pl' kl' pm' km' sa5 sl5 sc5) := hS
      have hlen : xs.length + ys.length = K := by rw [← List.length_append, ← hxy, List.length_cons, HKE.out]
      clear hxy hxk hxs hle hS HLE HL4
      by_cases hlt : k < K
      · obtain ⟨y, ys', hys⟩ : ∃ y ys', ys = y :: ys' := by
          cases ys with
          | nil => simp at hlen; have := HX.out.2.1; omega
          | cons y ys' => exact ⟨y, ys', rfl⟩
        subst hys
        clear hlen
        have HFull : Hid (r0 :: (mid ++ [rl]) = xs ++ y :: (ys' ++ [rl])) := by
          show r0 :: (mid ++ [rl]) = xs ++ y :: (ys' ++ [rl])
          rw [← List.cons_append, HX.out.1]; simp
        have HCR : Hid (Calls Try.prog 38 #[.pointer (some ⟨bg, 0, none⟩), .int .i64 k] wr (RunHand w0 y wr)) := by
          have := HRun.out xs y (ys' ++ [rl]) wr HFull.out HS.out.old
          rwa [HX.out.2.1] at this
        obtain ⟨gy, hgy, hgy2⟩ := HGap.out y (by rw [HFull.out]; simp)
        have HGY : Hid (y.gap = (gy : Int)) := hgy
        clear hgy
        go_wp2_with fail
        refine Calls.mono HCR.out ?_
        rintro e w5 ⟨qc, jc, ql, jl, qm, jm, rfl, hh, hb5⟩
        rw [HGY.out]
        obtain ⟨w6, hw6, HA6, HS6⟩ := lay_one (kc := jc) (kl := jl) HGY.out hh (HS.out.kept hb5)
        obtain ⟨b6, hb6⟩ : ∃ b6, w5.heap.size = b6 := ⟨_, rfl⟩
        rw [hb6] at HA6
        clear hh hb5 HCR HS
        have d0 : w6.cell? ⟨b6, 0, none⟩ = some (.int .i64 gy) := by rw [HA6.out.run.c0, HGY.out]
        have HFC : Hid (Calls Try.prog 39 #[.pointer (some ⟨b6, 0, none⟩), .pointer (some ⟨bf, 0, none⟩), .int .i64 ((p : Int) + (gy : Int)), .bool false, .bool false] w6 (FindGotK bf va vc wa wk sa5 y.cs vs bs false false (p + gy) w6)) := by
          have := find_at HA6.out.run HA6.out.old HBF.out.1 HA6.out.fo HA6.out.lt HA6.out.ne HBF.out.2.1 HBF.out.2.2 (p + gy) (by omega) false false
          rwa [Int.natCast_add] at this
        go_wp2_with fail
        refine Calls.mono HFC.out ?_
        rintro e w7 ⟨q, rfl, hff, hb7, sa7, sl7, sc7, hF7, hk7⟩
        have HS7 : Hid (Beside w0 w w7 bf va vc wa wk vs bs (b1 + 1) rl pc' kc' pl' kl' pm' km' sa7 sl7 sc7) := HS6.out.found HBF.out.1 hF7 hb7 hk7
        cases q with
        | none =>
          have HP : Hid (Post (.returned (.bool false)) w7) := HNO.out (xs ++ [y]) (ys' ++ [rl]) w7 (by rw [HFull.out]; simp) (by simp) (least_next_no HX.out.2.2 HGY.out HLP.out hff) HS7.out.bel
          clear hff hb7 hF7 hk7 HFC HR HNO HA6 HS6 HS7 hw6 hb6 d0
          go_wp2_with fail
          exact HP.out
        | some t =>
          have HLT : Hid (Least (fun a => beginsAt bs a = true) (fun k => vs.getD k 0) vs.length (xs ++ [y]) t) := least_next HX.out.2.2 HGY.out HLP.out hff
          have htn : t ≤ vs.length := endOf_le (by simp) HLT.out.1
          have hcast : ((Option.getD (some t) 0 : Nat) : Int) = (t : Int) := rfl
          have hsome : (some t).isSome = true := rfl
          rw [hcast, hsome]
          clear hff hb7 hF7 hk7 HFC HA6 HS6 hw6 hb6 d0 hcast hsome
          go_wp2_with fail
          go_roundw
          case rel => exact ⟨k + 1, t, xs ++ [y], ys', sa7, sl7, sc7, by rw [HX.out.1]; simp, by simp [HX.out.2.1], by simp, by omega, htn, rfl, by go_num, HLT.out, HS7.out⟩
          case measure => simp [intOf]; omega
      · obtain rfl : k = K := by omega
        obtain rfl : ys = [] := by
          cases ys with
          | nil => rfl
          | cons y ys' => simp at hlen; have := HX.out.2.1; omega
        have HFull : Hid (r0 :: (mid ++ [rl]) = xs ++ [rl]) := by
          show r0 :: (mid ++ [rl]) = xs ++ [rl]
          rw [← List.cons_append, HX.out.1]; simp
        have c4 := HG4.out wr HS.out.old
        have d0 : wr.cell? ⟨b1 + 1, 0, none⟩ = some (.int .i64 gl) := by rw [HS.out.run.c0, HGL.out]
        clear hlen HNO HRun
        have HFC : Hid (Calls Try.prog 39 #[.pointer (some ⟨b1 + 1, 0, none⟩), .pointer (some ⟨bf, 0, none⟩), .int .i64 ((p : Int) + (gl : Int)), .bool false, .bool true] wr (FindGotK bf va vc wa wk sa5 rl.cs vs bs false true (p + gl) wr)) := by
          have := find_at HS.out.run HS.out.old HBF.out.1 HS.out.fo HS.out.lt HS.out.ne HBF.out.2.1 HBF.out.2.2 (p + gl) (by omega) false true
          rwa [Int.natCast_add] at this
        go_wp2_with fail
        refine Calls.mono HFC.out ?_
        rintro e w7 ⟨q, rfl, hff, hb7, _⟩
        have HP : Hid (Post (.returned (.bool q.isSome)) w7) := HR.out _ w7 (by rw [HFull.out]; exact last_words HX.out.2.2 HGL.out HLP.out hff) (HS.out.bel.trans hb7)
        clear hff hb7 HR HFC HS
        generalize q.isSome = z at HP ⊢
        generalize ((q.getD 0 : Nat) : Int) = y
        go_wp2_with fail
        exact HP.out

end Go.Proofs.Qxb6601041a
