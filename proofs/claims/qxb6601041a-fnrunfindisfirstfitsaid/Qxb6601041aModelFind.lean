/- The model of the search tries every beginning in turn. -/
import Derived.Test.Qxb6601041aFits
import Derived.Test.Qxb6601041aFind0
namespace Go.Proofs.Qxb6601041a
open Go.RowKit

def ModelGot (cs vs : List Int) (bs : List Bool) (starts ends : Bool) (fr : Nat) (w : World) (e : Ending) (w' : World) : Prop :=
  ∃ r : Option Nat, e = .returned (.tuple #[.int .i64 (r.getD 0 : Nat), .bool r.isSome]) ∧ FirstFit cs vs bs starts ends fr r ∧ ∃ q, w' = w.drewN q

set_option maxHeartbeats 1000000 in
set_option maxRecDepth 1000000 in
set_option linter.unusedVariables false in
theorem modelfind_any (a b d : Option Addr) (ca cb cd : Nat) (cs vs : List Int) (bs : List Bool) (w : World) (hx : Row .i32 w a cs) (hy : Row .i32 w b vs) (hz : BRow w d bs) (hm : cs.length ≤ 1024) (hn : vs.length ≤ 1024) (hbl : bs.length = vs.length) (fr : Nat) (hfr : fr ≤ 9223372036854775807) (starts ends : Bool) :
    Calls Try.prog 23 #[.slice a cs.length ca, .slice b vs.length cb, .slice d bs.length cd, .int .i64 fr, .bool starts, .bool ends] w (ModelGot cs vs bs starts ends fr w) := by
  have HK : Hid (∀ s q, s + cs.length ≤ vs.length → Calls Try.prog 40 #[.slice a cs.length ca, .slice b vs.length cb, .int .i64 s] (w.drewN q) (Says (fitsAt cs vs s) (w.drewN q))) := fun s q hs => fits_any a b ca cb cs vs _ (hx.drewN q) (hy.drewN q) s hs (by omega)
  have HFit : Hid (∀ s, FitAt cs.length vs.length fr (fun k => cs.getD k 0) (fun k => vs.getD k 0) (okS starts bs) (okE ends bs vs.length) s ↔ fr ≤ s ∧ s + cs.length ≤ vs.length ∧ okS starts bs s = true ∧ okE ends bs vs.length (s + cs.length) = true ∧ fitsAt cs vs s = true) := fun s => by
    rw [fitsAt_iff]; exact Iff.rfl
  have HY : Hid (∀ s q, (∀ s', fr ≤ s' → s' < s → ¬ FitAt cs.length vs.length fr (fun k => cs.getD k 0) (fun k => vs.getD k 0) (okS starts bs) (okE ends bs vs.length) s') → FitAt cs.length vs.length fr (fun k => cs.getD k 0) (fun k => vs.getD k 0) (okS starts bs) (okE ends bs vs.length) s → ModelGot cs vs bs starts ends fr w (.returned (.tuple #[.int .i64 ((s : Int) + (cs.length : Int)), .bool true])) (w.drewN q)) := fun s q h1 h2 =>
    ⟨some (s + cs.length), by simp, ⟨s, rfl, h2, fun s' hs' => by
      rcases Nat.lt_or_ge s' s with h | h
      · exact absurd hs' (h1 s' hs'.1 h)
      · exact h⟩, q, rfl⟩
  have HN : Hid (∀ s q, (∀ s', fr ≤ s' → s' < s → ¬ FitAt cs.length vs.length fr (fun k => cs.getD k 0) (fun k => vs.getD k 0) (okS starts bs) (okE ends bs vs.length) s') → vs.length < s + cs.length → ModelGot cs vs bs starts ends fr w (.returned (.tuple #[.int .i64 0, .bool false])) (w.drewN q)) := fun s q h1 h2 =>
    ⟨none, rfl, fun s' hs' => h1 s' hs'.1 (by have := hs'.2.1; omega) hs', q, rfl⟩
  obtain ⟨B, hB⟩ : ∃ B : Nat → Bool, ∀ t, B t = bs.getD t false := ⟨_, fun _ => rfl⟩
  have HS : Hid (∀ i, okS starts bs i = !(starts && (decide (0 < i) && B (i - 1)))) := fun i => by
    rw [hB]; unfold okS beginsAt; cases starts <;> rcases i with _ | i <;> simp
  have HT : Hid (∀ i, okE ends bs vs.length i = !(ends && (!decide (i = vs.length) && B i))) := fun i => by
    rw [hB]; unfold okE endsAt; cases ends <;> simp
  have hcell : vs.length = 0 ∨ ∃ b off, d = some ⟨b, off, none⟩ ∧ ∀ j, j < vs.length → w.cell? ⟨b, off + j, none⟩ = some (.bool (B j)) := by
    rcases hz with h0 | ⟨b, off, hx, h⟩
    · rw [h0] at hbl; exact .inl hbl.symm
    · exact .inr ⟨b, off, hx, by simp only [hB]; rw [← hbl]; exact h⟩
  rw [hbl]
  generalize ModelGot cs vs bs starts ends fr w = Post at HY HN ⊢
  generalize FitAt cs.length vs.length fr (fun k => cs.getD k 0) (fun k => vs.getD k 0) (okS starts bs) (okE ends bs vs.length) = Fit at HFit HY HN
  generalize okS starts bs = fS at HFit HS
  generalize okE ends bs vs.length = fE at HFit HT
  generalize fitsAt cs vs = ft at HFit HK
  obtain ⟨n, hn'⟩ : ∃ n, n = vs.length := ⟨_, rfl⟩
  obtain ⟨m, hm'⟩ : ∃ m, m = cs.length := ⟨_, rfl⟩
  rw [← hn'] at hn HN HK HFit HT hcell ⊢
  rw [← hm'] at hm HY HN HK HFit ⊢
  clear hx hy hz hbl hB hn' hm'
  have HCELL : Hid (n = 0 ∨ ∃ b off, d = some ⟨b, off, none⟩ ∧ ∀ j, j < n → w.cell? ⟨b, off + j, none⟩ = some (.bool (B j))) := hcell
  clear hcell
  go_enter Try.func23, Try.ntmps23
  go_wp2_with fail
  go_loopw [16] (fun i wr => ∃ (k q : Nat), fr ≤ k ∧ (k ≤ n + 1 ∨ k = fr) ∧ i = .int .i64 k ∧ wr = w.drewN q ∧ ∀ s, fr ≤ s → s < k → ¬ Fit s) (fun i _ => n + 1 - (intOf i).toNat)
  case atStart => exact ⟨fr, 0, Nat.le_refl _, .inr rfl, rfl, rfl, fun s h1 h2 => by omega⟩
  case round =>
    obtain ⟨k, q, hk1, hk2, rfl, rfl, hall⟩ := hrel
    have HA : Hid (∀ s, fr ≤ s → s < k → ¬ Fit s) := hall
    clear hall
    by_cases hkn : k + m ≤ n
    · have HNX : Hid (¬ Fit k → ∀ s, fr ≤ s → s < k + 1 → ¬ Fit s) := fun h s h2 h3 => by
        rcases Nat.lt_succ_iff_lt_or_eq.1 h3 with h' | rfl
        · exact HA.out s h2 h'
        · exact h
      go_upto_region 6 with fail
      go_cut [41] (fun b wx => b = .bool (!fS k) ∧ wx = w.drewN q)
      case first =>
        have HST : Hid (∀ x, (starts && (decide (0 < k) && B (k - 1))) = x → Value.bool x = .bool (!fS k)) := fun x h => by rw [HS.out k, h]; simp
        clear HS HT HY HN HA HFit HK HNX
        cases starts
        · go_wp2_with fail
          go_meet
          case rel => exact ⟨HST.out false rfl, rfl⟩
        · rcases k with _ | k
          · go_wp2_with fail
            go_meet
            case rel => exact ⟨HST.out false (by simp), rfl⟩
          · obtain h0 | ⟨b1, o1, rfl, hc⟩ := HCELL.out
            · omega
            have c1 := hc k (by omega)
            have HST2 : Hid (Value.bool (B k) = .bool (!fS (k + 1))) := HST.out _ (by simp)
            clear hc HST HCELL
            generalize B k = x at c1 HST2
            have hpos : (0 : Int) < (k : Int) + 1 := by omega
            cases x
            · go_wp2_with fail
              go_meet
              case rel => exact ⟨HST2.out, rfl⟩
            · go_wp2_with fail
              go_meet
              case rel => exact ⟨HST2.out, rfl⟩
      case rest =>
        obtain ⟨rfl, rfl⟩ := hcut
        clear HS
        obtain ⟨b1, hb1⟩ : ∃ b1, fS k = b1 := ⟨_, rfl⟩
        have HB1 : Hid (fS k = b1) := hb1
        rw [hb1]
        clear hb1
        cases b1
        · have HNF : Hid (∀ s, fr ≤ s → s < k + 1 → ¬ Fit s) := HNX.out fun h => by have := ((HFit.out k).1 h).2.2.1; rw [HB1.out] at this; cases this
          clear HNX HFit HT HK HY HN
          go_wp2_with fail
          go_roundw
          case rel => exact ⟨k + 1, q, by omega, .inl (by omega), by go_num, rfl, HNF.out⟩
          case measure => simp [intOf]; omega
        · go_upto_region 8 with fail
          go_cut [56] (fun b wx => b = .bool (!fE (k + m)) ∧ wx = w.drewN q)
          case first =>
            have HST : Hid (∀ x, (ends && (!decide (k + m = n) && B (k + m))) = x → Value.bool x = .bool (!fE (k + m))) := fun x h => by rw [HT.out (k + m), h]; simp
            clear HT HY HN HA HFit HK HNX HB1
            cases ends
            · go_wp2_with fail
              go_meet
              case rel => exact ⟨HST.out false rfl, rfl⟩
            · by_cases hkn2 : k + m = n
              · go_wp2_with fail
                go_meet
                case rel => exact ⟨HST.out false (by simp [hkn2]), rfl⟩
              · obtain h0 | ⟨b1, o1, rfl, hc⟩ := HCELL.out
                · omega
                have hkn3 : k + m < n := by omega
                have c1 := hc (k + m) hkn3
                have HST2 : Hid (Value.bool (B (k + m)) = .bool (!fE (k + m))) := HST.out _ (by simp [hkn2])
                clear hc HST HCELL hkn2
                generalize B (k + m) = x at c1 HST2
                cases x
                · go_wp2_with fail
                  go_meet
                  case rel => exact ⟨HST2.out, rfl⟩
                · go_wp2_with fail
                  go_meet
                  case rel => exact ⟨HST2.out, rfl⟩
          case rest =>
            obtain ⟨rfl, rfl⟩ := hcut
            clear HT
            obtain ⟨b2, hb2⟩ : ∃ b2, fE (k + m) = b2 := ⟨_, rfl⟩
            have HB2 : Hid (fE (k + m) = b2) := hb2
            rw [hb2]
            clear hb2
            cases b2
            · have HNF : Hid (∀ s, fr ≤ s → s < k + 1 → ¬ Fit s) := HNX.out fun h => by have := ((HFit.out k).1 h).2.2.2.1; rw [HB2.out] at this; cases this
              clear HNX HFit HK HY HN
              go_wp2_with fail
              go_roundw
              case rel => exact ⟨k + 1, q, by omega, .inl (by omega), by go_num, rfl, HNF.out⟩
              case measure => simp [intOf]; omega
            · go_wp2_with fail
              refine (HK.out k q hkn).mono ?_
              rintro e w' ⟨rfl, q', rfl⟩
              obtain ⟨b3, hb3⟩ : ∃ b3, ft k = b3 := ⟨_, rfl⟩
              have HB3 : Hid (ft k = b3) := hb3
              rw [hb3]
              clear hb3
              cases b3
              · have HNF : Hid (∀ s, fr ≤ s → s < k + 1 → ¬ Fit s) := HNX.out fun h => by have := ((HFit.out k).1 h).2.2.2.2; rw [HB3.out] at this; cases this
                clear HNX HFit HK HY HN
                go_wp2_with fail
                go_roundw
                case rel => exact ⟨k + 1, q + q', by omega, .inl (by omega), by go_num, rfl, HNF.out⟩
                case measure => simp [intOf]; omega
              · have HPost : Hid (Post (.returned (.tuple #[.int .i64 ((k : Int) + (m : Int)), .bool true])) (w.drewN (q + q'))) := HY.out k (q + q') HA.out ((HFit.out k).2 ⟨hk1, hkn, HB1.out, HB2.out, HB3.out⟩)
                clear HNX HFit HK HY HN
                go_wp2_with fail
                exact HPost.out
    · have hkn' : n < k + m := by omega
      have HPost : Hid (Post (.returned (.tuple #[.int .i64 0, .bool false])) (w.drewN q)) := HN.out k q HA.out hkn'
      clear HFit HK HY HN HS HT
      go_wp2_with fail
      exact HPost.out
end Go.Proofs.Qxb6601041a
