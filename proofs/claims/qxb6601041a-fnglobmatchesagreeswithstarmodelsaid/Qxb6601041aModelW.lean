/- The automaton over a pattern, walked: words. -/
import Derived.Test.Qxb6601041aModel
namespace Go.Proofs.Qxb6601041a
open Go.RowKit

set_option maxHeartbeats 2000000 in
set_option maxRecDepth 1000000 in
theorem model_words (a va wa : Option Addr) (ca vc wk : Nat) (ps vs : List Int) (bs : List Bool) (w : World) (hp : Row .i32 w a ps) (hpb : ∀ x, blockOf a = some x → x < w.heap.size) (hv : Row .i32 w va vs) (hvb : ∀ x, blockOf va = some x → x < w.heap.size) (hw : BRow w wa bs) (hwb : ∀ x, blockOf wa = some x → x < w.heap.size) (hl : ps.length ≤ 1024) (hn : vs.length ≤ 1024) (hbl : bs.length = vs.length) :
    Calls Try.prog 17 #[.slice a ps.length ca, .slice va vs.length vc, .slice wa bs.length wk, .bool true] w (Tell (MatchM true (fun k => ps.getD k 0) ps.length vs bs) w) := by
  obtain ⟨g1, g2, wA, wB, hmA, hmB, HM⟩ := make_two ps.length (by omega) w
  have HTS : Hid (∀ wr ga gb S T c, Two w wr ps.length ga gb S T → Calls Try.prog 37 #[.slice a ps.length ca, .slice (some ⟨ga, 0, none⟩) (ps.length + 1) (ps.length + 1), .slice (some ⟨gb, 0, none⟩) (ps.length + 1) (ps.length + 1), .int .i32 c] wr (Wrote gb ps.length (closeB (fun k => ps.getD k 0) (rawB (fun k => ps.getD k 0) c S)) wr)) := fun wr ga gb S T c h => two_step hp hpb hl h c
  have HTC : Hid (∀ wr ga gb S T, Two w wr ps.length ga gb S T → Calls Try.prog 36 #[.slice a ps.length ca, .slice (some ⟨ga, 0, none⟩) (ps.length + 1) (ps.length + 1)] wr (Wrote ga ps.length (closeB (fun k => ps.getD k 0) S) wr)) := fun wr ga gb S T h => two_close hp hpb hl h
  obtain ⟨P, hP⟩ : ∃ P : Nat → Int, P = fun k => ps.getD k 0 := ⟨_, rfl⟩
  obtain ⟨V, hV⟩ : ∃ V : Nat → Int, V = fun k => vs.getD k 0 := ⟨_, rfl⟩
  obtain ⟨m, hm⟩ : ∃ m, m = ps.length := ⟨_, rfl⟩
  obtain ⟨n, hn'⟩ : ∃ n, n = vs.length := ⟨_, rfl⟩
  obtain ⟨B, hB⟩ : ∃ B : Nat → Bool, ∀ t, B t = bs.getD t false := ⟨_, fun _ => rfl⟩
  have hPm : P m ≠ -2 := by rw [hP, hm]; simp
  have HCELL : Hid (∀ wr, Below w.heap.size w wr → n = 0 ∨ ∃ b off, va = some ⟨b, off, none⟩ ∧ ∀ j, j < n → wr.cell? ⟨b, off + j, none⟩ = some (.int .i32 (V j))) := fun wr hb => by
    rcases hv.under hb hvb with h0 | ⟨b, off, e, h⟩
    · exact .inl (by rw [hn', h0]; rfl)
    · exact .inr ⟨b, off, e, by rw [hV, hn']; exact h⟩
  have HWORD : Hid (∀ wr, Below w.heap.size w wr → n = 0 ∨ ∃ b off, wa = some ⟨b, off, none⟩ ∧ ∀ j, j < n → wr.cell? ⟨b, off + j, none⟩ = some (.bool (B j))) := fun wr hb => by
    rcases hw.under hb hwb with h0 | ⟨b, off, e, h⟩
    · exact .inl (by rw [hn', ← hbl, h0]; rfl)
    · exact .inr ⟨b, off, e, by simp only [hB]; rw [hn', ← hbl]; exact h⟩
  have HbB : Hid (∀ i, beginsAt bs i = (decide (i = 0) || !B (i - 1))) := fun i => by rw [hB]; rfl
  have HbE : Hid (∀ i, endsAt bs n i = (decide (i = n) || !B i)) := fun i => by rw [hB]; rfl
  have HY : Hid (∀ k wr, k ≤ n → NSet (fun a => beginsAt bs a = true ∧ a ≤ k) V n P k m → endsAt bs n k = true → Below w.heap.size w wr → Tell (MatchM true P m vs bs) w (.returned (.bool true)) wr) := fun k wr hk h1 h2 h3 => ⟨true, rfl, by
    refine ⟨fun _ => ?_, fun _ => rfl⟩
    unfold MatchM
    rw [if_pos rfl, ← hn', ← hV]
    exact ⟨k, ent_mono (fun a h => h.1) ((nset_of_char hPm).1 h1), h2⟩, h3⟩
  have HN : Hid (∀ wr, (∀ p, p ≤ n → ¬ (NSet (fun a => beginsAt bs a = true ∧ a ≤ p) V n P p m ∧ endsAt bs n p = true)) → Below w.heap.size w wr → Tell (MatchM true P m vs bs) w (.returned (.bool false)) wr) := fun wr h1 h3 => ⟨false, rfl, by
    refine ⟨fun h => by (cases h), fun h => ?_⟩
    unfold MatchM at h
    rw [if_pos rfl, ← hn', ← hV] at h
    obtain ⟨p, h4, h5⟩ := h
    exact absurd ⟨.inl (ent_upto (fun a ha h => ⟨h, ha⟩) h4), h5⟩ (h1 p (ent_le h4)), h3⟩
  rw [← hP] at HTS HTC ⊢
  rw [hbl, ← hn'] 
  rw [← hm] at HTS HTC HM hmA hmB hl ⊢
  rw [← hn'] at hn
  generalize Tell (MatchM true P m vs bs) w = Post at HY HN ⊢
  have H0 : Hid (Two w wB m g1 g2 (fun _ => false) (fun _ => false)) := ⟨HM.out.1, HM.out.2.1, HM.out.2.2.1, HM.out.2.2.2.1, HM.out.2.2.2.2.1, HM.out.2.2.2.2.2⟩
  generalize beginsAt bs = bB at HbB HY HN
  generalize endsAt bs n = bE at HbE HY HN
  have HSt : Hid (∀ j, (false = true) ↔ NSet (fun a => bB a = true ∧ a < 0) V n P 0 j) := fun j => by
    rw [empty_set (V := V) (n := n) (P := P)]
    exact nset_upto fun a _ => by simp
  clear hp hpb hv hvb hw hwb hbl hP hV hm hn' hPm HM hB
  go_enter Try.func17, Try.ntmps17
  go_wp2_with fail
  clear hmA hmB
  go_loopw [11, 12, 14] (fun s1 s2 i wr => ∃ (k ga gb : Nat) (S T : Nat → Bool), k ≤ n + 1 ∧ s1 = .slice (some ⟨ga, 0, none⟩) (m + 1) (m + 1) ∧ s2 = .slice (some ⟨gb, 0, none⟩) (m + 1) (m + 1) ∧ i = .int .i64 k ∧ Two w wr m ga gb S T ∧ (k ≤ n → ∀ j, S j = true ↔ NSet (fun a => bB a = true ∧ a < k) V n P k j) ∧ ∀ p, p < k → ¬ (NSet (fun a => bB a = true ∧ a ≤ p) V n P p m ∧ bE p = true)) (fun _ _ i _ => n + 1 - (intOf i).toNat)
  case atStart => exact ⟨0, g1, g2, _, _, Nat.zero_le _, rfl, rfl, rfl, H0.out, fun _ => HSt.out, fun p hp => by omega⟩
  case round =>
    obtain ⟨k, ga, gb, S, T, hk, rfl, rfl, rfl, hT, hS, hno⟩ := hrel
    have HT : Hid (Two w wr m ga gb S T) := hT
    have HNO : Hid (∀ p, p < k → ¬ (NSet (fun a => bB a = true ∧ a ≤ p) V n P p m ∧ bE p = true)) := hno
    clear H0 HSt hno
    by_cases hkn : k ≤ n
    · have HS : Hid (∀ j, S j = true ↔ NSet (fun a => bB a = true ∧ a < k) V n P k j) := hS hkn
      clear hS
      have HWD : Hid (n = 0 ∨ ∃ b off, wa = some ⟨b, off, none⟩ ∧ ∀ j, j < n → wr.cell? ⟨b, off + j, none⟩ = some (.bool (B j))) := HWORD.out wr hT.bel
      go_upto_region 17 with fail
      go_cut [65] (fun b wx => b = .bool (bB k) ∧ wx = wr)
      case first =>
        have HST : Hid (∀ x, (decide (k = 0) || !B (k - 1)) = x → Value.bool x = .bool (bB k)) := fun x h => by rw [HbB.out k, h]
        clear HbB HbE HY HN HNO HS HT hT HTS HTC HCELL HWORD
        rcases k with _ | k
        · go_wp2_with fail
          go_meet
          case rel => exact ⟨HST.out true (by simp), rfl⟩
        · obtain h0 | ⟨b1, o1, rfl, hc⟩ := HWD.out
          · omega
          have c1 := hc k (by omega)
          have HST2 : Hid (Value.bool (!B k) = .bool (bB (k + 1))) := HST.out _ (by simp)
          have hz : ((k : Int) + 1 == 0) = false := by simp; omega
          clear hc HST HWD
          generalize B k = x at c1 HST2
          go_wp2_with fail
          go_meet
          case rel => exact ⟨HST2.out, rfl⟩
      case rest =>
        obtain ⟨rfl, rfl⟩ := hcut
        clear HWD
        obtain ⟨x, hx⟩ : ∃ x, bB k = x := ⟨_, rfl⟩
        have HX : Hid (bB k = x) := hx
        rw [hx]
        clear hx
        go_upto_if 65 with fail
        go_cut [] (fun wx => ∃ D, Two w wx m ga gb D T ∧ ∀ j, D j = true ↔ NSet (fun a => bB a = true ∧ a ≤ k) V n P k j)
        case first =>
          cases x
          · have HD : Hid (∀ j, S j = true ↔ NSet (fun a => bB a = true ∧ a ≤ k) V n P k j) := fun j => by
              rw [HS.out j]
              refine nset_upto fun a ha => ⟨fun h => ⟨h.1, ha⟩, fun h => ⟨h.1, ?_⟩⟩
              rcases Nat.lt_or_ge a k with h' | h'
              · exact h'
              · obtain rfl : a = k := by omega
                have := h.1
                rw [HX.out] at this
                cases this
            clear HY HN HNO HTS HTC HCELL HWORD HbE HbB hT
            go_wp2_with fail
            go_meet
            case rel => exact ⟨S, HT.out, HD.out⟩
          · have k0 := hT.sa.cell (Nat.zero_le _)
            have f0 := hT.sa.frozen 0
            have HC0 : Hid (Calls Try.prog 36 #[.slice a m ca, .slice (some ⟨ga, 0, none⟩) (m + 1) (m + 1)] (wc.setCell ⟨ga, 0, none⟩ (.bool true)) (Wrote ga m (closeB P (fun k => k == 0 || S k)) (wc.setCell ⟨ga, 0, none⟩ (.bool true)))) := HTC.out _ _ _ _ _ hT.laid
            have HD : Hid (∀ j, closeB P (fun k => k == 0 || S k) j = true ↔ NSet (fun a => bB a = true ∧ a ≤ k) V n P k j) := fun j => by
              rw [start_set hkn (fun a ha => ha.2) HS.out j]
              refine nset_upto fun a ha => ⟨fun h => ?_, fun h => ?_⟩
              · rcases h with h | rfl
                · exact ⟨h.1, ha⟩
                · exact ⟨HX.out, ha⟩
              · rcases Nat.lt_or_ge a k with h' | h'
                · exact .inl ⟨h.1, h'⟩
                · exact .inr (by omega)
            clear HY HN HNO HTS HTC HCELL HWORD HbE HbB hT HS
            generalize S 0 = s0 at k0
            go_wp2_with fail
            refine Calls.mono HC0.out ?_
            rintro e w1 ⟨rfl, ho, hB⟩
            have H1 : Hid (Two w w1 m ga gb (closeB P (fun k => k == 0 || S k)) T) := HT.out.laid.closed ho hB
            clear ho hB HC0
            go_wp2_with fail
            go_meet
            case rel => exact ⟨_, H1.out, HD.out⟩
        case rest =>
          obtain ⟨D, hT2, hD⟩ := hcut
          have HT2 : Hid (Two w wc m ga gb D T) := hT2
          have HD : Hid (∀ j, D j = true ↔ NSet (fun a => bB a = true ∧ a ≤ k) V n P k j) := hD
          have k1 := hT2.sa.cell (Nat.le_refl m)
          have HWD : Hid (n = 0 ∨ ∃ b off, wa = some ⟨b, off, none⟩ ∧ ∀ j, j < n → wc.cell? ⟨b, off + j, none⟩ = some (.bool (B j))) := HWORD.out wc hT2.bel
          have HVC : Hid (n = 0 ∨ ∃ b off, va = some ⟨b, off, none⟩ ∧ ∀ j, j < n → wc.cell? ⟨b, off + j, none⟩ = some (.int .i32 (V j))) := HCELL.out wc hT2.bel
          clear hT HT HS hT2 hD HX HTC HCELL HWORD HbB
          go_upto_region 20 with fail
          go_cut [86] (fun b wx => b = .bool (D m && bE k) ∧ wx = wc)
          case first =>
            have HST : Hid (∀ y, (decide (k = n) || !B k) = y → bE k = y) := fun y h => by rw [HbE.out k, h]
            clear HbE HY HN HNO HT2 HTS HD HVC
            obtain ⟨x, hx⟩ : ∃ x, D m = x := ⟨_, rfl⟩
            rw [hx] at k1
            have HDX : Hid (D m = x) := hx
            clear hx
            cases x
            · go_wp2_with fail
              go_meet
              case rel => exact ⟨by rw [HDX.out]; rfl, rfl⟩
            · by_cases hkn2 : k = n
              · have HZ : Hid (bE k = true) := HST.out true (by simp [hkn2])
                subst hkn2
                clear HST HWD
                go_wp2_with fail
                go_meet
                case rel => exact ⟨by rw [HZ.out, HDX.out]; rfl, rfl⟩
              · obtain h0 | ⟨b1, o1, rfl, hc⟩ := HWD.out
                · omega
                have hkn3 : k < n := by omega
                have c1 := hc k hkn3
                have hz : ((k : Int) == (n : Int)) = false := by simp; omega
                have HZ : Hid (bE k = !B k) := HST.out _ (by simp [hkn2])
                clear hc HST HWD hkn2
                generalize B k = y at c1 HZ
                go_wp2_with fail
                go_meet
                case rel => exact ⟨by rw [HZ.out, HDX.out]; simp, rfl⟩
          case rest =>
            obtain ⟨rfl, rfl⟩ := hcut
            clear HWD HbE k1
            obtain ⟨y, hy⟩ : ∃ y, (D m && bE k) = y := ⟨_, rfl⟩
            have HYY : Hid ((D m && bE k) = y) := hy
            rw [hy]
            clear hy
            cases y
            · have HNO2 : Hid (∀ p, p < k + 1 → ¬ (NSet (fun a => bB a = true ∧ a ≤ p) V n P p m ∧ bE p = true)) := fun p hp => by
                rcases Nat.lt_succ_iff_lt_or_eq.1 hp with h | rfl
                · exact HNO.out p h
                · rintro ⟨h1, h2⟩
                  have := HYY.out
                  rw [(HD.out m).2 h1, h2] at this
                  cases this
              clear HNO HYY HY HN
              by_cases hlt : k < n
              · obtain h0 | ⟨b, off, rfl, hc⟩ := HVC.out
                · omega
                have c1 := hc k hlt
                have HC : Hid (Calls Try.prog 37 #[.slice a m ca, .slice (some ⟨ga, 0, none⟩) (m + 1) (m + 1), .slice (some ⟨gb, 0, none⟩) (m + 1) (m + 1), .int .i32 (V k)] wc (Wrote gb m (closeB P (rawB P (V k) D)) wc)) := HTS.out wc ga gb D T (V k) HT2.out
                have HNX : Hid (∀ j, closeB P (rawB P (V k) D) j = true ↔ NSet (fun a => bB a = true ∧ a < k + 1) V n P (k + 1) j) := fun j => by
                  rw [next_set (fun a ha => ha.2) hlt HD.out j]
                  exact nset_upto fun a ha => ⟨fun h => ⟨h.1, by have := h.2; omega⟩, fun h => ⟨h.1, by have := h.2; omega⟩⟩
                clear hc HD HVC HTS
                go_wp2_with fail
                refine Calls.mono HC.out ?_
                rintro e w2 ⟨rfl, ho, hB⟩
                have H2 : Hid (Two w w2 m gb ga (closeB P (rawB P (V k) D)) D) := HT2.out.stepped ho hB
                clear ho hB HC c1
                go_wp2_with fail
                go_roundw
                case rel => exact ⟨k + 1, gb, ga, _, _, by omega, rfl, rfl, by go_num, H2.out, fun _ => HNX.out, HNO2.out⟩
                case measure => simp [intOf]; omega
              · obtain rfl : k = n := by omega
                clear HD HVC HTS
                go_wp2_with fail
                go_roundw
                case rel => exact ⟨k + 1, ga, gb, _, _, by omega, rfl, rfl, by go_num, HT2.out, fun h => by omega, HNO2.out⟩
                case measure => simp [intOf]
            · have h12 : D m = true ∧ bE k = true := by simpa using HYY.out
              have HP : Hid (Post (.returned (.bool true)) wc) := HY.out k wc hkn ((HD.out m).1 h12.1) h12.2 HT2.out.bel
              clear HYY HY HN HNO HD HVC HTS h12
              go_wp2_with fail
              exact HP.out
    · obtain rfl : k = n + 1 := by omega
      have HP : Hid (Post (.returned (.bool false)) wr) := HN.out wr (fun p hp => HNO.out p (by omega)) hT.bel
      clear HN HY HNO HTS HTC hT hS
      go_wp2_with fail
      exact HP.out
end Go.Proofs.Qxb6601041a
