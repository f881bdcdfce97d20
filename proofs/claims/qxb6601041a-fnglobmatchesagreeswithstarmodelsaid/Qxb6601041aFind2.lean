/- (*run).find: the walk. -/
import Derived.Test.Qxb6601041aFind1
import Derived.Test.Qxb6601041aOrders
namespace Go.Proofs.Qxb6601041a
open Go.RowKit

/-- The scratch holds the bits P, and nothing else has turned. -/
def SInv (g sc W : Nat) (w1 : World) (P : Nat → Prop) (id : Bool) (wr : World) : Prop :=
  ∃ (S : Nat → Nat) (f : Nat → Value), OnlyAt g w1 wr ∧ wr.rowIs g 65 sc f ∧ (∀ i, i < W → f i = .int .u64 (S i : Nat)) ∧ Bits W S P ∧ (id = true → ∀ i, i < W → S i = 0)

theorem step_word (x c k : Nat) (hc : c < 2 ^ 64) (hk : k < 2 ^ 64) :
    bits BinOp.and IntKind.u64 (bits BinOp.or IntKind.u64 (IntKind.u64.wrap ((x : Int) * 2)) (c : Int)) (k : Int) = (stepW x c k : Nat) := by
  have e1 : IntKind.u64.wrap ((x : Int) * 2) = ((x * 2 % 2 ^ 64 : Nat) : Int) := by
    rw [IntKind.wrap_u64]; omega
  have h1 : x * 2 % 2 ^ 64 < 2 ^ 64 := Nat.mod_lt _ (by decide)
  rw [e1, bits_or_u64_nat _ _ (by omega) (by omega)]
  have h2 : x * 2 % 2 ^ 64 ||| c < 2 ^ 64 := Nat.or_lt_two_pow h1 hc
  rw [bits_and_u64_nat _ _ (by omega) (by omega)]
  rfl

/-- Within one character: the first t words have been stepped. -/
def Inner (g sc W : Nat) (w1 : World) (S Nw : Nat → Nat) (t : Nat) (ib : Bool) (wr : World) : Prop :=
  ∃ f : Nat → Value, OnlyAt g w1 wr ∧ wr.rowIs g 65 sc f ∧ (∀ i, i < t → f i = .int .u64 (Nw i : Nat)) ∧ (∀ i, t ≤ i → i < W → f i = .int .u64 (S i : Nat)) ∧ (ib = true → ∀ i, i < t → Nw i = 0)

/-- The facts of the search, in plain numbers, for a walk: PE the bits, NF 'no fit so far', Post what is to be shown. -/
structure Law (m n fr : Nat) (V : Nat → Int) (C : Nat → Int) (y : Int) (PE : Nat → Nat → Prop) (NF : Nat → Prop) (oS oE : Nat → Bool) (FoB : World → Prop) (Post : Ending → World → Prop) : Prop where
  start : (∀ p, ¬ PE fr p) ∧ NF fr
  skip : ∀ j j', j ≤ j' → (∀ p, ¬ PE j p) → NF j → (y != -1) = true → (∀ t, j ≤ t → t < j' → V t ≠ y) → (∀ p, ¬ PE j' p) ∧ NF j'
  done : ∀ j wr, n ≤ j → NF j → FoB wr → Post (.returned (.tuple #[.int .i64 0, .bool false])) wr
  step : ∀ j p, j < n → fr ≤ j → (PE (j + 1) p ↔ (if p = 0 then oS j = true else PE j (p - 1)) ∧ (p < m ∧ fitc (C p) (V j) = true))
  hit : ∀ j wr, NF j → PE (j + 1) (m - 1) → oE (j + 1) = true → FoB wr → Post (.returned (.tuple #[.int .i64 ((j : Int) + 1), .bool true])) wr
  miss : ∀ j, NF j → ¬ (PE (j + 1) (m - 1) ∧ oE (j + 1) = true) → NF (j + 1)
  bound : ∀ j p, PE j p → p < m

theorem law_of {bf : Nat} {va : Option Addr} {vc : Nat} {wa : Option Addr} {wk : Nat} {cs vs : List Int} {bs : List Bool} {starts ends : Bool} {fr m n : Nat} {w : World} (hm : m = cs.length) (hn : n = vs.length) (h0 : 0 < m) :
    Law m n fr (fun k => vs.getD k 0) (fun k => cs.getD k 0) (cs.getD 0 0) (Pe m n fr (fun k => cs.getD k 0) (fun k => vs.getD k 0) (okS starts bs)) (NoFit m n fr (fun k => cs.getD k 0) (fun k => vs.getD k 0) (okS starts bs) (okE ends bs n)) (okS starts bs) (okE ends bs n)
      (fun wr => (∃ sa sl sc, Fo wr bf va vc wa wk sa sl sc vs bs) ∧ Below bf w wr) (FindGot bf va vc wa wk cs vs bs starts ends fr w) := by
  subst hm hn
  refine ⟨⟨pe_start, nofit_start h0⟩, ?_, ?_, fun j p hj hf => pe_step hj hf h0 p, ?_, fun j h1 h2 => miss h0 h1 h2, fun j p h => h.1⟩
  · intro j j' hj hp hn hy ht
    have hl : ∀ t, j ≤ t → t < j' → fitc (cs.getD 0 0) (vs.getD t 0) = false := fun t h1 h2 => by
      have h3 := ht t h1 h2
      have h4 : cs.getD 0 0 ≠ -1 := by simpa using hy
      unfold fitc
      simp only [Bool.or_eq_false_iff, beq_eq_false_iff_ne]
      exact ⟨h4, fun h => h3 h.symm⟩
    exact ⟨skip_pe hp hj hl, skip_nofit h0 hp hn hl⟩
  · intro j wr hj hn hF
    exact ⟨none, rfl, fun s => nofit_end hn hj s, hF.2, hF.1⟩
  · intro j wr hn hp he hF
    obtain ⟨h1, h2, h3⟩ := Go.Proofs.Qxb6601041a.hit h0 hn hp he
    exact ⟨some (j + 1), by simp, ⟨j + 1 - cs.length, by omega, h2, h3⟩, hF.2, hF.1⟩

set_option maxHeartbeats 8000000 in
set_option maxRecDepth 1000000 in
set_option linter.unusedVariables false in
theorem find_full (w : World) (br bf : Nat) (gap : Int) (pc : Option Addr) (kc W : Nat) (pl : Option Addr) (kl : Nat) (pm : Option Addr) (km : Nat) (cs mk : List Int) (va : Option Addr) (vc : Nat) (wa : Option Addr) (wk : Nat) (sa : Option Addr) (sl sc : Nat) (vs : List Int) (bs : List Bool)
    (hR : RunIn w br bf gap pc kc W pl kl pm km cs mk) (hF : Fo w bf va vc wa wk sa sl sc vs bs) (hbr : bf < br) (hbs : blockOf sa ≠ some br) (hm0 : 0 < cs.length) (hn : vs.length ≤ 1024) (hbl : bs.length = vs.length) (fr : Nat) (hfr : fr ≤ 9223372036854775807) (starts ends : Bool) :
    Calls Try.prog 39 #[.pointer (some ⟨br, 0, none⟩), .pointer (some ⟨bf, 0, none⟩), .int .i64 fr, .bool starts, .bool ends] w (FindGot bf va vc wa wk cs vs bs starts ends fr w) := by
  have hbrl : br < w.heap.size := (Array.getElem?_eq_some_iff.1 hR.blk).1
  have hW0 : 0 < W := by have := hR.wid; omega
  have hW16 : W ≤ 16 := by have := hR.wid; have := hR.len; omega
  have HST : Hid (Calls Try.prog 46 #[.pointer (some ⟨bf, 0, none⟩), .int .i64 W] w (StateGot bf va vc wa wk sa vs bs W w)) := state_any w bf va vc wa wk sa sl sc vs bs hF W hW0 (by omega)
  have a1 : w.cell? ⟨br, 1, none⟩ = some (.slice pc cs.length kc) := by simp [World.cell?, hR.blk]
  have a2 : w.cell? ⟨br, 2, none⟩ = some (.int .i64 W) := by simp [World.cell?, hR.blk]
  have a3 : w.cell? ⟨bf, 0, none⟩ = some (.slice va vs.length vc) := hF.toR.c0
  have HR : Hid (RunIn w br bf gap pc kc W pl kl pm km cs mk) := hR
  have hcv : vs.length ≤ vc := hF.cv
  obtain ⟨m, hm⟩ : ∃ m, m = cs.length := ⟨_, rfl⟩
  obtain ⟨n, hn'⟩ : ∃ n, n = vs.length := ⟨_, rfl⟩
  have HMN : Hid (m = cs.length ∧ n = vs.length ∧ bs.length = vs.length) := ⟨hm, hn', hbl⟩
  have HWm : Hid (W = (m + 63) / 64) := by show W = (m + 63) / 64; rw [hm]; exact hR.wid
  have hm24 : m ≤ 1024 := by rw [hm]; exact hR.len
  rw [← hm] at a1 hm0
  rw [← hn'] at a3 hn hcv
  have hmz : ((m : Int) == 0) = false := by simp; omega
  have hlaw := law_of (bf := bf) (va := va) (vc := vc) (wa := wa) (wk := wk) (bs := bs) (starts := starts) (ends := ends) (fr := fr) (w := w) hm hn' hm0
  have HS : Hid (∀ i, okS starts bs i = (!starts || beginsAt bs i)) := fun i => rfl
  have HT : Hid (∀ i, okE ends bs n i = (!ends || endsAt bs n i)) := fun i => rfl
  obtain ⟨V, hV⟩ : ∃ V : Nat → Int, V = fun k => vs.getD k 0 := ⟨_, rfl⟩
  obtain ⟨C, hC⟩ : ∃ C : Nat → Int, C = fun k => cs.getD k 0 := ⟨_, rfl⟩
  obtain ⟨y, hy⟩ : ∃ y, y = cs.getD 0 0 := ⟨_, rfl⟩
  rw [← hV, ← hC, ← hy] at hlaw
  have HV : Hid (∀ j, V j = vs.getD j 0) := fun j => by rw [hV]
  have HC : Hid (∀ j, C j = cs.getD j 0) := fun j => by rw [hC]
  have HYL : Hid (y = cs.getD 0 0) := hy
  generalize Pe m n fr C V (okS starts bs) = PE at hlaw
  generalize NoFit m n fr C V (okS starts bs) (okE ends bs n) = NF at hlaw
  generalize okS starts bs = oS at hlaw HS
  generalize okE ends bs n = oE at hlaw HT
  have HFB : Hid (∀ wr, ((∃ sa sl sc, Fo wr bf va vc wa wk sa sl sc vs bs) ∧ Below bf w wr) → (fun wr => (∃ sa sl sc, Fo wr bf va vc wa wk sa sl sc vs bs) ∧ Below bf w wr) wr) := fun _ h => h
  generalize (fun wr => (∃ sa sl sc, Fo wr bf va vc wa wk sa sl sc vs bs) ∧ Below bf w wr) = FoB at hlaw HFB
  generalize FindGot bf va vc wa wk cs vs bs starts ends fr w = Post at hlaw ⊢
  have HF : Hid (Fo w bf va vc wa wk sa sl sc vs bs) := hF
  have HBS : Hid (blockOf sa ≠ some br) := hbs
  have hTw := two_pow_u64 (m - 1)
  obtain ⟨T, hT⟩ : ∃ T, T = 2 ^ ((m - 1) % 64) := ⟨_, rfl⟩
  rw [← hT] at hTw
  have HTT : Hid (T = 2 ^ ((m - 1) % 64)) := hT
  obtain ⟨hTw, hT64⟩ := hTw
  obtain ⟨V1, hV1⟩ : ∃ V1 : Nat, W = V1 + 1 := ⟨W - 1, by omega⟩
  have hV1' : (W : Int) - 1 = (V1 : Int) := by omega
  have HV1 : Hid (W = V1 + 1) := hV1
  clear hR hF hm hn' hbl hbs hV hC hy hT hV1
  go_enter Try.func39, Try.ntmps39
  go_wp2_with fail
  refine HST.out.mono ?_
  clear HST
  rintro e w1 ⟨g, sc', f, rfl, hWs, hF1, hgf, hrow, hz, hb1, hoth, hat⟩
  have hne : br ≠ g := by
    rintro rfl
    rcases hat with h | h
    · exact HBS.out h
    · omega
  have HSee : Hid (∀ wr, OnlyAt g w1 wr → See wr br bf pc kc W pl kl pm km cs mk va vc wa wk vs bs) := see_of HR.out hF1 hb1 (hoth br hbrl (by omega) hne) hgf hne
  have HI : Hid (∀ P, (∀ p, ¬ P p) → ∀ q, SInv g sc' W w1 P true (w1.drewN q)) := fun P hP q => ⟨fun _ => 0, f, (OnlyAt.refl _ _).drewN q, hrow, fun i hi => hz i hi, bits_zero W P hP, fun _ _ _ => rfl⟩
  have HFo : Hid (∀ wr f, OnlyAt g w1 wr → wr.rowIs g 65 sc' f → FoB wr) := fun wr f h1 h2 => HFB.out wr ⟨⟨_, _, _, fo_only hF1 hgf h1 h2⟩, hb1.trans (h1.1.mono (by omega))⟩
  have CB : Hid (∀ wr i, OnlyAt g w1 wr → i ≤ n → Calls Try.prog 44 #[.pointer (some ⟨bf, 0, none⟩), .int .i64 (i : Nat)] wr (Says (beginsAt bs i) wr)) := fun wr i h hi => begins_any wr bf va vc wa wk vs bs (HSee.out wr h).fo i (by have := HMN.out; omega) (by have := HMN.out; omega)
  have CE : Hid (∀ wr i, OnlyAt g w1 wr → i ≤ n → Calls Try.prog 45 #[.pointer (some ⟨bf, 0, none⟩), .int .i64 (i : Nat)] wr (Says (endsAt bs n i) wr)) := fun wr i h hi => by
    have h3 := ends_any wr bf va vc wa wk vs bs (HSee.out wr h).fo i (by have := HMN.out; omega) HMN.out.2.2 (by have := HMN.out; omega)
    rw [← HMN.out.2.1] at h3
    exact h3
  have CM : Hid (∀ wr c, OnlyAt g w1 wr → Calls Try.prog 48 #[.pointer (some ⟨br, 0, none⟩), .int .i32 c] wr (MaskGot W pm cs mk c wr)) := fun wr c h => by
    have s := HSee.out wr h
    have hr := HR.out
    exact mask_any wr br W kl km pl pm cs mk c s.b2 s.b3 s.b4 s.rows.2.1 hr.mask.len hr.cap (Nat.le_trans (litsOf_length _) hr.len) hr.mlen
  have CI : Hid (∀ wr j, OnlyAt g w1 wr → j ≤ n → Calls Try.prog 47 #[.slice (if vc = j then va else va.map fun x => x.add j) (n - j) (vc - j), .int .i32 y] wr (Indexed (vs.drop j) y wr)) := fun wr j h hj => by
    have s := HSee.out wr h
    have hr := s.fo.rv.part (c := vc) (lo := j) (hi := n) (by have := HMN.out; omega) hj (by have := HMN.out; omega)
    have e : (vs.drop j).take (n - j) = vs.drop j := List.take_of_length_le (by have := HMN.out; simp; omega)
    rw [e] at hr
    have h3 := index_any _ (vc - j) (vs.drop j) y wr (by have := HMN.out; simp; omega) hr
    have e2 : (vs.drop j).length = n - j := by have := HMN.out; simp; omega
    rw [e2] at h3
    exact h3
  clear hF1 hrow hz hb1 hoth hat HBS HF a1 a2 a3 HFB
  generalize beginsAt bs = bS at CB HS
  generalize endsAt bs n = bE at CE HT
  obtain ⟨d1, d2, d3, d4, dfo, drows⟩ := HSee.out w1 (OnlyAt.refl _ _)
  have d0 := dfo.c0
  rw [← HMN.out.1] at d1
  rw [← HMN.out.2.1] at d0
  clear dfo d3 d4
  obtain h0 | ⟨b0, o0, hpc, hcc⟩ := drows.1
  · have := HMN.out.1; rw [h0] at this; simp at this; omega
  subst hpc
  have e0 := hcc 0 (by have := HMN.out.1; omega)
  rw [Nat.add_zero, ← HYL.out] at e0
  clear hcc drows
  go_wp2_with fail
  go_quiet (fail)
  go_wp2_with fail
  rw [hTw]
  clear d0 d1 d2 e0 hTw
  go_loopw [18, 19] (fun id j wr => ∃ (ib : Bool) (jj : Nat), id = .bool ib ∧ j = .int .i64 jj ∧ fr ≤ jj ∧ (jj ≤ n ∨ jj = fr) ∧ Hid (SInv g sc' W w1 (PE jj) ib wr ∧ NF jj)) (fun _ j _ => n - (intOf j).toNat)
  case atStart => exact ⟨true, fr, rfl, rfl, Nat.le_refl _, .inr rfl, HI.out _ hlaw.start.1 _, hlaw.start.2⟩
  case round =>
    obtain ⟨ib, jj, rfl, rfl, hj1, hj2, HIN⟩ := hrel
    clear HI
    by_cases hjn : jj < n
    · go_upto_region 15 with fail
      obtain ⟨lz, hlz⟩ : ∃ lz, (y != -1) = lz := ⟨_, rfl⟩
      have HLZ : Hid ((y != -1) = lz) := hlz
      go_cut [94] (fun b wx => b = .bool (ib && lz) ∧ wx = wr)
      case first =>
        cases ib
        · go_wp2_with fail
          go_meet
          case rel => exact ⟨rfl, rfl⟩
        · go_wp2_with fail
          go_meet
          case rel => exact ⟨by simp, rfl⟩
      case rest =>
        obtain ⟨rfl, hwr⟩ := hcut
        have hwr := hwr.symm
        subst hwr
        clear hlz
        go_upto_if 94 with fail
        go_cut [19] (fun s wx => ∃ j' : Nat, s = .int .i64 j' ∧ fr ≤ j' ∧ j' < n ∧ jj ≤ j' ∧ Hid (SInv g sc' W w1 (PE j') ib wx ∧ NF j'))
        case first =>
          obtain ⟨b, hb⟩ : ∃ b, (ib && lz) = b := ⟨_, rfl⟩
          have HBB : Hid ((ib && lz) = b) := hb
          rw [hb]
          clear hb
          cases b
          · go_wp2_with fail
            go_meet
            case rel => exact ⟨jj, rfl, hj1, hjn, Nat.le_refl _, HIN⟩
          · obtain ⟨hi1, hl1⟩ : ib = true ∧ lz = true := by simpa using HBB.out
            subst hi1 hl1
            have HO : Hid (OnlyAt g w1 wr) := by obtain ⟨⟨S, f, h1, _⟩, _⟩ := HIN.out; exact h1
            have v0 := (HSee.out wr HO.out).fo.c0
            rw [← HMN.out.2.1] at v0
            have HCI := CI.out wr jj HO.out (by omega)
            have HZ : Hid ((∀ p, ¬ PE jj p) ∧ NF jj) := by
              obtain ⟨⟨S, f, h1, h2, h3, h4, h5⟩, h6⟩ := HIN.out
              refine ⟨fun p hp => bits_none h4 (h5 rfl) p ?_ hp, h6⟩
              have := hlaw.bound jj p hp
              have := HWm.out
              omega
            have HFB : Hid (FoB wr) := by obtain ⟨⟨S, f, h1, h2, _⟩, _⟩ := HIN.out; exact HFo.out wr f h1 h2
            rw [if_neg (by omega)] at HCI
            have HCI' : Hid (Calls Try.prog 47 #[.slice (va.map fun x => x.add jj) (n - jj) (vc - jj), .int .i32 y] wr (Indexed (vs.drop jj) y wr)) := HCI
            have hjc : jj ≤ vc := by omega
            have hjn2 : jj ≤ n := by omega
            clear HCI CI CM CB CE
            go_wp2_with fail
            refine HCI'.out.mono ?_
            rintro e w' ⟨hw', hidx⟩
            have hw' := hw'.symm
            subst hw'
            rcases hidx with ⟨rfl, hno⟩ | ⟨k, rfl, hk1, hk2, hk3⟩
            · have HD : Hid (Post (.returned (.tuple #[.int .i64 0, .bool false])) wr) := by
                have h1 := hlaw.skip jj n (by omega) HZ.out.1 HZ.out.2 HLZ.out (fun t h2 h3 => by
                  have h4 := hno (t - jj) (by simp; have := HMN.out.2.1; omega)
                  rw [HV.out]
                  have h5 : jj + (t - jj) = t := by omega
                  simpa [List.getD, List.getElem?_drop, h5] using h4)
                exact hlaw.done n wr (Nat.le_refl _) h1.2 HFB.out
              clear hno
              go_wp2_with fail
              exact HD.out
            · have hkn : jj + k < n := by have := HMN.out.2.1; simp at hk1; omega
              have HD : Hid ((∀ p, ¬ PE (jj + k) p) ∧ NF (jj + k)) := hlaw.skip jj (jj + k) (by omega) HZ.out.1 HZ.out.2 HLZ.out (fun t h2 h3 => by
                have h4 := hk3 (t - jj) (by omega)
                rw [HV.out]
                have h5 : jj + (t - jj) = t := by omega
                simpa [List.getD, List.getElem?_drop, h5] using h4)
              have HSI : Hid (SInv g sc' W w1 (PE (jj + k)) true wr ∧ NF (jj + k)) := by
                obtain ⟨⟨S, f, h1, h2, h3, h4, h5⟩, h6⟩ := HIN.out
                refine ⟨⟨S, f, h1, h2, h3, h4.congr fun p => ?_, h5⟩, HD.out.2⟩
                exact ⟨fun h => absurd h (HZ.out.1 p), fun h => absurd h (HD.out.1 p)⟩
              clear hk1 hk2 hk3
              go_wp2_with fail
              go_meet
              case rel => exact ⟨jj + k, by go_num, by omega, hkn, by omega, HSI⟩
        case rest =>
          obtain ⟨j, rfl, hf1, hf2, hf3, HI2⟩ := hcut
          clear HIN HLZ CI
          obtain ⟨w4, hw4⟩ : ∃ w4, w4 = wc := ⟨_, rfl⟩
          subst hw4
          have HO : Hid (OnlyAt g w1 w4) := by obtain ⟨⟨S, f, h1, _⟩, _⟩ := HI2.out; exact h1
          go_upto_region 21 with fail
          go_cut [114] (fun b wx => b = .bool (oS j) ∧ ∃ q, wx = w4.drewN q)
          case first =>
            have hS := HS.out j
            have HSS : Hid (∀ a, (!starts || bS j) = a → Value.bool a = .bool (oS j)) := fun a h1 => by rw [hS, h1]
            clear hS HS
            cases starts
            · go_wp2_with fail
              go_meet
              case rel => exact ⟨HSS.out true rfl, 0, rfl⟩
            · go_wp2_with fail
              refine (CB.out w4 j HO.out (by omega)).mono ?_
              rintro e w' ⟨rfl, q', rfl⟩
              go_wp2_with fail
              go_meet
              case rel => exact ⟨HSS.out _ (by simp), _, rfl⟩
          case rest =>
            obtain ⟨rfl, q, rfl⟩ := hcut
            replace HI2 : Hid (SInv g sc' W w1 (PE j) ib (w4.drewN q) ∧ NF j) := by
              obtain ⟨⟨S, f, h1, h2, h3, h4, h5⟩, h6⟩ := HI2.out
              exact ⟨⟨S, f, h1.drewN q, h2, h3, h4, h5⟩, h6⟩
            replace HO : Hid (OnlyAt g w1 (w4.drewN q)) := HO.out.drewN q
            generalize w4.drewN q = w5 at HI2 HO ⊢
            clear HS CB
            go_upto_if 114 with fail
            go_cut [21] (fun s wx => ∃ c0 : Nat, s = .int .u64 (c0 : Nat) ∧ c0 ≤ 1 ∧ (c0 = 1 ↔ oS j = true) ∧ wx = w5)
            case first =>
              cases hb : oS j
              · go_wp2_with fail
                go_meet
                case rel => exact ⟨0, rfl, by omega, by rw [hb]; simp, rfl⟩
              · go_wp2_with fail
                go_meet
                case rel => exact ⟨1, rfl, by omega, by rw [hb]; simp, rfl⟩
            case rest =>
              obtain ⟨c0, rfl, hc0, hc1, hw5⟩ := hcut
              have hw5 := hw5.symm
              subst hw5
              have HC0 : Hid (c0 = 1 ↔ oS j = true) := hc1
              clear hc1
              obtain ⟨⟨S, f5, ho5, hrow5, hf5, hbits5, _⟩, hnf5⟩ := HI2.out
              have HST : Hid (Bits W S (PE j) ∧ NF j) := ⟨hbits5, hnf5⟩
              have HIN5 : Hid (∀ Nw q, Inner g sc' W w1 S Nw 0 true (w5.drewN q)) := fun Nw q => ⟨f5, ho5.drewN q, hrow5, fun i hi => absurd hi (Nat.not_lt_zero _), fun i _ hi => hf5 i hi, fun _ i hi => absurd hi (Nat.not_lt_zero _)⟩
              have s5 := HSee.out w5 HO.out
              have v0 := s5.fo.c0
              rw [← HMN.out.2.1] at v0
              obtain h0 | ⟨bv, ov, hva, hcv5⟩ := s5.fo.rv
              · have := HMN.out.2.1; rw [h0] at this; simp at this; omega
              have v1 := hcv5 j (by have := HMN.out.2.1; omega)
              rw [← HV.out] at v1
              have HCM : Hid (Calls Try.prog 48 #[.pointer (some ⟨br, 0, none⟩), .int .i32 (V j)] w5 (MaskGot W pm cs mk (V j) w5)) := CM.out w5 (V j) HO.out
              have HRM : Hid (∀ wr, OnlyAt g w1 wr → Row .u64 wr pm mk) := fun wr h => (HSee.out wr h).rows.2.2
              have HMB : Hid (Bits W (fun i => (mk.getD (rowOf cs (V j) * W + i) 0).toNat) (fun p => p < m ∧ fitc (C p) (V j) = true)) := by
                have h1 := mask_row HR.out.mask (V j)
                rw [← HMN.out.1] at h1
                exact h1.congr fun p => by rw [HC.out]
              have HML : Hid (∀ i, i < W → rowOf cs (V j) * W + i < mk.length ∧ 0 ≤ mk.getD (rowOf cs (V j) * W + i) 0) := fun i hi => by
                have h1 : rowOf cs (V j) * W + i < mk.length := by rw [HR.out.mask.len]; exact row_lt hi (rowOf_le _ _)
                exact ⟨h1, (HR.out.mask.rng _ h1).1⟩
              have hva' := hva
              clear HI2 ho5 hrow5 hf5 hbits5 hnf5 s5 hcv5 CM HSee HR
              subst hva'
              go_wp2_with fail
              refine HCM.out.mono ?_
              rintro e w6 ⟨pk, ck, rfl, hck, ⟨q6, rfl⟩, hmr⟩
              have HW : Hid (((mk.drop (rowOf cs (V j) * W)).take W).length = W ∧ ∀ i, i < W → ((mk.drop (rowOf cs (V j) * W)).take W).getD i 0 = mk.getD (rowOf cs (V j) * W + i) 0) := by
                have h1 := (HML.out (W - 1) (by omega)).1
                refine ⟨by simp; omega, fun i hi => ?_⟩
                simp [List.getD, hi, List.getElem?_drop]
              obtain h0 | ⟨b6, o6, hpk, _⟩ := hmr w5 (HRM.out w5 HO.out)
              · have := HW.out.1; rw [h0] at this; simp at this; omega
              subst hpk
              have HMR : Hid (∀ wr, OnlyAt g w1 wr → ∀ i, i < W → wr.cell? ⟨b6, o6 + i, none⟩ = some (.int .u64 ((mk.getD (rowOf cs (V j) * W + i) 0).toNat : Nat))) := fun wr h i hi => by
                obtain h0 | ⟨b7, o7, hpk, hc7⟩ := hmr wr (HRM.out wr h)
                · have := HW.out.1; rw [h0] at this; simp at this; omega
                · simp only [Option.some.injEq, Addr.mk.injEq, and_true] at hpk
                  obtain ⟨rfl, rfl⟩ := hpk
                  rw [hc7 i (by rw [HW.out.1]; exact hi), HW.out.2 i hi, Int.toNat_of_nonneg (HML.out i hi).2]
              obtain ⟨Mk, hMk⟩ : ∃ Mk : Nat → Nat, Mk = fun i => (mk.getD (rowOf cs (V j) * W + i) 0).toNat := ⟨_, rfl⟩
              rw [← hMk] at HMB
              replace HMR : Hid (∀ wr, OnlyAt g w1 wr → ∀ i, i < W → wr.cell? ⟨b6, o6 + i, none⟩ = some (.int .u64 (Mk i : Nat))) := by rw [hMk]; exact HMR
              obtain ⟨Nw, hNw⟩ : ∃ Nw : Nat → Nat, Nw = fun i => stepW (S i) (carryW c0 S i) (Mk i) := ⟨_, rfl⟩
              have HNB : Hid (Bits W Nw (PE (j + 1))) := by
                have h1 := step_bits (c0 := c0) HST.out.1 HMB.out hc0
                rw [← hNw] at h1
                refine h1.congr fun p => ?_
                rw [hlaw.step j p hf2 hf1]
                by_cases hp : p = 0
                · subst hp
                  rw [if_pos rfl, if_pos rfl, HC0.out]
                · rw [if_neg hp, if_neg hp]
              have HNw : Hid (∀ i, Nw i = stepW (S i) (carryW c0 S i) (Mk i)) := fun i => by rw [hNw]
              have HSb : Hid (∀ i, i < W → S i < 2 ^ 64 ∧ Mk i < 2 ^ 64) := fun i hi => ⟨(HST.out.1 i hi).1, (HMB.out i hi).1⟩
              have HNF : Hid (NF j) := HST.out.2
              replace HIN5 : Hid (∀ q, Inner g sc' W w1 S Nw 0 true (w5.drewN q)) := HIN5.out Nw
              have hcw : carryW c0 S 0 = c0 := rfl
              clear hmr HW HML HMB HRM HCM HST hMk hNw v0 v1 HO
              go_wp2_with fail
              go_loopw [18, 21, 129] (fun id cy ix wr => ∃ (t : Nat) (ib' : Bool), ix = .int .i64 t ∧ t ≤ W ∧ id = .bool ib' ∧ cy = .int .u64 (carryW c0 S t : Nat) ∧ Hid (Inner g sc' W w1 S Nw t ib' wr)) (fun _ _ ix _ => W - (intOf ix).toNat)
              case atStart => exact ⟨0, true, rfl, Nat.zero_le _, rfl, by rw [hcw], HIN5.out _⟩
              case round =>
                obtain ⟨t, ib', rfl, ht, rfl, rfl, HIR⟩ := hrel
                clear HIN5
                by_cases htW : t < W
                · obtain ⟨f7, h71, h72, h73, h74, h75⟩ := HIR.out
                  have e1 : wr.cell? ⟨g, t, none⟩ = some (.int .u64 (S t : Nat)) := by rw [h72.cell (by omega), h74 t (Nat.le_refl _) htW]
                  have z1 := h72.frozen t
                  have e2 := HMR.out wr h71 t htW
                  obtain ⟨hx64, hk64⟩ := HSb.out t htW
                  have hcl : carryW c0 S t ≤ 1 := by
                    unfold carryW
                    split
                    · exact hc0
                    · exact (top63 _ (HSb.out (t - 1) (by omega)).1).1
                  have HH : Hid (OnlyAt g w1 wr ∧ wr.rowIs g 65 sc' f7 ∧ (∀ i, i < t → f7 i = .int .u64 (Nw i : Nat)) ∧ (∀ i, t ≤ i → i < W → f7 i = .int .u64 (S i : Nat)) ∧ (ib' = true → ∀ i, i < t → Nw i = 0)) := ⟨h71, h72, h73, h74, h75⟩
                  obtain ⟨x, hx⟩ : ∃ x, S t = x := ⟨_, rfl⟩
                  obtain ⟨k, hk⟩ : ∃ k, Mk t = k := ⟨_, rfl⟩
                  obtain ⟨c, hc⟩ : ∃ c, carryW c0 S t = c := ⟨_, rfl⟩
                  have HX : Hid (S t = x ∧ Mk t = k ∧ carryW c0 S t = c) := ⟨hx, hk, hc⟩
                  rw [hx] at e1 hx64
                  rw [hk] at e2 hk64
                  rw [hc] at hcl ⊢
                  clear h71 h72 h73 h74 h75 hx hk hc HIR
                  go_upto_region 29 with fail
                  obtain ⟨z, hz⟩ : ∃ z, z = stepW x c k := ⟨_, rfl⟩
                  have HZ : Hid (z = stepW x c k) := hz
                  have hz1 : bits BinOp.and IntKind.u64 (bits BinOp.or IntKind.u64 (IntKind.u64.wrap ((x : Int) * 2)) (c : Int)) (k : Int) = (z : Int) := by
                    rw [hz]
                    exact step_word x c k (by omega) hk64
                  clear hz
                  go_cut [18] (fun s wx => s = .bool ib' ∧ ∃ q, wx = (wr.setCell ⟨g, t, none⟩ (.int .u64 (z : Nat))).drewN q)
                  case first =>
                    refine wp_region_K (fun w' => w'.cell? ⟨g, t, none⟩ = some (.int .u64 (x : Nat)) ∧ w'.cell? ⟨b6, o6 + t, none⟩ = some (.int .u64 (k : Nat))) (fun j => j == 15) (by kernel_rfl) ?_
                    have hSw : wr.cell? ⟨g, t, none⟩ = some (.int .u64 (x : Nat)) ∧ wr.cell? ⟨b6, o6 + t, none⟩ = some (.int .u64 (k : Nat)) := ⟨e1, e2⟩
                    refine wpAnyK_take (i := 0) (v := ?v0) rfl (by kernel_rfl) (by kernel_rfl) (by kernel_rfl) (by kernel_rfl) (fun _ _ _ h => h) (Or.inl ⟨by rfl, ?y0⟩) hSw ?r0
                    case y0 => (intro wq hq; obtain ⟨s0, s1⟩ := hq; go_simp; try with_reducible rfl)
                    refine wpAnyK_take (i := 1) (v := ?v1) rfl (by kernel_rfl) (by kernel_rfl) (by kernel_rfl) (by kernel_rfl) (fun _ _ _ h => h) (Or.inl ⟨by rfl, ?y1⟩) hSw ?r1
                    case y1 => (intro wq hq; obtain ⟨s0, s1⟩ := hq; go_simp; try with_reducible rfl)
                    refine wpAnyK_take (i := 2) (v := ?v2) rfl (by kernel_rfl) (by kernel_rfl) (by kernel_rfl) (by kernel_rfl) (fun _ _ _ h => h) (Or.inl ⟨by rfl, ?y2⟩) hSw ?r2
                    case y2 => (intro wq hq; obtain ⟨s0, s1⟩ := hq; go_simp; try with_reducible rfl)
                    refine wpAnyK_take (i := 3) (v := ?v3) rfl (by kernel_rfl) (by kernel_rfl) (by kernel_rfl) (by kernel_rfl) (fun _ _ _ h => h) (Or.inl ⟨by rfl, ?y3⟩) hSw ?r3
                    case y3 => (intro wq hq; obtain ⟨s0, s1⟩ := hq; go_simp; try with_reducible rfl)
                    refine wpAnyK_take (i := 4) (v := ?v4) rfl (by kernel_rfl) (by kernel_rfl) (by kernel_rfl) (by kernel_rfl) (fun _ _ _ h => h) (Or.inl ⟨by rfl, ?y4⟩) hSw ?r4
                    case y4 => (intro wq hq; obtain ⟨s0, s1⟩ := hq; go_simp; try with_reducible rfl)
                    refine wpAnyK_take (i := 5) (v := ?v5) rfl (by kernel_rfl) (by kernel_rfl) (by kernel_rfl) (by kernel_rfl) (fun _ _ _ h => h) (Or.inl ⟨by rfl, ?y5⟩) hSw ?r5
                    case y5 => (intro wq hq; obtain ⟨s0, s1⟩ := hq; go_simp; try with_reducible rfl)
                    refine wpAnyK_take (i := 6) (v := ?v6) rfl (by kernel_rfl) (by kernel_rfl) (by kernel_rfl) (by kernel_rfl) (fun _ _ _ h => h) (Or.inl ⟨by rfl, ?y6⟩) hSw ?r6
                    case y6 => (intro wq hq; obtain ⟨s0, s1⟩ := hq; go_simp; try with_reducible rfl)
                    refine wpAnyK_take (i := 7) (v := ?v7) rfl (by kernel_rfl) (by kernel_rfl) (by kernel_rfl) (by kernel_rfl) (fun _ _ _ h => h) (Or.inl ⟨by rfl, ?y7⟩) hSw ?r7
                    case y7 => (intro wq hq; obtain ⟨s0, s1⟩ := hq; go_simp; try with_reducible rfl)
                    refine wpAnyK_take (i := 8) (v := ?v8) rfl (by kernel_rfl) (by kernel_rfl) (by kernel_rfl) (by kernel_rfl) (fun _ _ _ h => h) (Or.inl ⟨by rfl, ?y8⟩) hSw ?r8
                    case y8 => (intro wq hq; obtain ⟨s0, s1⟩ := hq; go_simp; try with_reducible rfl)
                    refine wpAnyK_take (i := 9) (v := ?v9) rfl (by kernel_rfl) (by kernel_rfl) (by kernel_rfl) (by kernel_rfl) (fun _ _ _ h => h) (Or.inl ⟨by rfl, ?y9⟩) hSw ?r9
                    case y9 => (intro wq hq; obtain ⟨s0, s1⟩ := hq; go_simp; try with_reducible rfl)
                    refine wpAnyK_take (i := 10) (v := ?v10) rfl (by kernel_rfl) (by kernel_rfl) (by kernel_rfl) (by kernel_rfl) (fun _ _ _ h => h) (Or.inl ⟨by rfl, ?y10⟩) hSw ?r10
                    case y10 => (intro wq hq; obtain ⟨s0, s1⟩ := hq; go_simp; try with_reducible rfl)
                    refine wpAnyK_take (i := 11) (v := ?v11) rfl (by kernel_rfl) (by kernel_rfl) (by kernel_rfl) (by kernel_rfl) (fun _ _ _ h => h) (Or.inl ⟨by rfl, ?y11⟩) hSw ?r11
                    case y11 => (intro wq hq; obtain ⟨s0, s1⟩ := hq; go_simp; try with_reducible rfl)
                    refine wpAnyK_take (i := 12) (v := ?v12) rfl (by kernel_rfl) (by kernel_rfl) (by kernel_rfl) (by kernel_rfl) (fun _ _ _ h => h) (Or.inl ⟨by rfl, ?y12⟩) hSw ?r12
                    case y12 => (intro wq hq; obtain ⟨s0, s1⟩ := hq; go_simp; try with_reducible rfl)
                    refine wpAnyK_take (i := 13) (v := ?v13) rfl (by kernel_rfl) (by kernel_rfl) (by kernel_rfl) (by kernel_rfl) (fun _ _ _ h => h) (Or.inl ⟨by rfl, ?y13⟩) hSw ?r13
                    case y13 => (intro wq hq; obtain ⟨s0, s1⟩ := hq; go_simp; try with_reducible rfl)
                    refine wpAnyK_take (i := 14) (v := ?v14) rfl (by kernel_rfl) (by kernel_rfl) (by kernel_rfl) (by kernel_rfl) (fun _ _ _ h => h) (Or.inl ⟨by rfl, ?y14⟩) hSw ?r14
                    case y14 => (intro wq hq; obtain ⟨s0, s1⟩ := hq; go_simp; try with_reducible rfl)
                    refine wpAnyK_one (i := 15) (by kernel_rfl) rfl (fun K15 h15 => ?_)
                    go_simp
                    refine h15 _ _ (fun h => by cases h) ?_
                    clear h15 K15
                    refine wpAnyK_done (by kernel_rfl) ?_ _
                    go_wp2_with fail
                    go_meet
                    case rel => exact ⟨rfl, 1, rfl⟩
                  case rest =>
                    obtain ⟨rfl, q8, rfl⟩ := hcut
                    have e3 : (wr.setCell ⟨g, t, none⟩ (.int .u64 (z : Nat))).cell? ⟨g, t, none⟩ = some (.int .u64 (z : Nat)) := by
                      have h := (HH.out.2.1.set t (.int .u64 (z : Nat))).cell (i := t) (by omega)
                      rw [h]; simp
                    have hnx : (x : Int) / 9223372036854775808 = ((carryW c0 S (t + 1) : Nat) : Int) := by
                      rw [← HX.out.1]; simp [carryW]
                    have HNX : Hid (∀ ib2 q, (ib2 = (ib' && ((z : Int) == 0))) → Inner g sc' W w1 S Nw (t + 1) ib2 ((wr.setCell ⟨g, t, none⟩ (.int .u64 (z : Nat))).drewN q)) := fun ib2 q hib => by
                      obtain ⟨k1, k2, k3, k4, k5⟩ := HH.out
                      have hzN : z = Nw t := by rw [HZ.out, HNw.out t, HX.out.1, HX.out.2.1, HX.out.2.2]
                      refine ⟨_, (k1.set t _).drewN q, k2.set t (.int .u64 (z : Nat)), fun i hi => ?_, fun i hi hiW => ?_, fun h i hi => ?_⟩
                      · rcases Nat.lt_succ_iff_lt_or_eq.1 hi with h | rfl
                        · rw [if_neg (by omega)]; exact k3 i h
                        · rw [if_pos rfl, hzN]
                      · rw [if_neg (by omega)]; exact k4 i (by omega) hiW
                      · rw [h] at hib
                        have hb2 : ib' = true ∧ ((z : Int) == 0) = true := by simpa using hib.symm
                        rcases Nat.lt_succ_iff_lt_or_eq.1 hi with h | rfl
                        · exact k5 hb2.1 i h
                        · rw [← hzN]; have := hb2.2; simp at this; exact this
                    generalize wr.setCell ⟨g, t, none⟩ (.int .u64 (z : Nat)) = w8 at e3 HNX ⊢
                    clear e1 e2 z1 hz1 HH
                    obtain ⟨zb, hzb⟩ : ∃ zb, ((z : Int) == 0) = zb := ⟨_, rfl⟩
                    rw [hzb] at HNX
                    cases ib'
                    · go_wp2_with fail
                      go_roundw
                      case rel => exact ⟨t + 1, false, by go_num, by omega, rfl, by rw [hnx], HNX.out _ _ rfl⟩
                      case measure => simp [intOf]; omega
                    · go_wp2_with fail
                      go_roundw
                      case rel => exact ⟨t + 1, zb, by go_num, by omega, by simp, by rw [hnx], HNX.out _ _ (by simp)⟩
                      case measure => simp [intOf]; omega
                · have htW2 : t = W := by omega
                  subst htW2
                  obtain ⟨f9, h91, h92, h93, h94, h95⟩ := HIR.out
                  have e9 : wr.cell? ⟨g, V1, none⟩ = some (.int .u64 (Nw V1 : Nat)) := by
                    have := HV1.out
                    rw [h92.cell (by omega), h93 V1 (by omega)]
                  have HSI : Hid (∀ q, SInv g sc' t w1 (PE (j + 1)) ib' (wr.drewN q)) := fun q => ⟨Nw, f9, h91.drewN q, h92, fun i hi => h93 i hi, HNB.out, h95⟩
                  have HFB : Hid (∀ q, FoB (wr.drewN q)) := fun q => HFo.out _ f9 (h91.drewN q) h92
                  have HCE : Hid (Calls Try.prog 45 #[.pointer (some ⟨bf, 0, none⟩), .int .i64 ((j : Int) + 1)] wr (Says (bE (j + 1)) wr)) := by
                    have h := CE.out wr (j + 1) h91 (by omega)
                    rwa [show (((j + 1 : Nat)) : Int) = (j : Int) + 1 by simp] at h
                  obtain ⟨a, ha⟩ : ∃ a, a = Nw V1 &&& T := ⟨_, rfl⟩
                  have hV1W : V1 < t := by have := HV1.out; omega
                  have hu64 : Nw V1 < 2 ^ 64 := (HNB.out V1 hV1W).1
                  have ha1 : bits BinOp.and IntKind.u64 (Nw V1 : Int) (T : Int) = (a : Int) := by
                    rw [ha]; exact bits_and_u64_nat _ _ (by omega) (by omega)
                  obtain ⟨hh, hhh⟩ : ∃ hh, ((a : Int) != 0) = hh := ⟨_, rfl⟩
                  have HHH : Hid (hh = true ↔ PE (j + 1) (m - 1)) := by
                    have h := top_bit HNB.out hm0 HWm.out
                    rw [show t - 1 = V1 by have := HV1.out; omega, ← HTT.out, ← ha] at h
                    show hh = true ↔ PE (j + 1) (m - 1)
                    rw [← h, ← hhh]
                    simp
                  generalize Nw V1 = u at e9 ha1
                  clear h91 h92 h93 h94 h95 HIR HNB HNw HSb HMR ha hu64 CE HFo
                  go_upto_region 33 with fail
                  go_cut [178] (fun b wx => b = .bool (hh && oE (j + 1)) ∧ ∃ q, wx = wr.drewN q)
                  case first =>
                    have hT := HT.out (j + 1)
                    have HTS : Hid (∀ b, (!ends || bE (j + 1)) = b → Value.bool b = .bool (oE (j + 1))) := fun b h1 => by rw [hT, h1]
                    clear hT HT
                    cases hh
                    · go_wp2_with fail
                      go_meet
                      case rel => exact ⟨rfl, 0, rfl⟩
                    · cases ends
                      · go_wp2_with fail
                        go_meet
                        case rel => exact ⟨HTS.out true rfl, 0, rfl⟩
                      · go_wp2_with fail
                        refine HCE.out.mono ?_
                        rintro e w' ⟨rfl, q', rfl⟩
                        go_wp2_with fail
                        go_meet
                        case rel => exact ⟨HTS.out _ (by simp), _, rfl⟩
                  case rest =>
                    obtain ⟨rfl, q9, rfl⟩ := hcut
                    have HB9 : Hid ((hh && oE (j + 1)) = true → Post (.returned (.tuple #[.int .i64 ((j : Int) + 1), .bool true])) (wr.drewN q9)) := fun h => by
                      have h2 : hh = true ∧ oE (j + 1) = true := by simpa using h
                      exact hlaw.hit j _ HNF.out (HHH.out.1 h2.1) h2.2 (HFB.out q9)
                    have HM9 : Hid ((hh && oE (j + 1)) = false → SInv g sc' t w1 (PE (j + 1)) ib' (wr.drewN q9) ∧ NF (j + 1)) := fun h => ⟨HSI.out q9, hlaw.miss j HNF.out (fun ⟨h1, h2⟩ => by rw [HHH.out.2 h1, h2] at h; cases h)⟩
                    clear HSI HFB HHH HCE HT hhh e9
                    generalize (hh && oE (j + 1)) = b9 at HB9 HM9 ⊢
                    cases b9
                    · go_wp2_with fail
                      go_roundw
                      case rel => exact ⟨ib', j + 1, rfl, by go_num, by omega, .inl (by omega), HM9.out rfl⟩
                      case measure => simp [intOf]; omega
                    · go_wp2_with fail
                      exact HB9.out trivial
    · have hjn' : n ≤ jj := by omega
      have HD : Hid (Post (.returned (.tuple #[.int .i64 0, .bool false])) wr) := by
        obtain ⟨⟨S, f, h1, h2, _⟩, h3⟩ := HIN.out
        exact hlaw.done jj wr hjn' h3 (HFo.out wr f h1 h2)
      go_wp2_with fail
      exact HD.out
end Go.Proofs.Qxb6601041a
