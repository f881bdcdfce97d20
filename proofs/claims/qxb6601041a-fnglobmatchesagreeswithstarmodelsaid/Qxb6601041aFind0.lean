/- (*run).find: an empty run. -/
import Derived.Test.Qxb6601041aMask
import Derived.Deep.DeepCutAuto
import Derived.Deep.CutRange
namespace Go.Proofs.Qxb6601041a
open Go.RowKit

/-- The run as find reads it. -/
structure RunIn (w : World) (br bf : Nat) (gap : Int) (pc : Option Addr) (kc W : Nat) (pl : Option Addr) (kl : Nat) (pm : Option Addr) (km : Nat) (cs mk : List Int) : Prop where
  blk : w.heap[br]? = some (.cells #[.int .i64 gap, .slice pc cs.length kc, .int .i64 W, .slice pl (litsOf cs).length kl, .slice pm mk.length km] 56 (0, 0))
  rows : ∀ W', Below bf w W' → Row .i32 W' pc cs ∧ Row .i32 W' pl (litsOf cs) ∧ Row .u64 W' pm mk
  mask : MaskTo cs (litsOf cs) W mk cs.length 0
  wid : W = (cs.length + 63) / 64
  cap : mk.length ≤ km
  len : cs.length ≤ 1024
  mlen : mk.length ≤ 16400

def okS (starts : Bool) (bs : List Bool) (s : Nat) : Bool := !starts || beginsAt bs s
def okE (ends : Bool) (bs : List Bool) (n e : Nat) : Bool := !ends || endsAt bs n e

/-- The first fit, or that there is none. -/
def FirstFit (cs vs : List Int) (bs : List Bool) (starts ends : Bool) (fr : Nat) : Option Nat → Prop
  | some e => ∃ s, e = s + cs.length ∧ FitAt cs.length vs.length fr (fun k => cs.getD k 0) (fun k => vs.getD k 0) (okS starts bs) (okE ends bs vs.length) s ∧ ∀ s', FitAt cs.length vs.length fr (fun k => cs.getD k 0) (fun k => vs.getD k 0) (okS starts bs) (okE ends bs vs.length) s' → s ≤ s'
  | none => ∀ s, ¬ FitAt cs.length vs.length fr (fun k => cs.getD k 0) (fun k => vs.getD k 0) (okS starts bs) (okE ends bs vs.length) s

/-- What find hands back. -/
def FindGot (bf : Nat) (va : Option Addr) (vc : Nat) (wa : Option Addr) (wc : Nat) (cs vs : List Int) (bs : List Bool) (starts ends : Bool) (fr : Nat) (w : World) (e : Ending) (w' : World) : Prop :=
  ∃ r : Option Nat, e = .returned (.tuple #[.int .i64 (r.getD 0 : Nat), .bool r.isSome]) ∧ FirstFit cs vs bs starts ends fr r ∧ Below bf w w' ∧ ∃ sa sl sc, Fo w' bf va vc wa wc sa sl sc vs bs

theorem Fo.toR {w : World} {bf : Nat} {va : Option Addr} {vc : Nat} {wa : Option Addr} {wc : Nat} {sa : Option Addr} {sl sc : Nat} {vs : List Int} {bs : List Bool} (h : Fo w bf va vc wa wc sa sl sc vs bs) : FoR w bf va vc wa wc vs bs :=
  ⟨by simp [World.cell?, h.blk], by simp [World.cell?, h.blk], h.rv, h.rb⟩

theorem Fo.drewN {w : World} {bf : Nat} {va : Option Addr} {vc : Nat} {wa : Option Addr} {wc : Nat} {sa : Option Addr} {sl sc : Nat} {vs : List Int} {bs : List Bool} (h : Fo w bf va vc wa wc sa sl sc vs bs) (n : Nat) : Fo (w.drewN n) bf va vc wa wc sa sl sc vs bs :=
  ⟨h.blk, h.rv, h.rb, h.lv, h.lb, h.cv, h.scr⟩

theorem fit0 {vs : List Int} {bs : List Bool} {starts ends : Bool} {fr s : Nat} : FitAt 0 vs.length fr (fun k => ([] : List Int).getD k 0) (fun k => vs.getD k 0) (okS starts bs) (okE ends bs vs.length) s ↔ fr ≤ s ∧ s ≤ vs.length ∧ okS starts bs s = true ∧ okE ends bs vs.length s = true := by
  unfold FitAt
  simp

set_option maxHeartbeats 1000000 in
set_option maxRecDepth 1000000 in
set_option linter.unusedVariables false in
theorem find_empty (w : World) (br bf : Nat) (gap : Int) (pc : Option Addr) (kc W : Nat) (pl : Option Addr) (kl : Nat) (pm : Option Addr) (km : Nat) (mk : List Int) (va : Option Addr) (vc : Nat) (wa : Option Addr) (wc : Nat) (sa : Option Addr) (sl sc : Nat) (vs : List Int) (bs : List Bool)
    (hR : RunIn w br bf gap pc kc W pl kl pm km [] mk) (hF : Fo w bf va vc wa wc sa sl sc vs bs) (hn : vs.length ≤ 1024) (hbl : bs.length = vs.length) (fr : Nat) (hfr : fr ≤ 9223372036854775807) (starts ends : Bool) :
    Calls Try.prog 39 #[.pointer (some ⟨br, 0, none⟩), .pointer (some ⟨bf, 0, none⟩), .int .i64 fr, .bool starts, .bool ends] w (FindGot bf va vc wa wc [] vs bs starts ends fr w) := by
  have c1 : w.cell? ⟨br, 1, none⟩ = some (.slice pc 0 kc) := by simp [World.cell?, hR.blk]
  have v0 : w.cell? ⟨bf, 0, none⟩ = some (.slice va vs.length vc) := hF.toR.c0
  have HB : Hid (∀ i q, i ≤ vs.length → Calls Try.prog 44 #[.pointer (some ⟨bf, 0, none⟩), .int .i64 i] (w.drewN q) (Says (beginsAt bs i) (w.drewN q))) := fun i q hi => begins_any _ bf va vc wa wc vs bs (hF.toR.drewN q) i (by omega) (by omega)
  have HE : Hid (∀ i q, i ≤ vs.length → Calls Try.prog 45 #[.pointer (some ⟨bf, 0, none⟩), .int .i64 i] (w.drewN q) (Says (endsAt bs vs.length i) (w.drewN q))) := fun i q hi => ends_any _ bf va vc wa wc vs bs (hF.toR.drewN q) i hi hbl (by omega)
  have HF : Hid (Fo w bf va vc wa wc sa sl sc vs bs) := hF
  have HY : Hid (∀ i q, (∀ s, fr ≤ s → s < i → ¬ (okS starts bs s = true ∧ okE ends bs vs.length s = true)) → fr ≤ i → i ≤ vs.length → okS starts bs i = true → okE ends bs vs.length i = true → FindGot bf va vc wa wc [] vs bs starts ends fr w (.returned (.tuple #[.int .i64 (i : Nat), .bool true])) (w.drewN q)) := fun i q h1 h2 h3 h4 h5 =>
    ⟨some i, rfl, ⟨i, rfl, fit0.2 ⟨h2, h3, h4, h5⟩, fun s' hs' => by
      obtain ⟨k1, k2, k3, k4⟩ := fit0.1 hs'
      rcases Nat.lt_or_ge s' i with h | h
      · exact absurd ⟨k3, k4⟩ (h1 s' k1 h)
      · exact h⟩, below_drewN (Below.refl _ _) _, sa, sl, sc, HF.out.drewN q⟩
  have HN : Hid (∀ i q, (∀ s, fr ≤ s → s < i → ¬ (okS starts bs s = true ∧ okE ends bs vs.length s = true)) → vs.length < i → FindGot bf va vc wa wc [] vs bs starts ends fr w (.returned (.tuple #[.int .i64 0, .bool false])) (w.drewN q)) := fun i q h1 h2 =>
    ⟨none, rfl, fun s hs => by
      obtain ⟨k1, k2, k3, k4⟩ := fit0.1 hs
      exact h1 s k1 (by omega) ⟨k3, k4⟩, below_drewN (Below.refl _ _) _, sa, sl, sc, HF.out.drewN q⟩
  have HS : Hid (∀ i, okS starts bs i = (!starts || beginsAt bs i)) := fun i => rfl
  have HT : Hid (∀ i, okE ends bs vs.length i = (!ends || endsAt bs vs.length i)) := fun i => rfl
  obtain ⟨n, hn'⟩ : ∃ n, n = vs.length := ⟨_, rfl⟩
  rw [← hn'] at v0 hn HB HE HY HN HT
  generalize okS starts bs = fS at HY HN HS
  generalize okE ends bs n = fE at HY HN HT
  generalize beginsAt bs = bS at HB HS
  generalize endsAt bs n = bE at HE HT
  generalize FindGot bf va vc wa wc [] vs bs starts ends fr w = Post at *
  clear hR hF hbl hn' HF
  go_enter Try.func39, Try.ntmps39
  go_wp2_with fail
  go_loopw [13] (fun i wr => ∃ (k q : Nat), fr ≤ k ∧ (k ≤ n + 1 ∨ k = fr) ∧ i = .int .i64 k ∧ wr = w.drewN q ∧ ∀ s, fr ≤ s → s < k → ¬ (fS s = true ∧ fE s = true)) (fun i _ => n + 1 - (intOf i).toNat)
  case atStart => exact ⟨fr, 0, Nat.le_refl _, .inr rfl, rfl, rfl, fun s h1 h2 => by omega⟩
  case round =>
    obtain ⟨k, q, hk1, hk2, rfl, rfl, hall⟩ := hrel
    have HA : Hid (∀ s, fr ≤ s → s < k → ¬ (fS s = true ∧ fE s = true)) := hall
    clear hall
    by_cases hkn : k ≤ n
    · go_upto_region 6 with fail
      go_cut [57] (fun b wx => b = .bool (fS k && fE k) ∧ ∃ q', wx = w.drewN q')
      case first =>
        have hS := HS.out k
        have hT := HT.out k
        have HST : Hid (∀ a b, (!starts || bS k) = a → (!ends || bE k) = b → Value.bool (a && b) = .bool (fS k && fE k)) := fun a b h1 h2 => by rw [hS, hT, h1, h2]
        clear hS hT HS HT HY HN HA
        cases starts
        · cases ends
          · go_wp2_with fail
            go_meet
            case rel => exact ⟨HST.out true true rfl rfl, q, rfl⟩
          · go_wp2_with fail
            refine (HE.out k q hkn).mono ?_
            rintro e w' ⟨rfl, q', rfl⟩
            go_wp2_with fail
            go_meet
            case rel => exact ⟨HST.out true (bE k) rfl rfl, _, rfl⟩
        · go_wp2_with fail
          refine (HB.out k q hkn).mono ?_
          rintro e w' ⟨rfl, q', rfl⟩
          cases hb : bS k
          · go_wp2_with fail
            go_meet
            case rel => exact ⟨HST.out false _ (by simp [hb]) rfl, _, rfl⟩
          · cases ends
            · go_wp2_with fail
              go_meet
              case rel => exact ⟨HST.out true true (by simp [hb]) rfl, _, rfl⟩
            · go_wp2_with fail
              refine (HE.out k _ hkn).mono ?_
              rintro e w' ⟨rfl, q'', rfl⟩
              go_wp2_with fail
              go_meet
              case rel => exact ⟨HST.out true (bE k) (by simp [hb]) rfl, _, rfl⟩
      case rest =>
        obtain ⟨rfl, q', rfl⟩ := hcut
        clear HS HT HB HE
        obtain ⟨b, hb⟩ : ∃ b, (fS k && fE k) = b := ⟨_, rfl⟩
        have HBB : Hid ((fS k && fE k) = b) := hb
        rw [hb]
        clear hb
        cases b
        · go_wp2_with fail
          go_roundw
          case rel => exact ⟨k + 1, q', by omega, .inl (by omega), by go_num, rfl, fun s h2 h3 => by
            rcases Nat.lt_succ_iff_lt_or_eq.1 h3 with h | rfl
            · exact HA.out s h2 h
            · have := HBB.out
              rintro ⟨h4, h5⟩
              rw [h4, h5] at this
              cases this⟩
          case measure => simp [intOf]; omega
        · go_wp2_with fail
          have h12 : fS k = true ∧ fE k = true := by simpa using HBB.out
          exact HY.out k q' HA.out hk1 hkn h12.1 h12.2
    · have hkn' : n < k := by omega
      go_wp2_with fail
      exact HN.out k q HA.out hkn'
end Go.Proofs.Qxb6601041a
