/- zzCompile, walked: the runs that it adds stand for the pattern. -/
import Derived.Test.Qxb6601041aStar
import Derived.Test.Qxb6601041aPrefix
import Derived.Deep.DeepCutAuto
namespace Go.Proofs.Qxb6601041a
open Go.RowKit

/-- How many stars lie ahead of k. -/
def stars (P : Nat → Int) : Nat → Nat
  | 0 => 0
  | k + 1 => stars P k + if P k = -2 then 1 else 0

theorem stars_le (P : Nat → Int) (k : Nat) : stars P k ≤ k := by
  induction k with
  | zero => exact Nat.le_refl _
  | succ k ih => unfold stars; split <;> omega

theorem stars_mono {P : Nat → Int} {i j : Nat} (h : i ≤ j) : stars P i ≤ stars P j := by
  induction j with
  | zero => obtain rfl : i = 0 := by omega
            exact Nat.le_refl _
  | succ j ih =>
    by_cases hj : i = j + 1
    · subst hj; exact Nat.le_refl _
    · have := ih (by omega)
      have h2 : stars P (j + 1) = stars P j + if P j = -2 then 1 else 0 := rfl
      omega

theorem stars_same {P : Nat → Int} {i j : Nat} (h : i ≤ j) (hs : ∀ t, i ≤ t → t < j → P t ≠ -2) : stars P j = stars P i := by
  induction j with
  | zero => obtain rfl : i = 0 := by omega
            rfl
  | succ j ih =>
    by_cases hj : i = j + 1
    · subst hj; rfl
    · rw [← ih (by omega) fun t h1 h2 => hs t h1 (by omega)]
      have : stars P (j + 1) = stars P j + if P j = -2 then 1 else 0 := rfl
      rw [this, if_neg (hs j (by omega) (by omega)), Nat.add_zero]

/-- The glob that stands for the pattern. -/
structure Good14 (P : Nat → Int) (m : Nat) (rs : List RD) : Prop where
  cm : CM P m 0 rs
  ne : rs ≠ []
  cs : (chars rs).length ≤ 1000000
  len : rs.length ≤ 10000
  gap : ∀ r ∈ rs, ∃ g : Nat, r.gap = (g : Int) ∧ g ≤ 100000

def Compiled (P : Nat → Int) (m : Nat) (wd : Bool) (w : World) (e : Ending) (w' : World) : Prop :=
  e = .returned (.pointer (some ⟨w.heap.size, 0, none⟩)) ∧ Below w.heap.size w w' ∧ ∃ rs, IsG w' w.heap.size wd rs ∧ Good14 P m rs

/-- The compiler's loop at k: the part begins at st. -/
structure CL (P : Nat → Int) (k st carry : Nat) (rs : List RD) : Prop where
  le : st ≤ k
  ca : carry ≤ st
  no : ∀ j, st ≤ j → j < k → P j ≠ -2
  seg : rs.length = stars P st
  ci : CI P st carry rs

/-- What the loop carries, whatever k. -/
structure CB (st : Nat) (rs : List RD) : Prop where
  cs : (chars rs).length ≤ st
  gap : ∀ r ∈ rs, ∃ g : Nat, r.gap = (g : Int) ∧ g ≤ 100000

theorem CL.next {P : Nat → Int} {k st carry : Nat} {rs : List RD} (h : CL P k st carry rs) (hk : P k ≠ -2) : CL P (k + 1) st carry rs :=
  ⟨by have := h.le; omega, h.ca, fun j h1 h2 => by
    rcases Nat.lt_succ_iff_lt_or_eq.1 h2 with h' | rfl
    · exact h.no j h1 h'
    · exact hk, h.seg, h.ci⟩

set_option maxHeartbeats 4000000 in
set_option maxRecDepth 1000000 in
set_option linter.unusedVariables false in
theorem compile_any (a : Option Addr) (ca : Nat) (ps : List Int) (wd : Bool) (w : World) (hp : Row .i32 w a ps) (hpb : ∀ x, blockOf a = some x → x < w.heap.size) (hpn : a = none → ps = [] ∧ ca = 0) (hl : ps.length ≤ 1024) (hca : ps.length ≤ ca) :
    Calls Try.prog 14 #[.slice a ps.length ca, .bool wd] w (Compiled (fun k => ps.getD k 0) ps.length wd w) := by
  obtain ⟨bg, hbg⟩ : ∃ bg, w.heap.size = bg := ⟨_, rfl⟩
  obtain ⟨P, hP⟩ : ∃ P : Nat → Int, P = fun k => ps.getD k 0 := ⟨_, rfl⟩
  obtain ⟨m, hm⟩ : ∃ m, m = ps.length := ⟨_, rfl⟩
  have HCELL : Hid (∀ w1 wr, Below bg w w1 → Below bg w1 wr → m = 0 ∨ ∃ b off, a = some ⟨b, off, none⟩ ∧ ∀ j, j < m → wr.cell? ⟨b, off + j, none⟩ = some (.int .i32 (P j))) := fun w1 wr h1 h2 => by
    rcases hp.under (h1.trans h2) (by rw [← hbg]; exact hpb) with h0 | ⟨b, off, e, h⟩
    · exact .inl (by rw [hm, h0]; rfl)
    · exact .inr ⟨b, off, e, by rw [hP, hm]; exact h⟩
  have HAdd : Hid (∀ w1 wr rs lo hi gap, Below bg w w1 → Below bg w1 wr → IsG wr bg wd rs → lo ≤ hi → hi ≤ m → (chars rs).length ≤ 100000 → rs.length ≤ 5000 → gap ≤ 100000 → Calls Try.prog 28 #[.pointer (some ⟨bg, 0, none⟩), .int .i64 (gap : Nat), .slice (if ca = lo then a else a.map fun x => x.add lo) (hi - lo) (ca - lo)] wr (Added bg wr wd rs (gap : Nat) ((ps.drop lo).take (hi - lo)))) := fun w1 wr rs lo hi gap h1 h2 hG hlo hhi hc hr hg => by
    have hlen : ((ps.drop lo).take (hi - lo)).length = hi - lo := by simp; omega
    have hrow := hp.under (h1.trans h2) (by rw [← hbg]; exact hpb)
    have := zzadd_any bg (gap : Nat) (if ca = lo then a else a.map fun x => x.add lo) (ca - lo) ((ps.drop lo).take (hi - lo)) wr wd rs hG (hrow.part (by omega) hlo (by omega)) (part_block (by rw [← hbg]; exact hpb))
      (fun h => by obtain ⟨h1, h2⟩ := hpn (part_none h); rw [h1]; exact ⟨by simp, by omega⟩) (by omega) (by omega) (by omega) (by omega) (by omega)
    rw [hlen] at this
    exact this
  have HRun : Hid (∀ lo hi, lo ≤ hi → hi ≤ m → ((ps.drop lo).take (hi - lo)).length = hi - lo ∧ ∀ k, k < hi - lo → ((ps.drop lo).take (hi - lo)).getD k 0 = P (lo + k)) := fun lo hi h1 h2 => ⟨by simp; omega, fun k hk => by
    rw [hP]
    simp only [List.getD, List.getElem?_take, if_pos hk, List.getElem?_drop]⟩
  have HE : Hid (∀ w' rs, Below bg w w' → IsG w' bg wd rs → Good14 P m rs → Compiled P m wd w (.returned (.pointer (some ⟨bg, 0, none⟩))) w') := fun w' rs h1 h2 h3 => by
    unfold Compiled
    rw [hbg]
    exact ⟨rfl, h1, rs, h2, h3⟩
  have HNew : Hid (Calls Try.prog 27 #[.bool wd] w (NewGlob wd w)) := newglob_any w wd
  have HBG : Hid (w.heap.size = bg) := hbg
  rw [← hP]
  rw [← hm] at hl hca ⊢
  generalize Compiled P m wd w = Post at HE ⊢
  clear hp hpb hpn hbg hP hm
  go_enter Try.func14, Try.ntmps14
  go_wp2_with fail
  refine Calls.mono HNew.out ?_
  rintro e w1 ⟨rfl, hG1, hb1⟩
  rw [HBG.out] at hG1 hb1 ⊢
  have HB1 : Hid (Below bg w w1) := hb1
  have HG1 : Hid (IsG w1 bg wd []) := hG1
  clear hG1 hb1 HNew
  go_wp2_with fail
  go_loopw [6, 7] (fun s i wr => ∃ (k : Nat), k ≤ m ∧ s = .int .i64 (stars P k : Nat) ∧ i = .int .i64 k ∧ wr = w1) (fun _ i _ => m - (intOf i).toNat)
  case atStart => exact ⟨0, Nat.zero_le _, rfl, rfl, rfl⟩
  case round =>
    obtain ⟨k, hk, rfl, rfl, hw⟩ := hrel
    have hw := hw.symm
    subst hw
    by_cases hlt : k < m
    · obtain h0 | ⟨b, off, rfl, hc⟩ := HCELL.out w1 w1 HB1.out (Below.refl _ _)
      · omega
      have c1 := hc k hlt
      have hsk := stars_le P k
      have HST : Hid (stars P (k + 1) = stars P k + if P k = -2 then 1 else 0) := rfl
      clear hc HAdd HRun HE HCELL
      generalize stars P k = sk at hsk HST ⊢
      generalize P k = y at c1 HST
      by_cases hy : y = -2
      · subst hy
        go_wp2_with fail
        go_roundw
        case rel => exact ⟨k + 1, by omega, by rw [HST.out]; simp, by go_num, trivial⟩
        case measure => simp [intOf]; omega
      · have hy2 : (y == -2) = false := by simpa using hy
        go_wp2_with fail
        go_roundw
        case rel => exact ⟨k + 1, by omega, by rw [HST.out]; simp [hy], by go_num, trivial⟩
        case measure => simp [intOf]; omega
    · obtain rfl : k = m := by omega
      obtain ⟨N, hN⟩ : ∃ N, stars P k = N := ⟨_, rfl⟩
      have HN : Hid (stars P k = N) := hN
      have hN2 : N ≤ k := by rw [← hN]; exact stars_le P k
      rw [hN]
      clear hN
      have HI : Hid (CL P 0 0 0 [] ∧ CB 0 []) := ⟨⟨Nat.le_refl _, Nat.le_refl _, fun j h1 h2 => by omega, rfl, .inl ⟨rfl, rfl, rfl⟩⟩, ⟨by simp [chars], fun r hr => by cases hr⟩⟩
      go_wp2_with fail
      go_loopw [8, 9, 10, 11] (fun s8 s9 s10 s11 wr => ∃ (i st carry sg : Nat) (rs : List RD), i ≤ k + 1 ∧ st ≤ k + 1 ∧ carry ≤ k + 1 ∧ sg ≤ k + 1 ∧ s8 = .int .i64 carry ∧ s9 = .int .i64 sg ∧ s10 = .int .i64 st ∧ s11 = .int .i64 i ∧ Below bg w1 wr ∧ IsG wr bg wd rs ∧ rs.length = sg ∧ CB st rs ∧ ((i ≤ k ∧ CL P i st carry rs) ∨ (i = k + 1 ∧ CM P k 0 rs))) (fun _ _ _ i _ => k + 1 - (intOf i).toNat)
      case atStart => exact ⟨0, 0, 0, 0, [], by omega, by omega, by omega, by omega, rfl, rfl, rfl, rfl, Below.refl _ _, HG1.out, rfl, HI.out.2, .inl ⟨by omega, HI.out.1⟩⟩
      case round =>
        obtain ⟨i, st, carry, sg, rs, hi, hst, hcy, hsg, rfl, rfl, rfl, rfl, hbw, hGw, hsl, hCB, hcl⟩ := hrel
        have HW : Hid (Below bg w1 wr ∧ IsG wr bg wd rs ∧ rs.length = sg ∧ CB st rs) := ⟨hbw, hGw, hsl, hCB⟩
        clear hbw hGw hsl hCB HI HG1
        by_cases hik : i ≤ k
        · have HCL : Hid (CL P i st carry rs) := by
            rcases hcl with h | h
            · exact h.2
            · omega
          clear hcl
          have hsti : st ≤ i := HCL.out.le
          have hcst : carry ≤ st := HCL.out.ca
          have HPC : Hid (k = 0 ∨ ∃ b off, a = some ⟨b, off, none⟩ ∧ ∀ j, j < k → wr.cell? ⟨b, off + j, none⟩ = some (.int .i32 (P j))) := HCELL.out w1 wr HB1.out HW.out.1
          go_upto_region 14 with fail
          go_cut [46] (fun b wx => b = .bool (decide (i < k) && P i != -2) ∧ wx = wr)
          case first =>
            clear HW HCL HCELL HAdd HRun HE HB1
            by_cases hlt : i < k
            · obtain h0 | ⟨b, off, rfl, hc⟩ := HPC.out
              · omega
              have c1 := hc i hlt
              have HZ : Hid (∀ x, (P i != -2) = x → (decide (i < k) && P i != -2) = x) := fun x h => by simp [hlt, h]
              clear hc HPC
              obtain ⟨y, hy⟩ : ∃ y, P i = y := ⟨_, rfl⟩
              have HZ2 : Hid ((decide (i < k) && P i != -2) = (y != -2)) := HZ.out _ (by rw [hy])
              rw [hy] at c1
              clear hy HZ
              go_wp2_with fail
              go_meet
              case rel => exact ⟨by rw [HZ2.out], rfl⟩
            · have hz : Hid ((decide (i < k) && P i != -2) = false) := by show _ = _; simp [hlt]
              go_wp2_with fail
              go_meet
              case rel => exact ⟨by rw [hz.out], rfl⟩
          case rest =>
            obtain ⟨rfl, rfl⟩ := hcut
            obtain ⟨z, hz⟩ : ∃ z, (decide (i < k) && P i != -2) = z := ⟨_, rfl⟩
            have HZ : Hid ((decide (i < k) && P i != -2) = z) := hz
            rw [hz]
            clear hz
            cases z
            · have HEnd : Hid (i = k ∨ (i < k ∧ P i = -2)) := by
                have := HZ.out
                rcases Nat.lt_or_ge i k with h | h
                · right; refine ⟨h, ?_⟩; simpa [h] using this
                · left; omega
              clear HZ
              go_upto_if 51 with fail
              go_cut [12, 14, 51] (fun s12 s14 _ wx => ∃ lo gp : Nat, s12 = .int .i64 lo ∧ s14 = .int .i64 gp ∧ st ≤ lo ∧ lo ≤ i ∧ gp = carry + (lo - st) ∧ (∀ j, st ≤ j → j < lo → P j = -1) ∧ (sg = 0 → lo = st) ∧ wx = wc)
              case first =>
                clear HW HCL HCELL HAdd HRun HE HB1 HEnd HN
                by_cases hs0 : sg = 0
                · subst hs0
                  go_wp2_with fail
                  go_meet
                  case rel => exact ⟨st, carry, rfl, rfl, Nat.le_refl _, hsti, by omega, fun j h1 h2 => by omega, fun _ => rfl, rfl⟩
                · have hpos : 0 < sg := by omega
                  go_wp2_with fail
                  go_loopw [12, 14] (fun s12 s14 wr => ∃ (lo gp : Nat), s12 = .int .i64 lo ∧ s14 = .int .i64 gp ∧ st ≤ lo ∧ lo ≤ i ∧ gp = carry + (lo - st) ∧ (∀ j, st ≤ j → j < lo → P j = -1) ∧ wr = wc) (fun s12 _ _ => i - (intOf s12).toNat)
                  case atStart => exact ⟨st, carry, rfl, rfl, Nat.le_refl _, hsti, by omega, fun j h1 h2 => by omega, rfl⟩
                  case round =>
                    obtain ⟨lo, gp, rfl, rfl, h1, h2, h3, h4, hw⟩ := hrel
                    have hw := hw.symm
                    subst hw
                    have H3 : Hid (gp = carry + (lo - st)) := h3
                    have H4 : Hid (∀ j, st ≤ j → j < lo → P j = -1) := h4
                    have hgp : gp ≤ 5000 := by omega
                    clear h3 h4
                    by_cases hlt : lo < i
                    · obtain h0 | ⟨b, off, rfl, hc⟩ := HPC.out
                      · omega
                      have hlk : lo < k := by omega
                      have c1 := hc lo hlk
                      have H5 : Hid (P lo = -1 → ∀ j, st ≤ j → j < lo + 1 → P j = -1) := fun h j h1 h2 => by
                        rcases Nat.lt_succ_iff_lt_or_eq.1 h2 with h' | rfl
                        · exact H4.out j h1 h'
                        · exact h
                      clear hc HPC
                      generalize P lo = y at c1 H5
                      by_cases hy : y = -1
                      · subst hy
                        have H6 : Hid (∀ j, st ≤ j → j < lo + 1 → P j = -1) := H5.out rfl
                        clear H5
                        go_wp2_with fail
                        go_roundw
                        case rel => exact ⟨lo + 1, gp + 1, by go_num, by go_num, by omega, by omega, by have := H3.out; omega, H6.out, trivial⟩
                        case measure => simp [intOf]; omega
                      · have hy2 : (y == -1) = false := by simpa using hy
                        clear H5
                        go_wp2_with fail
                        go_meet
                        case rel => exact ⟨lo, gp, rfl, rfl, h1, h2, H3.out, H4.out, fun h => by omega, rfl⟩
                    · have hge : i ≤ lo := by omega
                      clear HPC
                      go_wp2_with fail
                      go_meet
                      case rel => exact ⟨lo, gp, rfl, rfl, h1, h2, H3.out, H4.out, fun h => by omega, rfl⟩
              case rest =>
                obtain ⟨lo, gp, rfl, rfl, hlo1, hlo2, hgp, hlo3, hlo4, hw⟩ := hcut
                have hw := hw
                subst hw
                have HLO : Hid (gp = carry + (lo - st) ∧ (∀ j, st ≤ j → j < lo → P j = -1) ∧ (sg = 0 → lo = st)) := ⟨hgp, hlo3, hlo4⟩
                have hgp2 : gp ≤ 5000 := by omega
                clear hgp hlo3 hlo4
                have HSN : Hid ((i = k → N ≤ sg) ∧ (i < k → P i = -2 → sg < N)) := by
                  have e1 : stars P i = stars P st := stars_same hsti HCL.out.no
                  have e2 : rs.length = stars P st := HCL.out.seg
                  have e3 := HW.out.2.2.1
                  have e4 := HN.out
                  constructor
                  · intro h
                    subst h
                    omega
                  · intro h1 h2
                    have e5 : stars P (i + 1) = stars P i + 1 := by
                      have : stars P (i + 1) = stars P i + if P i = -2 then 1 else 0 := rfl
                      rw [this, if_pos h2]
                    have e6 : stars P (i + 1) ≤ stars P k := stars_mono h1
                    omega
                go_upto_if 68 with fail
                go_cut [8, 13, 68] (fun s8 s13 _ wx => ∃ hi c : Nat, s8 = .int .i64 c ∧ s13 = .int .i64 hi ∧ lo ≤ hi ∧ hi ≤ i ∧ c = i - hi ∧ (∀ j, hi ≤ j → j < i → P j = -1) ∧ (i = k → hi = i) ∧ wx = wc)
                case first =>
                  clear HW HCL HCELL HAdd HRun HE HB1 HN HLO
                  by_cases hie : i = k
                  · have hNs : N ≤ sg := HSN.out.1 hie
                    clear HSN HPC HEnd hie
                    go_wp2_with fail
                    go_meet
                    case rel => exact ⟨i, 0, rfl, rfl, hlo2, Nat.le_refl _, by omega, fun j h1 h2 => by omega, fun _ => rfl, rfl⟩
                  · have hik3 : i < k := by omega
                    have hNs : sg < N := HSN.out.2 hik3 (by
                      rcases HEnd.out with h | h
                      · exact absurd h hie
                      · exact h.2)
                    clear HSN HEnd
                    go_wp2_with fail
                    go_loopw [8, 13] (fun s8 s13 wr => ∃ (hi c : Nat), s8 = .int .i64 c ∧ s13 = .int .i64 hi ∧ lo ≤ hi ∧ hi ≤ i ∧ c = i - hi ∧ (∀ j, hi ≤ j → j < i → P j = -1) ∧ wr = wc) (fun _ s13 _ => (intOf s13).toNat)
                    case atStart => exact ⟨i, 0, rfl, rfl, hlo2, Nat.le_refl _, by omega, fun j h1 h2 => by omega, rfl⟩
                    case round =>
                      obtain ⟨hi', c, rfl, rfl, h1, h2, h3, h4, hw⟩ := hrel
                      have hw := hw.symm
                      subst hw
                      have H3 : Hid (c = i - hi') := h3
                      have H4 : Hid (∀ j, hi' ≤ j → j < i → P j = -1) := h4
                      have hc2 : c ≤ 5000 := by omega
                      clear h3 h4
                      by_cases hlt : lo < hi'
                      · obtain ⟨h', rfl⟩ : ∃ h', hi' = h' + 1 := ⟨hi' - 1, by omega⟩
                        obtain h0 | ⟨b, off, rfl, hc⟩ := HPC.out
                        · omega
                        have hlk : h' < k := by omega
                        have c1 := hc h' hlk
                        have H5 : Hid (P h' = -1 → ∀ j, h' ≤ j → j < i → P j = -1) := fun h j h1 h2 => by
                          by_cases hj : j = h'
                          · subst hj; exact h
                          · exact H4.out j (by omega) h2
                        clear hc HPC
                        generalize P h' = y at c1 H5
                        by_cases hy : y = -1
                        · subst hy
                          have H6 : Hid (∀ j, h' ≤ j → j < i → P j = -1) := H5.out rfl
                          clear H5
                          go_wp2_with fail
                          go_roundw
                          case rel => exact ⟨h', c + 1, by go_num, by go_num, by omega, by omega, by have := H3.out; omega, H6.out, trivial⟩
                          case measure => simp [intOf]
                        · have hy2 : (y == -1) = false := by simpa using hy
                          clear H5
                          go_wp2_with fail
                          go_meet
                          case rel => exact ⟨h' + 1, c, rfl, rfl, h1, h2, H3.out, H4.out, fun h => absurd h hie, rfl⟩
                      · have hge : hi' ≤ lo := by omega
                        clear HPC
                        go_wp2_with fail
                        go_meet
                        case rel => exact ⟨hi', c, rfl, rfl, h1, h2, H3.out, H4.out, fun h => absurd h hie, rfl⟩
                case rest =>
                  obtain ⟨hi', c, rfl, rfl, hh1, hh2, hh3, hh4, hh5, hw⟩ := hcut
                  subst hw
                  have HHI : Hid (c = i - hi' ∧ (∀ j, hi' ≤ j → j < i → P j = -1) ∧ (i = k → hi' = i)) := ⟨hh3, hh4, hh5⟩
                  have hc2 : c ≤ k + 1 := by omega
                  clear hh3 hh4 hh5 HPC HSN
                  obtain ⟨p', hp'⟩ : ∃ p', (if ca = lo then a else a.map fun x => x.add lo) = p' := ⟨_, rfl⟩
                  have HA : Hid (Calls Try.prog 28 #[.pointer (some ⟨bg, 0, none⟩), .int .i64 (gp : Nat), .slice p' (hi' - lo) (ca - lo)] wc (Added bg wc wd rs (gp : Nat) ((ps.drop lo).take (hi' - lo)))) := by
                    have := HAdd.out w1 wc rs lo hi' gp HB1.out HW.out.1 HW.out.2.1 hh1 (by omega) (by have := HW.out.2.2.2.cs; omega) (by have := HW.out.2.2.1; omega) (by omega)
                    rw [hp'] at this
                    exact this
                  have hhc : hi' ≤ ca := by omega
                  clear HAdd
                  go_wp2_with fail
                  refine Calls.mono HA.out ?_
                  rintro e w5 ⟨rfl, hb5, ws, hG5⟩
                  have HG5 : Hid (Below bg w1 w5 ∧ IsG w5 bg wd (rs ++ [⟨(gp : Nat), (ps.drop lo).take (hi' - lo), ws⟩])) := ⟨HW.out.1.trans hb5, hG5⟩
                  have HCM : Hid (CM P i (i - hi') (rs ++ [⟨(gp : Nat), (ps.drop lo).take (hi' - lo), ws⟩])) := by
                    have hr := HRun.out lo hi' hh1 (by omega)
                    refine ci_run HCL.out.ci hlo1 hh1 hh2 HCL.out.no (fun h => HLO.out.2.2 (by rw [← HW.out.2.2.1, h]; rfl)) HLO.out.2.1 HHI.out.2.1 (by rw [HLO.out.1]) hr.1 hr.2
                  have HCB : Hid (CB (i + 1) (rs ++ [⟨(gp : Nat), (ps.drop lo).take (hi' - lo), ws⟩])) := by
                    have hr := HRun.out lo hi' hh1 (by omega)
                    have hcs := HW.out.2.2.2.cs
                    refine ⟨by rw [chars_snoc]; simp only [hr.1]; omega, fun r hr => ?_⟩
                    rcases List.mem_append.1 hr with h | h
                    · exact HW.out.2.2.2.gap r h
                    · simp at h; subst h; exact ⟨gp, rfl, by omega⟩
                  have HD : Hid ((i + 1 ≤ k ∧ CL P (i + 1) (i + 1) c (rs ++ [⟨(gp : Nat), (ps.drop lo).take (hi' - lo), ws⟩])) ∨ (i + 1 = k + 1 ∧ CM P k 0 (rs ++ [⟨(gp : Nat), (ps.drop lo).take (hi' - lo), ws⟩]))) := by
                    rcases HEnd.out with h | ⟨h, h2⟩
                    · right
                      refine ⟨by omega, ?_⟩
                      have := HCM.out
                      rw [HHI.out.2.2 h, Nat.sub_self, h] at this
                      rw [HHI.out.2.2 h, h]
                      exact this
                    · left
                      refine ⟨h, Nat.le_refl _, by have := HHI.out.1; omega, fun j h1 h2 => by omega, ?_, ?_⟩
                      · have e1 : stars P i = stars P st := stars_same hsti HCL.out.no
                        have e2 : rs.length = stars P st := HCL.out.seg
                        have e5 : stars P (i + 1) = stars P i + 1 := by
                          have : stars P (i + 1) = stars P i + if P i = -2 then 1 else 0 := rfl
                          rw [this, if_pos h2]
                        rw [List.length_append, List.length_singleton]
                        omega
                      · rw [HHI.out.1]
                        exact cm_star HCM.out h2
                  have HSG : Hid ((rs ++ [(⟨(gp : Nat), (ps.drop lo).take (hi' - lo), ws⟩ : RD)]).length = sg + 1 ∧ sg + 1 ≤ k + 1) := by
                    have e1 : stars P i = stars P st := stars_same hsti HCL.out.no
                    have e2 : rs.length = stars P st := HCL.out.seg
                    have e3 := HW.out.2.2.1
                    have e4 := stars_le P i
                    exact ⟨by rw [List.length_append, List.length_singleton]; omega, by omega⟩
                  clear hb5 hG5 HA hp' HCM HW HCL HLO HHI HEnd HRun HE HCELL
                  go_wp2_with fail
                  go_roundw
                  case rel => exact ⟨i + 1, i + 1, c, sg + 1, _, by omega, by omega, hc2, HSG.out.2, rfl, by go_num, by go_num, by go_num, HG5.out.1, HG5.out.2, HSG.out.1, HCB.out, HD.out⟩
                  case measure => simp [intOf]; omega
            · have h12 : i < k ∧ P i ≠ -2 := by simpa using HZ.out
              have HCL2 : Hid (CL P (i + 1) st carry rs) := HCL.out.next h12.2
              have hik2 : i < k := h12.1
              clear h12 HZ HCL HPC HCELL HAdd HRun HE
              go_wp2_with fail
              go_roundw
              case rel => exact ⟨i + 1, st, carry, sg, rs, by omega, hst, hcy, hsg, rfl, rfl, rfl, by go_num, HW.out.1, HW.out.2.1, HW.out.2.2.1, HW.out.2.2.2, .inl ⟨by omega, HCL2.out⟩⟩
              case measure => simp [intOf]; omega
        · obtain rfl : i = k + 1 := by omega
          have HCM : Hid (CM P k 0 rs) := by
            rcases hcl with h | h
            · omega
            · exact h.2
          have HP : Hid (Post (.returned (.pointer (some ⟨bg, 0, none⟩))) wr) := HE.out wr rs (HB1.out.trans HW.out.1) HW.out.2.1 ⟨HCM.out, HCM.out.1, by have := HW.out.2.2.2.cs; omega, by have := HW.out.2.2.1; omega, HW.out.2.2.2.gap⟩
          clear hcl HCM HW HE HRun HAdd HCELL HB1
          go_wp2_with fail
          exact HP.out
end Go.Proofs.Qxb6601041a
