/- zzRunLaidOut: a run of a glob is laid out as the law says. -/
import Derived.Test.Qxb6601041aGlobs
import Derived.Outline
namespace Go.Proofs.Qxb6601041a
open Go.RowKit

set_option maxHeartbeats 400000 in
theorem contains_any (a : Option Addr) (c : Nat) (xs : List Int) (y : Int) (r : Bool) (hr : r = true ↔ y ∈ xs) (w : World) (hx : Row .i32 w a xs) (hxl : xs.length ≤ 1000000000) :
    Calls Try.prog 42 #[.slice a xs.length c, .int .i32 y] w (Says r w) := by
  have hr : r = true ↔ ∃ i, i < xs.length ∧ xs.getD i 0 = y := by
    rw [hr, List.mem_iff_getElem]
    constructor
    · rintro ⟨i, hi, h⟩; exact ⟨i, hi, by simp [List.getD, hi, h]⟩
    · rintro ⟨i, hi, h⟩; exact ⟨i, hi, by simpa [List.getD, hi] using h⟩
  obtain ⟨n, hn⟩ : ∃ n, n = xs.length := ⟨_, rfl⟩
  obtain ⟨F, hF⟩ : ∃ F : Nat → Int, ∀ t, F t = xs.getD t 0 := ⟨_, fun _ => rfl⟩
  have hcx : n = 0 ∨ ∃ b off, a = some ⟨b, off, none⟩ ∧ ∀ j, j < n → w.cell? ⟨b, off + j, none⟩ = some (.int .i32 (F j)) := by
    rcases hx with rfl | h
    · exact .inl hn
    · exact .inr (by simp only [hF]; rw [hn]; exact h)
  rw [← hn] at hr hxl ⊢
  simp only [← hF] at hr
  clear hx hn hF
  have yes : Hid (∀ k, k < n → (F k == y) = true → r = true) := fun k hk he => hr.2 ⟨k, hk, by simpa using he⟩
  have no : Hid ((∀ i, i < n → (F i == y) = false) → r = false) := fun h => by
    cases r
    · rfl
    · obtain ⟨i, hi, he⟩ := hr.1 rfl
      have := h i hi
      simp [he] at this
  clear hr
  go_enter Try.func42, Try.ntmps42
  go_wp2
  go_loopw [5] (fun i wr => ∃ (k q : Nat), k ≤ n ∧ i = .int .i64 k ∧ wr = w.drewN q ∧ ∀ i, i < k → (F i == y) = false) (fun i _ => n - (intOf i).toNat)
  case atStart => exact ⟨0, 0, Nat.zero_le _, rfl, rfl, fun i hi => absurd hi (Nat.not_lt_zero _)⟩
  case round =>
    obtain ⟨k, q, hk, rfl, rfl, hall⟩ := hrel
    have HA : Hid (∀ i, i < k → (F i == y) = false) := hall
    clear hall
    by_cases hlt : k < n
    · obtain h0 | ⟨b1, o1, rfl, hc1⟩ := hcx
      · omega
      have c1 := hc1 k hlt
      clear hc1
      cases hd : F k == y
      · go_wp2
        go_roundw
        case rel =>
          refine ⟨k + 1, q, by omega, by go_num, rfl, fun i hi => ?_⟩
          rcases Nat.lt_succ_iff_lt_or_eq.1 hi with h | rfl
          · exact HA.out i h
          · exact hd
        case measure => simp [intOf]; omega
      · go_wp2
        go_ret
        exact ⟨by rw [yes.out k hlt hd]; rfl, q, rfl⟩
    · go_wp2
      go_ret
      exact ⟨by rw [no.out fun i hi => HA.out i (by omega)]; rfl, q, rfl⟩

theorem bit_one (x B : Nat) (hx : x < 18446744073709551616) : (bits BinOp.and IntKind.u64 ((x : Int) / 2 ^ B) 1 == 1) = x.testBit B := by
  have e : ((x : Int) / 2 ^ B) = ((x / 2 ^ B : Nat) : Int) := by simp
  have hlt : x / 2 ^ B < 18446744073709551616 := Nat.lt_of_le_of_lt (Nat.div_le_self _ _) hx
  have h := bits_and_u64_nat (x / 2 ^ B) 1 (by omega) (by omega)
  rw [Nat.and_one_is_mod] at h
  rw [e, show (1 : Int) = ((1 : Nat) : Int) from rfl, h, Nat.testBit_eq_decide_div_mod_eq]
  by_cases hb : x / 2 ^ B % 2 = 1
  · rw [hb]; simp
  · have : x / 2 ^ B % 2 = 0 := by omega
    rw [this]; simp

/-- What the parts of a run say, in plain numbers. -/
structure Plain30 (n L W N : Nat) (F G M : Nat → Int) : Prop where
  p1 : ∀ j, j < L → (G j == -1) = false
  p2 : ∀ j, j + 1 < L → decide (G (j + 1) ≤ G j) = false
  p5 : N = (L + 1) * W
  p5' : W = (n + 63) / 64
  p6 : ∀ row, row ≤ L → ∀ pos, pos < 64 * W → (M (row * W + pos / 64)).toNat.testBit (pos % 64) = (decide (pos < n) && (F pos == -1 || (decide (row < L) && F pos == G row)))
  p7 : ∀ j, j < N → 0 ≤ M j ∧ M j < 18446744073709551616

theorem plain30 {r : RD} (h : GoodRD r) : Plain30 r.cs.length (litsOf r.cs).length ((r.cs.length + 63) / 64) r.ws.length (fun j => r.cs.getD j 0) (fun j => (litsOf r.cs).getD j 0) (fun j => r.ws.getD j 0) where
  p1 := fun j hj => by
    have hm : (litsOf r.cs)[j] ∈ litsOf r.cs := List.getElem_mem hj
    have := ((mem_litsOf r.cs _).1 hm).2
    simpa [List.getD, hj] using this
  p2 := fun j hj => by
    have := List.pairwise_iff_getElem.1 (litsOf_sorted r.cs) j (j + 1) (by omega) hj (by omega)
    have h1 : j < (litsOf r.cs).length := by omega
    simp [List.getD, hj, h1]
    exact this
  p5 := h.mask.len
  p5' := rfl
  p6 := fun row hrow pos hpos => by
    have := h.mask.bit row hrow (pos / 64) (by omega) (pos % 64) (by omega)
    rw [this]
    have e : 64 * (pos / 64) + pos % 64 = pos := Nat.div_add_mod pos 64
    rw [e]
    simp [fitsRow]
  p7 := h.mask.rng

def Laid (w : World) (e : Ending) (w' : World) : Prop := e = .returned (.bool true) ∧ Below w.heap.size w w'

set_option maxHeartbeats 4000000 in
set_option maxRecDepth 1000000 in
theorem laid_any (bg : Nat) (w : World) (wd : Bool) (xs ys : List RD) (r : RD) (hG : IsG w bg wd (xs ++ r :: ys)) (hcs : (chars (xs ++ r :: ys)).length ≤ 1000000) (hrs : (xs ++ r :: ys).length ≤ 10000)
    (a : Option Addr) (c : Nat) (ha : Row .i32 w a r.cs) :
    Calls Try.prog 30 #[.pointer (some ⟨bg, 0, none⟩), .int .i64 xs.length, .int .i64 r.gap, .slice a r.cs.length c] w (Laid w) := by
  have hg : GoodRD r := hG.1 r (by simp)
  have HPa : Hid (Calls Try.prog 32 #[.pointer (some ⟨bg, 0, none⟩), .int .i64 xs.length] w (Parts r.gap r.cs (litsOf r.cs) r.ws w)) := parts_any bg w wd xs ys r hG hcs hrs
  have HR : Hid (Row .i32 w a r.cs ∧ GoodRD r) := ⟨ha, hg⟩
  obtain ⟨i, hi⟩ : ∃ i, i = xs.length := ⟨_, rfl⟩
  rw [← hi] at HPa ⊢
  have hn : r.cs.length ≤ 1024 := hg.len
  have hL : (litsOf r.cs).length ≤ 1024 := Nat.le_trans (litsOf_length _) hn
  have hNb : r.ws.length ≤ 16400 := hg.mlen
  clear hG hcs hrs ha hg hi
  go_enter Try.func30, Try.ntmps30
  go_wp2_with fail
  refine HPa.out.mono ?_
  clear HPa
  rintro e w1 ⟨pc, kc, pl, kl, pm, km, rfl, hc1, hl1, hm1, hb1⟩
  have HB : Hid (Below w.heap.size w w1) := hb1
  have hca : Row .i32 w1 a r.cs := HR.out.1.kept hb1
  have HS : Hid (Calls Try.prog 33 #[.slice pc r.cs.length kc, .slice a r.cs.length c] w1 (Says true w1)) := same_runes pc a kc c r.cs r.cs true (by simp) w1 hc1 hca (by omega) (by omega)
  have HC1 : Hid (∀ j q, j < (litsOf r.cs).length → Calls Try.prog 42 #[.slice a r.cs.length c, .int .i32 ((litsOf r.cs).getD j 0)] (w1.drewN q) (Says true (w1.drewN q))) := fun j q hj =>
    contains_any a c r.cs _ true (by
      simp only [true_iff]
      have hm : (litsOf r.cs)[j] ∈ litsOf r.cs := List.getElem_mem hj
      have := ((mem_litsOf r.cs _).1 hm).1
      simpa [List.getD, hj] using this) (w1.drewN q) (hca.drewN q) (by omega)
  have HC2 : Hid (∀ j q, j < r.cs.length → (r.cs.getD j 0 != -1) = true → Calls Try.prog 42 #[.slice pl (litsOf r.cs).length kl, .int .i32 (r.cs.getD j 0)] (w1.drewN q) (Says true (w1.drewN q))) := fun j q hj hne =>
    contains_any pl kl (litsOf r.cs) _ true (by
      simp only [true_iff]
      rw [mem_litsOf]
      refine ⟨?_, by simpa using hne⟩
      simp [List.getD, hj]) (w1.drewN q) (hl1.drewN q) (by omega)
  obtain ⟨n, hn'⟩ : ∃ n, n = r.cs.length := ⟨_, rfl⟩
  obtain ⟨L, hL'⟩ : ∃ L, L = (litsOf r.cs).length := ⟨_, rfl⟩
  obtain ⟨N, hN'⟩ : ∃ N, N = r.ws.length := ⟨_, rfl⟩
  obtain ⟨W, hW'⟩ : ∃ W, W = (n + 63) / 64 := ⟨_, rfl⟩
  obtain ⟨F, hF⟩ : ∃ F : Nat → Int, F = fun j => r.cs.getD j 0 := ⟨_, rfl⟩
  obtain ⟨G, hGG⟩ : ∃ G : Nat → Int, G = fun j => (litsOf r.cs).getD j 0 := ⟨_, rfl⟩
  obtain ⟨M, hM⟩ : ∃ M : Nat → Int, M = fun j => r.ws.getD j 0 := ⟨_, rfl⟩
  have hcx : n = 0 ∨ ∃ b off, a = some ⟨b, off, none⟩ ∧ ∀ j, j < n → w1.cell? ⟨b, off + j, none⟩ = some (.int .i32 (F j)) := by
    rcases hca with h | h
    · exact .inl (by rw [hn', h]; rfl)
    · exact .inr (by rw [hF, hn']; exact h)
  have hlx : L = 0 ∨ ∃ b off, pl = some ⟨b, off, none⟩ ∧ ∀ j, j < L → w1.cell? ⟨b, off + j, none⟩ = some (.int .i32 (G j)) := by
    rcases hl1 with h | h
    · exact .inl (by rw [hL', h]; rfl)
    · exact .inr (by rw [hGG, hL']; exact h)
  have hmx : N = 0 ∨ ∃ b off, pm = some ⟨b, off, none⟩ ∧ ∀ j, j < N → w1.cell? ⟨b, off + j, none⟩ = some (.int .u64 (M j)) := by
    rcases hm1 with h | h
    · exact .inl (by rw [hN', h]; rfl)
    · exact .inr (by rw [hM, hN']; exact h)
  have HPn : Hid (Plain30 n L W N F G M) := by rw [hn', hL', hW', hN', hF, hGG, hM, hn']; exact plain30 HR.out.2
  replace HC1 : Hid (∀ j q, j < L → Calls Try.prog 42 #[.slice a n c, .int .i32 (G j)] (w1.drewN q) (Says true (w1.drewN q))) := by rw [hn', hL', hGG]; exact HC1
  replace HC2 : Hid (∀ j q, j < n → (F j != -1) = true → Calls Try.prog 42 #[.slice pl L kl, .int .i32 (F j)] (w1.drewN q) (Says true (w1.drewN q))) := by rw [hn', hL', hF]; exact HC2
  rw [← hn'] at hn HS ⊢
  rw [← hL'] at hL ⊢
  rw [← hN'] at hNb ⊢
  have HWd : Hid (W = (n + 63) / 64) := hW'
  have hW64 : W ≤ 16 := by omega
  clear HR hc1 hl1 hm1 hb1 hca hn' hL' hN' hW' hF hGG hM
  go_wp2_with fail
  refine HS.out.mono ?_
  rintro e w2 ⟨rfl, q2, rfl⟩
  clear HS
  go_wp2_with fail
  go_loopw [13] (fun i wr => ∃ (k q : Nat), k ≤ L ∧ i = .int .i64 k ∧ wr = w1.drewN q) (fun i _ => L - (intOf i).toNat)
  case atStart => exact ⟨0, q2, Nat.zero_le _, rfl, rfl⟩
  case round =>
    obtain ⟨k, q, hk, rfl, rfl⟩ := hrel
    by_cases hlt : k < L
    · obtain h0 | ⟨b1, o1, hpl, hc1⟩ := hlx
      · omega
      subst hpl
      have c1 := hc1 k hlt
      have f1 := HPn.out.p1 k hlt
      have HC : Hid (∀ q, Calls Try.prog 42 #[.slice a n c, .int .i32 (G k)] (w1.drewN q) (Says true (w1.drewN q))) := fun q => HC1.out k q hlt
      rcases k with _ | k
      · clear hc1
        replace c1 : w1.cell? ⟨b1, o1, none⟩ = some (.int .i32 (G 0)) := c1
        go_wp2_with fail
        go_quiet (fail)
        go_wp2_with fail
        refine (HC.out _).mono ?_
        rintro e w3 ⟨rfl, q3, rfl⟩
        go_wp2_with fail
        go_roundw
        case rel => exact ⟨1, _, by omega, by go_num, rfl⟩
        case measure => simp [intOf]; omega
      · have c2 := hc1 k (by omega)
        have f2 := HPn.out.p2 k hlt
        clear hc1
        go_wp2_with fail
        go_quiet (fail)
        go_wp2_with fail
        refine (HC.out _).mono ?_
        rintro e w3 ⟨rfl, q3, rfl⟩
        go_wp2_with fail
        go_roundw
        case rel => exact ⟨k + 1 + 1, _, by omega, by go_num, rfl⟩
        case measure => simp [intOf]; omega
    · go_wp2_with fail
      go_loopw [14] (fun i wr => ∃ (k q : Nat), k ≤ n ∧ i = .int .i64 k ∧ wr = w1.drewN q) (fun i _ => n - (intOf i).toNat)
      case atStart => exact ⟨0, _, Nat.zero_le _, rfl, rfl⟩
      case round =>
        obtain ⟨k2, q4, hk2, rfl, rfl⟩ := hrel
        by_cases hlt2 : k2 < n
        · obtain h0 | ⟨b2, o2, hpa, hc2⟩ := hcx
          · omega
          subst hpa
          have c2 := hc2 k2 hlt2
          have HC : Hid ((F k2 != -1) = true → ∀ q, Calls Try.prog 42 #[.slice pl L kl, .int .i32 (F k2)] (w1.drewN q) (Says true (w1.drewN q))) := fun h q => HC2.out k2 q hlt2 h
          clear hc2
          cases hd : (F k2 != -1)
          · go_wp2_with fail
            go_roundw
            case rel => exact ⟨k2 + 1, _, by omega, by go_num, rfl⟩
            case measure => simp [intOf]; omega
          · go_wp2_with fail
            refine (HC.out hd _).mono ?_
            rintro e w3 ⟨rfl, q3, rfl⟩
            go_wp2_with fail
            go_roundw
            case rel => exact ⟨k2 + 1, _, by omega, by go_num, rfl⟩
            case measure => simp [intOf]; omega
        · have hW : ((n : Int) + 63) / 64 = (W : Int) := by have := HWd.out; omega
          have hNW : IntKind.i64.wrap (((L : Int) + 1) * (W : Int)) = (N : Int) := by
            have h5 := HPn.out.p5
            have e : ((L : Int) + 1) * (W : Int) = (N : Int) := by rw [h5]; simp
            rw [e, IntKind.wrap_i64]; omega
          go_wp2_with fail
          clear hNW HC1 HC2
          go_loopw [16] (fun i wr => ∃ (row q : Nat), row ≤ L + 1 ∧ i = .int .i64 row ∧ wr = w1.drewN q) (fun i _ => L + 1 - (intOf i).toNat)
          case atStart => exact ⟨0, _, Nat.zero_le _, rfl, rfl⟩
          case round =>
            obtain ⟨row, q5, hrow, rfl, rfl⟩ := hrel
            by_cases hr2 : row ≤ L
            · go_wp2_with fail
              go_loopw [17] (fun i wr => ∃ (pos q : Nat), pos ≤ 64 * W ∧ i = .int .i64 pos ∧ wr = w1.drewN q) (fun i _ => 64 * W - (intOf i).toNat)
              case atStart => exact ⟨0, _, Nat.zero_le _, rfl, rfl⟩
              case round =>
                obtain ⟨pos, q6, hpos, rfl, rfl⟩ := hrel
                by_cases hp2 : pos < 64 * W
                · obtain ⟨R, hR⟩ : ∃ R, R = row * W := ⟨_, rfl⟩
                  obtain ⟨D, hD⟩ : ∃ D, D = pos / 64 := ⟨_, rfl⟩
                  obtain ⟨B, hB⟩ : ∃ B, B = pos % 64 := ⟨_, rfl⟩
                  have hRD : R + D < N := by rw [HPn.out.p5, hR, hD]; exact row_lt (by omega) hr2
                  have hRw : IntKind.i64.wrap ((row : Int) * (W : Int)) = (R : Int) := by
                    have e : (row : Int) * (W : Int) = (R : Int) := by rw [hR]; simp
                    rw [e, IntKind.wrap_i64]; omega
                  have hDw : (pos : Int) / 64 = (D : Int) := by rw [hD]; simp
                  have hBw : (pos : Int) % 64 = (B : Int) := by rw [hB]; simp
                  have hB64 : B < 64 := by omega
                  have hD16 : D ≤ 16 := by omega
                  obtain h0 | ⟨b3, o3, hpm, hc3⟩ := hmx
                  · omega
                  subst hpm
                  have c3 := hc3 (R + D) hRD
                  obtain ⟨x, hx⟩ : ∃ x : Nat, M (R + D) = (x : Int) := ⟨(M (R + D)).toNat, by have := (HPn.out.p7 (R + D) hRD).1; omega⟩
                  have hx2 : x < 18446744073709551616 := by have := (HPn.out.p7 (R + D) hRD).2; omega
                  have hT : x.testBit B = (decide (pos < n) && (F pos == -1 || (decide (row < L) && F pos == G row))) := by
                    have := HPn.out.p6 row hr2 pos hp2
                    rw [← hR, ← hD, ← hB, hx] at this
                    simpa using this
                  obtain ⟨y, hy⟩ : ∃ y, bits BinOp.and IntKind.u64 ((x : Int) / 2 ^ B) 1 = y := ⟨_, rfl⟩
                  have HT : Hid ((y == 1) = (decide (pos < n) && (F pos == -1 || (decide (row < L) && F pos == G row)))) := by
                    show (y == 1) = _
                    rw [← hT, ← hy]
                    exact bit_one x B hx2
                  rw [hx] at c3
                  clear hx hc3 hR hD hB hT
                  by_cases hpn : pos < n
                  · obtain h0 | ⟨b2, o2, hpa, hc2⟩ := hcx
                    · omega
                    subst hpa
                    have c2 := hc2 pos hpn
                    clear hc2
                    cases hd1 : (F pos == -1)
                    · by_cases hrl : row < L
                      · obtain h0 | ⟨b1, o1, hpl, hc1⟩ := hlx
                        · omega
                        subst hpl
                        have c1 := hc1 row hrl
                        clear hc1
                        obtain ⟨v, hv⟩ : ∃ v, (F pos == G row) = v := ⟨_, rfl⟩
                        have hyt : (y == 1) = v := by rw [HT.out]; simp [hpn, hd1, hrl, hv]
                        clear HT
                        go_wp2_with fail
                        go_quiet (fail)
                        go_wp2_with fail
                        go_roundw
                        case rel => exact ⟨pos + 1, _, by omega, by go_num, rfl⟩
                        case measure => simp [intOf]; omega
                      · have hyt : (y == 1) = false := by rw [HT.out]; simp [hd1, hrl]
                        clear HT
                        go_wp2_with fail
                        go_quiet (fail)
                        go_wp2_with fail
                        go_roundw
                        case rel => exact ⟨pos + 1, _, by omega, by go_num, rfl⟩
                        case measure => simp [intOf]; omega
                    · have hyt : (y == 1) = true := by rw [HT.out]; simp [hpn, hd1]
                      clear HT
                      go_wp2_with fail
                      go_quiet (fail)
                      go_wp2_with fail
                      go_roundw
                      case rel => exact ⟨pos + 1, _, by omega, by go_num, rfl⟩
                      case measure => simp [intOf]; omega
                  · have hyt : (y == 1) = false := by rw [HT.out]; simp [hpn]
                    clear HT
                    go_wp2_with fail
                    go_quiet (fail)
                    go_wp2_with fail
                    go_roundw
                    case rel => exact ⟨pos + 1, _, by omega, by go_num, rfl⟩
                    case measure => simp [intOf]; omega
                · go_wp2_with fail
                  go_roundw
                  case rel => exact ⟨row + 1, _, by omega, by go_num, rfl⟩
                  case measure => simp [intOf]; omega
            · go_wp2_with fail
              go_ret
              exact ⟨rfl, below_drewN HB.out _⟩
end Go.Proofs.Qxb6601041a
