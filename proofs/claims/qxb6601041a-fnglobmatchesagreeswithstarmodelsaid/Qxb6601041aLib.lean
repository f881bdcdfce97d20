/- slices.Compact, slices.BinarySearch, slices.Index at rune: walks of the library's own text, turned from the kit's worked walks to this program. -/
import Derived.Test.Qxb6601041aSrtBase
import Derived.Shelf.SlicesE.Compact
import Derived.Lib.SlicesSearch
import Derived.Lib.SlBy
import Derived.WalkKit
import Derived.Deep.LoopGhost
import Derived.Deep.Draws
namespace Go.Proofs.Qxb6601041a
open Go.RowKit Go.Lib Go.Sort

/-- A slice's elements: none; or they lie in a row of cells. -/
def Row (k : IntKind) (w : World) (a : Option Addr) (zs : List Int) : Prop := zs = [] ∨ ∃ b off, a = some ⟨b, off, none⟩ ∧ ∀ j, j < zs.length → w.cell? ⟨b, off + j, none⟩ = some (.int k (zs.getD j 0))

theorem zero21 (w : World) : (zeroValue 21).run Try.prog w = .ok (.int .i32 0) w := Try.zeroValue21 w

set_option maxHeartbeats 4000000 in
set_option maxRecDepth 1000000 in
theorem compact_any (blk off cap : Nat) (d : Array Int) (w : World) (hH : Holds encR w blk off d) (hsz : d.size ≤ 9223372036854775807) (hcap : d.size ≤ cap) :
    Calls Try.prog 50 #[.slice (some ⟨blk, off, none⟩) d.size cap] w fun e w' => e = .returned (.slice (some ⟨blk, off, none⟩) (compactUpTo d d.size).length cap) ∧ ∃ q, w' = putRow encR (Sort.ahead w q) blk off (compactUpTo d d.size ++ List.replicate (d.size - (compactUpTo d d.size).length) 0).toArray := by
  have hO : OneCell encR := fun _ => rfl
  have same : ∀ q, (∀ j, j < d.size → keeps d j = true) → (compactUpTo d d.size).length = d.size ∧ w.drewN q = putRow encR (Sort.ahead w q) blk off (compactUpTo d d.size ++ List.replicate (d.size - (compactUpTo d d.size).length) 0).toArray := by
    intro q hall
    have e : compactUpTo d d.size = d.toList := by rw [compactUpTo_all d _ hall, range_map_get]
    rw [e]
    refine ⟨by simp, ?_⟩
    simp only [Array.length_toList, Nat.sub_self, List.replicate_zero, List.append_nil, Array.toArray_toList]
    exact (putRow_self encR (Sort.ahead w q) blk off d (holds_ahead encR w q blk off d hH)).symm
  have HS : Aside (∀ q, (∀ j, j < d.size → keeps d j = true) → (compactUpTo d d.size).length = d.size ∧ w.drewN q = putRow encR (Sort.ahead w q) blk off (compactUpTo d d.size ++ List.replicate (d.size - (compactUpTo d d.size).length) 0).toArray) := same
  clear same
  by_cases h2 : d.size < 2
  · have HH : Aside (Holds encR w blk off d) := hH
    clear hH
    go_enter Try.func50, Try.ntmps50
    go_wp2
    go_ret
    obtain ⟨e1, e2⟩ := HS.out 0 (fun j hj => keeps_lt_one d j (by omega))
    exact ⟨by rw [e1]; rfl, 0, e2⟩
  · go_enter Try.func50, Try.ntmps50
    go_wp2
    go_loopg [3] d.size (fun g s3 wr => ∃ k q : Nat, 1 ≤ k ∧ k ≤ d.size ∧ d.size - k ≤ g ∧ s3 = .int .i64 k ∧ wr = w.drewN q ∧ ∀ j, j < k → keeps d j = true)
    case atStart => exact ⟨1, 0, Nat.le_refl _, by omega, by omega, rfl, rfl, keeps_lt_one d⟩
    case round =>
      obtain ⟨k, q, hk1, hk, hg, rfl, rfl, hall⟩ := hrel
      by_cases hlt : k < d.size
      · obtain ⟨c1, f1⟩ := hH k hlt
        obtain ⟨c0, f0⟩ := hH (k - 1) (by omega)
        have A : Aside (∀ j, j < k → keeps d j = true) := hall
        have HH : Aside (Holds encR w blk off d) := hH
        clear hall hH
        generalize hx : d[k]! = x at c1
        generalize hy : d[k - 1]! = y at c0
        have B : Aside (d[k]! = x ∧ d[k - 1]! = y) := ⟨hx, hy⟩
        clear hx hy
        by_cases hdup : x = y
        · subst hdup
          go_wp2_with fail
          go_region
          go_wp2
          clear c0 c1 f0 f1
          go_loopg [3, 5] d.size (fun g s3 s5 wr => ∃ (kk k2 q2 : Nat) (dk : Array Int), s3 = .int .i64 kk ∧ s5 = .int .i64 k2 ∧ 1 ≤ k2 ∧ k + k2 ≤ d.size ∧ d.size - (k + k2) ≤ g ∧ wr = putRow encR (Sort.ahead w q2) blk off dk ∧ CompInv d (k + k2) kk dk)
          case atStart => exact ⟨k, 1, q + 1, d, rfl, rfl, Nat.le_refl _, by omega, by omega, (putRow_self encR (Sort.ahead w (q + 1)) blk off d (holds_ahead encR w (q + 1) blk off d HH.out)).symm, CompInv.start A.out (keeps_neg (by omega) (by rw [B.out.1, B.out.2]))⟩
          case round =>
            obtain ⟨kk, k2, q2, dk, rfl, rfl, h1, hle, hg2, hwr, hI⟩ := hrel
            have hkk := hI.lt
            have hds := hI.size
            have hHk : Holds encR wr blk off dk := by rw [hwr]; exact holds_putRow encR _ blk off d dk (holds_ahead encR w q2 blk off d HH.out) hds
            have W2 : Aside (wr = putRow encR (Sort.ahead w q2) blk off dk) := hwr
            have I2 : Aside (CompInv d (k + k2) kk dk) := hI
            clear hwr
            by_cases hlt2 : k + k2 < d.size
            · obtain ⟨cm, _⟩ := hHk (k + k2) (by omega)
              obtain ⟨cp, _⟩ := hHk (k + k2 - 1) (by omega)
              obtain ⟨ck, fk⟩ := hHk kk (by omega)
              rw [hI.high (k + k2) (by omega), show off + (k + k2) = off + k + k2 by omega] at cm
              rw [hI.high (k + k2 - 1) (by omega), show off + (k + k2 - 1) = off + k + (k2 - 1) by omega] at cp
              clear hHk hI
              generalize hu : d[k + k2]! = u at cm
              generalize hv : d[k + k2 - 1]! = v at cp
              generalize dk[kk]! = old at ck
              have C : Aside (d[k + k2]! = u ∧ d[k + k2 - 1]! = v) := ⟨hu, hv⟩
              clear hu hv
              by_cases huv : u = v
              · subst huv
                go_wp2_with fail
                go_region
                go_wp2
                go_roundg (d.size - (k + (k2 + 1)))
                case measure => omega
                case rel => exact ⟨kk, k2 + 1, q2 + 1, dk, rfl, by go_num, by omega, by omega, Nat.le_refl _, by rw [W2.out]; rfl, I2.out.skip (keeps_neg (by omega) (by rw [C.out.1, C.out.2]))⟩
              · go_wp2_with fail
                go_region
                go_wp2
                go_roundg (d.size - (k + (k2 + 1)))
                case measure => omega
                case rel => exact ⟨kk + 1, k2 + 1, q2 + 1, dk.setIfInBounds kk u, by go_num, by go_num, by omega, by omega, Nat.le_refl _, store_world_e encR (by omega) W2.out u, by have := I2.out.keep hlt2 (keeps_pos (by rw [C.out.1, C.out.2]; exact huv)); rwa [C.out.1] at this⟩
            · have hend : k + k2 = d.size := by omega
              have hcl : ∀ ty, (Builtin.clear_ #[22] ty #[.slice (some ⟨blk, off + kk, none⟩) (d.size - kk) (cap - kk)]).run Try.prog wr = .ok (.tuple #[]) (wr.setCells blk (off + kk) (List.replicate (d.size - kk) (encR 0))) :=
                fun ty => Lib.run_clear_slice wr _ _ ty _ Try.underlying22 zero21 (hO.cells 0) (hO 0) blk (off + kk) _ _ (by omega) (fun j hj => by rw [show off + kk + j = off + (kk + j) by omega, (hHk (kk + j) (by omega)).1]; rfl) (fun j hj => by rw [show off + kk + j = off + (kk + j) by omega]; exact (hHk (kk + j) (by omega)).2)
              clear hHk hI
              go_wp2
              go_ret
              have hI := I2.out
              rw [hend] at hI
              refine ⟨by rw [hI.len]; rfl, q2, ?_⟩
              rw [hI.len, ← hI.done 0, ← putRow_setCells encR _ blk off _ dk kk (by simp; omega), ← W2.out, List.map_replicate]
        · go_wp2_with fail
          go_region
          go_wp2
          go_roundg (d.size - (k + 1))
          case measure => omega
          case rel =>
            refine ⟨k + 1, q + 1, by omega, by omega, Nat.le_refl _, by go_num, rfl, fun j hj => ?_⟩
            by_cases e : j = k
            · subst e
              exact keeps_pos (by rw [B.out.1, B.out.2]; exact hdup)
            · exact A.out j (by omega)
      · have : k = d.size := by omega
        subst this
        have HH : Aside (Holds encR w blk off d) := hH
        clear hH
        go_wp2
        go_ret
        obtain ⟨e1, e2⟩ := HS.out q hall
        exact ⟨by rw [e1]; rfl, q, e2⟩

theorem compact_nil (p : Option Addr) (cap : Nat) (w : World) : Calls Try.prog 50 #[.slice p 0 cap] w fun e w' => e = .returned (.slice p 0 cap) ∧ w' = w := by
  go_enter Try.func50, Try.ntmps50
  go_wp2
  go_ret
  exact ⟨rfl, rfl⟩

set_option maxHeartbeats 1000000 in
theorem isNaN_any (x : Int) (w : World) : Calls Try.prog 55 #[.int .i32 x] w fun e w' => e = .returned (.bool false) ∧ w' = w := by
  go_enter Try.func55, Try.ntmps55
  go_wp2
  go_ret
  exact ⟨by simp, rfl⟩

set_option maxHeartbeats 1000000 in
theorem less_any (x y : Int) (w : World) : Calls Try.prog 54 #[.int .i32 x, .int .i32 y] w fun e w' => e = .returned (.bool (decide (x < y))) ∧ w' = w := Srt.cmp_Less_int x y w

def Found (c : Nat) (f : Bool) (w : World) (e : Ending) (w' : World) : Prop := e = .returned (.tuple #[.int .i64 (c : Int), .bool f]) ∧ ∃ q, w' = w.drewN q

set_option maxHeartbeats 4000000 in
set_option maxRecDepth 1000000 in
theorem bsearch_any (a : Option Addr) (c : Nat) (zs : List Int) (x : Int) (w : World) (hbig : zs.length < 4611686018427387904) (hc : Row .i32 w a zs) (hs : zs.Pairwise (· ≤ ·)) :
    Calls Try.prog 51 #[.slice a zs.length c, .int .i32 x] w (Found (zs.countP (· < x)) (zs.contains x) w) := by
  have S : Aside (∀ a b, a ≤ b → b < zs.length → zs.getD a 0 ≤ zs.getD b 0) := Lib.sorted_at zs zs.length (Nat.le_refl _) (by rw [List.take_length]; exact hs)
  obtain ⟨n, hn⟩ : ∃ n, n = zs.length := ⟨_, rfl⟩
  have hcell : n = 0 ∨ ∃ b off, a = some ⟨b, off, none⟩ ∧ ∀ j, j < n → w.cell? ⟨b, off + j, none⟩ = some (.int .i32 (zs.getD j 0)) := by
    rcases hc with rfl | h
    · exact .inl hn
    · exact .inr (by rw [hn]; exact h)
  have E : Aside (∀ i, i ≤ n → (∀ t, t < i → zs.getD t 0 < x) → (∀ t, i ≤ t → t < n → x ≤ zs.getD t 0) → zs.countP (· < x) = i ∧ zs.contains x = decide (i < n ∧ zs.getD i 0 = x)) := by
    intro i hi h1 h2
    have := Lib.search_end zs n i x (by omega) hi h1 h2 (by rw [hn]; exact S.out)
    rwa [hn, List.take_length, ← hn] at this
  rw [← hn] at hbig S ⊢
  generalize zs.countP (· < x) = cnt at E ⊢
  generalize zs.contains x = fnd at E ⊢
  obtain ⟨G, hG⟩ : ∃ G : Nat → Int, ∀ t, G t = zs.getD t 0 := ⟨_, fun _ => rfl⟩
  simp only [← hG] at S E hcell
  clear hc hs hG hn
  go_enter Try.func51, Try.ntmps51
  go_wp2
  go_loopg [7, 8] n (fun g s7 s8 wr => ∃ lo hi q : Nat, s7 = .int .i64 lo ∧ s8 = .int .i64 hi ∧ lo ≤ hi ∧ hi ≤ n ∧ hi - lo ≤ g ∧ wr = w.drewN q ∧ (∀ t, t < lo → G t < x) ∧ (∀ t, hi ≤ t → t < n → x ≤ G t))
  case atStart => exact ⟨0, n, 0, rfl, rfl, Nat.zero_le _, Nat.le_refl _, by omega, rfl, fun t ht => absurd ht (Nat.not_lt_zero _), fun t h1 h2 => by omega⟩
  case round =>
    obtain ⟨lo, hi, q, rfl, rfl, hlh, hin, hg, rfl, h1, h2⟩ := hrel
    have I : Aside ((∀ t, t < lo → G t < x) ∧ (∀ t, hi ≤ t → t < n → x ≤ G t)) := ⟨h1, h2⟩
    clear h1 h2
    by_cases hlt : lo < hi
    · obtain h0 | ⟨b, off, rfl, hc⟩ := hcell
      · omega
      have cm : w.cell? ⟨b, off + (lo + hi) / 2, none⟩ = some (.int .i32 (G ((lo + hi) / 2))) := hc _ (by omega)
      clear hc
      generalize hy : G ((lo + hi) / 2) = y at cm
      have Y : Aside (G ((lo + hi) / 2) = y) := hy
      clear hy
      by_cases hyx : y < x
      · go_wp2_with (first | (go_at_call 54; refine (less_any _ _ _).mono ?_; rintro e w' ⟨rfl, rfl⟩) | (go_at_call 55; refine (isNaN_any _ _).mono ?_; rintro e w' ⟨rfl, rfl⟩))
        go_roundg (hi - ((lo + hi) / 2 + 1))
        case measure => omega
        case rel =>
          refine ⟨(lo + hi) / 2 + 1, hi, _, by rw [show ((lo : Int) + (hi : Int)) / 2 + 1 = (((lo + hi) / 2 + 1 : Nat) : Int) by omega], rfl, by omega, hin, Nat.le_refl _, rfl, fun t ht => ?_, I.out.2⟩
          have := S.out t ((lo + hi) / 2) (by omega) (by omega)
          rw [Y.out] at this
          omega
      · go_wp2_with (first | (go_at_call 54; refine (less_any _ _ _).mono ?_; rintro e w' ⟨rfl, rfl⟩) | (go_at_call 55; refine (isNaN_any _ _).mono ?_; rintro e w' ⟨rfl, rfl⟩))
        go_roundg ((lo + hi) / 2 - lo)
        case measure => omega
        case rel =>
          refine ⟨lo, (lo + hi) / 2, _, rfl, by rw [show ((lo : Int) + (hi : Int)) / 2 = (((lo + hi) / 2 : Nat) : Int) by omega], by omega, by omega, Nat.le_refl _, rfl, I.out.1, fun t ht htn => ?_⟩
          have := S.out ((lo + hi) / 2) t ht htn
          rw [Y.out] at this
          omega
    · have : hi = lo := by omega
      subst this
      obtain ⟨e1, e2⟩ := E.out hi hin I.out.1 I.out.2
      have E2 : Aside (cnt = hi ∧ fnd = decide (hi < n ∧ G hi = x)) := ⟨e1, e2⟩
      clear e1 e2
      by_cases hn : hi < n
      · obtain h0 | ⟨b, off, rfl, hc⟩ := hcell
        · omega
        have cl : w.cell? ⟨b, off + hi, none⟩ = some (.int .i32 (G hi)) := hc _ (by omega)
        clear hc
        generalize hy : G hi = y at cl
        have Y : Aside (G hi = y) := hy
        clear hy
        by_cases hyx : y = x
        · go_wp2_with (first | (go_at_call 54; refine (less_any _ _ _).mono ?_; rintro e w' ⟨rfl, rfl⟩) | (go_at_call 55; refine (isNaN_any _ _).mono ?_; rintro e w' ⟨rfl, rfl⟩))
          go_ret2
          refine ⟨?_, _, rfl⟩
          rw [E2.out.1, E2.out.2, Y.out, decide_eq_true (show hi < n ∧ y = x from ⟨hn, hyx⟩)]
          first | rfl | simp [*]
        · go_wp2_with (first | (go_at_call 54; refine (less_any _ _ _).mono ?_; rintro e w' ⟨rfl, rfl⟩) | (go_at_call 55; refine (isNaN_any _ _).mono ?_; rintro e w' ⟨rfl, rfl⟩))
          go_ret2
          refine ⟨?_, _, rfl⟩
          rw [E2.out.1, E2.out.2, Y.out, decide_eq_false (show ¬ (hi < n ∧ y = x) from fun h => hyx h.2)]
          first | rfl | simp [*]
      · clear hcell
        go_wp2_with (first | (go_at_call 54; refine (less_any _ _ _).mono ?_; rintro e w' ⟨rfl, rfl⟩) | (go_at_call 55; refine (isNaN_any _ _).mono ?_; rintro e w' ⟨rfl, rfl⟩))
        go_ret2
        refine ⟨?_, _, rfl⟩
        rw [E2.out.1, E2.out.2, decide_eq_false (show ¬ (hi < n ∧ G hi = x) from fun h => hn h.1)]
        first | rfl | simp [*]

/-- slices.Index: the first place, or -1. -/
def Indexed (zs : List Int) (x : Int) (w : World) (e : Ending) (w' : World) : Prop :=
  w' = w ∧ ((e = .returned (.int .i64 (-1)) ∧ ∀ j, j < zs.length → zs.getD j 0 ≠ x) ∨ ∃ k : Nat, e = .returned (.int .i64 (k : Int)) ∧ k < zs.length ∧ zs.getD k 0 = x ∧ ∀ j, j < k → zs.getD j 0 ≠ x)

set_option maxHeartbeats 1000000 in
theorem index_any (a : Option Addr) (c : Nat) (zs : List Int) (x : Int) (w : World) (hbig : zs.length < 4611686018427387904) (hc : Row .i32 w a zs) :
    Calls Try.prog 47 #[.slice a zs.length c, .int .i32 x] w (Indexed zs x w) := by
  obtain ⟨n, hn⟩ : ∃ n, n = zs.length := ⟨_, rfl⟩
  obtain ⟨G, hG⟩ : ∃ G : Nat → Int, ∀ t, G t = zs.getD t 0 := ⟨_, fun _ => rfl⟩
  have hcell : n = 0 ∨ ∃ b off, a = some ⟨b, off, none⟩ ∧ ∀ j, j < n → w.cell? ⟨b, off + j, none⟩ = some (.int .i32 (G j)) := by
    rcases hc with rfl | h
    · exact .inl hn
    · exact .inr (by simp only [hG]; rw [hn]; exact h)
  have E : Hid (∀ e w', (w' = w ∧ ((e = Ending.returned (.int .i64 (-1)) ∧ ∀ j, j < n → G j ≠ x) ∨ ∃ k : Nat, e = .returned (.int .i64 (k : Int)) ∧ k < n ∧ G k = x ∧ ∀ j, j < k → G j ≠ x)) → Indexed zs x w e w') := fun e w' h => by
    simp only [hG, hn] at h
    exact h
  rw [← hn] at hbig ⊢
  clear hc hG hn
  go_enter Try.func47, Try.ntmps47
  go_wp2
  go_loop [5, 8] (fun _ i => ∃ k : Nat, k ≤ n ∧ i = .int .i64 k ∧ ∀ j, j < k → G j ≠ x) (fun _ i => n - (intOf i).toNat)
  case atStart => exact ⟨0, Nat.zero_le _, rfl, fun j hj => absurd hj (Nat.not_lt_zero _)⟩
  case round =>
    obtain ⟨k, hk, rfl, hne⟩ := hrel
    have HN : Hid (∀ j, j < k → G j ≠ x) := hne
    clear hne
    by_cases hlt : k < n
    · obtain h0 | ⟨b, off, rfl, hc⟩ := hcell
      · omega
      have cm := hc k hlt
      clear hc
      by_cases hx : G k = x
      · have hb : (x == G k) = true := by simp [hx]
        have HX : Hid (G k = x) := hx
        clear hx
        go_wp2
        go_ret
        exact E.out _ _ ⟨rfl, .inr ⟨k, rfl, hlt, HX.out, HN.out⟩⟩
      · have hb : (x == G k) = false := by simp; exact fun h => hx h.symm
        have HX : Hid (¬ G k = x) := hx
        clear hx
        go_wp2
        go_round
        case rel => exact ⟨k + 1, by omega, by go_num, fun j hj => by
          rcases Nat.lt_succ_iff_lt_or_eq.1 hj with h | rfl
          · exact HN.out j h
          · exact HX.out⟩
        case measure => simp [intOf]; omega
    · go_wp2
      go_ret
      exact E.out _ _ ⟨rfl, .inl ⟨rfl, fun j hj => HN.out j (by omega)⟩⟩
end Go.Proofs.Qxb6601041a
