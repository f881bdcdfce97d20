/- Small walks: the clones, the comparers, the bounds. -/
import Derived.Test.Qxb6601041aGlob
import Derived.Deep.OwnRows
import Derived.Deep.QuietTactic
import Derived.BigQuiet
import Derived.WalkSpells
import Derived.WalkLawsBesides
namespace Go.Proofs.Qxb6601041a
open Go.RowKit

theorem Row.kept {k : IntKind} {w w' : World} {a : Option Addr} {zs : List Int} (h : Row k w a zs) (hb : Below w.heap.size w w') : Row k w' a zs := by
  rcases h with h | ⟨b, off, rfl, hc⟩
  · exact .inl h
  · refine .inr ⟨b, off, rfl, fun j hj => ?_⟩
    rw [hb.cell (p := ⟨b, off + j, none⟩) (World.block_lt_of_cell? w _ (hc j hj))]
    exact hc j hj

theorem Row.under {B : Nat} {k : IntKind} {w w' : World} {a : Option Addr} {zs : List Int} (h : Row k w a zs) (hb : Below B w w') (hl : ∀ x, blockOf a = some x → x < B) : Row k w' a zs := by
  rcases h with h | ⟨b, off, rfl, hc⟩
  · exact .inl h
  · refine .inr ⟨b, off, rfl, fun j hj => ?_⟩
    rw [hb.cell (p := ⟨b, off + j, none⟩) (hl b rfl)]
    exact hc j hj

/-- A part of a row. -/
theorem Row.part {k : IntKind} {w : World} {a : Option Addr} {zs : List Int} (h : Row k w a zs) {c lo hi : Nat} (hc : zs.length ≤ c) (hlo : lo ≤ hi) (hhi : hi ≤ zs.length) : Row k w (if c = lo then a else a.map fun x => x.add lo) ((zs.drop lo).take (hi - lo)) := by
  by_cases h0 : hi = lo
  · subst h0; exact .inl (by simp)
  · rcases h with h | ⟨b, off, rfl, hcell⟩
    · subst h; simp at hhi; omega
    · rw [if_neg (by omega)]
      refine .inr ⟨b, off + lo, by simp [Addr.add], fun j hj => ?_⟩
      have hj' : j < hi - lo := by simp at hj; omega
      have := hcell (lo + j) (by omega)
      rw [show off + (lo + j) = off + lo + j by omega] at this
      rw [this]
      simp [List.getD, hj']

theorem part_block {a : Option Addr} {c lo B : Nat} (h : ∀ x, blockOf a = some x → x < B) : ∀ x, blockOf (if c = lo then a else a.map fun x => x.add lo) = some x → x < B := by
  intro x hx
  apply h x
  split at hx
  · exact hx
  · cases a with
    | none => cases hx
    | some y =>
      simp [blockOf, Addr.add] at hx ⊢
      split at hx <;> exact hx

theorem part_none {a : Option Addr} {c lo : Nat} (h : (if c = lo then a else a.map fun x => x.add lo) = none) : a = none := by
  split at h
  · exact h
  · cases a with
    | none => rfl
    | some y => cases h

theorem Row.drewN {k : IntKind} {w : World} {a : Option Addr} {zs : List Int} (h : Row k w a zs) (n : Nat) : Row k (w.drewN n) a zs := h

theorem info21' : (Try.prog.info? 21).map (fun i => (i.zero, i.size, i.bytes)) = some (some (.int .i32 0), 1, 4) := by kernel_rfl

/-- The cells that 'make' lays. -/
def zrow (n : Nat) : Array Value := madeCells #[.int .i32 0] n

theorem make22 (n : Nat) (h : n ≤ 1048576) (w : World) :
    (Instr.makeSlice 22 (.int .i64 (n : Int)) (.int .i64 (n : Int))).run Try.prog w = .ok (.slice (some ⟨w.heap.size, 0, none⟩) n n) (w.alloc (.cells (zrow n) 21)) :=
  run_make_row' (P := Try.prog) 22 21 (.int .i32 0) 4 Try.underlying22 info21' rfl .i64 .i64 n (by omega) (by omega) w

/-- A copy in new memory. -/
def Cloned (k : IntKind) (zs : List Int) (w : World) (e : Ending) (w' : World) : Prop :=
  ∃ a c, e = .returned (.slice a zs.length c) ∧ Row k w' a zs ∧ (a = none → zs = [] ∧ c = 0) ∧ Below w.heap.size w w' ∧ (∀ x, blockOf a = some x → x < w'.heap.size) ∧ zs.length ≤ c

set_option maxHeartbeats 400000 in
theorem clone_any (a : Option Addr) (c : Nat) (zs : List Int) (w : World) (hz : Row .i32 w a zs) (hnil : a = none → zs = [] ∧ c = 0) (hl : zs.length ≤ 1048576) :
    Calls Try.prog 12 #[.slice a zs.length c] w (Cloned .i32 zs w) := by
  have hnl := fun (w : World) (a : Option Addr) (n c : Nat) => Lib.run_eql_slice_nil (P := Try.prog) w 22 21 a n c 0 0 Try.underlying22
  rcases a with _ | x
  · obtain ⟨rfl, rfl⟩ := hnil rfl
    go_enter Try.func12, Try.ntmps12
    go_wp2
    go_ret
    exact ⟨none, 0, rfl, .inl rfl, fun _ => ⟨rfl, rfl⟩, Below.refl _ _, (fun x hx => by cases hx), Nat.le_refl _⟩
  · have hmk := make22 zs.length hl
    obtain ⟨n, hn⟩ : ∃ n, n = zs.length := ⟨_, rfl⟩
    rw [← hn] at hmk hl ⊢
    have hst := World.rowIs_made w (.int .i32 0) n 21
    obtain ⟨G, hG⟩ : ∃ G : Nat → Int, ∀ t, G t = zs.getD t 0 := ⟨_, fun _ => rfl⟩
    have hcell : n = 0 ∨ ∃ b off, x = ⟨b, off, none⟩ ∧ ∀ j, j < n → w.cell? ⟨b, off + j, none⟩ = some (.int .i32 (G j)) := by
      rcases hz with rfl | ⟨b, off, hx, h⟩
      · exact .inl hn
      · exact .inr ⟨b, off, by simpa using hx, by simp only [hG]; rw [hn]; exact h⟩
    have HE : Hid (∀ w', (∀ i, i < n → w'.cell? ⟨w.heap.size, i, none⟩ = some (.int .i32 (G i))) → w.heap.size < w'.heap.size → Below w.heap.size w w' → Cloned .i32 zs w (.returned (.slice (some ⟨w.heap.size, 0, none⟩) n n)) w') := fun w' h1 h2 h3 =>
      ⟨some ⟨w.heap.size, 0, none⟩, n, by rw [hn], .inr ⟨w.heap.size, 0, rfl, fun j hj => by rw [Nat.zero_add, ← hG]; exact h1 j (by omega)⟩, (fun h => by cases h), h3, (fun x hx => by simp [blockOf] at hx; omega), by omega⟩
    clear hz hn hG hnil
    go_enter Try.func12, Try.ntmps12
    go_wp2
    go_loopw [4] (fun i wr => ∃ (k : Nat) (f : Nat → Value), k ≤ n ∧ i = .int .i64 k ∧ Below w.heap.size w wr ∧ wr.rowIs w.heap.size 21 n f ∧ ∀ j, j < k → f j = .int .i32 (G j)) (fun i _ => n - (intOf i).toNat)
    case atStart => exact ⟨0, _, Nat.zero_le _, rfl, (Below.refl _ _).alloc (Nat.le_refl _) _, hst, fun j hj => absurd hj (Nat.not_lt_zero _)⟩
    case round =>
      obtain ⟨k, f, hk, rfl, hbel, hrow, hall⟩ := hrel
      have HA : Hid (∀ j, j < k → f j = .int .i32 (G j)) := hall
      clear hst hall
      by_cases hlt : k < n
      · obtain h0 | ⟨b, off, rfl, hc⟩ := hcell
        · omega
        have c0 := hc k hlt
        have hl : b < w.heap.size := World.block_lt_of_cell? w _ c0
        rw [← hbel.cell (p := ⟨b, off + k, none⟩) hl] at c0
        have d0 := hrow.cell (i := k) hlt
        have f0 := hrow.frozen k
        clear hc
        go_wp2
        go_roundw
        case rel =>
          refine ⟨k + 1, _, by omega, by go_num, hbel.setCell (by simp) _, hrow.set k (.int .i32 (G k)), fun j hj => ?_⟩
          rcases Nat.lt_succ_iff_lt_or_eq.1 hj with h | rfl
          · simp only [show ¬ j = k by omega, if_false]; exact HA.out j h
          · simp
        case measure => simp [intOf]; omega
      · go_wp2
        go_ret
        exact HE.out _ (fun i hi => by rw [hrow.cell hi, HA.out i (by omega)]) hrow.lt hbel

def Says (r : Bool) (w : World) (e : Ending) (w' : World) : Prop := e = .returned (.bool r) ∧ ∃ n, w' = w.drewN n

theorem bool_of (p : Prop) : ∃ r : Bool, r = true ↔ p := by
  classical
  exact ⟨decide p, by simp⟩

/-- Two lists, index by index. -/
theorem list_same {xs ys : List Int} : xs = ys ↔ xs.length = ys.length ∧ ∀ i, i < xs.length → xs.getD i 0 = ys.getD i 0 := by
  constructor
  · rintro rfl; exact ⟨rfl, fun _ _ => rfl⟩
  · rintro ⟨h1, h2⟩
    apply List.ext_getElem h1
    intro i hi hj
    have := h2 i hi
    simpa [List.getD, hi, hj] using this

theorem int_ne {q q' : Int} (h : (q != q') = true) : q ≠ q' := by simpa using h
theorem int_eq {q q' : Int} (h : (q != q') = false) : q = q' := by simpa using h

set_option maxHeartbeats 400000 in
theorem same_runes (a b : Option Addr) (ca cb : Nat) (xs ys : List Int) (r : Bool) (hr : r = true ↔ xs = ys) (w : World) (hx : Row .i32 w a xs) (hy : Row .i32 w b ys) (hxl : xs.length ≤ 1000000000) (hyl : ys.length ≤ 1000000000) :
    Calls Try.prog 33 #[.slice a xs.length ca, .slice b ys.length cb] w (Says r w) := by
  rw [list_same] at hr
  obtain ⟨n, hn⟩ : ∃ n, n = xs.length := ⟨_, rfl⟩
  obtain ⟨m, hm⟩ : ∃ m, m = ys.length := ⟨_, rfl⟩
  obtain ⟨F, hF⟩ : ∃ F : Nat → Int, ∀ t, F t = xs.getD t 0 := ⟨_, fun _ => rfl⟩
  obtain ⟨G, hG⟩ : ∃ G : Nat → Int, ∀ t, G t = ys.getD t 0 := ⟨_, fun _ => rfl⟩
  have hcx : n = 0 ∨ ∃ b off, a = some ⟨b, off, none⟩ ∧ ∀ j, j < n → w.cell? ⟨b, off + j, none⟩ = some (.int .i32 (F j)) := by
    rcases hx with rfl | h
    · exact .inl hn
    · exact .inr (by simp only [hF]; rw [hn]; exact h)
  have hcy : m = 0 ∨ ∃ b' off, b = some ⟨b', off, none⟩ ∧ ∀ j, j < m → w.cell? ⟨b', off + j, none⟩ = some (.int .i32 (G j)) := by
    rcases hy with rfl | h
    · exact .inl hm
    · exact .inr (by simp only [hG]; rw [hm]; exact h)
  rw [← hn] at hr hxl ⊢
  rw [← hm] at hr hyl ⊢
  simp only [← hF, ← hG] at hr
  clear hx hy hn hm hF hG
  by_cases h1 : n = m
  · subst h1
    have no : Hid (∀ k, k < n → (F k != G k) = true → r = false) := fun k hk hne => by
      cases r
      · rfl
      · exact absurd ((hr.1 rfl).2 k hk) (int_ne hne)
    have yes : Hid ((∀ i, i < n → F i = G i) → r = true) := fun h => hr.2 ⟨rfl, h⟩
    clear hr
    go_enter Try.func33, Try.ntmps33
    go_wp2
    go_loopw [5] (fun i wr => ∃ (k q : Nat), k ≤ n ∧ i = .int .i64 k ∧ wr = w.drewN q ∧ ∀ i, i < k → F i = G i) (fun i _ => n - (intOf i).toNat)
    case atStart => exact ⟨0, 0, Nat.zero_le _, rfl, rfl, fun i hi => absurd hi (Nat.not_lt_zero _)⟩
    case round =>
      obtain ⟨k, q, hk, rfl, rfl, hall⟩ := hrel
      have HA : Hid (∀ i, i < k → F i = G i) := hall
      clear hall
      by_cases hlt : k < n
      · obtain h0 | ⟨b1, o1, rfl, hc1⟩ := hcx
        · omega
        obtain h0 | ⟨b2, o2, rfl, hc2⟩ := hcy
        · omega
        have c1 := hc1 k hlt
        have c2 := hc2 k hlt
        clear hc1 hc2
        go_wp2
        go_quiet (fail)
        go_wp2
        · have hne : (F k != G k) = true := by assumption
          go_ret
          exact ⟨by rw [no.out k hlt hne]; rfl, q + nq, World.drewN_drewN ..⟩
        · have hne : (F k != G k) = false := by assumption
          go_roundw
          case rel =>
            refine ⟨k + 1, q + nq, by omega, by go_num, rfl, fun i hi => ?_⟩
            rcases Nat.lt_succ_iff_lt_or_eq.1 hi with h | rfl
            · exact HA.out i h
            · exact int_eq hne
          case measure => simp [intOf]; omega
      · go_wp2
        go_ret
        exact ⟨by rw [yes.out fun i hi => HA.out i (by omega)]; rfl, q, rfl⟩
  · have h2 : ((n : Int) == (m : Int)) = false := by simp; omega
    have h3 : Hid (r = false) := by
      show r = false
      cases r
      · rfl
      · exact absurd (hr.1 rfl).1 h1
    clear hr hcx hcy
    go_enter Try.func33, Try.ntmps33
    go_wp2
    go_ret
    exact ⟨by rw [h3.out]; rfl, 0, rfl⟩

set_option maxHeartbeats 400000 in
theorem same_words (a b : Option Addr) (ca cb : Nat) (xs ys : List Int) (r : Bool) (hr : r = true ↔ xs = ys) (w : World) (hx : Row .u64 w a xs) (hy : Row .u64 w b ys) (hxl : xs.length ≤ 1000000000) (hyl : ys.length ≤ 1000000000) :
    Calls Try.prog 34 #[.slice a xs.length ca, .slice b ys.length cb] w (Says r w) := by
  rw [list_same] at hr
  obtain ⟨n, hn⟩ : ∃ n, n = xs.length := ⟨_, rfl⟩
  obtain ⟨m, hm⟩ : ∃ m, m = ys.length := ⟨_, rfl⟩
  obtain ⟨F, hF⟩ : ∃ F : Nat → Int, ∀ t, F t = xs.getD t 0 := ⟨_, fun _ => rfl⟩
  obtain ⟨G, hG⟩ : ∃ G : Nat → Int, ∀ t, G t = ys.getD t 0 := ⟨_, fun _ => rfl⟩
  have hcx : n = 0 ∨ ∃ b off, a = some ⟨b, off, none⟩ ∧ ∀ j, j < n → w.cell? ⟨b, off + j, none⟩ = some (.int .u64 (F j)) := by
    rcases hx with rfl | h
    · exact .inl hn
    · exact .inr (by simp only [hF]; rw [hn]; exact h)
  have hcy : m = 0 ∨ ∃ b' off, b = some ⟨b', off, none⟩ ∧ ∀ j, j < m → w.cell? ⟨b', off + j, none⟩ = some (.int .u64 (G j)) := by
    rcases hy with rfl | h
    · exact .inl hm
    · exact .inr (by simp only [hG]; rw [hm]; exact h)
  rw [← hn] at hr hxl ⊢
  rw [← hm] at hr hyl ⊢
  simp only [← hF, ← hG] at hr
  clear hx hy hn hm hF hG
  by_cases h1 : n = m
  · subst h1
    have no : Hid (∀ k, k < n → (F k != G k) = true → r = false) := fun k hk hne => by
      cases r
      · rfl
      · exact absurd ((hr.1 rfl).2 k hk) (int_ne hne)
    have yes : Hid ((∀ i, i < n → F i = G i) → r = true) := fun h => hr.2 ⟨rfl, h⟩
    clear hr
    go_enter Try.func34, Try.ntmps34
    go_wp2
    go_loopw [5] (fun i wr => ∃ (k q : Nat), k ≤ n ∧ i = .int .i64 k ∧ wr = w.drewN q ∧ ∀ i, i < k → F i = G i) (fun i _ => n - (intOf i).toNat)
    case atStart => exact ⟨0, 0, Nat.zero_le _, rfl, rfl, fun i hi => absurd hi (Nat.not_lt_zero _)⟩
    case round =>
      obtain ⟨k, q, hk, rfl, rfl, hall⟩ := hrel
      have HA : Hid (∀ i, i < k → F i = G i) := hall
      clear hall
      by_cases hlt : k < n
      · obtain h0 | ⟨b1, o1, rfl, hc1⟩ := hcx
        · omega
        obtain h0 | ⟨b2, o2, rfl, hc2⟩ := hcy
        · omega
        have c1 := hc1 k hlt
        have c2 := hc2 k hlt
        clear hc1 hc2
        go_wp2
        go_quiet (fail)
        go_wp2
        · have hne : (F k != G k) = true := by assumption
          go_ret
          exact ⟨by rw [no.out k hlt hne]; rfl, q + nq, World.drewN_drewN ..⟩
        · have hne : (F k != G k) = false := by assumption
          go_roundw
          case rel =>
            refine ⟨k + 1, q + nq, by omega, by go_num, rfl, fun i hi => ?_⟩
            rcases Nat.lt_succ_iff_lt_or_eq.1 hi with h | rfl
            · exact HA.out i h
            · exact int_eq hne
          case measure => simp [intOf]; omega
      · go_wp2
        go_ret
        exact ⟨by rw [yes.out fun i hi => HA.out i (by omega)]; rfl, q, rfl⟩
  · have h2 : ((n : Int) == (m : Int)) = false := by simp; omega
    have h3 : Hid (r = false) := by
      show r = false
      cases r
      · rfl
      · exact absurd (hr.1 rfl).1 h1
    clear hr hcx hcy
    go_enter Try.func34, Try.ntmps34
    go_wp2
    go_ret
    exact ⟨by rw [h3.out]; rfl, 0, rfl⟩

def SomeBool (w : World) (e : Ending) (w' : World) : Prop := ∃ b : Bool, e = .returned (.bool b) ∧ w' = w

set_option maxHeartbeats 400000 in
theorem bytes31 (a b : Option Addr) (na ca nb cb : Nat) (g : Int) (w : World) (ha : na ≤ maxLen) (hb : nb ≤ maxLen) :
    Calls Try.prog 31 #[.slice a na ca, .int .i64 g, .slice b nb cb] w (SomeBool w) := by
  unfold maxLen at *
  by_cases h1 : 1048576 < na
  · go_enter Try.func31, Try.ntmps31
    go_wp2
    go_ret
    exact ⟨_, rfl, rfl⟩
  by_cases h2 : 1048576 < nb
  · go_enter Try.func31, Try.ntmps31
    go_wp2
    go_ret
    exact ⟨_, rfl, rfl⟩
  by_cases h3 : 1048576 < na + nb
  · go_enter Try.func31, Try.ntmps31
    go_wp2
    go_ret
    exact ⟨_, rfl, rfl⟩
  go_enter Try.func31, Try.ntmps31
  go_wp2
  go_ret
  exact ⟨_, rfl, rfl⟩

set_option maxHeartbeats 400000 in
theorem bytes26 (a b : Option Addr) (na ca nb cb : Nat) (g h : Int) (w : World) (ha : na ≤ maxLen) (hb : nb ≤ maxLen) :
    Calls Try.prog 26 #[.int .i64 g, .slice a na ca, .int .i64 h, .slice b nb cb] w (SomeBool w) := by
  unfold maxLen at *
  by_cases h1 : 1048576 < na
  · go_enter Try.func26, Try.ntmps26
    go_wp2
    go_ret
    exact ⟨_, rfl, rfl⟩
  by_cases h2 : 1048576 < nb
  · go_enter Try.func26, Try.ntmps26
    go_wp2
    go_ret
    exact ⟨_, rfl, rfl⟩
  by_cases h3 : 1048576 < na + nb
  · go_enter Try.func26, Try.ntmps26
    go_wp2
    go_ret
    exact ⟨_, rfl, rfl⟩
  go_enter Try.func26, Try.ntmps26
  go_wp2
  go_ret
  exact ⟨_, rfl, rfl⟩
end Go.Proofs.Qxb6601041a
