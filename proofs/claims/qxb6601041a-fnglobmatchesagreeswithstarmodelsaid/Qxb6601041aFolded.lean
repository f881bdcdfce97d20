/- The value that globs read, and the small functions over it. -/
import Derived.Test.Qxb6601041aSmall
import Derived.Test.Qxb6601041aSeek
import Derived.WalkSmall
import Derived.Lib.SliceRun
import Derived.Lib.LazyBuf
namespace Go.Proofs.Qxb6601041a
open Go.RowKit

/-- A row of booleans. -/
def BRow (w : World) (a : Option Addr) (bs : List Bool) : Prop := bs = [] ∨ ∃ b off, a = some ⟨b, off, none⟩ ∧ ∀ j, j < bs.length → w.cell? ⟨b, off + j, none⟩ = some (.bool (bs.getD j false))

theorem BRow.kept {w w' : World} {a : Option Addr} {bs : List Bool} (h : BRow w a bs) (hb : Below w.heap.size w w') : BRow w' a bs := by
  rcases h with h | ⟨b, off, rfl, hc⟩
  · exact .inl h
  · refine .inr ⟨b, off, rfl, fun j hj => ?_⟩
    rw [hb.cell (p := ⟨b, off + j, none⟩) (World.block_lt_of_cell? w _ (hc j hj))]
    exact hc j hj

theorem BRow.under {B : Nat} {w w' : World} {a : Option Addr} {bs : List Bool} (h : BRow w a bs) (hb : Below B w w') (hl : ∀ x, blockOf a = some x → x < B) : BRow w' a bs := by
  rcases h with h | ⟨b, off, rfl, hc⟩
  · exact .inl h
  · refine .inr ⟨b, off, rfl, fun j hj => ?_⟩
    rw [hb.cell (p := ⟨b, off + j, none⟩) (hl b rfl)]
    exact hc j hj

theorem BRow.drewN {w : World} {a : Option Addr} {bs : List Bool} (h : BRow w a bs) (n : Nat) : BRow (w.drewN n) a bs := h

/-! ### The clone of a row of booleans -/
theorem info4' : (Try.prog.info? 4).map (fun i => (i.zero, i.size, i.bytes)) = some (some (.bool false), 1, 1) := by kernel_rfl

theorem make23 (n : Nat) (h : n ≤ 1048576) (w : World) :
    (Instr.makeSlice 23 (.int .i64 (n : Int)) (.int .i64 (n : Int))).run Try.prog w = .ok (.slice (some ⟨w.heap.size, 0, none⟩) n n) (w.alloc (.cells (madeCells #[.bool false] n) 4)) :=
  run_make_row' (P := Try.prog) 23 4 (.bool false) 1 Try.underlying23 info4' rfl .i64 .i64 n (by omega) (by omega) w

def ClonedB (bs : List Bool) (w : World) (e : Ending) (w' : World) : Prop :=
  ∃ a c, e = .returned (.slice a bs.length c) ∧ BRow w' a bs ∧ Below w.heap.size w w' ∧ ∀ x, blockOf a = some x → x < w'.heap.size

set_option maxHeartbeats 400000 in
theorem cloneB_any (a : Option Addr) (c : Nat) (bs : List Bool) (w : World) (hz : BRow w a bs) (hnil : a = none → bs = []) (hl : bs.length ≤ 1048576) :
    Calls Try.prog 13 #[.slice a bs.length c] w (ClonedB bs w) := by
  have hnl := fun (w : World) (a : Option Addr) (n c : Nat) => Lib.run_eql_slice_nil (P := Try.prog) w 23 4 a n c 0 0 Try.underlying23
  rcases a with _ | x
  · obtain rfl := hnil rfl
    go_enter Try.func13, Try.ntmps13
    go_wp2
    go_ret
    exact ⟨none, 0, rfl, .inl rfl, Below.refl _ _, fun x hx => by cases hx⟩
  · have hmk := make23 bs.length hl
    obtain ⟨n, hn⟩ : ∃ n, n = bs.length := ⟨_, rfl⟩
    rw [← hn] at hmk hl ⊢
    have hst := World.rowIs_made w (.bool false) n 4
    obtain ⟨G, hG⟩ : ∃ G : Nat → Bool, ∀ t, G t = bs.getD t false := ⟨_, fun _ => rfl⟩
    have hcell : n = 0 ∨ ∃ b off, x = ⟨b, off, none⟩ ∧ ∀ j, j < n → w.cell? ⟨b, off + j, none⟩ = some (.bool (G j)) := by
      rcases hz with rfl | ⟨b, off, hx, h⟩
      · exact .inl hn
      · exact .inr ⟨b, off, by simpa using hx, by simp only [hG]; rw [hn]; exact h⟩
    have HE : Hid (∀ w', (∀ i, i < n → w'.cell? ⟨w.heap.size, i, none⟩ = some (.bool (G i))) → w.heap.size < w'.heap.size → Below w.heap.size w w' → ClonedB bs w (.returned (.slice (some ⟨w.heap.size, 0, none⟩) n n)) w') := fun w' h1 h2 h3 =>
      ⟨some ⟨w.heap.size, 0, none⟩, n, by rw [hn], .inr ⟨w.heap.size, 0, rfl, fun j hj => by rw [Nat.zero_add, ← hG]; exact h1 j (by omega)⟩, h3, (fun x hx => by simp [blockOf] at hx; omega)⟩
    clear hz hn hG hnil
    go_enter Try.func13, Try.ntmps13
    go_wp2
    go_loopw [4] (fun i wr => ∃ (k : Nat) (f : Nat → Value), k ≤ n ∧ i = .int .i64 k ∧ Below w.heap.size w wr ∧ wr.rowIs w.heap.size 4 n f ∧ ∀ j, j < k → f j = .bool (G j)) (fun i _ => n - (intOf i).toNat)
    case atStart => exact ⟨0, _, Nat.zero_le _, rfl, (Below.refl _ _).alloc (Nat.le_refl _) _, hst, fun j hj => absurd hj (Nat.not_lt_zero _)⟩
    case round =>
      obtain ⟨k, f, hk, rfl, hbel, hrow, hall⟩ := hrel
      have HA : Hid (∀ j, j < k → f j = .bool (G j)) := hall
      clear hst hall
      by_cases hlt : k < n
      · obtain h0 | ⟨b, off, rfl, hc⟩ := hcell
        · omega
        have c0 := hc k hlt
        have hl : b < w.heap.size := World.block_lt_of_cell? w _ c0
        rw [← hbel.cell (p := ⟨b, off + k, none⟩) hl] at c0
        have d0 := hrow.cell (i := k) hlt
        have f0 := hrow.frozen k
        clear hc
        go_wp2
        go_roundw
        case rel =>
          refine ⟨k + 1, _, by omega, by go_num, hbel.setCell (by simp) _, hrow.set k (.bool (G k)), fun j hj => ?_⟩
          rcases Nat.lt_succ_iff_lt_or_eq.1 hj with h | rfl
          · simp only [show ¬ j = k by omega, if_false]; exact HA.out j h
          · simp
        case measure => simp [intOf]; omega
      · go_wp2
        go_ret
        exact HE.out _ (fun i hi => by rw [hrow.cell hi, HA.out i (by omega)]) hrow.lt hbel

/-! ### The folded value -/
/-- What may be read of it. -/
structure FoR (w : World) (bf : Nat) (va : Option Addr) (vc : Nat) (wa : Option Addr) (wc : Nat) (vs : List Int) (bs : List Bool) : Prop where
  c0 : w.cell? ⟨bf, 0, none⟩ = some (.slice va vs.length vc)
  c1 : w.cell? ⟨bf, 1, none⟩ = some (.slice wa bs.length wc)
  rv : Row .i32 w va vs
  rb : BRow w wa bs

theorem FoR.drewN {w : World} {bf : Nat} {va : Option Addr} {vc : Nat} {wa : Option Addr} {wc : Nat} {vs : List Int} {bs : List Bool} (h : FoR w bf va vc wa wc vs bs) (n : Nat) : FoR (w.drewN n) bf va vc wa wc vs bs := ⟨h.c0, h.c1, h.rv, h.rb⟩

def beginsAt (bs : List Bool) (i : Nat) : Bool := decide (i = 0) || !bs.getD (i - 1) false
def endsAt (bs : List Bool) (n i : Nat) : Bool := decide (i = n) || !bs.getD i false

theorem begins_any (w : World) (bf : Nat) (va : Option Addr) (vc : Nat) (wa : Option Addr) (wc : Nat) (vs : List Int) (bs : List Bool) (h : FoR w bf va vc wa wc vs bs) (i : Nat) (hi : i ≤ bs.length) (hb : bs.length ≤ 1000000) :
    Calls Try.prog 44 #[.pointer (some ⟨bf, 0, none⟩), .int .i64 i] w (Says (beginsAt bs i) w) := by
  obtain ⟨_, c1, _, rb⟩ := h
  rcases i with _ | i
  · clear rb
    go_enter Try.func44, Try.ntmps44
    go_wp2
    go_ret
    exact ⟨by simp [beginsAt], 0, rfl⟩
  · obtain h0 | ⟨b, off, rfl, hc⟩ := rb
    · rw [h0] at hi; simp at hi
    have c2 := hc i (by omega)
    obtain ⟨y, hy⟩ : ∃ y, bs.getD i false = y := ⟨_, rfl⟩
    have HY : Hid (beginsAt bs (i + 1) = !y) := by show beginsAt bs (i + 1) = !y; unfold beginsAt; rw [Nat.add_sub_cancel, hy]; simp
    have hz : ((i : Int) + 1 == 0) = false := by simp; omega
    obtain ⟨n, hn⟩ : ∃ n, bs.length = n := ⟨_, rfl⟩
    rw [hn] at c1 hi hb
    rw [hy] at c2
    clear hc hy hn
    go_enter Try.func44, Try.ntmps44
    go_wp2
    go_ret
    exact ⟨by rw [HY.out]; simp, 0, rfl⟩

theorem ends_any (w : World) (bf : Nat) (va : Option Addr) (vc : Nat) (wa : Option Addr) (wc : Nat) (vs : List Int) (bs : List Bool) (h : FoR w bf va vc wa wc vs bs) (i : Nat) (hi : i ≤ vs.length) (hl : bs.length = vs.length) (hb : bs.length ≤ 1000000) :
    Calls Try.prog 45 #[.pointer (some ⟨bf, 0, none⟩), .int .i64 i] w (Says (endsAt bs vs.length i) w) := by
  obtain ⟨c0, c1, _, rb⟩ := h
  rw [hl] at c1 hb
  obtain ⟨n, hn⟩ : ∃ n, vs.length = n := ⟨_, rfl⟩
  rw [hn] at c0 c1 hi hl hb ⊢
  by_cases hin : i = n
  · subst hin
    clear rb hl hn
    go_enter Try.func45, Try.ntmps45
    go_wp2
    go_ret
    exact ⟨by simp [endsAt], 0, rfl⟩
  · obtain h0 | ⟨b, off, rfl, hc⟩ := rb
    · rw [h0] at hl; simp at hl; omega
    have c2 := hc i (by omega)
    obtain ⟨y, hy⟩ : ∃ y, bs.getD i false = y := ⟨_, rfl⟩
    have HY : Hid (endsAt bs n i = !y) := by show endsAt bs n i = !y; unfold endsAt; rw [hy]; simp [hin]
    have hne : ((i : Int) == (n : Int)) = false := by simp; omega
    have hlt : i < n := by omega
    rw [hy] at c2
    clear hc hy hn hl
    go_enter Try.func45, Try.ntmps45
    go_wp2
    go_ret
    exact ⟨by rw [HY.out]; simp, 0, rfl⟩
end Go.Proofs.Qxb6601041a
