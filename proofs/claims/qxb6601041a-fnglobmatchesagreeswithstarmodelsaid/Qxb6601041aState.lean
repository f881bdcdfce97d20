/- The folded value's scratch words. -/
import Derived.Test.Qxb6601041aFolded
import Derived.Test.Qxb6601041aGlob
namespace Go.Proofs.Qxb6601041a
open Go.RowKit

/-- The folded value in memory. -/
structure Fo (w : World) (bf : Nat) (va : Option Addr) (vc : Nat) (wa : Option Addr) (wc : Nat) (sa : Option Addr) (sl sc : Nat) (vs : List Int) (bs : List Bool) : Prop where
  blk : w.heap[bf]? = some (.cells #[.slice va vs.length vc, .slice wa bs.length wc, .slice sa sl sc] 52 (0, 0))
  rv : Row .i32 w va vs
  rb : BRow w wa bs
  lv : ∀ x, blockOf va = some x → x < bf
  lb : ∀ x, blockOf wa = some x → x < bf
  cv : vs.length ≤ vc
  scr : (sc = 0 ∧ sa = none) ∨ ∃ g f, sa = some ⟨g, 0, none⟩ ∧ bf < g ∧ w.rowIs g 65 sc f

theorem info65' : (Try.prog.info? 65).map (fun i => (i.zero, i.size, i.bytes)) = some (some (.int .u64 0), 1, 8) := by kernel_rfl

theorem make45 (n : Nat) (h : n ≤ 1048576) (w : World) :
    (Instr.makeSlice 45 (.int .i64 (n : Int)) (.int .i64 (n : Int))).run Try.prog w = .ok (.slice (some ⟨w.heap.size, 0, none⟩) n n) (w.alloc (.cells (madeCells #[.int .u64 0] n) 65)) :=
  run_make_row' (P := Try.prog) 45 65 (.int .u64 0) 8 Try.underlying45 info65' rfl .i64 .i64 n (by omega) (by omega) w

theorem zero65 (w : World) : (zeroValue 65).run Try.prog w = .ok (.int .u64 0) w := Try.zeroValue65 w

theorem clear45 (w : World) (g n c : Nat) (f : Nat → Value) (hn : 0 < n) (hnc : n ≤ c) (h : w.rowIs g 65 c f) :
    (Builtin.clear_ #[45] 0 #[.slice (some ⟨g, 0, none⟩) n c]).run Try.prog w = .ok (.tuple #[]) (w.setCells g 0 (List.replicate n (.int .u64 0))) :=
  Lib.run_clear_slice (P := Try.prog) w 45 65 0 (.int .u64 0) Try.underlying45 zero65 rfl rfl g 0 n c hn (fun j hj => by rw [Nat.zero_add, h.cell (by omega)]; rfl) (fun j _ => h.frozen _)

/-- What 'state' hands back. -/
def StateGot (bf : Nat) (va : Option Addr) (vc : Nat) (wa : Option Addr) (wc : Nat) (sa : Option Addr) (vs : List Int) (bs : List Bool) (W : Nat) (w : World) (e : Ending) (w' : World) : Prop :=
  ∃ g sc f, e = .returned (.slice (some ⟨g, 0, none⟩) W sc) ∧ W ≤ sc ∧ Fo w' bf va vc wa wc (some ⟨g, 0, none⟩) W sc vs bs ∧ bf < g ∧ w'.rowIs g 65 sc f ∧ (∀ i, i < W → f i = .int .u64 0) ∧ Below bf w w' ∧
    (∀ x, x < w.heap.size → x ≠ bf → x ≠ g → w'.heap[x]? = w.heap[x]?) ∧ (blockOf sa = some g ∨ w.heap.size ≤ g)

theorem blk_setCells_other {b k : Nat} (hne : k ≠ b) : ∀ (vs : List Value) (o : Nat) (w : World), (w.setCells b o vs).heap[k]? = w.heap[k]?
  | [], _, _ => rfl
  | _ :: r, o, _ => (blk_setCells_other hne r (o + 1) _).trans (Below.heap_setCell _ _ _ _ hne)

theorem blk_set {w : World} {b j : Nat} {c : Array Value} {e : TypeId} (h : w.heap[b]? = some (.cells c e (0, 0))) (v : Value) : (w.setCell ⟨b, j, none⟩ v).heap[b]? = some (.cells (c.setIfInBounds j v) e (0, 0)) := set_block h v

/-- The scratch cut to W words and cleared. -/
theorem state_tail {wB : World} {bf g s0 c0 W : Nat} {sv sb : Value} {f : Nat → Value} (hblk : wB.heap[bf]? = some (.cells #[sv, sb, .slice (some ⟨g, 0, none⟩) s0 c0] 52 (0, 0))) (hg : bf < g) (hr : wB.rowIs g 65 c0 f) :
    ∃ wC wD, wB.setCell ⟨bf, 2, none⟩ (.slice (some ⟨g, 0, none⟩) W c0) = wC ∧ wC.setCells g 0 (List.replicate W (.int .u64 0)) = wD ∧
      wB.cell? ⟨bf, 2, none⟩ = some (.slice (some ⟨g, 0, none⟩) s0 c0) ∧ wB.frozen? ⟨bf, 2, none⟩ = false ∧ wC.cell? ⟨bf, 2, none⟩ = some (.slice (some ⟨g, 0, none⟩) W c0) ∧ wC.rowIs g 65 c0 f ∧
      wD.cell? ⟨bf, 2, none⟩ = some (.slice (some ⟨g, 0, none⟩) W c0) ∧
      Hid (wD.heap[bf]? = some (.cells #[sv, sb, .slice (some ⟨g, 0, none⟩) W c0] 52 (0, 0)) ∧ (∃ f', wD.rowIs g 65 c0 f' ∧ ∀ i, i < W → f' i = .int .u64 0) ∧ Below bf wB wD ∧ ∀ x, x ≠ bf → x ≠ g → wD.heap[x]? = wB.heap[x]?) := by
  refine ⟨_, _, rfl, rfl, by simp [World.cell?, hblk], by simp [World.frozen?, hblk], ?_, hr.setOther (by simp; omega) _, ?_, ?_⟩
  · have := blk_set (j := 2) hblk (.slice (some ⟨g, 0, none⟩) W c0)
    simp [World.cell?, this]
  · have h1 := blk_set (j := 2) hblk (.slice (some ⟨g, 0, none⟩) W c0)
    have h2 := (blk_setCells_other (b := g) (k := bf) (by omega) (List.replicate W (.int .u64 0)) 0 (wB.setCell ⟨bf, 2, none⟩ (.slice (some ⟨g, 0, none⟩) W c0))).trans h1
    simp [World.cell?, h2]
  · have h1 := blk_set (j := 2) hblk (.slice (some ⟨g, 0, none⟩) W c0)
    have h2 := (blk_setCells_other (b := g) (k := bf) (by omega) (List.replicate W (.int .u64 0)) 0 (wB.setCell ⟨bf, 2, none⟩ (.slice (some ⟨g, 0, none⟩) W c0))).trans h1
    refine ⟨by rw [h2]; rfl, ⟨_, rowIs_setCells _ 0 _ _ (hr.setOther (by simp; omega) _), fun i hi => ?_⟩, below_setCells (by omega) _ _ _ ((Below.refl _ _).setCell (by simp) _), fun x h3 h4 => (blk_setCells_other h4 _ _ _).trans (Below.heap_setCell _ _ _ _ (by simpa using h3))⟩
    rw [if_pos ⟨Nat.zero_le _, by simpa using hi⟩]
    simp [hi]

theorem state_end {w wB wD : World} {bf g c0 W : Nat} {va : Option Addr} {vc : Nat} {wa : Option Addr} {wc : Nat} {sa : Option Addr} {sl sc : Nat} {vs : List Int} {bs : List Bool} (h : Fo w bf va vc wa wc sa sl sc vs bs) (hg : bf < g) (hW : W ≤ c0)
    (hB : Below bf w wB ∧ ∀ x, x < w.heap.size → x ≠ bf → wB.heap[x]? = w.heap[x]?) (hat : blockOf sa = some g ∨ w.heap.size ≤ g)
    (hT : wD.heap[bf]? = some (.cells #[.slice va vs.length vc, .slice wa bs.length wc, .slice (some ⟨g, 0, none⟩) W c0] 52 (0, 0)) ∧ (∃ f', wD.rowIs g 65 c0 f' ∧ ∀ i, i < W → f' i = .int .u64 0) ∧ Below bf wB wD ∧ ∀ x, x ≠ bf → x ≠ g → wD.heap[x]? = wB.heap[x]?) :
    StateGot bf va vc wa wc sa vs bs W w (.returned (.slice (some ⟨g, 0, none⟩) W c0)) wD := by
  obtain ⟨h1, ⟨f', h2, h3⟩, h4, h5⟩ := hT
  have hb := hB.1.trans h4
  refine ⟨g, c0, f', rfl, hW, ⟨h1, h.rv.under hb h.lv, h.rb.under hb h.lb, h.lv, h.lb, h.cv, .inr ⟨g, f', rfl, hg, h2⟩⟩, hg, h2, h3, hb, fun x hx hn1 hn2 => (h5 x hn1 hn2).trans (hB.2 x hx hn1), hat⟩

set_option maxHeartbeats 1000000 in
set_option maxRecDepth 1000000 in
theorem state_any (w : World) (bf : Nat) (va : Option Addr) (vc : Nat) (wa : Option Addr) (wc : Nat) (sa : Option Addr) (sl sc : Nat) (vs : List Int) (bs : List Bool) (h : Fo w bf va vc wa wc sa sl sc vs bs) (W : Nat) (hW0 : 0 < W) (hW1 : W ≤ 1000000) :
    Calls Try.prog 46 #[.pointer (some ⟨bf, 0, none⟩), .int .i64 W] w (StateGot bf va vc wa wc sa vs bs W w) := by
  have c2 : w.cell? ⟨bf, 2, none⟩ = some (.slice sa sl sc) := by simp [World.cell?, h.blk]
  have f2 : w.frozen? ⟨bf, 2, none⟩ = false := by simp [World.frozen?, h.blk]
  have hbf : bf < w.heap.size := (Array.getElem?_eq_some_iff.1 h.blk).1
  have HF : Hid (Fo w bf va vc wa wc sa sl sc vs bs) := h
  by_cases hlt : sc < W
  · have hmk := make45 W (by omega) w
    have hrow := World.rowIs_made w (.int .u64 0) W 65
    have hblkA := (Below.heap_alloc w (.cells (madeCells #[.int .u64 0] W) 65) bf hbf).trans h.blk
    have HA : Hid (Below bf w (w.alloc (.cells (madeCells #[.int .u64 0] W) 65)) ∧ ∀ x, x < w.heap.size → (w.alloc (.cells (madeCells #[.int .u64 0] W) 65)).heap[x]? = w.heap[x]?) := ⟨(Below.refl _ _).alloc (by omega) _, fun x hx => Below.heap_alloc _ _ _ hx⟩
    obtain ⟨g, hg⟩ : ∃ g, g = w.heap.size := ⟨_, rfl⟩
    rw [← hg] at hmk hrow
    generalize w.alloc (.cells (madeCells #[.int .u64 0] W) 65) = wA at hmk hrow hblkA HA
    have cA : wA.cell? ⟨bf, 2, none⟩ = some (.slice sa sl sc) := by simp [World.cell?, hblkA]
    have fA : wA.frozen? ⟨bf, 2, none⟩ = false := by simp [World.frozen?, hblkA]
    have hgf : bf < g := by omega
    have hblkB := blk_set (j := 2) hblkA (.slice (some ⟨g, 0, none⟩) W W)
    have hrowB := hrow.setOther (a := ⟨bf, 2, none⟩) (by simp; omega) (.slice (some ⟨g, 0, none⟩) W W)
    have HB : Hid (Below bf w (wA.setCell ⟨bf, 2, none⟩ (.slice (some ⟨g, 0, none⟩) W W)) ∧ ∀ x, x < w.heap.size → x ≠ bf → (wA.setCell ⟨bf, 2, none⟩ (.slice (some ⟨g, 0, none⟩) W W)).heap[x]? = w.heap[x]?) :=
      ⟨HA.out.1.setCell (by simp) _, fun x hx hne => (Below.heap_setCell _ _ _ _ (by simpa using hne)).trans (HA.out.2 x hx)⟩
    obtain ⟨wB, hB⟩ : ∃ wB, wA.setCell ⟨bf, 2, none⟩ (.slice (some ⟨g, 0, none⟩) W W) = wB := ⟨_, rfl⟩
    rw [hB] at hblkB hrowB HB
    obtain ⟨wC, wD, hC, hD, cB, fB, cC, rC, cD, HT⟩ := state_tail (W := W) hblkB hgf hrowB
    have hcl := clear45 wC g W W _ hW0 (Nat.le_refl _) rC
    rw [hD] at hcl
    have HG : Hid (g = w.heap.size) := hg
    clear h hrow hblkA hblkB hrowB rC hD hg HA
    go_enter Try.func46, Try.ntmps46
    go_wp2_with fail
    go_ret
    exact state_end HF.out hgf (Nat.le_refl _) HB.out (.inr (by rw [HG.out]; exact Nat.le_refl _)) HT.out
  · obtain h0 | ⟨g, f, rfl, hgf, hrow⟩ := h.scr
    · omega
    have hblk := h.blk
    obtain ⟨wC, wD, hC, hD, cB, fB, cC, rC, cD, HT⟩ := state_tail (W := W) hblk hgf hrow
    have hcl := clear45 wC g W sc _ hW0 (by omega) rC
    rw [hD] at hcl
    have hWs : W ≤ sc := by omega
    clear h hrow hblk rC hD c2 f2
    go_enter Try.func46, Try.ntmps46
    go_wp2_with fail
    go_ret
    exact state_end HF.out hgf hWs ⟨Below.refl _ _, fun _ _ _ => rfl⟩ (.inl rfl) HT.out
end Go.Proofs.Qxb6601041a
