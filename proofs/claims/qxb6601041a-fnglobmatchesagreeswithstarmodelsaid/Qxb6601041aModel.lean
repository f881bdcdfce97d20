/- The automaton over a pattern, walked. -/
import Derived.Test.Qxb6601041aClose
import Derived.Deep.DeepCutAuto
namespace Go.Proofs.Qxb6601041a
open Go.RowKit

theorem make_set (m : Nat) (h : m ≤ 1000000) (w : World) : ∃ g wA, (Instr.makeSlice 23 (.int .i64 ((m : Int) + 1)) (.int .i64 ((m : Int) + 1))).run Try.prog w = .ok (.slice (some ⟨g, 0, none⟩) (m + 1) (m + 1)) wA ∧ g = w.heap.size ∧ g < wA.heap.size ∧ BSet wA g m (fun _ => false) ∧ Below w.heap.size w wA := by
  have h1 := make23 (m + 1) (by omega) w
  rw [show (((m + 1 : Nat)) : Int) = (m : Int) + 1 by simp] at h1
  have h2 := World.rowIs_made w (.bool false) (m + 1) 4
  exact ⟨_, _, h1, rfl, h2.lt, ⟨_, h2, fun k _ => rfl⟩, (Below.refl _ _).alloc (Nat.le_refl _) _⟩

theorem BSet.kept {w w' : World} {g m : Nat} {S : Nat → Bool} (h : BSet w g m S) (hb : Below w.heap.size w w') : BSet w' g m S := by
  obtain ⟨f, h, h'⟩ := h
  exact ⟨f, h.of_block (hb.block g h.lt), h'⟩

theorem make_two (m : Nat) (h : m ≤ 1000000) (w : World) : ∃ g1 g2 wA wB, (Instr.makeSlice 23 (.int .i64 ((m : Int) + 1)) (.int .i64 ((m : Int) + 1))).run Try.prog w = .ok (.slice (some ⟨g1, 0, none⟩) (m + 1) (m + 1)) wA ∧
    (Instr.makeSlice 23 (.int .i64 ((m : Int) + 1)) (.int .i64 ((m : Int) + 1))).run Try.prog wA = .ok (.slice (some ⟨g2, 0, none⟩) (m + 1) (m + 1)) wB ∧
    Hid (g1 ≠ g2 ∧ w.heap.size ≤ g1 ∧ w.heap.size ≤ g2 ∧ BSet wB g1 m (fun _ => false) ∧ BSet wB g2 m (fun _ => false) ∧ Below w.heap.size w wB) := by
  obtain ⟨g1, wA, h1, e1, l1, s1, b1⟩ := make_set m h w
  obtain ⟨g2, wB, h2, e2, l2, s2, b2⟩ := make_set m h wA
  have := b1.size
  exact ⟨g1, g2, wA, wB, h1, h2, by omega, by omega, by omega, s1.kept b2, s2, b1.trans (b2.mono this)⟩

/-- What the model answers. -/
def Tell (r : Prop) (w : World) (e : Ending) (w' : World) : Prop := ∃ b : Bool, e = .returned (.bool b) ∧ (b = true ↔ r) ∧ Below w.heap.size w w'

/-- Two sets, one of them the states. -/
structure Two (w wr : World) (m ga gb : Nat) (S T : Nat → Bool) : Prop where
  ne : ga ≠ gb
  la : w.heap.size ≤ ga
  lb : w.heap.size ≤ gb
  sa : BSet wr ga m S
  sb : BSet wr gb m T
  bel : Below w.heap.size w wr

theorem Two.stepped {w wr w' : World} {m ga gb : Nat} {S T U : Nat → Bool} (h : Two w wr m ga gb S T) (ho : OnlyAt gb wr w') (hU : BSet w' gb m U) : Two w w' m gb ga U S :=
  ⟨h.ne.symm, h.lb, h.la, hU, h.sa.other ho h.ne, h.bel.trans (ho.1.mono h.lb)⟩

theorem Two.closed {w wr w' : World} {m ga gb : Nat} {S T U : Nat → Bool} (h : Two w wr m ga gb S T) (ho : OnlyAt ga wr w') (hU : BSet w' ga m U) : Two w w' m ga gb U T :=
  ⟨h.ne, h.la, h.lb, hU, h.sb.other ho h.ne.symm, h.bel.trans (ho.1.mono h.la)⟩

theorem Two.laid {w wr : World} {m ga gb : Nat} {S T : Nat → Bool} (h : Two w wr m ga gb S T) : Two w (wr.setCell ⟨ga, 0, none⟩ (.bool true)) m ga gb (fun k => k == 0 || S k) T :=
  h.closed ((OnlyAt.refl ga wr).set 0 (.bool true)) ((h.sa.set 0 true).congr fun k _ => by by_cases hk : k = 0 <;> simp [hk])

section
variable {w : World} {a : Option Addr} {ca : Nat} {ps : List Int}

theorem two_step (hp : Row .i32 w a ps) (hpb : ∀ x, blockOf a = some x → x < w.heap.size) (hl : ps.length ≤ 1024) {wr : World} {ga gb : Nat} {S T : Nat → Bool} (h : Two w wr ps.length ga gb S T) (c : Int) :
    Calls Try.prog 37 #[.slice a ps.length ca, .slice (some ⟨ga, 0, none⟩) (ps.length + 1) (ps.length + 1), .slice (some ⟨gb, 0, none⟩) (ps.length + 1) (ps.length + 1), .int .i32 c] wr (Wrote gb ps.length (closeB (fun k => ps.getD k 0) (rawB (fun k => ps.getD k 0) c S)) wr) :=
  step_any a ca ps ga _ gb _ S T c wr (hp.under h.bel hpb) (fun x hx => ⟨Nat.lt_of_lt_of_le (hpb x hx) h.la, Nat.lt_of_lt_of_le (hpb x hx) h.lb⟩) h.sa h.sb h.ne (by omega)

theorem two_close (hp : Row .i32 w a ps) (hpb : ∀ x, blockOf a = some x → x < w.heap.size) (hl : ps.length ≤ 1024) {wr : World} {ga gb : Nat} {S T : Nat → Bool} (h : Two w wr ps.length ga gb S T) :
    Calls Try.prog 36 #[.slice a ps.length ca, .slice (some ⟨ga, 0, none⟩) (ps.length + 1) (ps.length + 1)] wr (Wrote ga ps.length (closeB (fun k => ps.getD k 0) S) wr) :=
  close_any a ca ps ga _ S wr (hp.under h.bel hpb) (fun x hx => Nat.lt_of_lt_of_le (hpb x hx) h.la) h.sa (by omega)
end

set_option maxHeartbeats 1000000 in
set_option maxRecDepth 1000000 in
theorem model_whole (a va wa : Option Addr) (ca vc wk nb : Nat) (ps vs : List Int) (bs : List Bool) (w : World) (hp : Row .i32 w a ps) (hpb : ∀ x, blockOf a = some x → x < w.heap.size) (hv : Row .i32 w va vs) (hvb : ∀ x, blockOf va = some x → x < w.heap.size) (hl : ps.length ≤ 1024) (hn : vs.length ≤ 1024) :
    Calls Try.prog 17 #[.slice a ps.length ca, .slice va vs.length vc, .slice wa nb wk, .bool false] w (Tell (MatchM false (fun k => ps.getD k 0) ps.length vs bs) w) := by
  obtain ⟨g1, g2, wA, wB, hmA, hmB, HM⟩ := make_two ps.length (by omega) w
  have HTS : Hid (∀ wr ga gb S T c, Two w wr ps.length ga gb S T → Calls Try.prog 37 #[.slice a ps.length ca, .slice (some ⟨ga, 0, none⟩) (ps.length + 1) (ps.length + 1), .slice (some ⟨gb, 0, none⟩) (ps.length + 1) (ps.length + 1), .int .i32 c] wr (Wrote gb ps.length (closeB (fun k => ps.getD k 0) (rawB (fun k => ps.getD k 0) c S)) wr)) := fun wr ga gb S T c h => two_step hp hpb hl h c
  have HTC : Hid (∀ wr ga gb S T, Two w wr ps.length ga gb S T → Calls Try.prog 36 #[.slice a ps.length ca, .slice (some ⟨ga, 0, none⟩) (ps.length + 1) (ps.length + 1)] wr (Wrote ga ps.length (closeB (fun k => ps.getD k 0) S) wr)) := fun wr ga gb S T h => two_close hp hpb hl h
  obtain ⟨P, hP⟩ : ∃ P : Nat → Int, P = fun k => ps.getD k 0 := ⟨_, rfl⟩
  obtain ⟨V, hV⟩ : ∃ V : Nat → Int, V = fun k => vs.getD k 0 := ⟨_, rfl⟩
  obtain ⟨m, hm⟩ : ∃ m, m = ps.length := ⟨_, rfl⟩
  obtain ⟨n, hn'⟩ : ∃ n, n = vs.length := ⟨_, rfl⟩
  have hPm : P m ≠ -2 := by rw [hP, hm]; simp
  have HCELL : Hid (∀ wr, Below w.heap.size w wr → n = 0 ∨ ∃ b off, va = some ⟨b, off, none⟩ ∧ ∀ j, j < n → wr.cell? ⟨b, off + j, none⟩ = some (.int .i32 (V j))) := fun wr hb => by
    rcases hv.under hb hvb with h0 | ⟨b, off, e, h⟩
    · exact .inl (by rw [hn', h0]; rfl)
    · exact .inr ⟨b, off, e, by rw [hV, hn']; exact h⟩
  have HR : Hid (∀ b wr, (b = true ↔ NSet (fun a => a = 0) V n P n m) → Below w.heap.size w wr → Tell (MatchM false P m vs bs) w (.returned (.bool b)) wr) := fun b wr h1 h2 => ⟨b, rfl, by
    rw [h1, nset_of_char hPm]
    unfold MatchM
    rw [if_neg (by simp), ← hn', ← hV], h2⟩
  have HSt : Hid (∀ k, closeB P (fun k => k == 0 || false) k = true ↔ NSet (fun a => a = 0) V n P 0 k) := fun k => by
    have := start_set (T := fun _ => false) (A := fun _ => False) (V := V) (n := n) (P := P) (i := 0) (Nat.zero_le _) (fun _ h => h.elim) (fun k => empty_set k) k
    simpa using this
  rw [← hP] at HTS HTC ⊢
  rw [← hm] at HTS HTC HM hmA hmB hl ⊢
  rw [← hn'] at hn ⊢
  generalize Tell (MatchM false P m vs bs) w = Post at HR ⊢
  have H0 : Hid (Two w wB m g1 g2 (fun _ => false) (fun _ => false)) := ⟨HM.out.1, HM.out.2.1, HM.out.2.2.1, HM.out.2.2.2.1, HM.out.2.2.2.2.1, HM.out.2.2.2.2.2⟩
  have k0 := H0.out.sa.cell (Nat.zero_le _)
  have f0 := H0.out.sa.frozen 0
  have HC0 : Hid (Calls Try.prog 36 #[.slice a m ca, .slice (some ⟨g1, 0, none⟩) (m + 1) (m + 1)] (wB.setCell ⟨g1, 0, none⟩ (.bool true)) (Wrote g1 m (closeB P (fun k => k == 0 || false)) (wB.setCell ⟨g1, 0, none⟩ (.bool true)))) := HTC.out _ _ _ _ _ H0.out.laid
  clear hp hpb hv hvb hP hV hm hn' hPm HM HTC
  go_enter Try.func17, Try.ntmps17
  go_wp2_with fail
  refine Calls.mono HC0.out ?_
  rintro e w1 ⟨rfl, ho, hB⟩
  have H1 : Hid (Two w w1 m g1 g2 (closeB P (fun k => k == 0 || false)) (fun _ => false)) := H0.out.laid.closed ho hB
  clear ho hB HC0 H0 k0 f0 hmA hmB
  go_wp2_with fail
  go_loopw [11, 12, 13] (fun s1 s2 i wr => ∃ (k ga gb : Nat) (S T : Nat → Bool), k ≤ n ∧ s1 = .slice (some ⟨ga, 0, none⟩) (m + 1) (m + 1) ∧ s2 = .slice (some ⟨gb, 0, none⟩) (m + 1) (m + 1) ∧ i = .int .i64 k ∧ Two w wr m ga gb S T ∧ ∀ j, S j = true ↔ NSet (fun a => a = 0) V n P k j) (fun _ _ i _ => n - (intOf i).toNat)
  case atStart => exact ⟨0, g1, g2, _, _, Nat.zero_le _, rfl, rfl, rfl, H1.out, HSt.out⟩
  case round =>
    obtain ⟨k, ga, gb, S, T, hk, rfl, rfl, rfl, hT, hS⟩ := hrel
    have HT : Hid (Two w wr m ga gb S T) := hT
    have HS : Hid (∀ j, S j = true ↔ NSet (fun a => a = 0) V n P k j) := hS
    clear H1 HSt hS
    by_cases hlt : k < n
    · obtain h0 | ⟨b, off, rfl, hc⟩ := HCELL.out wr hT.bel
      · omega
      have k1 := hc k hlt
      have HC : Hid (Calls Try.prog 37 #[.slice a m ca, .slice (some ⟨ga, 0, none⟩) (m + 1) (m + 1), .slice (some ⟨gb, 0, none⟩) (m + 1) (m + 1), .int .i32 (V k)] wr (Wrote gb m (closeB P (rawB P (V k) S)) wr)) := HTS.out wr ga gb S T (V k) hT
      have HN : Hid (∀ j, closeB P (rawB P (V k) S) j = true ↔ NSet (fun a => a = 0) V n P (k + 1) j) := next_set (fun a ha => by omega) hlt HS.out
      clear hc hT HS
      go_wp2_with fail
      refine Calls.mono HC.out ?_
      rintro e w2 ⟨rfl, ho, hB⟩
      have H2 : Hid (Two w w2 m gb ga (closeB P (rawB P (V k) S)) S) := HT.out.stepped ho hB
      clear ho hB HC k1
      go_wp2_with fail
      go_roundw
      case rel => exact ⟨k + 1, gb, ga, _, _, by omega, rfl, rfl, by go_num, H2.out, HN.out⟩
      case measure => simp [intOf]; omega
    · obtain rfl : k = n := by omega
      have k1 := hT.sa.cell (Nat.le_refl m)
      have HP : Hid (Post (.returned (.bool (S m))) wr) := HR.out (S m) wr (HS.out m) hT.bel
      clear hT HS HR HTS
      generalize S m = z at k1 HP
      go_wp2_with fail
      exact HP.out
end Go.Proofs.Qxb6601041a
