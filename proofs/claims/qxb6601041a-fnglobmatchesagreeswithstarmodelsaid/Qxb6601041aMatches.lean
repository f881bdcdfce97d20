/- (*glob).matches, walked (made by wip/tools/gen_match.py). -/
import Derived.Test.Qxb6601041aRuns
import Derived.Deep.DeepCutAuto
namespace Go.Proofs.Qxb6601041a
open Go.RowKit

/-- What a call of 'run' hands out. -/
def RunHand (w0 : World) (r : RD) (w : World) (e : Ending) (w' : World) : Prop :=
  ∃ pc kc pl kl pm km, e = .returned (.agg #[.int .i64 r.gap, .slice pc r.cs.length kc, .int .i64 (((r.cs.length : Int) + 63) / 64), .slice pl (litsOf r.cs).length kl, .slice pm r.ws.length km]) ∧ Hands w0 r pc pl pm km ∧ Below w.heap.size w w'

/-- What 'matches' answers. -/
def Match (wd : Bool) (rs : List RD) (vs : List Int) (bs : List Bool) (bf : Nat) (w : World) (e : Ending) (w' : World) : Prop := ∃ b : Bool, e = .returned (.bool b) ∧ (b = true ↔ MatchG wd rs vs bs) ∧ Below bf w w'

theorem under_size {w0 w w' : World} (h : Below w0.heap.size w0 w) (hb : Below w.heap.size w w') : Below w0.heap.size w0 w' := h.trans (hb.mono h.size)

theorem glob_cells {w0 : World} {bg : Nat} {wd : Bool} {rs : List RD} (hG : IsG w0 bg wd rs) : ∃ az kz, ∀ W, Below w0.heap.size w0 W → W.cell? ⟨bg, 3, none⟩ = some (.slice az rs.length kz) ∧ W.cell? ⟨bg, 4, none⟩ = some (.bool wd) := by
  obtain ⟨_, ac, kc, al, kl, am, km, az, kz, h⟩ := hG
  have hlt := h.lt
  obtain ⟨_, _, _, c3, c4⟩ := h.cells
  exact ⟨az, kz, fun W hW => ⟨(hW.cell (p := ⟨bg, 3, none⟩) hlt).trans c3, (hW.cell (p := ⟨bg, 4, none⟩) hlt).trans c4⟩⟩

section
variable {w0 w w2 : World} {bf : Nat} {va : Option Addr} {vc : Nat} {wa : Option Addr} {wk : Nat} {vs : List Int} {bs : List Bool} {sa : Option Addr} {sl sc : Nat}

theorem beside_new {r : RD} {pc : Option Addr} {kc : Nat} {pl : Option Addr} {kl : Nat} {pm : Option Addr} {km : Nat} (h : Hands w0 r pc pl pm km) (hF : Fo w2 bf va vc wa wk sa sl sc vs bs) (hB : Below w0.heap.size w0 w2) (hb : Below bf w w2) :
    Beside w0 w (w2.alloc (runObj r.gap pc r.cs.length kc pl (litsOf r.cs).length kl pm r.ws.length km)) bf va vc wa wk vs bs w2.heap.size r pc kc pl kl pm km sa sl sc := by
  have hA := (Below.refl w2.heap.size w2).alloc (Nat.le_refl _) (runObj r.gap pc r.cs.length kc pl (litsOf r.cs).length kl pm r.ws.length km)
  exact ⟨hF.kept hA, RunAt.new h, hF.lt, hF.far (Nat.le_refl _), hb.trans (hA.mono (Nat.le_of_lt hF.lt)), under_size hB hA⟩

theorem lay_two {r1 r2 : RD} {g1 g2 : Int} {pc : Option Addr} {kc : Nat} {pl : Option Addr} {kl : Nat} {pm : Option Addr} {km : Nat} {pc' : Option Addr} {kc' : Nat} {pl' : Option Addr} {kl' : Nat} {pm' : Option Addr} {km' : Nat} (hg1 : r1.gap = g1) (hg2 : r2.gap = g2) (h1 : Hands w0 r1 pc pl pm km) (h2 : Hands w0 r2 pc' pl' pm' km') (hF : Fo w2 bf va vc wa wk sa sl sc vs bs) (hB : Below w0.heap.size w0 w2) (hb : Below bf w w2) :
    ∃ w3, (w2.alloc (.cells #[.int .i64 g1, .slice pc r1.cs.length kc, .int .i64 (((r1.cs.length : Int) + 63) / 64), .slice pl (litsOf r1.cs).length kl, .slice pm r1.ws.length km] 56)).alloc (.cells #[.int .i64 g2, .slice pc' r2.cs.length kc', .int .i64 (((r2.cs.length : Int) + 63) / 64), .slice pl' (litsOf r2.cs).length kl', .slice pm' r2.ws.length km'] 56) = w3 ∧
      Hid (Beside w0 w w3 bf va vc wa wk vs bs w2.heap.size r1 pc kc pl kl pm km sa sl sc) ∧ Hid (Beside w0 w w3 bf va vc wa wk vs bs (w2.heap.size + 1) r2 pc' kc' pl' kl' pm' km' sa sl sc) := by
  subst hg1 hg2
  have A := beside_new (kc := kc) (kl := kl) h1 hF hB hb
  have B := beside_new (kc := kc') (kl := kl') h2 A.fo A.old A.bel
  have hsz : (w2.alloc (runObj r1.gap pc r1.cs.length kc pl (litsOf r1.cs).length kl pm r1.ws.length km)).heap.size = w2.heap.size + 1 := by simp
  rw [hsz] at B
  exact ⟨_, rfl, A.kept ((Below.refl _ _).alloc (Nat.le_refl _) _), B⟩

theorem lay_one {r : RD} {g : Int} {pc : Option Addr} {kc : Nat} {pl : Option Addr} {kl : Nat} {pm : Option Addr} {km : Nat} {br : Nat} {rl : RD} {pc' : Option Addr} {kc' : Nat} {pl' : Option Addr} {kl' : Nat} {pm' : Option Addr} {km' : Nat} (hg : r.gap = g) (h : Hands w0 r pc pl pm km) (hS : Beside w0 w w2 bf va vc wa wk vs bs br rl pc' kc' pl' kl' pm' km' sa sl sc) :
    ∃ w3, w2.alloc (.cells #[.int .i64 g, .slice pc r.cs.length kc, .int .i64 (((r.cs.length : Int) + 63) / 64), .slice pl (litsOf r.cs).length kl, .slice pm r.ws.length km] 56) = w3 ∧
      Hid (Beside w0 w w3 bf va vc wa wk vs bs w2.heap.size r pc kc pl kl pm km sa sl sc) ∧ Hid (Beside w0 w w3 bf va vc wa wk vs bs br rl pc' kc' pl' kl' pm' km' sa sl sc) := by
  subst hg
  exact ⟨_, rfl, beside_new h hS.fo hS.old hS.bel, hS.kept ((Below.refl _ _).alloc (Nat.le_refl _) _)⟩
end

set_option maxHeartbeats 4000000 in
set_option maxRecDepth 1000000 in
set_option linter.unusedVariables false in
theorem match_one_words (w0 w : World) (bg bf : Nat) (r : RD) (hG : IsG w0 bg true [r]) (hb0 : Below w0.heap.size w0 w) (hbf : w0.heap.size ≤ bf) (va : Option Addr) (vc : Nat) (wa : Option Addr) (wk : Nat) (sa : Option Addr) (sl sc : Nat) (vs : List Int) (bs : List Bool) (hF : Fo w bf va vc wa wk sa sl sc vs bs) (hn : vs.length ≤ 1024) (hbl : bs.length = vs.length) :
    Calls Try.prog 35 #[.pointer (some ⟨bg, 0, none⟩), .pointer (some ⟨bf, 0, none⟩)] w (Match true [r] vs bs bf w) := by
  have HC : Hid (∀ wr, Below w0.heap.size w0 wr → Calls Try.prog 38 #[.pointer (some ⟨bg, 0, none⟩), .int .i64 0] wr (RunHand w0 r wr)) := fun wr hb => run_hands bg true [] [] r hG hb (by rw [List.nil_append, chars_one]; have := (hG.1 r (by simp)).len; omega) (by simp)
  obtain ⟨az, kz, hcells⟩ := glob_cells hG
  have c3 : w.cell? ⟨bg, 3, none⟩ = some (.slice az 1 kz) := (hcells w hb0).1
  have HG4 : Hid (∀ W, Below w0.heap.size w0 W → W.cell? ⟨bg, 4, none⟩ = some (.bool true)) := fun W hW => (hcells W hW).2
  have HFo : Hid (Fo w bf va vc wa wk sa sl sc vs bs) := hF
  have HB0 : Hid (Below w0.heap.size w0 w) := hb0
  have HBF : Hid (w0.heap.size ≤ bf ∧ vs.length ≤ 1024 ∧ bs.length = vs.length) := ⟨hbf, hn, hbl⟩
  have HR : Hid (∀ b w', (b = true ↔ MatchG true [r] vs bs) → Below bf w w' → Match true [r] vs bs bf w (.returned (.bool b)) w') := fun b w' h1 h2 => ⟨b, rfl, h1, h2⟩
  generalize Match true [r] vs bs bf w = Post at HR ⊢
  clear hcells hG hF hb0 hbl hbf
  go_enter Try.func35, Try.ntmps35
  go_wp2_with fail
  refine Calls.mono (HC.out w HB0.out) ?_
  rintro e w1 ⟨pc, kc, pl, kl, pm, km, rfl, hh, hb1⟩
  have HH1 : Hid (Hands w0 r pc pl pm km ∧ Below w.heap.size w w1) := ⟨hh, hb1⟩
  have HB1 : Hid (Below w0.heap.size w0 w1) := under_size HB0.out hb1
  clear hh hb1
  go_wp2_with fail
  refine Calls.mono (HC.out w1 HB1.out) ?_
  rintro e w2 ⟨pc', kc', pl', kl', pm', km', rfl, hh, hb2⟩
  have hb2' : Below w.heap.size w w2 := HH1.out.2.trans (hb2.mono HH1.out.2.size)
  obtain ⟨w3, hw3, HA, HL⟩ := lay_two (w := w) (kc := kc) (kl := kl) (kc' := kc') (kl' := kl') rfl rfl HH1.out.1 hh (HFo.out.kept hb2') (under_size HB1.out hb2) (hb2'.mono (Nat.le_of_lt HFo.out.lt))
  clear hh hb2 hb2' HFo HH1 HB0 HB1 HC c3
  go_upto_region 3 with fail
  obtain ⟨b1, hb1⟩ : ∃ b1, w2.heap.size = b1 := ⟨_, rfl⟩
  rw [hb1] at HA HL ⊢
  clear hw3 hb1
  have c4 := HG4.out w3 HA.out.old
  clear HG4 HL
  have HFC : Hid (Calls Try.prog 39 #[.pointer (some ⟨b1, 0, none⟩), .pointer (some ⟨bf, 0, none⟩), .int .i64 0, .bool true, .bool true] w3 (FindGotK bf va vc wa wk sa r.cs vs bs true true 0 w3)) := find_at HA.out.run HA.out.old HBF.out.1 HA.out.fo HA.out.lt HA.out.ne HBF.out.2.1 HBF.out.2.2 0 (by omega) true true
  go_wp2_with fail
  refine Calls.mono HFC.out ?_
  rintro e w4 ⟨q, rfl, hff, hb4, _⟩
  have HP : Hid (Post (.returned (.bool q.isSome)) w4) := HR.out _ w4 (one_words hff) (HA.out.bel.trans hb4)
  clear hff hb4 HR HFC
  generalize q.isSome = z at HP ⊢
  generalize ((q.getD 0 : Nat) : Int) = y
  go_wp2_with fail
  exact HP.out

set_option maxHeartbeats 4000000 in
set_option maxRecDepth 1000000 in
set_option linter.unusedVariables false in
theorem match_one_whole (w0 w : World) (bg bf : Nat) (r : RD) (hG : IsG w0 bg false [r]) (hb0 : Below w0.heap.size w0 w) (hbf : w0.heap.size ≤ bf) (va : Option Addr) (vc : Nat) (wa : Option Addr) (wk : Nat) (sa : Option Addr) (sl sc : Nat) (vs : List Int) (bs : List Bool) (hF : Fo w bf va vc wa wk sa sl sc vs bs) (hn : vs.length ≤ 1024) (hbl : bs.length = vs.length) :
    Calls Try.prog 35 #[.pointer (some ⟨bg, 0, none⟩), .pointer (some ⟨bf, 0, none⟩)] w (Match false [r] vs bs bf w) := by
  have HC : Hid (∀ wr, Below w0.heap.size w0 wr → Calls Try.prog 38 #[.pointer (some ⟨bg, 0, none⟩), .int .i64 0] wr (RunHand w0 r wr)) := fun wr hb => run_hands bg false [] [] r hG hb (by rw [List.nil_append, chars_one]; have := (hG.1 r (by simp)).len; omega) (by simp)
  obtain ⟨az, kz, hcells⟩ := glob_cells hG
  have c3 : w.cell? ⟨bg, 3, none⟩ = some (.slice az 1 kz) := (hcells w hb0).1
  have HG4 : Hid (∀ W, Below w0.heap.size w0 W → W.cell? ⟨bg, 4, none⟩ = some (.bool false)) := fun W hW => (hcells W hW).2
  have HFo : Hid (Fo w bf va vc wa wk sa sl sc vs bs) := hF
  have HB0 : Hid (Below w0.heap.size w0 w) := hb0
  have HBF : Hid (w0.heap.size ≤ bf ∧ vs.length ≤ 1024 ∧ bs.length = vs.length) := ⟨hbf, hn, hbl⟩
  have HR : Hid (∀ b w', (b = true ↔ MatchG false [r] vs bs) → Below bf w w' → Match false [r] vs bs bf w (.returned (.bool b)) w') := fun b w' h1 h2 => ⟨b, rfl, h1, h2⟩
  generalize Match false [r] vs bs bf w = Post at HR ⊢
  clear hcells hG hF hb0 hbl hbf
  go_enter Try.func35, Try.ntmps35
  go_wp2_with fail
  refine Calls.mono (HC.out w HB0.out) ?_
  rintro e w1 ⟨pc, kc, pl, kl, pm, km, rfl, hh, hb1⟩
  have HH1 : Hid (Hands w0 r pc pl pm km ∧ Below w.heap.size w w1) := ⟨hh, hb1⟩
  have HB1 : Hid (Below w0.heap.size w0 w1) := under_size HB0.out hb1
  clear hh hb1
  go_wp2_with fail
  refine Calls.mono (HC.out w1 HB1.out) ?_
  rintro e w2 ⟨pc', kc', pl', kl', pm', km', rfl, hh, hb2⟩
  have hb2' : Below w.heap.size w w2 := HH1.out.2.trans (hb2.mono HH1.out.2.size)
  obtain ⟨w3, hw3, HA, HL⟩ := lay_two (w := w) (kc := kc) (kl := kl) (kc' := kc') (kl' := kl') rfl rfl HH1.out.1 hh (HFo.out.kept hb2') (under_size HB1.out hb2) (hb2'.mono (Nat.le_of_lt HFo.out.lt))
  clear hh hb2 hb2' HFo HH1 HB0 HB1 HC c3
  go_upto_region 3 with fail
  obtain ⟨b1, hb1⟩ : ∃ b1, w2.heap.size = b1 := ⟨_, rfl⟩
  rw [hb1] at HA HL ⊢
  clear hw3 hb1
  have c4 := HG4.out w3 HA.out.old
  clear HG4 HL
  have HFC : Hid (∀ q, Calls Try.prog 43 #[.pointer (some ⟨b1, 0, none⟩), .pointer (some ⟨bf, 0, none⟩), .int .i64 0] (w3.drewN q) (Says (fitB r.cs vs 0) (w3.drewN q))) := fun q => at_at (HA.out.kept (below_drewN (Below.refl _ _) q)).run (HA.out.kept (below_drewN (Below.refl _ _) q)).old (HA.out.fo.drewN q) HBF.out.2.1 0 (by omega)
  have HP : Hid (∀ q b, (b = true ↔ vs.length = r.cs.length ∧ fitB r.cs vs 0 = true) → Post (.returned (.bool b)) (w3.drewN q)) := fun q b h => HR.out b _ (by rw [h, one_whole, fitB_iff]) (below_drewN HA.out.bel q)
  have d0 : w3.cell? ⟨bf, 0, none⟩ = some (.slice va vs.length vc) := HA.out.fo.toR.c0
  have d1 : w3.cell? ⟨b1, 1, none⟩ = some (.slice pc r.cs.length kc) := HA.out.run.c1
  have hmm : r.cs.length ≤ 1024 := HA.out.run.2.2.2.len
  clear HR HA HBF
  generalize fitB r.cs vs 0 = f at HFC HP
  generalize vs.length = n at d0 hn HP
  generalize r.cs.length = m at d1 hmm HP ⊢
  by_cases he : n = m
  · have heb : ((n : Int) == (m : Int)) = true := by simp [he]
    subst he
    have HP2 : Hid (∀ q, Post (.returned (.bool f)) (w3.drewN q)) := fun q => HP.out q f (by simp)
    clear HP
    go_wp2_with fail
    go_quiet (first | (go_at_call 43; refine Calls.quiet_of (HFC.out _)))
    go_wp2_with fail
    exact HP2.out _
  · have heb : ((n : Int) == (m : Int)) = false := by simp; omega
    have HP2 : Hid (∀ q, Post (.returned (.bool false)) (w3.drewN q)) := fun q => HP.out q false (by simp [he])
    clear HP
    go_wp2_with fail
    go_quiet (fail)
    go_wp2_with fail
    exact HP2.out _

end Go.Proofs.Qxb6601041a
