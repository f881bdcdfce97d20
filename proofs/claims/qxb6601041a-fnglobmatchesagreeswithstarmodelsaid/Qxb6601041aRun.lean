/- The walk of (*glob).run: one run of a glob, cut out of its four rows. -/
import Derived.Test.Qxb6601041aTail
import Derived.Test.Qxb6601041aSmall
import Derived.Test.Qxb6601041aOrders
import Derived.Deep.RegionHeld3
import Derived.Outline
namespace Go.Proofs.Qxb6601041a
open Go.RowKit

/-- Where the part [lo, hi) of an owned row begins. -/
def Part (a : Option Addr) (lo n : Nat) (p : Option Addr) : Prop := n = 0 ∨ ∃ g, a = some ⟨g, 0, none⟩ ∧ p = some ⟨g, lo, none⟩

theorem part_of {w : World} {base : Nat} {e : TypeId} {a : Option Addr} {k n lo hi : Nat} {xs : List Value} (h : w.ownsRow base e 1 (.slice a n k) n xs) (h1 : lo ≤ hi) (h2 : hi ≤ n) :
    ∃ p, (if k = lo then a else a.map fun x => x.add lo) = p ∧ Part a lo (hi - lo) p := by
  refine ⟨_, rfl, ?_⟩
  by_cases h0 : hi - lo = 0
  · exact .inl h0
  · obtain ⟨g, cur, rfl, _, _, hk, _⟩ := own_some h (by omega)
    refine .inr ⟨g, rfl, ?_⟩
    rw [if_neg (by omega)]
    simp [Addr.add]
    omega

theorem part_row {w : World} {base : Nat} {e : TypeId} {kd : IntKind} {a p : Option Addr} {k n : Nat} {xs ys zs : List Int} (h : w.ownsRow base e 1 (.slice a n k) n ((xs ++ ys ++ zs).map (Value.int kd))) (hp : Part a xs.length ys.length p) : Row kd w p ys := by
  rcases hp with h0 | ⟨g, rfl, rfl⟩
  · exact .inl (List.eq_nil_of_length_eq_zero h0)
  · refine .inr ⟨g, xs.length, rfl, fun j hj => ?_⟩
    have hn : (xs ++ ys ++ zs).length = n := by simpa using h.1
    rw [h.cellAt (xs.length + j) (by rw [← hn]; simp; omega), List.append_assoc, List.map_append, List.getElem?_append_right (by simp)]
    simp only [List.length_map, Nat.add_sub_cancel_left]
    rw [List.map_append, List.getElem?_append_left (by simpa using hj)]
    simp [hj]

theorem three_new (w : World) (o1 o2 o3 : Obj) : (((w.alloc o1).alloc o2).alloc o3).heap[w.heap.size]? = some o1 ∧ (((w.alloc o1).alloc o2).alloc o3).heap[w.heap.size + 1]? = some o2 ∧ (((w.alloc o1).alloc o2).alloc o3).heap[w.heap.size + 1 + 1]? = some o3 ∧
    (((w.alloc o1).alloc o2).alloc o3).heap.size = w.heap.size + 3 ∧ Below w.heap.size w (((w.alloc o1).alloc o2).alloc o3) := by
  refine ⟨?_, ?_, ?_, by simp, (((Below.refl _ w).alloc (Nat.le_refl _) o1).alloc (by simp) o2).alloc (by simp; omega) o3⟩
  · rw [Below.heap_alloc _ _ _ (by simp; omega), Below.heap_alloc _ _ _ (by simp), heap_alloc_new]
  · rw [Below.heap_alloc _ _ _ (by simp)]
    have := heap_alloc_new (w.alloc o1) o2
    simpa using this
  · have := heap_alloc_new ((w.alloc o1).alloc o2) o3
    simpa using this

theorem cell_of_block {W : World} {b j : Nat} {c : Array Value} {t : TypeId} {v : Value} (h : W.heap[b]? = some (.cells c t (0, 0))) (hv : c[j]? = some v) : W.cell? ⟨b, j, none⟩ = some v := by
  simp [World.cell?, h, hv]
theorem frozen_of_block {W : World} {b j : Nat} {c : Array Value} {t : TypeId} (h : W.heap[b]? = some (.cells c t (0, 0))) : W.frozen? ⟨b, j, none⟩ = false := by
  simp [World.frozen?, h]

/-- What run hands back. -/
def RunGot (w0 : World) (gap : Int) (cs ts mk : List Int) (w : World) (e : Ending) (w' : World) : Prop :=
  ∃ pc kc pl kl pm km, e = .returned (.agg #[.int .i64 gap, .slice pc cs.length kc, .int .i64 ((cs.length + 63) / 64 : Nat), .slice pl ts.length kl, .slice pm mk.length km]) ∧
    (∀ W, Below w0.heap.size w0 W → Row .i32 W pc cs ∧ Row .i32 W pl ts ∧ Row .u64 W pm mk) ∧ mk.length ≤ km ∧ Below w.heap.size w w'

theorem run_end {w0 w W : World} {bg : Nat} {wd : Bool} {cs0 ls0 ms0 cs ls ms cs2 ls2 ms2 : List Int} {ss : List Value} {ns : Nat} {gap : Int} {ac : Option Addr} {kc : Nat} {al : Option Addr} {kl : Nat} {am : Option Addr} {km : Nat} {az : Option Addr} {kz : Nat} {q1 q2 q3 h1 h2 h3 : Nat} {pc pl pm : Option Addr}
    (hE : q1 = cs0.length ∧ q2 = ls0.length ∧ q3 = ms0.length ∧ h1 = (cs0 ++ cs).length ∧ h2 = (ls0 ++ ls).length ∧ h3 = (ms0 ++ ms).length)
    (hG : Gl w0 bg wd (cs0 ++ cs ++ cs2) (ls0 ++ ls ++ ls2) (ms0 ++ ms ++ ms2) ss ns ac kc al kl am km az kz)
    (hc : Part ac q1 (h1 - q1) pc) (hl : Part al q2 (h2 - q2) pl) (hm : Part am q3 (h3 - q3) pm) (hB : Below w.heap.size w W) (c1 c2 c3 : Nat) (h3c : h3 - q3 ≤ c3) :
    RunGot w0 gap cs ls ms w (.returned (.agg #[.int .i64 gap, .slice pc (h1 - q1) c1, .int .i64 (((h1 - q1) + 63) / 64 : Nat), .slice pl (h2 - q2) c2, .slice pm (h3 - q3) c3])) W := by
  obtain ⟨rfl, rfl, rfl, rfl, rfl, rfl⟩ := hE
  have e1 : (cs0 ++ cs).length - cs0.length = cs.length := by simp
  have e2 : (ls0 ++ ls).length - ls0.length = ls.length := by simp
  have e3 : (ms0 ++ ms).length - ms0.length = ms.length := by simp
  rw [e1] at hc ⊢
  rw [e2] at hl ⊢
  rw [e3] at hm h3c ⊢
  exact ⟨pc, c1, pl, c2, pm, c3, rfl, fun W hW => ⟨(part_row hG.oc hc).kept hW, (part_row hG.ol hl).kept hW, (part_row hG.om hm).kept hW⟩, h3c, hB⟩

set_option maxHeartbeats 4000000 in
set_option maxRecDepth 1000000 in
set_option linter.unusedSimpArgs false in
set_option linter.unusedVariables false in
theorem run0 (bg : Nat) (w w0 : World) (wd : Bool) (cs0 ls0 ms0 cs ls ms cs2 ls2 ms2 : List Int) (ss : List Value) (ns : Nat) (gap : Int) (ac : Option Addr) (kc : Nat) (al : Option Addr) (kl : Nat) (am : Option Addr) (km : Nat) (az : Option Addr) (kz : Nat)
    (hG : Gl w bg wd (cs0 ++ cs ++ cs2) (ls0 ++ ls ++ ls2) (ms0 ++ ms ++ ms2) ss ns ac kc al kl am km az kz)
    (hG0 : Gl w0 bg wd (cs0 ++ cs ++ cs2) (ls0 ++ ls ++ ls2) (ms0 ++ ms ++ ms2) ss ns ac kc al kl am km az kz)
    (hi : 0 < ns) (hc0 : cs0 = []) (hl0 : ls0 = []) (hm0 : ms0 = [])
    (hs0 : ss[0]? = some (.int .i32 gap)) (hs1 : ss[1]? = some (.int .i32 (cs0 ++ cs).length)) (hs2 : ss[2]? = some (.int .i32 (ls0 ++ ls).length)) (hs3 : ss[3]? = some (.int .i32 (ms0 ++ ms).length))
    (hgap1 : -2147483648 ≤ gap) (hgap2 : gap ≤ 2147483647) (hc : (cs0 ++ cs).length ≤ 1000000) (hl : (ls0 ++ ls).length ≤ 1000000) (hm : (ms0 ++ ms).length ≤ 1000000000) (hns : ns ≤ 1000000) :
    Calls Try.prog 38 #[.pointer (some ⟨bg, 0, none⟩), .int .i64 0] w (RunGot w0 gap cs ls ms w) := by
  obtain ⟨gz, cur, rfl, hgz, hcur, hk1, hk2, hk3, hk4⟩ := own_some hG.os (by omega)
  obtain ⟨h1, hh1⟩ : ∃ h1, h1 = (cs0 ++ cs).length := ⟨_, rfl⟩
  obtain ⟨h2, hh2⟩ : ∃ h2, h2 = (ls0 ++ ls).length := ⟨_, rfl⟩
  obtain ⟨h3, hh3⟩ : ∃ h3, h3 = (ms0 ++ ms).length := ⟨_, rfl⟩
  rw [← hh1] at hs1 hc
  rw [← hh2] at hs2 hl
  rw [← hh3] at hs3 hm
  have s0 : w.cell? ⟨gz, 0, none⟩ = some (.int .i32 gap) := by rw [hG.os.cellAt 0 (by omega)]; exact hs0
  have s1 : w.cell? ⟨gz, 1, none⟩ = some (.int .i32 h1) := by rw [hG.os.cellAt 1 (by omega)]; exact hs1
  have s2 : w.cell? ⟨gz, 2, none⟩ = some (.int .i32 h2) := by rw [hG.os.cellAt 2 (by omega)]; exact hs2
  have s3 : w.cell? ⟨gz, 3, none⟩ = some (.int .i32 h3) := by rw [hG.os.cellAt 3 (by omega)]; exact hs3
  obtain ⟨q1, hq1, hq1'⟩ : ∃ q1 : Nat, q1 = cs0.length ∧ (0 : Int) = q1 := ⟨_, rfl, by simp [hc0]⟩
  obtain ⟨q2, hq2, hq2'⟩ : ∃ q2 : Nat, q2 = ls0.length ∧ (0 : Int) = q2 := ⟨_, rfl, by simp [hl0]⟩
  obtain ⟨q3, hq3, hq3'⟩ : ∃ q3 : Nat, q3 = ms0.length ∧ (0 : Int) = q3 := ⟨_, rfl, by simp [hm0]⟩
  obtain ⟨c0, c1, c2, c3, _⟩ := hG.cells
  have hbg : bg < w.heap.size := hG.lt
  have hgl : gz < w.heap.size := (own_lt hG.os gz rfl).2
  obtain ⟨C, hC⟩ : ∃ C, C = (cs0 ++ cs ++ cs2).length := ⟨_, rfl⟩
  obtain ⟨L, hL⟩ : ∃ L, L = (ls0 ++ ls ++ ls2).length := ⟨_, rfl⟩
  obtain ⟨N, hN⟩ : ∃ N, N = (ms0 ++ ms ++ ms2).length := ⟨_, rfl⟩
  have oC := hG.oc
  have oL := hG.ol
  have oN := hG.om
  rw [← hC] at c0 oC
  rw [← hL] at c1 oL
  rw [← hN] at c2 oN
  have hC1 : h1 ≤ C := by rw [hC, hh1]; simp
  have hL1 : h2 ≤ L := by rw [hL, hh2]; simp
  have hN1 : h3 ≤ N := by rw [hN, hh3]; simp
  have hC2 : q1 ≤ h1 := by rw [hq1, hh1]; simp
  have hL2 : q2 ≤ h2 := by rw [hq2, hh2]; simp
  have hN2 : q3 ≤ h3 := by rw [hq3, hh3]; simp
  have hkC := own_le oC
  have hkL := own_le oL
  have hkN := own_le oN
  have hCk : h1 ≤ kc := by omega
  have hLk : h2 ≤ kl := by omega
  have hNk : h3 ≤ km := by omega
  obtain ⟨pc, hpc, hPc⟩ := part_of oC hC2 hC1
  obtain ⟨pl, hpl, hPl⟩ := part_of oL hL2 hL1
  obtain ⟨pm, hpm, hPm⟩ := part_of oN hN2 hN1
  have HPc : Hid (Part ac q1 (h1 - q1) pc) := hPc
  have HPl : Hid (Part al q2 (h2 - q2) pl) := hPl
  have HPm : Hid (Part am q3 (h3 - q3) pm) := hPm
  have HG : Hid (Gl w0 bg wd (cs0 ++ cs ++ cs2) (ls0 ++ ls ++ ls2) (ms0 ++ ms ++ ms2) ss ns ac kc al kl am km (some ⟨gz, 0, none⟩) kz) := hG0
  have HE : Hid (q1 = cs0.length ∧ q2 = ls0.length ∧ q3 = ms0.length ∧ h1 = (cs0 ++ cs).length ∧ h2 = (ls0 ++ ls).length ∧ h3 = (ms0 ++ ms).length) := ⟨hq1, hq2, hq3, hh1, hh2, hh3⟩
  clear hG hG0 hC hL hN oC oL oN hk2 hk3 hk4 hcur hPc hPl hPm hq1 hq2 hq3 hh1 hh2 hh3 hs0 hs1 hs2 hs3 hc0 hl0 hm0
  obtain ⟨t0, t1, t2, t3, t4⟩ := three_new w (.cells #[.int .i64 0, .slice none 0 0, .int .i64 0, .slice none 0 0, .slice none 0 0] 56) (.cells #[.int .i32 0, .int .i32 0, .int .i32 0, .int .i32 0] 69) (.cells #[.int .i32 gap, .int .i32 h1, .int .i32 h2, .int .i32 h3] 69)
  obtain ⟨W3, hW3⟩ : ∃ W3, (((w.alloc (.cells #[.int .i64 0, .slice none 0 0, .int .i64 0, .slice none 0 0, .slice none 0 0] 56)).alloc (.cells #[.int .i32 0, .int .i32 0, .int .i32 0, .int .i32 0] 69)).alloc (.cells #[.int .i32 gap, .int .i32 h1, .int .i32 h2, .int .i32 h3] 69)) = W3 := ⟨_, rfl⟩
  rw [hW3] at t0 t1 t2 t3 t4
  have d0 := t4.cell (p := ⟨bg, 0, none⟩) hbg
  have d1 := t4.cell (p := ⟨bg, 1, none⟩) hbg
  have d2 := t4.cell (p := ⟨bg, 2, none⟩) hbg
  rw [c0] at d0
  rw [c1] at d1
  rw [c2] at d2
  have e1 : W3.cell? ⟨w.heap.size + 1, 1, none⟩ = some (.int .i32 q1) := (cell_of_block t1 rfl) |>.trans (congrArg (fun x => some (Value.int .i32 x)) hq1')
  have e2 : W3.cell? ⟨w.heap.size + 1, 2, none⟩ = some (.int .i32 q2) := (cell_of_block t1 rfl) |>.trans (congrArg (fun x => some (Value.int .i32 x)) hq2')
  have e3 : W3.cell? ⟨w.heap.size + 1, 3, none⟩ = some (.int .i32 q3) := (cell_of_block t1 rfl) |>.trans (congrArg (fun x => some (Value.int .i32 x)) hq3')
  have f0 : W3.cell? ⟨w.heap.size + 1 + 1, 0, none⟩ = some (.int .i32 gap) := cell_of_block t2 rfl
  have f1 : W3.cell? ⟨w.heap.size + 1 + 1, 1, none⟩ = some (.int .i32 h1) := cell_of_block t2 rfl
  have f2 : W3.cell? ⟨w.heap.size + 1 + 1, 2, none⟩ = some (.int .i32 h2) := cell_of_block t2 rfl
  have f3 : W3.cell? ⟨w.heap.size + 1 + 1, 3, none⟩ = some (.int .i32 h3) := cell_of_block t2 rfl
  have HW : Hid (W3.heap[w.heap.size]? = some (.cells #[.int .i64 0, .slice none 0 0, .int .i64 0, .slice none 0 0, .slice none 0 0] 56) ∧ W3.heap.size = w.heap.size + 3 ∧ Below w.heap.size w W3) := ⟨t0, t3, t4⟩
  clear t0 t1 t2 t3 t4 hq1' hq2' hq3'
  go_enter Try.func38, Try.ntmps38
  go_wp2_with fail
  clear hW3 s0 s1 s2 s3 c0 c1 c2 c3
  go_quiet (fail)
  go_wp2_with fail
  clear d0 e1 f1
  have g0 : W3.cell? ⟨w.heap.size, 0, none⟩ = some (.int .i64 0) := cell_of_block HW.out.1 rfl
  have g1 : W3.cell? ⟨w.heap.size, 1, none⟩ = some (.slice none 0 0) := cell_of_block HW.out.1 rfl
  have g2 : W3.cell? ⟨w.heap.size, 2, none⟩ = some (.int .i64 0) := cell_of_block HW.out.1 rfl
  have g3 : W3.cell? ⟨w.heap.size, 3, none⟩ = some (.slice none 0 0) := cell_of_block HW.out.1 rfl
  have g4 : W3.cell? ⟨w.heap.size, 4, none⟩ = some (.slice none 0 0) := cell_of_block HW.out.1 rfl
  have z0 : W3.frozen? ⟨w.heap.size, 0, none⟩ = false := frozen_of_block HW.out.1
  have z1 : W3.frozen? ⟨w.heap.size, 1, none⟩ = false := frozen_of_block HW.out.1
  have z2 : W3.frozen? ⟨w.heap.size, 2, none⟩ = false := frozen_of_block HW.out.1
  have z3 : W3.frozen? ⟨w.heap.size, 3, none⟩ = false := frozen_of_block HW.out.1
  have z4 : W3.frozen? ⟨w.heap.size, 4, none⟩ = false := frozen_of_block HW.out.1
  refine wp_region_K (fun w' => w'.cell? ⟨bg, 1, none⟩ = some (.slice al L kl) ∧ w'.cell? ⟨bg, 2, none⟩ = some (.slice am N km) ∧ w'.cell? ⟨w.heap.size + 1, 2, none⟩ = some (.int .i32 q2) ∧ w'.cell? ⟨w.heap.size + 1, 3, none⟩ = some (.int .i32 q3) ∧ w'.cell? ⟨w.heap.size + 1 + 1, 0, none⟩ = some (.int .i32 gap) ∧ w'.cell? ⟨w.heap.size + 1 + 1, 2, none⟩ = some (.int .i32 h2) ∧ w'.cell? ⟨w.heap.size + 1 + 1, 3, none⟩ = some (.int .i32 h3)) (fun j => j == 27) (by kernel_rfl) ?_
  generalize hWd : W3.drewN _ = W4
  have hSw : W4.cell? ⟨bg, 1, none⟩ = some (.slice al L kl) ∧ W4.cell? ⟨bg, 2, none⟩ = some (.slice am N km) ∧ W4.cell? ⟨w.heap.size + 1, 2, none⟩ = some (.int .i32 q2) ∧ W4.cell? ⟨w.heap.size + 1, 3, none⟩ = some (.int .i32 q3) ∧ W4.cell? ⟨w.heap.size + 1 + 1, 0, none⟩ = some (.int .i32 gap) ∧ W4.cell? ⟨w.heap.size + 1 + 1, 2, none⟩ = some (.int .i32 h2) ∧ W4.cell? ⟨w.heap.size + 1 + 1, 3, none⟩ = some (.int .i32 h3) := by
    subst hWd; exact ⟨d1, d2, e2, e3, f0, f2, f3⟩
  have gW : W4.heap[w.heap.size]? = some (.cells #[.int .i64 0, .slice none 0 0, .int .i64 0, .slice none 0 0, .slice none 0 0] 56) ∧ Below w.heap.size w W4 := by
    subst hWd; exact ⟨HW.out.1, below_drewN HW.out.2.2 _⟩
  have HB : Hid (Below w.heap.size w W4) := gW.2
  replace g0 : W4.cell? ⟨w.heap.size, 0, none⟩ = some (.int .i64 0) := cell_of_block gW.1 rfl
  replace g1 : W4.cell? ⟨w.heap.size, 1, none⟩ = some (.slice none 0 0) := cell_of_block gW.1 rfl
  replace g2 : W4.cell? ⟨w.heap.size, 2, none⟩ = some (.int .i64 0) := cell_of_block gW.1 rfl
  replace g3 : W4.cell? ⟨w.heap.size, 3, none⟩ = some (.slice none 0 0) := cell_of_block gW.1 rfl
  replace g4 : W4.cell? ⟨w.heap.size, 4, none⟩ = some (.slice none 0 0) := cell_of_block gW.1 rfl
  replace z0 : W4.frozen? ⟨w.heap.size, 0, none⟩ = false := frozen_of_block gW.1
  replace z1 : W4.frozen? ⟨w.heap.size, 1, none⟩ = false := frozen_of_block gW.1
  replace z2 : W4.frozen? ⟨w.heap.size, 2, none⟩ = false := frozen_of_block gW.1
  replace z3 : W4.frozen? ⟨w.heap.size, 3, none⟩ = false := frozen_of_block gW.1
  replace z4 : W4.frozen? ⟨w.heap.size, 4, none⟩ = false := frozen_of_block gW.1
  clear gW
  refine wpAnyK_take (i := 0) (v := ?v0) rfl (by kernel_rfl) (by kernel_rfl) (by kernel_rfl) (by kernel_rfl) (fun _ _ _ h => h) (Or.inl ⟨by rfl, ?y0⟩) hSw ?r0
  case y0 => (intro wq hq; obtain ⟨s0, s1, s2, s3, s4, s5, s6⟩ := hq; go_simp; try with_reducible rfl)
  refine wpAnyK_take (i := 1) (v := ?v1) rfl (by kernel_rfl) (by kernel_rfl) (by kernel_rfl) (by kernel_rfl) (fun _ _ _ h => h) (Or.inl ⟨by rfl, ?y1⟩) hSw ?r1
  case y1 => (intro wq hq; obtain ⟨s0, s1, s2, s3, s4, s5, s6⟩ := hq; go_simp; try with_reducible rfl)
  refine wpAnyK_take (i := 2) (v := ?v2) rfl (by kernel_rfl) (by kernel_rfl) (by kernel_rfl) (by kernel_rfl) (fun _ _ _ h => h) (Or.inl ⟨by rfl, ?y2⟩) hSw ?r2
  case y2 => (intro wq hq; obtain ⟨s0, s1, s2, s3, s4, s5, s6⟩ := hq; go_simp; try with_reducible rfl)
  refine wpAnyK_take (i := 3) (v := ?v3) rfl (by kernel_rfl) (by kernel_rfl) (by kernel_rfl) (by kernel_rfl) (fun _ _ _ h => h) (Or.inl ⟨by rfl, ?y3⟩) hSw ?r3
  case y3 => (intro wq hq; obtain ⟨s0, s1, s2, s3, s4, s5, s6⟩ := hq; go_simp; try with_reducible rfl)
  refine wpAnyK_take (i := 4) (v := ?v4) rfl (by kernel_rfl) (by kernel_rfl) (by kernel_rfl) (by kernel_rfl) (fun _ _ _ h => h) (Or.inl ⟨by rfl, ?y4⟩) hSw ?r4
  case y4 => (intro wq hq; obtain ⟨s0, s1, s2, s3, s4, s5, s6⟩ := hq; go_simp; try with_reducible rfl)
  refine wpAnyK_take (i := 5) (v := ?v5) rfl (by kernel_rfl) (by kernel_rfl) (by kernel_rfl) (by kernel_rfl) (fun _ _ _ h => h) (Or.inl ⟨by rfl, ?y5⟩) hSw ?r5
  case y5 => (intro wq hq; obtain ⟨s0, s1, s2, s3, s4, s5, s6⟩ := hq; go_simp; try with_reducible rfl)
  refine wpAnyK_take (i := 6) (v := ?v6) rfl (by kernel_rfl) (by kernel_rfl) (by kernel_rfl) (by kernel_rfl) (fun _ _ _ h => h) (Or.inl ⟨by rfl, ?y6⟩) hSw ?r6
  case y6 => (intro wq hq; obtain ⟨s0, s1, s2, s3, s4, s5, s6⟩ := hq; go_simp; try with_reducible rfl)
  refine wpAnyK_take (i := 7) (v := ?v7) rfl (by kernel_rfl) (by kernel_rfl) (by kernel_rfl) (by kernel_rfl) (fun _ _ _ h => h) (Or.inl ⟨by rfl, ?y7⟩) hSw ?r7
  case y7 => (intro wq hq; obtain ⟨s0, s1, s2, s3, s4, s5, s6⟩ := hq; go_simp; try with_reducible rfl)
  refine wpAnyK_take (i := 8) (v := ?v8) rfl (by kernel_rfl) (by kernel_rfl) (by kernel_rfl) (by kernel_rfl) (fun _ _ _ h => h) (Or.inl ⟨by rfl, ?y8⟩) hSw ?r8
  case y8 => (intro wq hq; obtain ⟨s0, s1, s2, s3, s4, s5, s6⟩ := hq; go_simp; try with_reducible rfl)
  refine wpAnyK_take (i := 9) (v := ?v9) rfl (by kernel_rfl) (by kernel_rfl) (by kernel_rfl) (by kernel_rfl) (fun _ _ _ h => h) (Or.inl ⟨by rfl, ?y9⟩) hSw ?r9
  case y9 => (intro wq hq; obtain ⟨s0, s1, s2, s3, s4, s5, s6⟩ := hq; go_simp; try with_reducible rfl)
  refine wpAnyK_take (i := 10) (v := ?v10) rfl (by kernel_rfl) (by kernel_rfl) (by kernel_rfl) (by kernel_rfl) (fun _ _ _ h => h) (Or.inl ⟨by rfl, ?y10⟩) hSw ?r10
  case y10 => (intro wq hq; obtain ⟨s0, s1, s2, s3, s4, s5, s6⟩ := hq; go_simp; try with_reducible rfl)
  refine wpAnyK_take (i := 11) (v := ?v11) rfl (by kernel_rfl) (by kernel_rfl) (by kernel_rfl) (by kernel_rfl) (fun _ _ _ h => h) (Or.inl ⟨by rfl, ?y11⟩) hSw ?r11
  case y11 => (intro wq hq; obtain ⟨s0, s1, s2, s3, s4, s5, s6⟩ := hq; go_simp; try with_reducible rfl)
  refine wpAnyK_take (i := 12) (v := ?v12) rfl (by kernel_rfl) (by kernel_rfl) (by kernel_rfl) (by kernel_rfl) (fun _ _ _ h => h) (Or.inl ⟨by rfl, ?y12⟩) hSw ?r12
  case y12 => (intro wq hq; obtain ⟨s0, s1, s2, s3, s4, s5, s6⟩ := hq; go_simp; try with_reducible rfl)
  refine wpAnyK_take (i := 13) (v := ?v13) rfl (by kernel_rfl) (by kernel_rfl) (by kernel_rfl) (by kernel_rfl) (fun _ _ _ h => h) (Or.inl ⟨by rfl, ?y13⟩) hSw ?r13
  case y13 => (intro wq hq; obtain ⟨s0, s1, s2, s3, s4, s5, s6⟩ := hq; go_simp; try with_reducible rfl)
  refine wpAnyK_take (i := 14) (v := ?v14) rfl (by kernel_rfl) (by kernel_rfl) (by kernel_rfl) (by kernel_rfl) (fun _ _ _ h => h) (Or.inl ⟨by rfl, ?y14⟩) hSw ?r14
  case y14 => (intro wq hq; obtain ⟨s0, s1, s2, s3, s4, s5, s6⟩ := hq; go_simp; try with_reducible rfl)
  refine wpAnyK_take (i := 15) (v := ?v15) rfl (by kernel_rfl) (by kernel_rfl) (by kernel_rfl) (by kernel_rfl) (fun _ _ _ h => h) (Or.inl ⟨by rfl, ?y15⟩) hSw ?r15
  case y15 => (intro wq hq; obtain ⟨s0, s1, s2, s3, s4, s5, s6⟩ := hq; go_simp; try with_reducible rfl)
  refine wpAnyK_take (i := 16) (v := ?v16) rfl (by kernel_rfl) (by kernel_rfl) (by kernel_rfl) (by kernel_rfl) (fun _ _ _ h => h) (Or.inl ⟨by rfl, ?y16⟩) hSw ?r16
  case y16 => (intro wq hq; obtain ⟨s0, s1, s2, s3, s4, s5, s6⟩ := hq; go_simp; try with_reducible rfl)
  refine wpAnyK_take (i := 17) (v := ?v17) rfl (by kernel_rfl) (by kernel_rfl) (by kernel_rfl) (by kernel_rfl) (fun _ _ _ h => h) (Or.inl ⟨by rfl, ?y17⟩) hSw ?r17
  case y17 => (intro wq hq; obtain ⟨s0, s1, s2, s3, s4, s5, s6⟩ := hq; go_simp; try with_reducible rfl)
  refine wpAnyK_take (i := 18) (v := ?v18) rfl (by kernel_rfl) (by kernel_rfl) (by kernel_rfl) (by kernel_rfl) (fun _ _ _ h => h) (Or.inl ⟨by rfl, ?y18⟩) hSw ?r18
  case y18 => (intro wq hq; obtain ⟨s0, s1, s2, s3, s4, s5, s6⟩ := hq; go_simp; try with_reducible rfl)
  refine wpAnyK_take (i := 19) (v := ?v19) rfl (by kernel_rfl) (by kernel_rfl) (by kernel_rfl) (by kernel_rfl) (fun _ _ _ h => h) (Or.inl ⟨by rfl, ?y19⟩) hSw ?r19
  case y19 => (intro wq hq; obtain ⟨s0, s1, s2, s3, s4, s5, s6⟩ := hq; go_simp; try with_reducible rfl)
  refine wpAnyK_take (i := 20) (v := ?v20) rfl (by kernel_rfl) (by kernel_rfl) (by kernel_rfl) (by kernel_rfl) (fun _ _ _ h => h) (Or.inl ⟨by rfl, ?y20⟩) hSw ?r20
  case y20 => (intro wq hq; obtain ⟨s0, s1, s2, s3, s4, s5, s6⟩ := hq; go_simp; try with_reducible rfl)
  refine wpAnyK_take (i := 21) (v := ?v21) rfl (by kernel_rfl) (by kernel_rfl) (by kernel_rfl) (by kernel_rfl) (fun _ _ _ h => h) (Or.inl ⟨by rfl, ?y21⟩) hSw ?r21
  case y21 => (intro wq hq; obtain ⟨s0, s1, s2, s3, s4, s5, s6⟩ := hq; go_simp; try with_reducible rfl)
  refine wpAnyK_take (i := 22) (v := ?v22) rfl (by kernel_rfl) (by kernel_rfl) (by kernel_rfl) (by kernel_rfl) (fun _ _ _ h => h) (Or.inl ⟨by rfl, ?y22⟩) hSw ?r22
  case y22 => (intro wq hq; obtain ⟨s0, s1, s2, s3, s4, s5, s6⟩ := hq; go_simp; try with_reducible rfl)
  refine wpAnyK_take (i := 23) (v := ?v23) rfl (by kernel_rfl) (by kernel_rfl) (by kernel_rfl) (by kernel_rfl) (fun _ _ _ h => h) (Or.inl ⟨by rfl, ?y23⟩) hSw ?r23
  case y23 => (intro wq hq; obtain ⟨s0, s1, s2, s3, s4, s5, s6⟩ := hq; go_simp; try with_reducible rfl)
  refine wpAnyK_take (i := 24) (v := ?v24) rfl (by kernel_rfl) (by kernel_rfl) (by kernel_rfl) (by kernel_rfl) (fun _ _ _ h => h) (Or.inl ⟨by rfl, ?y24⟩) hSw ?r24
  case y24 => (intro wq hq; obtain ⟨s0, s1, s2, s3, s4, s5, s6⟩ := hq; go_simp; try with_reducible rfl)
  refine wpAnyK_take (i := 25) (v := ?v25) rfl (by kernel_rfl) (by kernel_rfl) (by kernel_rfl) (by kernel_rfl) (fun _ _ _ h => h) (Or.inl ⟨by rfl, ?y25⟩) hSw ?r25
  case y25 => (intro wq hq; obtain ⟨s0, s1, s2, s3, s4, s5, s6⟩ := hq; go_simp; try with_reducible rfl)
  refine wpAnyK_take (i := 26) (v := ?v26) rfl (by kernel_rfl) (by kernel_rfl) (by kernel_rfl) (by kernel_rfl) (fun _ _ _ h => h) (Or.inl ⟨by rfl, ?y26⟩) hSw ?r26
  case y26 => (intro wq hq; obtain ⟨s0, s1, s2, s3, s4, s5, s6⟩ := hq; go_simp; try with_reducible rfl)
  refine wpAnyK_one (i := 27) (by kernel_rfl) rfl (fun K27 h27 => ?_)
  go_simp
  refine h27 _ _ (fun h => by cases h) ?_
  clear h27 K27
  refine wpAnyK_done (by kernel_rfl) ?_ _
  go_wp2_with fail
  have hw1 : IntKind.i64.wrap gap = gap := by rw [IntKind.wrap_i64]; omega
  have hw2 : IntKind.i64.wrap ((IntKind.i64.wrap (↑(h1 - q1) + 63)).tdiv 64) = (((h1 - q1) + 63) / 64 : Nat) := by
    have e1 : IntKind.i64.wrap (((h1 - q1 : Nat) : Int) + 63) = (((h1 - q1) + 63 : Nat) : Int) := by rw [IntKind.wrap_i64]; omega
    have e2 : ((((h1 - q1) + 63 : Nat) : Int)).tdiv 64 = (((h1 - q1) + 63) / 64 : Nat) := by
      rw [Int.tdiv_eq_ediv_of_nonneg (by omega)]; omega
    rw [e1, e2]
    rw [IntKind.wrap_i64]; omega
  rw [hw1, hw2]
  have hBe : ∀ {W : World} (j : Nat) (v : Value), Below w.heap.size w W → Below w.heap.size w (W.setCell ⟨w.heap.size, j, none⟩ v) := fun j v h => h.setCell (p := ⟨w.heap.size, j, none⟩) (Nat.le_refl _) v
  exact bodyPost_ret (v := .agg #[.int .i64 gap, .slice pc (h1 - q1) (kc - q1), .int .i64 (((h1 - q1) + 63) / 64 : Nat), .slice pl (h2 - q2) (kl - q2), .slice pm (h3 - q3) (km - q3)]) (by simp [results, Try.results38, go_sem, g0, g1, g2, g3, g4, z0, z1, z2, z3, z4]) rfl (run_end HE.out HG.out HPc.out HPl.out HPm.out ((hBe 4 _ (hBe 3 _ (hBe 2 _ (hBe 1 _ (hBe 0 _ HB.out))))).drew) _ _ _ (by omega))
set_option maxHeartbeats 4000000 in
set_option maxRecDepth 1000000 in
set_option linter.unusedSimpArgs false in
set_option linter.unusedVariables false in
theorem runS (bg : Nat) (w w0 : World) (wd : Bool) (cs0 ls0 ms0 cs ls ms cs2 ls2 ms2 : List Int) (ss : List Value) (ns : Nat) (gap : Int) (gap0 : Int) (i : Nat) (ac : Option Addr) (kc : Nat) (al : Option Addr) (kl : Nat) (am : Option Addr) (km : Nat) (az : Option Addr) (kz : Nat)
    (hG : Gl w bg wd (cs0 ++ cs ++ cs2) (ls0 ++ ls ++ ls2) (ms0 ++ ms ++ ms2) ss ns ac kc al kl am km az kz)
    (hG0 : Gl w0 bg wd (cs0 ++ cs ++ cs2) (ls0 ++ ls ++ ls2) (ms0 ++ ms ++ ms2) ss ns ac kc al kl am km az kz)
    (hi : i + 1 < ns)
    (hp0 : ss[i * 4]? = some (.int .i32 gap0)) (hp1 : ss[i * 4 + 1]? = some (.int .i32 cs0.length)) (hp2 : ss[i * 4 + 2]? = some (.int .i32 ls0.length)) (hp3 : ss[i * 4 + 3]? = some (.int .i32 ms0.length))
    (hs0 : ss[(i + 1) * 4]? = some (.int .i32 gap)) (hs1 : ss[(i + 1) * 4 + 1]? = some (.int .i32 (cs0 ++ cs).length)) (hs2 : ss[(i + 1) * 4 + 2]? = some (.int .i32 (ls0 ++ ls).length)) (hs3 : ss[(i + 1) * 4 + 3]? = some (.int .i32 (ms0 ++ ms).length))
    (hgap1 : -2147483648 ≤ gap) (hgap2 : gap ≤ 2147483647) (hc : (cs0 ++ cs).length ≤ 1000000) (hl : (ls0 ++ ls).length ≤ 1000000) (hm : (ms0 ++ ms).length ≤ 1000000000) (hns : ns ≤ 1000000) :
    Calls Try.prog 38 #[.pointer (some ⟨bg, 0, none⟩), .int .i64 ((i : Int) + 1)] w (RunGot w0 gap cs ls ms w) := by
  obtain ⟨gz, cur, rfl, hgz, hcur, hk1, hk2, hk3, hk4⟩ := own_some hG.os (by omega)
  obtain ⟨h1, hh1⟩ : ∃ h1, h1 = (cs0 ++ cs).length := ⟨_, rfl⟩
  obtain ⟨h2, hh2⟩ : ∃ h2, h2 = (ls0 ++ ls).length := ⟨_, rfl⟩
  obtain ⟨h3, hh3⟩ : ∃ h3, h3 = (ms0 ++ ms).length := ⟨_, rfl⟩
  rw [← hh1] at hs1 hc
  rw [← hh2] at hs2 hl
  rw [← hh3] at hs3 hm
  obtain ⟨q1, hq1⟩ : ∃ q1, q1 = cs0.length := ⟨_, rfl⟩
  obtain ⟨q2, hq2⟩ : ∃ q2, q2 = ls0.length := ⟨_, rfl⟩
  obtain ⟨q3, hq3⟩ : ∃ q3, q3 = ms0.length := ⟨_, rfl⟩
  rw [← hq1] at hp1
  rw [← hq2] at hp2
  rw [← hq3] at hp3
  have p0 : w.cell? ⟨gz, i * 4, none⟩ = some (.int .i32 gap0) := by rw [hG.os.cellAt (i * 4) (by omega)]; exact hp0
  have p1 : w.cell? ⟨gz, i * 4 + 1, none⟩ = some (.int .i32 q1) := by rw [hG.os.cellAt (i * 4 + 1) (by omega)]; exact hp1
  have p2 : w.cell? ⟨gz, i * 4 + 2, none⟩ = some (.int .i32 q2) := by rw [hG.os.cellAt (i * 4 + 2) (by omega)]; exact hp2
  have p3 : w.cell? ⟨gz, i * 4 + 3, none⟩ = some (.int .i32 q3) := by rw [hG.os.cellAt (i * 4 + 3) (by omega)]; exact hp3
  have s0 : w.cell? ⟨gz, (i + 1) * 4, none⟩ = some (.int .i32 gap) := by rw [hG.os.cellAt ((i + 1) * 4) (by omega)]; exact hs0
  have s1 : w.cell? ⟨gz, (i + 1) * 4 + 1, none⟩ = some (.int .i32 h1) := by rw [hG.os.cellAt ((i + 1) * 4 + 1) (by omega)]; exact hs1
  have s2 : w.cell? ⟨gz, (i + 1) * 4 + 2, none⟩ = some (.int .i32 h2) := by rw [hG.os.cellAt ((i + 1) * 4 + 2) (by omega)]; exact hs2
  have s3 : w.cell? ⟨gz, (i + 1) * 4 + 3, none⟩ = some (.int .i32 h3) := by rw [hG.os.cellAt ((i + 1) * 4 + 3) (by omega)]; exact hs3
  obtain ⟨c0, c1, c2, c3, _⟩ := hG.cells
  have hbg : bg < w.heap.size := hG.lt
  have hgl : gz < w.heap.size := (own_lt hG.os gz rfl).2
  obtain ⟨C, hC⟩ : ∃ C, C = (cs0 ++ cs ++ cs2).length := ⟨_, rfl⟩
  obtain ⟨L, hL⟩ : ∃ L, L = (ls0 ++ ls ++ ls2).length := ⟨_, rfl⟩
  obtain ⟨N, hN⟩ : ∃ N, N = (ms0 ++ ms ++ ms2).length := ⟨_, rfl⟩
  have oC := hG.oc
  have oL := hG.ol
  have oN := hG.om
  rw [← hC] at c0 oC
  rw [← hL] at c1 oL
  rw [← hN] at c2 oN
  have hC1 : h1 ≤ C := by rw [hC, hh1]; simp
  have hL1 : h2 ≤ L := by rw [hL, hh2]; simp
  have hN1 : h3 ≤ N := by rw [hN, hh3]; simp
  have hC2 : q1 ≤ h1 := by rw [hq1, hh1]; simp
  have hL2 : q2 ≤ h2 := by rw [hq2, hh2]; simp
  have hN2 : q3 ≤ h3 := by rw [hq3, hh3]; simp
  have hkC := own_le oC
  have hkL := own_le oL
  have hkN := own_le oN
  have hCk : h1 ≤ kc := by omega
  have hLk : h2 ≤ kl := by omega
  have hNk : h3 ≤ km := by omega
  obtain ⟨pc, hpc, hPc⟩ := part_of oC hC2 hC1
  obtain ⟨pl, hpl, hPl⟩ := part_of oL hL2 hL1
  obtain ⟨pm, hpm, hPm⟩ := part_of oN hN2 hN1
  have HPc : Hid (Part ac q1 (h1 - q1) pc) := hPc
  have HPl : Hid (Part al q2 (h2 - q2) pl) := hPl
  have HPm : Hid (Part am q3 (h3 - q3) pm) := hPm
  have HG : Hid (Gl w0 bg wd (cs0 ++ cs ++ cs2) (ls0 ++ ls ++ ls2) (ms0 ++ ms ++ ms2) ss ns ac kc al kl am km (some ⟨gz, 0, none⟩) kz) := hG0
  have HE : Hid (q1 = cs0.length ∧ q2 = ls0.length ∧ q3 = ms0.length ∧ h1 = (cs0 ++ cs).length ∧ h2 = (ls0 ++ ls).length ∧ h3 = (ms0 ++ ms).length) := ⟨hq1, hq2, hq3, hh1, hh2, hh3⟩
  clear hG hG0 hC hL hN oC oL oN hk2 hk3 hk4 hcur hPc hPl hPm hq1 hq2 hq3 hh1 hh2 hh3 hs0 hs1 hs2 hs3 hp0 hp1 hp2 hp3
  obtain ⟨t0, t1, t2, t3, t4⟩ := three_new w (.cells #[.int .i64 0, .slice none 0 0, .int .i64 0, .slice none 0 0, .slice none 0 0] 56) (.cells #[.int .i32 gap0, .int .i32 q1, .int .i32 q2, .int .i32 q3] 69) (.cells #[.int .i32 gap, .int .i32 h1, .int .i32 h2, .int .i32 h3] 69)
  obtain ⟨W3, hW3⟩ : ∃ W3, (((w.alloc (.cells #[.int .i64 0, .slice none 0 0, .int .i64 0, .slice none 0 0, .slice none 0 0] 56)).alloc (.cells #[.int .i32 gap0, .int .i32 q1, .int .i32 q2, .int .i32 q3] 69)).alloc (.cells #[.int .i32 gap, .int .i32 h1, .int .i32 h2, .int .i32 h3] 69)) = W3 := ⟨_, rfl⟩
  rw [hW3] at t0 t1 t2 t3 t4
  have d0 := t4.cell (p := ⟨bg, 0, none⟩) hbg
  have d1 := t4.cell (p := ⟨bg, 1, none⟩) hbg
  have d2 := t4.cell (p := ⟨bg, 2, none⟩) hbg
  rw [c0] at d0
  rw [c1] at d1
  rw [c2] at d2
  have e1 : W3.cell? ⟨w.heap.size + 1, 1, none⟩ = some (.int .i32 q1) := (cell_of_block t1 rfl)
  have e2 : W3.cell? ⟨w.heap.size + 1, 2, none⟩ = some (.int .i32 q2) := (cell_of_block t1 rfl)
  have e3 : W3.cell? ⟨w.heap.size + 1, 3, none⟩ = some (.int .i32 q3) := (cell_of_block t1 rfl)
  have f0 : W3.cell? ⟨w.heap.size + 1 + 1, 0, none⟩ = some (.int .i32 gap) := cell_of_block t2 rfl
  have f1 : W3.cell? ⟨w.heap.size + 1 + 1, 1, none⟩ = some (.int .i32 h1) := cell_of_block t2 rfl
  have f2 : W3.cell? ⟨w.heap.size + 1 + 1, 2, none⟩ = some (.int .i32 h2) := cell_of_block t2 rfl
  have f3 : W3.cell? ⟨w.heap.size + 1 + 1, 3, none⟩ = some (.int .i32 h3) := cell_of_block t2 rfl
  have HW : Hid (W3.heap[w.heap.size]? = some (.cells #[.int .i64 0, .slice none 0 0, .int .i64 0, .slice none 0 0, .slice none 0 0] 56) ∧ W3.heap.size = w.heap.size + 3 ∧ Below w.heap.size w W3) := ⟨t0, t3, t4⟩
  clear t0 t1 t2 t3 t4
  go_enter Try.func38, Try.ntmps38
  go_wp2_with fail
  clear hW3 s0 s1 s2 s3 c0 c1 c2 c3 p0 p1 p2 p3
  go_quiet (fail)
  go_wp2_with fail
  clear d0 e1 f1
  have g0 : W3.cell? ⟨w.heap.size, 0, none⟩ = some (.int .i64 0) := cell_of_block HW.out.1 rfl
  have g1 : W3.cell? ⟨w.heap.size, 1, none⟩ = some (.slice none 0 0) := cell_of_block HW.out.1 rfl
  have g2 : W3.cell? ⟨w.heap.size, 2, none⟩ = some (.int .i64 0) := cell_of_block HW.out.1 rfl
  have g3 : W3.cell? ⟨w.heap.size, 3, none⟩ = some (.slice none 0 0) := cell_of_block HW.out.1 rfl
  have g4 : W3.cell? ⟨w.heap.size, 4, none⟩ = some (.slice none 0 0) := cell_of_block HW.out.1 rfl
  have z0 : W3.frozen? ⟨w.heap.size, 0, none⟩ = false := frozen_of_block HW.out.1
  have z1 : W3.frozen? ⟨w.heap.size, 1, none⟩ = false := frozen_of_block HW.out.1
  have z2 : W3.frozen? ⟨w.heap.size, 2, none⟩ = false := frozen_of_block HW.out.1
  have z3 : W3.frozen? ⟨w.heap.size, 3, none⟩ = false := frozen_of_block HW.out.1
  have z4 : W3.frozen? ⟨w.heap.size, 4, none⟩ = false := frozen_of_block HW.out.1
  refine wp_region_K (fun w' => w'.cell? ⟨bg, 1, none⟩ = some (.slice al L kl) ∧ w'.cell? ⟨bg, 2, none⟩ = some (.slice am N km) ∧ w'.cell? ⟨w.heap.size + 1, 2, none⟩ = some (.int .i32 q2) ∧ w'.cell? ⟨w.heap.size + 1, 3, none⟩ = some (.int .i32 q3) ∧ w'.cell? ⟨w.heap.size + 1 + 1, 0, none⟩ = some (.int .i32 gap) ∧ w'.cell? ⟨w.heap.size + 1 + 1, 2, none⟩ = some (.int .i32 h2) ∧ w'.cell? ⟨w.heap.size + 1 + 1, 3, none⟩ = some (.int .i32 h3)) (fun j => j == 27) (by kernel_rfl) ?_
  generalize hWd : W3.drewN _ = W4
  have hSw : W4.cell? ⟨bg, 1, none⟩ = some (.slice al L kl) ∧ W4.cell? ⟨bg, 2, none⟩ = some (.slice am N km) ∧ W4.cell? ⟨w.heap.size + 1, 2, none⟩ = some (.int .i32 q2) ∧ W4.cell? ⟨w.heap.size + 1, 3, none⟩ = some (.int .i32 q3) ∧ W4.cell? ⟨w.heap.size + 1 + 1, 0, none⟩ = some (.int .i32 gap) ∧ W4.cell? ⟨w.heap.size + 1 + 1, 2, none⟩ = some (.int .i32 h2) ∧ W4.cell? ⟨w.heap.size + 1 + 1, 3, none⟩ = some (.int .i32 h3) := by
    subst hWd; exact ⟨d1, d2, e2, e3, f0, f2, f3⟩
  have gW : W4.heap[w.heap.size]? = some (.cells #[.int .i64 0, .slice none 0 0, .int .i64 0, .slice none 0 0, .slice none 0 0] 56) ∧ Below w.heap.size w W4 := by
    subst hWd; exact ⟨HW.out.1, below_drewN HW.out.2.2 _⟩
  have HB : Hid (Below w.heap.size w W4) := gW.2
  replace g0 : W4.cell? ⟨w.heap.size, 0, none⟩ = some (.int .i64 0) := cell_of_block gW.1 rfl
  replace g1 : W4.cell? ⟨w.heap.size, 1, none⟩ = some (.slice none 0 0) := cell_of_block gW.1 rfl
  replace g2 : W4.cell? ⟨w.heap.size, 2, none⟩ = some (.int .i64 0) := cell_of_block gW.1 rfl
  replace g3 : W4.cell? ⟨w.heap.size, 3, none⟩ = some (.slice none 0 0) := cell_of_block gW.1 rfl
  replace g4 : W4.cell? ⟨w.heap.size, 4, none⟩ = some (.slice none 0 0) := cell_of_block gW.1 rfl
  replace z0 : W4.frozen? ⟨w.heap.size, 0, none⟩ = false := frozen_of_block gW.1
  replace z1 : W4.frozen? ⟨w.heap.size, 1, none⟩ = false := frozen_of_block gW.1
  replace z2 : W4.frozen? ⟨w.heap.size, 2, none⟩ = false := frozen_of_block gW.1
  replace z3 : W4.frozen? ⟨w.heap.size, 3, none⟩ = false := frozen_of_block gW.1
  replace z4 : W4.frozen? ⟨w.heap.size, 4, none⟩ = false := frozen_of_block gW.1
  clear gW
  refine wpAnyK_take (i := 0) (v := ?v0) rfl (by kernel_rfl) (by kernel_rfl) (by kernel_rfl) (by kernel_rfl) (fun _ _ _ h => h) (Or.inl ⟨by rfl, ?y0⟩) hSw ?r0
  case y0 => (intro wq hq; obtain ⟨s0, s1, s2, s3, s4, s5, s6⟩ := hq; go_simp; try with_reducible rfl)
  refine wpAnyK_take (i := 1) (v := ?v1) rfl (by kernel_rfl) (by kernel_rfl) (by kernel_rfl) (by kernel_rfl) (fun _ _ _ h => h) (Or.inl ⟨by rfl, ?y1⟩) hSw ?r1
  case y1 => (intro wq hq; obtain ⟨s0, s1, s2, s3, s4, s5, s6⟩ := hq; go_simp; try with_reducible rfl)
  refine wpAnyK_take (i := 2) (v := ?v2) rfl (by kernel_rfl) (by kernel_rfl) (by kernel_rfl) (by kernel_rfl) (fun _ _ _ h => h) (Or.inl ⟨by rfl, ?y2⟩) hSw ?r2
  case y2 => (intro wq hq; obtain ⟨s0, s1, s2, s3, s4, s5, s6⟩ := hq; go_simp; try with_reducible rfl)
  refine wpAnyK_take (i := 3) (v := ?v3) rfl (by kernel_rfl) (by kernel_rfl) (by kernel_rfl) (by kernel_rfl) (fun _ _ _ h => h) (Or.inl ⟨by rfl, ?y3⟩) hSw ?r3
  case y3 => (intro wq hq; obtain ⟨s0, s1, s2, s3, s4, s5, s6⟩ := hq; go_simp; try with_reducible rfl)
  refine wpAnyK_take (i := 4) (v := ?v4) rfl (by kernel_rfl) (by kernel_rfl) (by kernel_rfl) (by kernel_rfl) (fun _ _ _ h => h) (Or.inl ⟨by rfl, ?y4⟩) hSw ?r4
  case y4 => (intro wq hq; obtain ⟨s0, s1, s2, s3, s4, s5, s6⟩ := hq; go_simp; try with_reducible rfl)
  refine wpAnyK_take (i := 5) (v := ?v5) rfl (by kernel_rfl) (by kernel_rfl) (by kernel_rfl) (by kernel_rfl) (fun _ _ _ h => h) (Or.inl ⟨by rfl, ?y5⟩) hSw ?r5
  case y5 => (intro wq hq; obtain ⟨s0, s1, s2, s3, s4, s5, s6⟩ := hq; go_simp; try with_reducible rfl)
  refine wpAnyK_take (i := 6) (v := ?v6) rfl (by kernel_rfl) (by kernel_rfl) (by kernel_rfl) (by kernel_rfl) (fun _ _ _ h => h) (Or.inl ⟨by rfl, ?y6⟩) hSw ?r6
  case y6 => (intro wq hq; obtain ⟨s0, s1, s2, s3, s4, s5, s6⟩ := hq; go_simp; try with_reducible rfl)
  refine wpAnyK_take (i := 7) (v := ?v7) rfl (by kernel_rfl) (by kernel_rfl) (by kernel_rfl) (by kernel_rfl) (fun _ _ _ h => h) (Or.inl ⟨by rfl, ?y7⟩) hSw ?r7
  case y7 => (intro wq hq; obtain ⟨s0, s1, s2, s3, s4, s5, s6⟩ := hq; go_simp; try with_reducible rfl)
  refine wpAnyK_take (i := 8) (v := ?v8) rfl (by kernel_rfl) (by kernel_rfl) (by kernel_rfl) (by kernel_rfl) (fun _ _ _ h => h) (Or.inl ⟨by rfl, ?y8⟩) hSw ?r8
  case y8 => (intro wq hq; obtain ⟨s0, s1, s2, s3, s4, s5, s6⟩ := hq; go_simp; try with_reducible rfl)
  refine wpAnyK_take (i := 9) (v := ?v9) rfl (by kernel_rfl) (by kernel_rfl) (by kernel_rfl) (by kernel_rfl) (fun _ _ _ h => h) (Or.inl ⟨by rfl, ?y9⟩) hSw ?r9
  case y9 => (intro wq hq; obtain ⟨s0, s1, s2, s3, s4, s5, s6⟩ := hq; go_simp; try with_reducible rfl)
  refine wpAnyK_take (i := 10) (v := ?v10) rfl (by kernel_rfl) (by kernel_rfl) (by kernel_rfl) (by kernel_rfl) (fun _ _ _ h => h) (Or.inl ⟨by rfl, ?y10⟩) hSw ?r10
  case y10 => (intro wq hq; obtain ⟨s0, s1, s2, s3, s4, s5, s6⟩ := hq; go_simp; try with_reducible rfl)
  refine wpAnyK_take (i := 11) (v := ?v11) rfl (by kernel_rfl) (by kernel_rfl) (by kernel_rfl) (by kernel_rfl) (fun _ _ _ h => h) (Or.inl ⟨by rfl, ?y11⟩) hSw ?r11
  case y11 => (intro wq hq; obtain ⟨s0, s1, s2, s3, s4, s5, s6⟩ := hq; go_simp; try with_reducible rfl)
  refine wpAnyK_take (i := 12) (v := ?v12) rfl (by kernel_rfl) (by kernel_rfl) (by kernel_rfl) (by kernel_rfl) (fun _ _ _ h => h) (Or.inl ⟨by rfl, ?y12⟩) hSw ?r12
  case y12 => (intro wq hq; obtain ⟨s0, s1, s2, s3, s4, s5, s6⟩ := hq; go_simp; try with_reducible rfl)
  refine wpAnyK_take (i := 13) (v := ?v13) rfl (by kernel_rfl) (by kernel_rfl) (by kernel_rfl) (by kernel_rfl) (fun _ _ _ h => h) (Or.inl ⟨by rfl, ?y13⟩) hSw ?r13
  case y13 => (intro wq hq; obtain ⟨s0, s1, s2, s3, s4, s5, s6⟩ := hq; go_simp; try with_reducible rfl)
  refine wpAnyK_take (i := 14) (v := ?v14) rfl (by kernel_rfl) (by kernel_rfl) (by kernel_rfl) (by kernel_rfl) (fun _ _ _ h => h) (Or.inl ⟨by rfl, ?y14⟩) hSw ?r14
  case y14 => (intro wq hq; obtain ⟨s0, s1, s2, s3, s4, s5, s6⟩ := hq; go_simp; try with_reducible rfl)
  refine wpAnyK_take (i := 15) (v := ?v15) rfl (by kernel_rfl) (by kernel_rfl) (by kernel_rfl) (by kernel_rfl) (fun _ _ _ h => h) (Or.inl ⟨by rfl, ?y15⟩) hSw ?r15
  case y15 => (intro wq hq; obtain ⟨s0, s1, s2, s3, s4, s5, s6⟩ := hq; go_simp; try with_reducible rfl)
  refine wpAnyK_take (i := 16) (v := ?v16) rfl (by kernel_rfl) (by kernel_rfl) (by kernel_rfl) (by kernel_rfl) (fun _ _ _ h => h) (Or.inl ⟨by rfl, ?y16⟩) hSw ?r16
  case y16 => (intro wq hq; obtain ⟨s0, s1, s2, s3, s4, s5, s6⟩ := hq; go_simp; try with_reducible rfl)
  refine wpAnyK_take (i := 17) (v := ?v17) rfl (by kernel_rfl) (by kernel_rfl) (by kernel_rfl) (by kernel_rfl) (fun _ _ _ h => h) (Or.inl ⟨by rfl, ?y17⟩) hSw ?r17
  case y17 => (intro wq hq; obtain ⟨s0, s1, s2, s3, s4, s5, s6⟩ := hq; go_simp; try with_reducible rfl)
  refine wpAnyK_take (i := 18) (v := ?v18) rfl (by kernel_rfl) (by kernel_rfl) (by kernel_rfl) (by kernel_rfl) (fun _ _ _ h => h) (Or.inl ⟨by rfl, ?y18⟩) hSw ?r18
  case y18 => (intro wq hq; obtain ⟨s0, s1, s2, s3, s4, s5, s6⟩ := hq; go_simp; try with_reducible rfl)
  refine wpAnyK_take (i := 19) (v := ?v19) rfl (by kernel_rfl) (by kernel_rfl) (by kernel_rfl) (by kernel_rfl) (fun _ _ _ h => h) (Or.inl ⟨by rfl, ?y19⟩) hSw ?r19
  case y19 => (intro wq hq; obtain ⟨s0, s1, s2, s3, s4, s5, s6⟩ := hq; go_simp; try with_reducible rfl)
  refine wpAnyK_take (i := 20) (v := ?v20) rfl (by kernel_rfl) (by kernel_rfl) (by kernel_rfl) (by kernel_rfl) (fun _ _ _ h => h) (Or.inl ⟨by rfl, ?y20⟩) hSw ?r20
  case y20 => (intro wq hq; obtain ⟨s0, s1, s2, s3, s4, s5, s6⟩ := hq; go_simp; try with_reducible rfl)
  refine wpAnyK_take (i := 21) (v := ?v21) rfl (by kernel_rfl) (by kernel_rfl) (by kernel_rfl) (by kernel_rfl) (fun _ _ _ h => h) (Or.inl ⟨by rfl, ?y21⟩) hSw ?r21
  case y21 => (intro wq hq; obtain ⟨s0, s1, s2, s3, s4, s5, s6⟩ := hq; go_simp; try with_reducible rfl)
  refine wpAnyK_take (i := 22) (v := ?v22) rfl (by kernel_rfl) (by kernel_rfl) (by kernel_rfl) (by kernel_rfl) (fun _ _ _ h => h) (Or.inl ⟨by rfl, ?y22⟩) hSw ?r22
  case y22 => (intro wq hq; obtain ⟨s0, s1, s2, s3, s4, s5, s6⟩ := hq; go_simp; try with_reducible rfl)
  refine wpAnyK_take (i := 23) (v := ?v23) rfl (by kernel_rfl) (by kernel_rfl) (by kernel_rfl) (by kernel_rfl) (fun _ _ _ h => h) (Or.inl ⟨by rfl, ?y23⟩) hSw ?r23
  case y23 => (intro wq hq; obtain ⟨s0, s1, s2, s3, s4, s5, s6⟩ := hq; go_simp; try with_reducible rfl)
  refine wpAnyK_take (i := 24) (v := ?v24) rfl (by kernel_rfl) (by kernel_rfl) (by kernel_rfl) (by kernel_rfl) (fun _ _ _ h => h) (Or.inl ⟨by rfl, ?y24⟩) hSw ?r24
  case y24 => (intro wq hq; obtain ⟨s0, s1, s2, s3, s4, s5, s6⟩ := hq; go_simp; try with_reducible rfl)
  refine wpAnyK_take (i := 25) (v := ?v25) rfl (by kernel_rfl) (by kernel_rfl) (by kernel_rfl) (by kernel_rfl) (fun _ _ _ h => h) (Or.inl ⟨by rfl, ?y25⟩) hSw ?r25
  case y25 => (intro wq hq; obtain ⟨s0, s1, s2, s3, s4, s5, s6⟩ := hq; go_simp; try with_reducible rfl)
  refine wpAnyK_take (i := 26) (v := ?v26) rfl (by kernel_rfl) (by kernel_rfl) (by kernel_rfl) (by kernel_rfl) (fun _ _ _ h => h) (Or.inl ⟨by rfl, ?y26⟩) hSw ?r26
  case y26 => (intro wq hq; obtain ⟨s0, s1, s2, s3, s4, s5, s6⟩ := hq; go_simp; try with_reducible rfl)
  refine wpAnyK_one (i := 27) (by kernel_rfl) rfl (fun K27 h27 => ?_)
  go_simp
  refine h27 _ _ (fun h => by cases h) ?_
  clear h27 K27
  refine wpAnyK_done (by kernel_rfl) ?_ _
  go_wp2_with fail
  have hw1 : IntKind.i64.wrap gap = gap := by rw [IntKind.wrap_i64]; omega
  have hw2 : IntKind.i64.wrap ((IntKind.i64.wrap (↑(h1 - q1) + 63)).tdiv 64) = (((h1 - q1) + 63) / 64 : Nat) := by
    have e1 : IntKind.i64.wrap (((h1 - q1 : Nat) : Int) + 63) = (((h1 - q1) + 63 : Nat) : Int) := by rw [IntKind.wrap_i64]; omega
    have e2 : ((((h1 - q1) + 63 : Nat) : Int)).tdiv 64 = (((h1 - q1) + 63) / 64 : Nat) := by
      rw [Int.tdiv_eq_ediv_of_nonneg (by omega)]; omega
    rw [e1, e2]
    rw [IntKind.wrap_i64]; omega
  rw [hw1, hw2]
  have hBe : ∀ {W : World} (j : Nat) (v : Value), Below w.heap.size w W → Below w.heap.size w (W.setCell ⟨w.heap.size, j, none⟩ v) := fun j v h => h.setCell (p := ⟨w.heap.size, j, none⟩) (Nat.le_refl _) v
  exact bodyPost_ret (v := .agg #[.int .i64 gap, .slice pc (h1 - q1) (kc - q1), .int .i64 (((h1 - q1) + 63) / 64 : Nat), .slice pl (h2 - q2) (kl - q2), .slice pm (h3 - q3) (km - q3)]) (by simp [results, Try.results38, go_sem, g0, g1, g2, g3, g4, z0, z1, z2, z3, z4]) rfl (run_end HE.out HG.out HPc.out HPl.out HPm.out ((hBe 4 _ (hBe 3 _ (hBe 2 _ (hBe 1 _ (hBe 0 _ HB.out))))).drew) _ _ _ (by omega))
end Go.Proofs.Qxb6601041a
