import Derived.Test.Qxb6601041aTail
import Derived.Test.Qxb6601041aOrders
import Derived.Deep.RegionHeld3
import Derived.Deep.RegionLaw
import Derived.Deep.QuietTactic
import Derived.BigQuiet
import Derived.Deep.Cut
import Derived.Deep.CutRange
import Derived.Deep.DeepCutAuto
import Derived.Outline
import Derived.Deep.Light
import Derived.WalkSmall
import Derived.Laws.Bits64b
namespace Go.Proofs.Qxb6601041a
open Go.RowKit

theorem info21 : (Try.prog.info? 21).map (fun i => (i.zero, i.size, i.bytes)) = some (some (.int .i32 0), 1, 4) := by kernel_rfl
theorem info65 : (Try.prog.info? 65).map (fun i => (i.zero, i.size, i.bytes)) = some (some (.int .u64 0), 1, 8) := by kernel_rfl
theorem info69 : (Try.prog.info? 69).map (fun i => (i.zero, i.size, i.bytes)) = some (some (.agg #[.int .i32 0, .int .i32 0, .int .i32 0, .int .i32 0]), 4, 16) := by kernel_rfl

theorem keepLits_snoc (zs : List Int) (z : Int) : keepLits (zs ++ [z]) = keepLits zs ++ if z != -1 then [z] else [] := by
  unfold keepLits
  rw [List.filter_append]
  by_cases h : z != -1 <;> simp [h]

theorem keep_len {ls zs : List Int} {k : Nat} (h1 : ls.length ≤ 1000000) (h2 : zs.length ≤ 1024) : (ls ++ keepLits (zs.take k)).length ≤ 1001024 := by
  have : (keepLits (zs.take k)).length ≤ (zs.take k).length := List.length_filter_le _ _
  simp at this ⊢
  omega

theorem take_getD {zs : List Int} {k : Nat} (h : k < zs.length) : zs.take (k + 1) = zs.take k ++ [zs.getD k 0] := by
  rw [List.take_succ_eq_append_getElem h]
  simp [List.getD, h]

theorem keep_any {ls zs : List Int} {k : Nat} (h : k < zs.length) (hx : zs.getD k 0 = -1) : ls ++ keepLits (zs.take k) = ls ++ keepLits (zs.take (k + 1)) := by
  rw [take_getD h, keepLits_snoc, hx]
  simp

theorem keep_lit {zs : List Int} {k : Nat} {x : Int} (h : k < zs.length) (hx : zs.getD k 0 = x) (hne : ¬ x = -1) : keepLits (zs.take (k + 1)) = keepLits (zs.take k) ++ [x] := by
  rw [take_getD h, keepLits_snoc, hx]
  simp [hne]

theorem enter50 (args : Array Value) (w : World) : (callFunc 50 args).run Try.prog w = .ok (.enter 50 args) w := Try.call50 args w

/-- What stands behind slices.Compact. -/
def CutDone (bg : Nat) (ls sf : List Int) (p al : Option Addr) (kl : Nat) (w : World) (G : List Int → World → Prop) (e : Ending) (w' : World) : Prop :=
  e = .returned (.slice p (cpt sf).length (kl - ls.length)) ∧ G (ls ++ (cpt sf ++ List.replicate (sf.length - (cpt sf).length) 0)) w' ∧ Below bg w w' ∧ w'.cell? ⟨bg, 1, none⟩ = some (.slice al (ls.length + sf.length) kl) ∧ w'.frozen? ⟨bg, 1, none⟩ = false

theorem cut_done {w w' : World} {bg : Nat} {wd : Bool} {cs ls sf ms : List Int} {ss : List Value} {ns : Nat} {ac : Option Addr} {kc : Nat} {al : Option Addr} {kl : Nat} {am : Option Addr} {km : Nat} {az : Option Addr} {kz : Nat} {p : Option Addr} {e : Ending}
    (h : TailCut bg (.slice p (cpt sf).length (kl - ls.length)) w.drew (fun w' => Gl w' bg wd cs (ls ++ (cpt sf ++ List.replicate (sf.length - (cpt sf).length) 0)) ms ss ns ac kc al kl am km az kz) e w') :
    CutDone bg ls sf p al kl w (fun lits w' => Gl w' bg wd cs lits ms ss ns ac kc al kl am km az kz) e w' := by
  obtain ⟨rfl, hG, hb⟩ := h
  refine ⟨rfl, hG, ⟨hb.os, hb.tape, hb.output, hb.size, hb.block⟩, ?_, hG.frozen 1⟩
  have := cpt_le sf
  rw [hG.cells.2.1]
  have e : (ls ++ (cpt sf ++ List.replicate (sf.length - (cpt sf).length) 0)).length = ls.length + sf.length := by simp; omega
  rw [e]

/-- What the call leaves. -/
def AddPost (bg : Nat) (w : World) (wd : Bool) (cs ls ms : List Int) (ss : List Value) (ns : Nat) (zs : List Int) (gap : Int) (e : Ending) (w' : World) : Prop :=
  e = .returned (.tuple #[]) ∧ Below bg w w' ∧ ∃ mk ac kc al kl am km az kz, MaskTo zs (litsOf zs) ((zs.length + 63) / 64) mk zs.length 0 ∧
    Gl w' bg wd (cs ++ zs) (ls ++ litsOf zs) (ms ++ mk) (ss ++ [.int .i32 gap, .int .i32 (cs ++ zs).length, .int .i32 (ls ++ litsOf zs).length, .int .i32 (ms ++ mk).length]) (ns + 1) ac kc al kl am km az kz

theorem add_end {bg : Nat} {w w' : World} {wd : Bool} {cs ls ms : List Int} {ss : List Value} {ns : Nat} {zs : List Int} {gap : Int} {fs sf ts mk : List Int} {W C L N : Nat} {ac : Option Addr} {kc : Nat} {al : Option Addr} {kl : Nat} {am : Option Addr} {km : Nat} {az : Option Addr} {kz : Nat}
    (h1 : fs = keepLits zs) (h2 : srt fs = sf) (h3 : cpt sf = ts) (h4 : W = (zs.length + 63) / 64) (h5 : C = (cs ++ zs).length) (h6 : L = (ls ++ ts).length) (h7 : N = (ms ++ mk).length) (hm : MaskTo zs ts W mk zs.length 0) (hb : Below bg w w')
    (hG : Gl w' bg wd (cs ++ zs) (ls ++ ts) (ms ++ mk) (ss ++ [.int .i32 gap, .int .i32 C, .int .i32 L, .int .i32 N]) (ns + 1) ac kc al kl am km az kz) : AddPost bg w wd cs ls ms ss ns zs gap (.returned (.tuple #[])) w' := by
  have ht : ts = litsOf zs := by rw [← h3, ← h2, h1]; rfl
  subst ht h4 h5 h6 h7
  exact ⟨rfl, hb, mk, ac, kc, al, kl, am, km, az, kz, hm, hG⟩

set_option maxHeartbeats 4000000 in
set_option maxRecDepth 1000000 in
set_option linter.unusedSimpArgs false in
theorem add_any (bg : Nat) (gap : Int) (a : Option Addr) (c : Nat) (zs : List Int) (w : World) (wd : Bool) (cs ls ms : List Int) (ss : List Value) (ns : Nat) (ac : Option Addr) (kc : Nat) (al : Option Addr) (kl : Nat) (am : Option Addr) (km : Nat) (az : Option Addr) (kz : Nat)
    (hG : Gl w bg wd cs ls ms ss ns ac kc al kl am km az kz) (hz : Row .i32 w a zs) (hzb : ∀ x, blockOf a = some x → x < bg) (hnil : a = none → zs = [] ∧ c = 0) (hzl : zs.length ≤ 1024) (hll : ls.length ≤ 1000000) (hml : ms.length ≤ 1000000000) (hcl0 : cs.length ≤ 1000000) (hnl : ns ≤ 1000000) (hgap1 : -2147483648 ≤ gap) (hgap2 : gap ≤ 2147483647) :
    Calls Try.prog 41 #[.pointer (some ⟨bg, 0, none⟩), .int .i64 gap, .slice a zs.length c] w (AddPost bg w wd cs ls ms ss ns zs gap) := by
  obtain ⟨i21, hi21, hi21z, hi21s, hi21b⟩ := info_parts info21
  obtain ⟨i65, hi65, hi65z, hi65s, hi65b⟩ := info_parts info65
  obtain ⟨c0, c1, c2, c3, c4⟩ := hG.cells
  go_enter Try.func41, Try.ntmps41
  go_wp2
  go_loopw [8, 26] (fun _ i wr => ∃ (k : Nat) (al' : Option Addr) (kl' : Nat) (ls' : List Int), k ≤ zs.length ∧ i = .int .i64 k ∧ Below bg w wr ∧ ls' = ls ++ keepLits (zs.take k) ∧ Gl wr bg wd cs ls' ms ss ns ac kc al' kl' am km az kz) (fun _ i _ => zs.length - (intOf i).toNat)
  case atStart => exact ⟨0, al, kl, ls, Nat.zero_le _, rfl, Below.refl _ _, by simp [keepLits], hG⟩
  case round =>
    obtain ⟨k, al', kl', ls', hk, rfl, hbel, hls, hGr⟩ := hrel
    have hl2 : ls'.length ≤ 1001024 := by rw [hls]; exact keep_len hll hzl
    have HL : Hid (ls' = ls ++ keepLits (zs.take k)) := hls
    clear hls c0 c1 c2 c3 c4
    by_cases hlt : k < zs.length
    · obtain h0 | ⟨b, off, rfl, hc⟩ := hz
      · rw [h0] at hlt; simp at hlt
      have cz := hc k hlt
      have hb : b < bg := hzb b rfl
      rw [← hbel.cell (p := ⟨b, off + k, none⟩) hb] at cz
      obtain ⟨c0, c1, c2, c3, c4⟩ := hGr.cells
      have f1 := hGr.frozen 1
      generalize hx : zs.getD k 0 = x at cz
      have HX : Hid (zs.getD k 0 = x) := hx
      clear hc hx
      by_cases hany : x = -1
      · subst hany
        go_wp2
        go_roundw
        case rel => exact ⟨k + 1, al', kl', ls', by omega, by go_num, hbel, by rw [HL.out, keep_any hlt HX.out], hGr⟩
        case measure => simp [intOf]; omega
      · have hne : (x != -1) = true := by simpa using hany
        have hm1 : ls'.length + 1 ≤ maxLen := by unfold maxLen; omega
        have hm2 : (ls'.length + 1) * 4 ≤ 140737488355328 := by omega
        have hm3 : bg + 1 ≤ wr.heap.size + 1 := by have := hGr.lt; omega
        go_wp2_with (at_builtin; refine wpList_append_src rfl _ _ _ rfl (bg + 1) 21 i21 (.int .i32 0) 1 4 Try.underlying22 hi21 hi21z hi21s hi21b rfl (by omega) al' kl' ls'.length _ rfl (hGr.alloc _).ol (some ⟨wr.heap.size, 0, none⟩) 1 1 [.int .i32 x] rfl rfl (fun h => by cases h) (fun ad had => by cases had; exact cell_one_new _ _ _) (ints_oneCell .i32 [x]) hm1 hm2 (by simpa using hm3) ?_)
        intro a' k' w1 hown hg hat
        obtain ⟨d1, e1⟩ := (hGr.alloc _).far (fun x hx => (own_lt hGr.ol x hx).1) hg 1
        rw [(hGr.alloc _).cells.2.1] at d1
        go_wp2
        go_roundw
        case rel => 
          have hS := (hGr.alloc _).setL (ls' := ls' ++ [x]) (by simpa using hown) (by simp) hg (by simpa using hat)
          exact ⟨k + 1, a', k', ls' ++ [x], by omega, by go_num, hbel.trans ((Below.refl _ _).alloc (Nat.le_of_lt hGr.lt) _ |>.trans hS.2), by rw [HL.out, keep_lit hlt HX.out hany, List.append_assoc], hS.1⟩
        case measure => simp [intOf]; omega
    · obtain rfl : k = zs.length := by omega
      obtain ⟨fs, hfs⟩ : ∃ fs, fs = keepLits zs := ⟨_, rfl⟩
      have hls := HL.out
      rw [List.take_length, ← hfs] at hls
      have HF : Hid (fs = keepLits zs) := hfs
      have hf6 : fs.length ≤ 1024 := by rw [hfs]; exact Nat.le_trans (List.length_filter_le _ _) hzl
      clear hfs HL hlt hl2
      subst hls
      obtain ⟨p, hp, hT⟩ := tail_of (fr := ls.length) hGr.ol (by simp)
      simp only [List.length_append, Nat.add_sub_cancel_left] at hT
      have c1 : wr.cell? ⟨bg, 1, none⟩ = some (.slice al' (ls.length + fs.length) kl') := by simpa using hGr.cells.2.1
      go_wp2_with (go_at_call 49; refine (sort_tail _ hGr hT hf6).mono ?_; rintro e w2 ⟨rfl, hG2, hb2⟩)
      obtain ⟨sf, hsf⟩ : ∃ sf, srt fs = sf := ⟨_, rfl⟩
      have hsl : sf.length = fs.length := by rw [← hsf]; exact srt_length fs
      rw [hsf] at hG2
      rw [← hsl] at hT hf6
      have HS : Hid (srt fs = sf) := hsf
      have hbel2 := hbel.trans hb2
      have hkn : ls.length + sf.length ≤ kl' := by simpa [hsl] using own_le hGr.ol
      have hnone := hGr.noneL hT hp
      clear hsf hsl hGr c1 hb2 hbel
      have c1 : w2.cell? ⟨bg, 1, none⟩ = some (.slice al' (ls.length + sf.length) kl') := by simpa using hG2.cells.2.1
      have f1 : w2.frozen? ⟨bg, 1, none⟩ = false := hG2.frozen 1
      have hk1 : (ls.length : Int) ≤ (kl' : Int) := by omega
      have hk2 : (ls.length : Int) ≤ (ls.length : Int) + (sf.length : Int) := by omega
      have hk3 : (0 : Int) ≤ (ls.length : Int) := by omega
      have hcl := cpt_le sf
      have hm1 : ls.length + (cpt sf).length ≤ maxLen := by unfold maxLen; omega
      have hm2 : (ls.length + (cpt sf).length) * 4 ≤ 140737488355328 := by omega
      have hnone' : p = none → (cpt sf).length = 0 ∧ kl' - ls.length = 0 := fun h => ⟨by have := hnone h; omega, (hnone h).2⟩
      clear hnone
      have ct : Calls Try.prog 50 #[.slice p sf.length (kl' - ls.length)] w2.drew (CutDone bg ls sf p al' kl' w2 (fun lits w' => Gl w' bg wd cs lits ms ss ns ac kc al' kl' am km az kz)) := (compact_tail _ hG2.drew hT hf6 (by omega)).mono fun e w' h => cut_done h
      go_cut [6] from 50 to 66 (fun s6 wc => s6 = .int .i64 (ls.length : Nat) ∧ ∃ a4 k4, Below bg w wc ∧ Gl wc bg wd cs (ls ++ cpt sf) ms ss ns ac kc a4 k4 am km az kz)
      case first =>
        go_region_law (first | (refine step_call1 (by rfl) 50 (.tmp 62) #[22] (by rfl) (.slice p sf.length (kl' - ls.length)) (by simp [Act.eval, Act.put]) enter50 ct ?_; rintro e w3 ⟨rfl, hG3, hb3, c3, f3⟩; refine ⟨_, rfl, ?_⟩) | (refine step_append_src (by rfl) (.tmp 56) (.tmp 63) 22 (by rfl) (bg + 1) 21 i21 (.int .i32 0) 1 4 Try.underlying22 hi21 hi21z hi21s hi21b rfl (by omega) al' kl' ls.length _ (by simp [Act.eval, Act.put]) hG3.cutL p (cpt sf).length (kl' - ls.length) ((cpt sf).map (Value.int .i32)) (by simp [Act.eval, Act.put]) (by simp) hnone' (hG3.newsL hT hcl) (ints_oneCell .i32 _) hm1 hm2 hG3.lt ?_; intro a4 k4 w4 hown4 hg4 hat4; obtain ⟨c5, f5⟩ := (hG3.far (fun x hx => (own_lt hG3.ol x hx).1) hg4 1); rw [c3] at c5))
        all_goals
          go_wp2_with fail
          go_meet
          case rel =>
            have hS := hG3.setL (ls' := ls ++ cpt sf) (by simpa using hown4) (by simp) hg4 hat4
            exact ⟨rfl, a4, k4, (hbel2.trans hb3).trans hS.2, hS.1⟩
      case rest =>
        obtain ⟨rfl, a4, k4, hb4, hG4⟩ := hcut
        obtain ⟨ts, hts⟩ : ∃ ts, cpt sf = ts := ⟨_, rfl⟩
        rw [hts] at hG4 hcl
        have HT : Hid (cpt sf = ts) := hts
        have ht6 : ts.length ≤ 1024 := by omega
        clear hts hG2 c1 f1 ct hnone' hm1 hm2 hk1 hk2 hk3 hkn hbel2 hp hT hcl hf6
        obtain ⟨p9, hp9, hT9⟩ := tail_of (fr := ls.length) hG4.ol (by simp)
        simp only [List.length_append, Nat.add_sub_cancel_left] at hT9
        have c1 : wc.cell? ⟨bg, 1, none⟩ = some (.slice a4 (ls.length + ts.length) k4) := by simpa using hG4.cells.2.1
        have c2 := hG4.cells.2.2.1
        obtain ⟨W, hW⟩ : ∃ W : Nat, ((zs.length : Int) + 63) / 64 = (W : Int) := ⟨(zs.length + 63) / 64, by omega⟩
        have HW : Hid (W = (zs.length + 63) / 64) := by show _ = _; omega
        have hW16 : W ≤ 16 := by omega
        obtain ⟨M, hM⟩ : ∃ M : Nat, M = (ts.length + 1) * W := ⟨_, rfl⟩
        have hM2 : M ≤ 16400 := by rw [hM]; exact Nat.le_trans (Nat.mul_le_mul_left _ hW16) (by omega)
        have hmul : ((ts.length : Int) + 1) * (W : Int) = (M : Int) := by rw [hM]; simp
        have HM : Hid (M = (ts.length + 1) * W) := hM
        clear hM
        have hn1 : ms.length + M ≤ maxLen := by unfold maxLen; omega
        have hn2 : (ms.length + M) * 8 ≤ 140737488355328 := by omega
        have hlt4 : bg + 1 ≤ wc.heap.size := hG4.lt
        go_wp2_with (at_builtin; refine wpList_append_zeros rfl _ _ 45 3 rfl (bg + 1) 65 i65 (.int .u64 0) 8 .i64 .i64 Try.underlying45 Try.underlying3 hi65 hi65z hi65s hi65b rfl rfl am km ms.length _ rfl hG4.om _ M rfl (by first | rfl | assumption) hn1 hn2 hlt4 ?_)
        intro a5 k5 w5 hown5 hg5 hat5
        obtain ⟨d2, e2⟩ := hG4.far (fun x hx => (own_lt hG4.om x hx).1) hg5 2
        rw [c2] at d2
        have hS := hG4.setM (ms' := ms ++ List.replicate M 0) (by simpa using hown5) (by simp) hg5 hat5
        go_wp2_with fail
        generalize w5.setCell ⟨bg, 2, none⟩ (.slice a5 (ms.length + M) k5) = w6 at hS ⊢
        obtain ⟨hG6, hb6⟩ := hS
        have hb46 := hb4.trans hb6
        clear hG4 hown5 hg5 hat5 d2 e2 c1 c2 hp9 hn1 hn2 hlt4 hb4 hb6
        obtain ⟨p11, hp11, hT11⟩ := tail_of (fr := ms.length) hG6.om (by simp)
        simp only [List.length_append, List.length_replicate, Nat.add_sub_cancel_left] at hT11
        have c2 : w6.cell? ⟨bg, 2, none⟩ = some (.slice a5 (ms.length + M) k5) := by simpa using hG6.cells.2.2.1
        go_quiet (fail)
        go_wp2_with fail
        generalize hw7 : w6.drewN nq = w7
        have hG7 : Gl w7 bg wd cs (ls ++ ts) (ms ++ List.replicate M 0) ss ns ac kc a4 k4 a5 k5 az kz := by rw [← hw7]; exact hG6.drewN nq
        have hb7 : Below bg w w7 := by rw [← hw7]; exact below_drewN hb46 nq
        clear hw7 hG6 hb46 c2 hp11 hW hmul
        have hTs : ts.Pairwise (· < ·) := by rw [← HT.out, ← HS.out, HF.out]; exact litsOf_sorted zs
        have hmem : ∀ x, x ∈ zs → x ≠ -1 → x ∈ ts := fun x h1 h2 => by rw [← HT.out, ← HS.out, HF.out]; exact (mem_litsOf zs x).2 ⟨h1, h2⟩
        have HTs : Hid (ts.Pairwise (· < ·)) := hTs
        have Hmem : Hid (∀ x, x ∈ zs → x ≠ -1 → x ∈ ts) := hmem
        clear hTs hmem
        go_loopw [108] (fun i wr => ∃ (k : Nat) (mk : List Int), k ≤ zs.length ∧ i = .int .i64 k ∧ Below bg w wr ∧ MaskTo zs ts W mk k 0 ∧ Gl wr bg wd cs (ls ++ ts) (ms ++ mk) ss ns ac kc a4 k4 a5 k5 az kz) (fun i _ => zs.length - (intOf i).toNat)
        case atStart => exact ⟨0, _, Nat.zero_le _, rfl, hb7, by rw [HM.out]; exact mask_start zs ts W, hG7⟩
        case round =>
          obtain ⟨k, mk, hk, rfl, hbr, hmk, hGr⟩ := hrel
          clear hG7 hb7
          by_cases hlt : k < zs.length
          · obtain h0 | ⟨b, off, rfl, hc⟩ := hz
            · rw [h0] at hlt; simp at hlt
            have cz := hc k hlt
            have hb : b < bg := hzb b rfl
            rw [← hbr.cell (p := ⟨b, off + k, none⟩) hb] at cz
            generalize hx : zs.getD k 0 = x at cz
            have HX : Hid (zs.getD k 0 = x) := hx
            have hkW : k / 64 < W := by have := HW.out; omega
            have hM0 : 0 < M := by rw [HM.out]; exact Nat.mul_pos (by omega) (by omega)
            obtain h0 | ⟨g, rfl, rfl⟩ := hT11
            · omega
            obtain ⟨D, hD⟩ : ∃ D : Nat, (k : Int) / 64 = (D : Int) := ⟨k / 64, by omega⟩
            have HD : Hid (k / 64 = D) := by show _ = _; omega
            have hDW : D < W := by have := HD.out; omega
            obtain ⟨B, hB0⟩ : ∃ B : Nat, 2 ^ (k % 64) = B := ⟨_, rfl⟩
            obtain ⟨hB, hB64⟩ := two_pow_u64 k
            rw [hB0] at hB hB64
            have HB : Hid (2 ^ (k % 64) = B) := hB0
            clear hB0
            by_cases hany : x = -1
            · subst hany
              clear hc hx hkW
              go_wp2_with fail
              go_quiet (fail)
              go_wp2_with fail
              go_loopw [140] (fun i wi => ∃ (R : Nat) (mk' : List Int), R ≤ ts.length + 1 ∧ i = .int .i64 R ∧ Below bg w wi ∧ MaskTo zs ts W mk' k R ∧ Gl wi bg wd cs (ls ++ ts) (ms ++ mk') ss ns ac kc a4 k4 (some ⟨g, 0, none⟩) k5 az kz) (fun i _ => ts.length + 1 - (intOf i).toNat)
              case atStart => exact ⟨0, mk, Nat.zero_le _, rfl, below_drewN hbr _, hmk, hGr.drewN nq⟩
              case round =>
                obtain ⟨R, mk', hR, rfl, hbi, hmi, hGi⟩ := hrel
                by_cases hRl : R < ts.length + 1
                · obtain ⟨RW, hRW⟩ : ∃ RW : Nat, (R : Int) * (W : Int) = (RW : Int) := ⟨R * W, by push_cast; rfl⟩
                  have HRW : Hid (R * W = RW) := by show _ = _; exact_mod_cast hRW
                  have hlt2 : RW + D < M := by rw [HM.out, ← HRW.out]; exact row_lt hDW (by omega)
                  have hj : RW + D < mk'.length := by rw [hmi.len, ← HM.out]; exact hlt2
                  obtain ⟨yc, yf⟩ := hGi.wordM (RW + D) hj
                  obtain ⟨y, hy⟩ : ∃ y : Nat, mk'.getD (RW + D) 0 = (y : Int) := ⟨_, (Int.toNat_of_nonneg (hmi.rng _ hj).1).symm⟩
                  have hy64 : y < 18446744073709551616 := by have := (hmi.rng _ hj).2; rw [hy] at this; omega
                  have hor : bits .or .u64 (y : Int) (B : Int) = ((y ||| B : Nat) : Int) := bits_or_u64_nat y B hy64 hB64
                  rw [hy] at yc
                  have HY : Hid (mk'.getD (RW + D) 0 = (y : Int)) := hy
                  clear hy hj
                  go_wp2
                  go_roundw
                  case rel =>
                    have hS := hGi.storeM (RW + D) ((y ||| B : Nat) : Int)
                    refine ⟨R + 1, _, by omega, by go_num, hbi.trans hS.2, ?_, hS.1⟩
                    have := hmi.any (x := y) (by rw [HD.out]; exact hDW) (by omega) HX.out (by rw [HRW.out, HD.out]; exact HY.out)
                    rw [HRW.out, HD.out, HB.out] at this
                    exact this
                  case measure => simp [intOf]; omega
                · obtain rfl : R = ts.length + 1 := by omega
                  go_wp2
                  go_roundw
                  case rel => exact ⟨k + 1, mk', by omega, by go_num, hbi, hmi.next, hGi⟩
                  case measure => simp [intOf]; omega
            · have hne : (x != -1) = true := by simpa using hany
              have hin : x ∈ ts := Hmem.out x (by rw [← hx]; simp [List.getD, hlt]) hany
              obtain ⟨hr1, hr2⟩ := count_at HTs.out hin
              have hbs := fun q => bsearch_any p9 (k4 - ls.length) ts x (wr.drewN q) (by omega) (hGr.rowL hT9) (lt_le HTs.out)
              generalize ts.countP (· < x) = r at hr1 hr2 hbs
              generalize ts.contains x = fnd at hbs
              have HR : Hid (ts.getD r 0 = x) := hr2
              obtain ⟨RW, hRW⟩ : ∃ RW : Nat, (r : Int) * (W : Int) = (RW : Int) := ⟨r * W, by push_cast; rfl⟩
              have HRW : Hid (r * W = RW) := by show _ = _; exact_mod_cast hRW
              have hlt2 : RW + D < M := by rw [HM.out, ← HRW.out]; exact row_lt hDW (by omega)
              have hj : RW + D < mk.length := by rw [hmk.len, ← HM.out]; exact hlt2
              obtain ⟨yc, yf⟩ := hGr.wordM (RW + D) hj
              obtain ⟨y, hy⟩ : ∃ y : Nat, mk.getD (RW + D) 0 = (y : Int) := ⟨_, (Int.toNat_of_nonneg (hmk.rng _ hj).1).symm⟩
              have hy64 : y < 18446744073709551616 := by have := (hmk.rng _ hj).2; rw [hy] at this; omega
              have hor : bits .or .u64 (y : Int) (B : Int) = ((y ||| B : Nat) : Int) := bits_or_u64_nat y B hy64 hB64
              rw [hy] at yc
              have HY : Hid (mk.getD (RW + D) 0 = (y : Int)) := hy
              clear hc hx hr2 hin hy hj hkW
              go_wp2_with fail
              go_quiet (fail)
              go_wp2_with fail
              refine (hbs nq).mono ?_
              rintro e w8 ⟨rfl, q, rfl⟩
              go_wp2
              go_roundw
              case rel =>
                have hS := (hGr.drewN (nq + q)).storeM (RW + D) ((y ||| B : Nat) : Int)
                refine ⟨k + 1, _, by omega, by go_num, (below_drewN hbr _).trans hS.2, ?_, hS.1⟩
                have := hmk.lit (r := r) (x := y) HTs.out (by rw [HD.out]; exact hDW) hr1 (by rw [HX.out]; exact hany) (by rw [HX.out]; exact HR.out) (by rw [HRW.out, HD.out]; exact HY.out)
                rw [HRW.out, HD.out, HB.out] at this
                exact this
              case measure => simp [intOf]; omega
          · obtain rfl : k = zs.length := by omega
            have hml2 : mk.length ≤ 16400 := by rw [hmk.len, ← HM.out]; exact hM2
            have HMK : Hid (MaskTo zs ts W mk zs.length 0) := hmk
            clear hlt hk hmk hT9 hT11 Hmem HTs
            have hsrc := row_news hz hzb hbr
            have hcn : a = none → zs.length = 0 ∧ c = 0 := fun h => ⟨by rw [(hnil h).1]; rfl, (hnil h).2⟩
            have hn1 : cs.length + zs.length ≤ maxLen := by unfold maxLen; omega
            have hn2 : (cs.length + zs.length) * 4 ≤ 140737488355328 := by omega
            have hltr : bg + 1 ≤ wr.heap.size := hGr.lt
            have c0 := hGr.cells.1
            go_wp2_with (at_builtin; refine wpList_append_src rfl _ _ _ rfl (bg + 1) 21 i21 (.int .i32 0) 1 4 Try.underlying22 hi21 hi21z hi21s hi21b rfl (by omega) ac kc cs.length _ rfl hGr.oc a zs.length c (zs.map (Value.int .i32)) rfl (by simp) hcn hsrc (ints_oneCell .i32 zs) hn1 hn2 hltr ?_)
            intro a8 k8 w8 hown8 hg8 hat8
            obtain ⟨d8, e8⟩ := hGr.far (fun x hx => (own_lt hGr.oc x hx).1) hg8 0
            rw [c0] at d8
            have hS := hGr.setC (cs' := cs ++ zs) (by simpa using hown8) (by simp) hg8 hat8
            go_wp2_with fail
            generalize w8.setCell ⟨bg, 0, none⟩ (.slice a8 (cs.length + zs.length) k8) = w9 at hS ⊢
            obtain ⟨hG9, hb9⟩ := hS
            have hb9' := hbr.trans hb9
            clear hGr hown8 hg8 hat8 d8 e8 c0 hsrc hcn hn1 hn2 hltr hbr hb9 hz hzb hnil
            obtain ⟨c0, c1, c2, c3, _⟩ := hG9.cells
            have f3 := hG9.frozen 3
            obtain ⟨C, hC⟩ : ∃ C, C = (cs ++ zs).length := ⟨_, rfl⟩
            obtain ⟨L, hL⟩ : ∃ L, L = (ls ++ ts).length := ⟨_, rfl⟩
            obtain ⟨N, hN⟩ : ∃ N, N = (ms ++ mk).length := ⟨_, rfl⟩
            rw [← hC] at c0
            rw [← hL] at c1
            rw [← hN] at c2
            have hC2 : C ≤ 2000000 := by rw [hC]; simp; omega
            have hL2 : L ≤ 2000000 := by rw [hL]; simp; omega
            have hN2 : N ≤ 2000000000 := by rw [hN]; simp; omega
            have HC : Hid (C = (cs ++ zs).length) := hC
            have HL : Hid (L = (ls ++ ts).length) := hL
            have HN : Hid (N = (ms ++ mk).length) := hN
            clear hC hL hN
            have hn1 : ns + 1 ≤ maxLen := by unfold maxLen; omega
            have hn2 : (ns + 1) * 16 ≤ 140737488355328 := by omega
            have hlt9 : bg + 1 ≤ w9.heap.size := hG9.lt
            obtain ⟨i69, hi69, hi69z, hi69s, hi69b⟩ := info_parts info69
            have hwg : IntKind.i32.wrap gap = gap := wrap_i32 hgap1 hgap2
            have hwC : IntKind.i32.wrap (C : Int) = C := wrap_i32 (by omega) (by omega)
            have hwL : IntKind.i32.wrap (L : Int) = L := wrap_i32 (by omega) (by omega)
            have hwN : IntKind.i32.wrap (N : Int) = N := wrap_i32 (by omega) (by omega)
            have hnew := news_new w9 [.int .i32 gap, .int .i32 C, .int .i32 L, .int .i32 N] 69
            have hlt9' : bg + 1 ≤ w9.heap.size + 1 := by omega
            have c3a : ∀ o, (w9.alloc o).cell? ⟨bg, 3, none⟩ = some (.slice az ns kz) := fun o => (hG9.alloc o).cells.2.2.2.1
            clear hW16 hM2 hml2 hi21 hi21z hi21s hi21b hi65 hi65z hi65s hi65b hG hll hml hcl0 hzl ht6
            refine wp_region_K (fun w' => w'.cell? ⟨bg, 0, none⟩ = some (.slice a8 C k8) ∧ w'.cell? ⟨bg, 1, none⟩ = some (.slice a4 L k4) ∧ w'.cell? ⟨bg, 2, none⟩ = some (.slice a5 N k5) ∧ w'.cell? ⟨bg, 3, none⟩ = some (.slice az ns kz)) (fun j => j == 30) (by kernel_rfl) ?_
            have hSw : w9.drew.cell? ⟨bg, 0, none⟩ = some (.slice a8 C k8) ∧ w9.drew.cell? ⟨bg, 1, none⟩ = some (.slice a4 L k4) ∧ w9.drew.cell? ⟨bg, 2, none⟩ = some (.slice a5 N k5) ∧ w9.drew.cell? ⟨bg, 3, none⟩ = some (.slice az ns kz) := ⟨c0, c1, c2, c3⟩
            refine wpAnyK_take (i := 0) (v := ?v0) rfl (by kernel_rfl) (by kernel_rfl) (by kernel_rfl) (by kernel_rfl) (fun _ _ _ h => h) (Or.inl ⟨by rfl, ?y0⟩) hSw ?r0
            case y0 => (intro wq hq; obtain ⟨s0, s1, s2, s3⟩ := hq; go_simp; try with_reducible rfl)
            refine wpAnyK_take (i := 1) (v := ?v1) rfl (by kernel_rfl) (by kernel_rfl) (by kernel_rfl) (by kernel_rfl) (fun _ _ _ h => h) (Or.inl ⟨by rfl, ?y1⟩) hSw ?r1
            case y1 => (intro wq hq; obtain ⟨s0, s1, s2, s3⟩ := hq; go_simp; try with_reducible rfl)
            refine wpAnyK_take (i := 2) (v := ?v2) rfl (by kernel_rfl) (by kernel_rfl) (by kernel_rfl) (by kernel_rfl) (fun _ _ _ h => h) (Or.inl ⟨by rfl, ?y2⟩) hSw ?r2
            case y2 => (intro wq hq; obtain ⟨s0, s1, s2, s3⟩ := hq; go_simp; try with_reducible rfl)
            refine wpAnyK_take (i := 3) (v := ?v3) rfl (by kernel_rfl) (by kernel_rfl) (by kernel_rfl) (by kernel_rfl) (fun _ _ _ h => h) (Or.inl ⟨by rfl, ?y3⟩) hSw ?r3
            case y3 => (intro wq hq; obtain ⟨s0, s1, s2, s3⟩ := hq; go_simp; try with_reducible rfl)
            refine wpAnyK_take (i := 4) (v := ?v4) rfl (by kernel_rfl) (by kernel_rfl) (by kernel_rfl) (by kernel_rfl) (fun _ _ _ h => h) (Or.inl ⟨by rfl, ?y4⟩) hSw ?r4
            case y4 => (intro wq hq; obtain ⟨s0, s1, s2, s3⟩ := hq; go_simp; try with_reducible rfl)
            refine wpAnyK_take (i := 5) (v := ?v5) rfl (by kernel_rfl) (by kernel_rfl) (by kernel_rfl) (by kernel_rfl) (fun _ _ _ h => h) (Or.inl ⟨by rfl, ?y5⟩) hSw ?r5
            case y5 => (intro wq hq; obtain ⟨s0, s1, s2, s3⟩ := hq; go_simp; try with_reducible rfl)
            refine wpAnyK_take (i := 6) (v := ?v6) rfl (by kernel_rfl) (by kernel_rfl) (by kernel_rfl) (by kernel_rfl) (fun _ _ _ h => h) (Or.inl ⟨by rfl, ?y6⟩) hSw ?r6
            case y6 => (intro wq hq; obtain ⟨s0, s1, s2, s3⟩ := hq; go_simp; try with_reducible rfl)
            refine wpAnyK_take (i := 7) (v := ?v7) rfl (by kernel_rfl) (by kernel_rfl) (by kernel_rfl) (by kernel_rfl) (fun _ _ _ h => h) (Or.inl ⟨by rfl, ?y7⟩) hSw ?r7
            case y7 => (intro wq hq; obtain ⟨s0, s1, s2, s3⟩ := hq; go_simp; try with_reducible rfl)
            refine wpAnyK_take (i := 8) (v := ?v8) rfl (by kernel_rfl) (by kernel_rfl) (by kernel_rfl) (by kernel_rfl) (fun _ _ _ h => h) (Or.inl ⟨by rfl, ?y8⟩) hSw ?r8
            case y8 => (intro wq hq; obtain ⟨s0, s1, s2, s3⟩ := hq; go_simp; try with_reducible rfl)
            refine wpAnyK_take (i := 9) (v := ?v9) rfl (by kernel_rfl) (by kernel_rfl) (by kernel_rfl) (by kernel_rfl) (fun _ _ _ h => h) (Or.inl ⟨by rfl, ?y9⟩) hSw ?r9
            case y9 => (intro wq hq; obtain ⟨s0, s1, s2, s3⟩ := hq; go_simp; try with_reducible rfl)
            refine wpAnyK_take (i := 10) (v := ?v10) rfl (by kernel_rfl) (by kernel_rfl) (by kernel_rfl) (by kernel_rfl) (fun _ _ _ h => h) (Or.inl ⟨by rfl, ?y10⟩) hSw ?r10
            case y10 => (intro wq hq; obtain ⟨s0, s1, s2, s3⟩ := hq; go_simp; try with_reducible rfl)
            refine wpAnyK_take (i := 11) (v := ?v11) rfl (by kernel_rfl) (by kernel_rfl) (by kernel_rfl) (by kernel_rfl) (fun _ _ _ h => h) (Or.inl ⟨by rfl, ?y11⟩) hSw ?r11
            case y11 => (intro wq hq; obtain ⟨s0, s1, s2, s3⟩ := hq; go_simp; try with_reducible rfl)
            refine wpAnyK_take (i := 12) (v := ?v12) rfl (by kernel_rfl) (by kernel_rfl) (by kernel_rfl) (by kernel_rfl) (fun _ _ _ h => h) (Or.inl ⟨by rfl, ?y12⟩) hSw ?r12
            case y12 => (intro wq hq; obtain ⟨s0, s1, s2, s3⟩ := hq; go_simp; try with_reducible rfl)
            refine wpAnyK_take (i := 13) (v := ?v13) rfl (by kernel_rfl) (by kernel_rfl) (by kernel_rfl) (by kernel_rfl) (fun _ _ _ h => h) (Or.inl ⟨by rfl, ?y13⟩) hSw ?r13
            case y13 => (intro wq hq; obtain ⟨s0, s1, s2, s3⟩ := hq; go_simp; try with_reducible rfl)
            refine wpAnyK_take (i := 14) (v := ?v14) rfl (by kernel_rfl) (by kernel_rfl) (by kernel_rfl) (by kernel_rfl) (fun _ _ _ h => h) (Or.inl ⟨by rfl, ?y14⟩) hSw ?r14
            case y14 => (intro wq hq; obtain ⟨s0, s1, s2, s3⟩ := hq; go_simp; try with_reducible rfl)
            refine wpAnyK_take (i := 15) (v := ?v15) rfl (by kernel_rfl) (by kernel_rfl) (by kernel_rfl) (by kernel_rfl) (fun _ _ _ h => h) (Or.inl ⟨by rfl, ?y15⟩) hSw ?r15
            case y15 => (intro wq hq; obtain ⟨s0, s1, s2, s3⟩ := hq; go_simp; try with_reducible rfl)
            refine wpAnyK_take (i := 16) (v := ?v16) rfl (by kernel_rfl) (by kernel_rfl) (by kernel_rfl) (by kernel_rfl) (fun _ _ _ h => h) (Or.inl ⟨by rfl, ?y16⟩) hSw ?r16
            case y16 => (intro wq hq; obtain ⟨s0, s1, s2, s3⟩ := hq; go_simp; try with_reducible rfl)
            refine wpAnyK_take (i := 17) (v := ?v17) rfl (by kernel_rfl) (by kernel_rfl) (by kernel_rfl) (by kernel_rfl) (fun _ _ _ h => h) (Or.inl ⟨by rfl, ?y17⟩) hSw ?r17
            case y17 => (intro wq hq; obtain ⟨s0, s1, s2, s3⟩ := hq; go_simp; try with_reducible rfl)
            refine wpAnyK_take (i := 18) (v := ?v18) rfl (by kernel_rfl) (by kernel_rfl) (by kernel_rfl) (by kernel_rfl) (fun _ _ _ h => h) (Or.inl ⟨by rfl, ?y18⟩) hSw ?r18
            case y18 => (intro wq hq; obtain ⟨s0, s1, s2, s3⟩ := hq; go_simp; try with_reducible rfl)
            refine wpAnyK_take (i := 19) (v := ?v19) rfl (by kernel_rfl) (by kernel_rfl) (by kernel_rfl) (by kernel_rfl) (fun _ _ _ h => h) (Or.inl ⟨by rfl, ?y19⟩) hSw ?r19
            case y19 => (intro wq hq; obtain ⟨s0, s1, s2, s3⟩ := hq; go_simp; try with_reducible rfl)
            refine wpAnyK_take (i := 20) (v := ?v20) rfl (by kernel_rfl) (by kernel_rfl) (by kernel_rfl) (by kernel_rfl) (fun _ _ _ h => h) (Or.inl ⟨by rfl, ?y20⟩) hSw ?r20
            case y20 => (intro wq hq; obtain ⟨s0, s1, s2, s3⟩ := hq; go_simp; try with_reducible rfl)
            refine wpAnyK_take (i := 21) (v := ?v21) rfl (by kernel_rfl) (by kernel_rfl) (by kernel_rfl) (by kernel_rfl) (fun _ _ _ h => h) (Or.inl ⟨by rfl, ?y21⟩) hSw ?r21
            case y21 => (intro wq hq; obtain ⟨s0, s1, s2, s3⟩ := hq; go_simp; try with_reducible rfl)
            refine wpAnyK_take (i := 22) (v := ?v22) rfl (by kernel_rfl) (by kernel_rfl) (by kernel_rfl) (by kernel_rfl) (fun _ _ _ h => h) (Or.inl ⟨by rfl, ?y22⟩) hSw ?r22
            case y22 => (intro wq hq; obtain ⟨s0, s1, s2, s3⟩ := hq; go_simp; try with_reducible rfl)
            refine wpAnyK_take (i := 23) (v := ?v23) rfl (by kernel_rfl) (by kernel_rfl) (by kernel_rfl) (by kernel_rfl) (fun _ _ _ h => h) (Or.inl ⟨by rfl, ?y23⟩) hSw ?r23
            case y23 => (intro wq hq; obtain ⟨s0, s1, s2, s3⟩ := hq; go_simp; try with_reducible rfl)
            refine wpAnyK_take (i := 24) (v := ?v24) rfl (by kernel_rfl) (by kernel_rfl) (by kernel_rfl) (by kernel_rfl) (fun _ _ _ h => h) (Or.inl ⟨by rfl, ?y24⟩) hSw ?r24
            case y24 => (intro wq hq; obtain ⟨s0, s1, s2, s3⟩ := hq; go_simp; try with_reducible rfl)
            refine wpAnyK_take (i := 25) (v := ?v25) rfl (by kernel_rfl) (by kernel_rfl) (by kernel_rfl) (by kernel_rfl) (fun _ _ _ h => h) (Or.inl ⟨by rfl, ?y25⟩) hSw ?r25
            case y25 => (intro wq hq; obtain ⟨s0, s1, s2, s3⟩ := hq; go_simp; try with_reducible rfl)
            refine wpAnyK_one (i := 26) (by kernel_rfl) rfl (fun K26 h26 => ?_)
            go_simp
            refine h26 _ _ (fun _ => ⟨(hG9.alloc _).cells.1.trans (by rw [HC.out]), (hG9.alloc _).cells.2.1.trans (by rw [HL.out]), (hG9.alloc _).cells.2.2.1.trans (by rw [HN.out]), c3a _⟩) ?_
            clear h26 K26
            refine wpAnyK_one (i := 27) (by kernel_rfl) rfl (fun K27 h27 => ?_)
            refine step_append_src (by rfl) (.tmp 169) (.tmp 191) 60 (by rfl) (bg + 1) 69 i69 (.agg #[.int .i32 0, .int .i32 0, .int .i32 0, .int .i32 0]) 4 16 Try.underlying60 hi69 hi69z hi69s hi69b rfl (by omega) az kz ns ss (by simp [Act.eval, Act.put]) (by exact (hG9.alloc _).os) (some ⟨w9.heap.size, 0, none⟩) 1 1 [.int .i32 gap, .int .i32 C, .int .i32 L, .int .i32 N] (by simp [Act.eval, Act.put]) rfl (fun h => by cases h) hnew (by simp [Value.oneCell']) hn1 hn2 (by simpa using hlt9') ?_
            intro a10 k10 w10 hown10 hg10 hat10
            have hfar := fun j => (hG9.alloc _).drew.far (fun x hx => (own_lt hG9.os x hx).1) hg10 j
            have hS10 : w10.cell? ⟨bg, 0, none⟩ = some (.slice a8 C k8) ∧ w10.cell? ⟨bg, 1, none⟩ = some (.slice a4 L k4) ∧ w10.cell? ⟨bg, 2, none⟩ = some (.slice a5 N k5) ∧ w10.cell? ⟨bg, 3, none⟩ = some (.slice az ns kz) := ⟨(hfar 0).1.trans ((hG9.alloc _).cells.1.trans (by rw [HC.out])), (hfar 1).1.trans ((hG9.alloc _).cells.2.1.trans (by rw [HL.out])), (hfar 2).1.trans ((hG9.alloc _).cells.2.2.1.trans (by rw [HN.out])), (hfar 3).1.trans (c3a _)⟩
            have c10 := hS10.2.2.2
            have f10 := (hfar 3).2
            refine h27 _ _ (fun _ => hS10) ?_
            clear h27 K27
            refine wpAnyK_one (i := 28) (by kernel_rfl) rfl (fun K28 h28 => ?_)
            go_simp
            refine h28 _ _ (fun _ => hS10) ?_
            clear h28 K28
            refine wpAnyK_one (i := 29) (by kernel_rfl) rfl (fun K29 h29 => ?_)
            go_simp
            refine h29 _ _ (fun _ => hS10) ?_
            clear h29 K29
            refine wpAnyK_one (i := 30) (by kernel_rfl) rfl (fun K30 h30 => ?_)
            go_simp
            refine h30 _ _ (fun h => by cases h) ?_
            clear h30 K30
            refine wpAnyK_done (by kernel_rfl) ?_ _
            go_end0
            have hS := (hG9.alloc _).drew.setS (ss' := ss ++ [.int .i32 gap, .int .i32 C, .int .i32 L, .int .i32 N]) (ns' := ns + 1) hown10 hg10 (by simpa using hat10)
            exact add_end HF.out HS.out HT.out HW.out HC.out HL.out HN.out HMK.out (hb9'.trans ((((Below.refl bg w9).alloc (Nat.le_of_lt hG9.lt) _).drew).trans hS.2)) hS.1
end Go.Proofs.Qxb6601041a
