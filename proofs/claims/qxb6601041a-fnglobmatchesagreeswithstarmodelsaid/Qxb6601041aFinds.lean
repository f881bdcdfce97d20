/- find, whole; and what the exported functions over it hand back. -/
import Derived.Test.Qxb6601041aFind2
import Derived.Test.Qxb6601041aGlobs
namespace Go.Proofs.Qxb6601041a
open Go.RowKit

theorem find_any (w : World) (br bf : Nat) (gap : Int) (pc : Option Addr) (kc W : Nat) (pl : Option Addr) (kl : Nat) (pm : Option Addr) (km : Nat) (cs mk : List Int) (va : Option Addr) (vc : Nat) (wa : Option Addr) (wk : Nat) (sa : Option Addr) (sl sc : Nat) (vs : List Int) (bs : List Bool)
    (hR : RunIn w br bf gap pc kc W pl kl pm km cs mk) (hF : Fo w bf va vc wa wk sa sl sc vs bs) (hbr : bf < br) (hbs : blockOf sa ≠ some br) (hn : vs.length ≤ 1024) (hbl : bs.length = vs.length) (fr : Nat) (hfr : fr ≤ 9223372036854775807) (starts ends : Bool) :
    Calls Try.prog 39 #[.pointer (some ⟨br, 0, none⟩), .pointer (some ⟨bf, 0, none⟩), .int .i64 fr, .bool starts, .bool ends] w (FindGot bf va vc wa wk cs vs bs starts ends fr w) := by
  rcases cs with _ | ⟨c, cs⟩
  · exact find_empty w br bf gap pc kc W pl kl pm km mk va vc wa wk sa sl sc vs bs hR hF hn hbl fr hfr starts ends
  · exact find_full w br bf gap pc kc W pl kl pm km (c :: cs) mk va vc wa wk sa sl sc vs bs hR hF hbr hbs (by simp) hn hbl fr hfr starts ends

section
variable {w w' : World} {bf : Nat} {va : Option Addr} {vc : Nat} {wa : Option Addr} {wk : Nat} {sa : Option Addr} {sl sc : Nat} {vs : List Int} {bs : List Bool}

theorem Fo.lt (h : Fo w bf va vc wa wk sa sl sc vs bs) : bf < w.heap.size := (Array.getElem?_eq_some_iff.1 h.blk).1

theorem Fo.kept (h : Fo w bf va vc wa wk sa sl sc vs bs) (hb : Below w.heap.size w w') : Fo w' bf va vc wa wk sa sl sc vs bs := by
  refine ⟨(hb.block bf h.lt).trans h.blk, h.rv.kept hb, h.rb.kept hb, h.lv, h.lb, h.cv, ?_⟩
  rcases h.scr with h0 | ⟨g, f, e, hg, hr⟩
  · exact .inl h0
  · exact .inr ⟨g, f, e, hg, hr.of_block (hb.block g hr.lt)⟩

theorem Fo.far (h : Fo w bf va vc wa wk sa sl sc vs bs) {br : Nat} (hb : w.heap.size ≤ br) : blockOf sa ≠ some br := by
  rcases h.scr with ⟨_, rfl⟩ | ⟨g, f, rfl, hg, hr⟩
  · simp [blockOf]
  · have := hr.lt
    simp [blockOf]
    omega
end

/-! ### A new folded value -/
def NewFolded (va : Option Addr) (vc : Nat) (wa : Option Addr) (wk : Nat) (vs : List Int) (bs : List Bool) (w : World) (e : Ending) (w' : World) : Prop :=
  e = .returned (.pointer (some ⟨w.heap.size, 0, none⟩)) ∧ Fo w' w.heap.size va vc wa wk none 0 0 vs bs ∧ Below w.heap.size w w'

theorem new_folded {w : World} {va : Option Addr} {vc : Nat} {wa : Option Addr} {wk : Nat} {vs : List Int} {bs : List Bool} (hv : Row .i32 w va vs) (hb : BRow w wa bs) (lv : ∀ x, blockOf va = some x → x < w.heap.size) (lb : ∀ x, blockOf wa = some x → x < w.heap.size) (cv : vs.length ≤ vc) {n : Nat} :
    NewFolded va vc wa wk vs bs w (.returned (.pointer (some ⟨w.heap.size, 0, none⟩))) ((w.alloc (.cells #[.slice va vs.length vc, .slice wa bs.length wk, .slice none 0 0] 52)).drewN n) := by
  have hB := (Below.refl w.heap.size w).alloc (Nat.le_refl _) (.cells #[.slice va vs.length vc, .slice wa bs.length wk, .slice none 0 0] 52)
  exact ⟨rfl, ⟨heap_alloc_new _ _, hv.kept (below_drewN hB n), hb.kept (below_drewN hB n), lv, lb, cv, .inl ⟨rfl, rfl⟩⟩, below_drewN hB n⟩

theorem newfolded_any (w : World) (va : Option Addr) (vc : Nat) (wa : Option Addr) (wk : Nat) (vs : List Int) (bs : List Bool) (hv : Row .i32 w va vs) (hb : BRow w wa bs) (lv : ∀ x, blockOf va = some x → x < w.heap.size) (lb : ∀ x, blockOf wa = some x → x < w.heap.size) (cv : vs.length ≤ vc) :
    Calls Try.prog 16 #[.slice va vs.length vc, .slice wa bs.length wk] w (NewFolded va vc wa wk vs bs w) := by
  have HN : Hid (∀ n, NewFolded va vc wa wk vs bs w (.returned (.pointer (some ⟨w.heap.size, 0, none⟩))) ((w.alloc (.cells #[.slice va vs.length vc, .slice wa bs.length wk, .slice none 0 0] 52)).drewN n)) := fun n => new_folded hv hb lv lb cv
  clear hv hb lv lb cv
  go_enter Try.func16, Try.ntmps16
  go_wp2
  go_ret
  exact HN.out 0

/-! ### Finding a run of a glob -/
theorem FindGot.shape {bf : Nat} {va : Option Addr} {vc : Nat} {wa : Option Addr} {wk : Nat} {cs vs : List Int} {bs : List Bool} {starts ends : Bool} {fr : Nat} {w w1 : World} {e : Ending} {w' : World} (hw : Below bf w1 w) (h : FindGot bf va vc wa wk cs vs bs starts ends fr w e w') :
    ∃ (q : Int) (b : Bool), e = .returned (.tuple #[.int .i64 q, .bool b]) ∧ FindGot bf va vc wa wk cs vs bs starts ends fr w1 (.returned (.tuple #[.int .i64 q, .bool b])) w' := by
  obtain ⟨r, rfl, h1, h2, h3⟩ := h
  exact ⟨_, _, rfl, r, rfl, h1, hw.trans h2, h3⟩

set_option maxHeartbeats 1000000 in
set_option maxRecDepth 1000000 in
theorem zzfind_any (bg : Nat) (w w0 : World) (wd : Bool) (xs ys : List RD) (r : RD) (hG : IsG w0 bg wd (xs ++ r :: ys)) (hb0 : Below w0.heap.size w0 w) (hcs : (chars (xs ++ r :: ys)).length ≤ 1000000) (hrs : (xs ++ r :: ys).length ≤ 10000)
    (bf : Nat) (va : Option Addr) (vc : Nat) (wa : Option Addr) (wk : Nat) (sa : Option Addr) (sl sc : Nat) (vs : List Int) (bs : List Bool) (hF : Fo w bf va vc wa wk sa sl sc vs bs) (hbf : w0.heap.size ≤ bf) (hn : vs.length ≤ 1024) (hbl : bs.length = vs.length) (fr : Nat) (hfr : fr ≤ 9223372036854775807) (starts ends : Bool) :
    Calls Try.prog 22 #[.pointer (some ⟨bg, 0, none⟩), .int .i64 xs.length, .pointer (some ⟨bf, 0, none⟩), .int .i64 fr, .bool starts, .bool ends] w (FindGot bf va vc wa wk r.cs vs bs starts ends fr w) := by
  have HC : Hid (Calls Try.prog 38 #[.pointer (some ⟨bg, 0, none⟩), .int .i64 xs.length] w (RunGot w0 r.gap r.cs (litsOf r.cs) r.ws w)) := run_glob bg w w0 wd xs ys r hG hb0 hcs hrs
  have hgr : GoodRD r := hG.1 r (by simp)
  have HK : Hid (∀ (w1 : World) (pc : Option Addr) (kc : Nat) (pl : Option Addr) (kl : Nat) (pm : Option Addr) (km : Nat), Below w.heap.size w w1 → (∀ W, Below w0.heap.size w0 W → Row .i32 W pc r.cs ∧ Row .i32 W pl (litsOf r.cs) ∧ Row .u64 W pm r.ws) → r.ws.length ≤ km →
      Calls Try.prog 39 #[.pointer (some ⟨w1.heap.size, 0, none⟩), .pointer (some ⟨bf, 0, none⟩), .int .i64 fr, .bool starts, .bool ends] (w1.alloc (.cells #[.int .i64 r.gap, .slice pc r.cs.length kc, .int .i64 ((↑r.cs.length + 63) / 64), .slice pl (litsOf r.cs).length kl, .slice pm r.ws.length km] 56))
        (FindGot bf va vc wa wk r.cs vs bs starts ends fr (w1.alloc (.cells #[.int .i64 r.gap, .slice pc r.cs.length kc, .int .i64 ((↑r.cs.length + 63) / 64), .slice pl (litsOf r.cs).length kl, .slice pm r.ws.length km] 56)))
      ∧ Below bf w (w1.alloc (.cells #[.int .i64 r.gap, .slice pc r.cs.length kc, .int .i64 ((↑r.cs.length + 63) / 64), .slice pl (litsOf r.cs).length kl, .slice pm r.ws.length km] 56))) := by
    intro w1 pc kc pl kl pm km hb hrows hkm
    have hlt := hF.lt
    have hs1 := hb.size
    have hsz0 := hb0.size
    have hB2 := (Below.refl w1.heap.size w1).alloc (Nat.le_refl _) (.cells #[.int .i64 r.gap, .slice pc r.cs.length kc, .int .i64 ((↑r.cs.length + 63) / 64), .slice pl (litsOf r.cs).length kl, .slice pm r.ws.length km] 56)
    have hN := heap_alloc_new w1 (.cells #[.int .i64 r.gap, .slice pc r.cs.length kc, .int .i64 ((↑r.cs.length + 63) / 64), .slice pl (litsOf r.cs).length kl, .slice pm r.ws.length km] 56)
    have hwid : ((r.cs.length : Int) + 63) / 64 = (((r.cs.length + 63) / 64 : Nat) : Int) := by omega
    generalize w1.alloc (.cells #[.int .i64 r.gap, .slice pc r.cs.length kc, .int .i64 ((↑r.cs.length + 63) / 64), .slice pl (litsOf r.cs).length kl, .slice pm r.ws.length km] 56) = w2 at hB2 hN ⊢
    rw [hwid] at hN
    have hw2 : Below w.heap.size w w2 := hb.trans (hB2.mono hs1)
    refine ⟨find_any w2 w1.heap.size bf r.gap pc kc _ pl kl pm km r.cs r.ws va vc wa wk sa sl sc vs bs ⟨hN, fun W' hW => hrows W' (hb0.trans ((hw2.mono hsz0).trans (hW.mono hbf))), hgr.mask, rfl, hkm, hgr.len, hgr.mlen⟩ (hF.kept hw2) (by omega) (hF.far hs1) hn hbl fr hfr starts ends, hw2.mono (by omega)⟩
  have HP : Hid (∀ (w1 : World) (e : Ending) (w' : World), Below bf w w1 → FindGot bf va vc wa wk r.cs vs bs starts ends fr w1 e w' → ∃ (q : Int) (b : Bool), e = .returned (.tuple #[.int .i64 q, .bool b]) ∧ FindGot bf va vc wa wk r.cs vs bs starts ends fr w (.returned (.tuple #[.int .i64 q, .bool b])) w') := fun w1 e w' hw h => h.shape hw
  obtain ⟨i, hi⟩ : ∃ i, i = xs.length := ⟨_, rfl⟩
  rw [← hi] at HC ⊢
  generalize FindGot bf va vc wa wk r.cs vs bs starts ends fr w = Post at HP ⊢
  clear hG hb0 hcs hrs hF hbf hn hbl hgr hi
  go_enter Try.func22, Try.ntmps22
  go_wp2_with fail
  refine HC.out.mono ?_
  rintro e w1 ⟨pc, kc, pl, kl, pm, km, rfl, hrows, hkm, hb⟩
  have HK2 := HK.out w1 pc kc pl kl pm km hb hrows hkm
  have HKa : Hid _ := HK2.1
  have HKb : Hid _ := HK2.2
  clear HK HK2 HC hrows hb
  go_wp2_with fail
  refine Calls.mono HKa.out ?_
  intro e w' he
  obtain ⟨q, b, rfl, hP⟩ := HP.out _ _ _ HKb.out he
  have HPP : Hid _ := hP
  clear hP HP HKa HKb he
  go_wp2_with fail
  exact HPP.out

/-! ### One run -/
def OneRun (zs : List Int) (w : World) (e : Ending) (w' : World) : Prop :=
  e = .returned (.pointer (some ⟨w.heap.size, 0, none⟩)) ∧ Below w.heap.size w w' ∧ ∃ mk, IsG w' w.heap.size false [⟨0, zs, mk⟩]

theorem onerun_any (a : Option Addr) (c : Nat) (zs : List Int) (w : World) (hz : Row .i32 w a zs) (hzb : ∀ x, blockOf a = some x → x < w.heap.size) (hnil : a = none → zs = [] ∧ c = 0) (hzl : zs.length ≤ 1024) :
    Calls Try.prog 21 #[.slice a zs.length c] w (OneRun zs w) := by
  have HA : Hid (∀ w1, Below w.heap.size w w1 → IsG w1 w.heap.size false [] → Calls Try.prog 28 #[.pointer (some ⟨w.heap.size, 0, none⟩), .int .i64 0, .slice a zs.length c] w1 (Added w.heap.size w1 false [] 0 zs)) := fun w1 hb hG =>
    zzadd_any w.heap.size 0 a c zs w1 false [] hG (hz.kept hb) hzb hnil hzl (by simp [chars]) (by simp) (by omega) (by omega)
  clear hz hzb hnil hzl
  obtain ⟨bg, hbg⟩ : ∃ bg, bg = w.heap.size := ⟨_, rfl⟩
  have HE : Hid (∀ w1 w2 mk, Below bg w w1 → Below bg w1 w2 → IsG w2 bg false [⟨0, zs, mk⟩] → OneRun zs w (.returned (.pointer (some ⟨bg, 0, none⟩))) w2) := fun w1 w2 mk h1 h2 h3 => by
    subst hbg
    exact ⟨rfl, h1.trans h2, mk, h3⟩
  rw [← hbg] at HA
  have HBG : Hid (bg = w.heap.size) := hbg
  clear hbg
  generalize OneRun zs w = Post at HE ⊢
  go_enter Try.func21, Try.ntmps21
  go_wp2_with fail
  refine (newglob_any w false).mono ?_
  rintro e w1 ⟨rfl, hG, hb⟩
  rw [← HBG.out] at hG hb ⊢
  have HC : Hid (Calls Try.prog 28 #[.pointer (some ⟨bg, 0, none⟩), .int .i64 0, .slice a zs.length c] w1 (Added bg w1 false [] 0 zs)) := HA.out w1 hb hG
  have HB1 : Hid (Below bg w w1) := hb
  clear hG hb HA
  go_wp2_with fail
  refine Calls.mono HC.out ?_
  rintro e w2 ⟨rfl, hb2, mk, hG2⟩
  have HP : Hid (Post (.returned (.pointer (some ⟨bg, 0, none⟩))) w2) := HE.out w1 w2 mk HB1.out hb2 hG2
  clear hb2 hG2 HE HC
  go_wp2_with fail
  exact HP.out

theorem first_unique {cs vs : List Int} {bs : List Bool} {starts ends : Bool} {fr : Nat} : ∀ {r r' : Option Nat}, FirstFit cs vs bs starts ends fr r → FirstFit cs vs bs starts ends fr r' → r = r'
  | none, none, _, _ => rfl
  | none, some _, h, ⟨s, _, hs, _⟩ => absurd hs (h s)
  | some _, none, ⟨s, _, hs, _⟩, h => absurd hs (h s)
  | some _, some _, ⟨s, e1, hs, hm⟩, ⟨s', e2, hs', hm'⟩ => by
    have := hm s' hs'
    have := hm' s hs
    rw [e1, e2, show s = s' by omega]
end Go.Proofs.Qxb6601041a
