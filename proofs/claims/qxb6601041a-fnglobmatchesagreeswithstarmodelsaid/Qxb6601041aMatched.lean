/- (*glob).matches, whole, and its exported twin. -/
import Derived.Test.Qxb6601041aManyA
import Derived.Test.Qxb6601041aManyB
namespace Go.Proofs.Qxb6601041a
open Go.RowKit

theorem matches_any (w0 w : World) (bg bf : Nat) (wd : Bool) (rs : List RD) (hne : rs ≠ []) (hG : IsG w0 bg wd rs) (hcs : (chars rs).length ≤ 1000000) (hrs : rs.length ≤ 10000) (hgap : ∀ r ∈ rs, ∃ g : Nat, r.gap = (g : Int) ∧ g ≤ 100000) (hb0 : Below w0.heap.size w0 w) (hbf : w0.heap.size ≤ bf) (va : Option Addr) (vc : Nat) (wa : Option Addr) (wk : Nat) (sa : Option Addr) (sl sc : Nat) (vs : List Int) (bs : List Bool) (hF : Fo w bf va vc wa wk sa sl sc vs bs) (hn : vs.length ≤ 1024) (hbl : bs.length = vs.length) :
    Calls Try.prog 35 #[.pointer (some ⟨bg, 0, none⟩), .pointer (some ⟨bf, 0, none⟩)] w (Match wd rs vs bs bf w) := by
  rcases rs with _ | ⟨r0, rest⟩
  · exact absurd rfl hne
  · rcases List.eq_nil_or_concat rest with rfl | ⟨mid, rl, rfl⟩
    · cases wd
      · exact match_one_whole w0 w bg bf r0 hG hb0 hbf va vc wa wk sa sl sc vs bs hF hn hbl
      · exact match_one_words w0 w bg bf r0 hG hb0 hbf va vc wa wk sa sl sc vs bs hF hn hbl
    · rw [List.concat_eq_append] at *
      cases wd
      · exact match_many_whole w0 w bg bf r0 rl mid hG hcs hrs hgap hb0 hbf va vc wa wk sa sl sc vs bs hF hn hbl
      · exact match_many_words w0 w bg bf r0 rl mid hG hcs hrs hgap hb0 hbf va vc wa wk sa sl sc vs bs hF hn hbl

theorem zzmatches_any (w0 w : World) (bg bf : Nat) (wd : Bool) (rs : List RD) (hne : rs ≠ []) (hG : IsG w0 bg wd rs) (hcs : (chars rs).length ≤ 1000000) (hrs : rs.length ≤ 10000) (hgap : ∀ r ∈ rs, ∃ g : Nat, r.gap = (g : Int) ∧ g ≤ 100000) (hb0 : Below w0.heap.size w0 w) (hbf : w0.heap.size ≤ bf) (va : Option Addr) (vc : Nat) (wa : Option Addr) (wk : Nat) (sa : Option Addr) (sl sc : Nat) (vs : List Int) (bs : List Bool) (hF : Fo w bf va vc wa wk sa sl sc vs bs) (hn : vs.length ≤ 1024) (hbl : bs.length = vs.length) :
    Calls Try.prog 15 #[.pointer (some ⟨bg, 0, none⟩), .pointer (some ⟨bf, 0, none⟩)] w (Match wd rs vs bs bf w) := by
  have HC : Hid (Calls Try.prog 35 #[.pointer (some ⟨bg, 0, none⟩), .pointer (some ⟨bf, 0, none⟩)] w (Match wd rs vs bs bf w)) := matches_any w0 w bg bf wd rs hne hG hcs hrs hgap hb0 hbf va vc wa wk sa sl sc vs bs hF hn hbl
  have HS : Hid (∀ e w', Match wd rs vs bs bf w e w' → ∃ b : Bool, e = .returned (.bool b)) := fun e w' h => by obtain ⟨b, h1, _⟩ := h; exact ⟨b, h1⟩
  generalize Match wd rs vs bs bf w = Post at HC HS ⊢
  clear hG hcs hrs hgap hb0 hbf hF hn hbl hne
  go_enter Try.func15, Try.ntmps15
  go_wp2_with fail
  refine Calls.mono HC.out ?_
  intro e w' he
  obtain ⟨b, rfl⟩ := HS.out e w' he
  have HP : Hid (Post (.returned (.bool b)) w') := he
  clear he HS HC
  go_wp2_with fail
  exact HP.out
end Go.Proofs.Qxb6601041a
