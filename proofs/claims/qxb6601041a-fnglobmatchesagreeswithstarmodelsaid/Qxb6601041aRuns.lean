/- A run of a glob, laid in memory for matching: what may be asked of it. -/
import Derived.Test.Qxb6601041aFindK
import Derived.Test.Qxb6601041aAt
namespace Go.Proofs.Qxb6601041a
open Go.RowKit

/-- The block of a run. -/
def runObj (g : Int) (pc : Option Addr) (n kc : Nat) (pl : Option Addr) (nl kl : Nat) (pm : Option Addr) (nm km : Nat) : Obj :=
  .cells #[.int .i64 g, .slice pc n kc, .int .i64 (((n : Int) + 63) / 64), .slice pl nl kl, .slice pm nm km] 56

/-- What a call of 'run' hands out: its rows are those of the glob. -/
def Hands (w0 : World) (r : RD) (pc : Option Addr) (pl : Option Addr) (pm : Option Addr) (km : Nat) : Prop :=
  (∀ W, Below w0.heap.size w0 W → Row .i32 W pc r.cs ∧ Row .i32 W pl (litsOf r.cs) ∧ Row .u64 W pm r.ws) ∧ r.ws.length ≤ km ∧ GoodRD r

/-- The run lies at block br. -/
def RunAt (w0 w : World) (br : Nat) (r : RD) (pc : Option Addr) (kc : Nat) (pl : Option Addr) (kl : Nat) (pm : Option Addr) (km : Nat) : Prop :=
  w.heap[br]? = some (runObj r.gap pc r.cs.length kc pl (litsOf r.cs).length kl pm r.ws.length km) ∧ Hands w0 r pc pl pm km

section
variable {w0 w w' : World} {br bf : Nat} {r : RD} {pc : Option Addr} {kc : Nat} {pl : Option Addr} {kl : Nat} {pm : Option Addr} {km : Nat} {va : Option Addr} {vc : Nat} {wa : Option Addr} {wk : Nat} {sa : Option Addr} {sl sc : Nat} {vs : List Int} {bs : List Bool}

theorem RunAt.lt (h : RunAt w0 w br r pc kc pl kl pm km) : br < w.heap.size := (Array.getElem?_eq_some_iff.1 h.1).1

theorem RunAt.same (h : RunAt w0 w br r pc kc pl kl pm km) (e : w'.heap[br]? = w.heap[br]?) : RunAt w0 w' br r pc kc pl kl pm km := ⟨e.trans h.1, h.2⟩

theorem RunAt.kept (h : RunAt w0 w br r pc kc pl kl pm km) (hb : Below w.heap.size w w') : RunAt w0 w' br r pc kc pl kl pm km := h.same (hb.block br h.lt)

theorem RunAt.new (h : Hands w0 r pc pl pm km) : RunAt w0 (w.alloc (runObj r.gap pc r.cs.length kc pl (litsOf r.cs).length kl pm r.ws.length km)) w.heap.size r pc kc pl kl pm km := ⟨heap_alloc_new _ _, h⟩

theorem RunAt.c0 (h : RunAt w0 w br r pc kc pl kl pm km) : w.cell? ⟨br, 0, none⟩ = some (.int .i64 r.gap) := cell_of_block h.1 rfl
theorem RunAt.c1 (h : RunAt w0 w br r pc kc pl kl pm km) : w.cell? ⟨br, 1, none⟩ = some (.slice pc r.cs.length kc) := cell_of_block h.1 rfl

theorem RunAt.runIn (h : RunAt w0 w br r pc kc pl kl pm km) (hb : Below w0.heap.size w0 w) (hbf : w0.heap.size ≤ bf) : RunIn w br bf r.gap pc kc ((r.cs.length + 63) / 64) pl kl pm km r.cs r.ws := by
  obtain ⟨h1, h2, h3, h4⟩ := h
  have hwid : ((r.cs.length : Int) + 63) / 64 = (((r.cs.length + 63) / 64 : Nat) : Int) := by omega
  refine ⟨?_, fun W hW => h2 W (hb.trans (hW.mono hbf)), h4.mask, rfl, h3, h4.len, h4.mlen⟩
  rw [h1]
  unfold runObj
  rw [hwid]

theorem find_at (h : RunAt w0 w br r pc kc pl kl pm km) (hb : Below w0.heap.size w0 w) (hbf : w0.heap.size ≤ bf) (hF : Fo w bf va vc wa wk sa sl sc vs bs) (hbr : bf < br) (hbs : blockOf sa ≠ some br) (hn : vs.length ≤ 1024) (hbl : bs.length = vs.length) (fr : Nat) (hfr : fr ≤ 1000000) (starts ends : Bool) :
    Calls Try.prog 39 #[.pointer (some ⟨br, 0, none⟩), .pointer (some ⟨bf, 0, none⟩), .int .i64 fr, .bool starts, .bool ends] w (FindGotK bf va vc wa wk sa r.cs vs bs starts ends fr w) :=
  find_anyK w br bf _ _ _ _ _ _ _ _ _ _ va vc wa wk sa sl sc vs bs (h.runIn hb hbf) hF hbr hbs hn hbl fr (by omega) starts ends

theorem at_at (h : RunAt w0 w br r pc kc pl kl pm km) (hb : Below w0.heap.size w0 w) (hF : Fo w bf va vc wa wk sa sl sc vs bs) (hn : vs.length ≤ 1024) (i : Nat) (hi : i ≤ 1000000) :
    Calls Try.prog 43 #[.pointer (some ⟨br, 0, none⟩), .pointer (some ⟨bf, 0, none⟩), .int .i64 i] w (Says (fitB r.cs vs i) w) :=
  at_any w br bf pc kc r.cs va vc wa wk vs bs h.c1 (h.2.1 w hb).1 hF.toR i h.2.2.2.len hn hi

theorem run_hands (bg : Nat) (wd : Bool) (xs ys : List RD) (r : RD) (hG : IsG w0 bg wd (xs ++ r :: ys)) (hb0 : Below w0.heap.size w0 w) (hcs : (chars (xs ++ r :: ys)).length ≤ 1000000) (hrs : (xs ++ r :: ys).length ≤ 10000) :
    Calls Try.prog 38 #[.pointer (some ⟨bg, 0, none⟩), .int .i64 xs.length] w (fun e w' => ∃ pc kc pl kl pm km, e = .returned (.agg #[.int .i64 r.gap, .slice pc r.cs.length kc, .int .i64 (((r.cs.length : Int) + 63) / 64), .slice pl (litsOf r.cs).length kl, .slice pm r.ws.length km]) ∧ Hands w0 r pc pl pm km ∧ Below w.heap.size w w') := by
  refine (run_glob bg w w0 wd xs ys r hG hb0 hcs hrs).mono ?_
  rintro e w' ⟨pc, kc, pl, kl, pm, km, rfl, h1, h2, h3⟩
  exact ⟨pc, kc, pl, kl, pm, km, by simp, ⟨h1, h2, hG.1 r (by simp)⟩, h3⟩
end

/-- What is kept beside a search: the value and one run. -/
structure Beside (w0 w wr : World) (bf : Nat) (va : Option Addr) (vc : Nat) (wa : Option Addr) (wk : Nat) (vs : List Int) (bs : List Bool) (br : Nat) (r : RD) (pc : Option Addr) (kc : Nat) (pl : Option Addr) (kl : Nat) (pm : Option Addr) (km : Nat) (sa : Option Addr) (sl sc : Nat) : Prop where
  fo : Fo wr bf va vc wa wk sa sl sc vs bs
  run : RunAt w0 wr br r pc kc pl kl pm km
  lt : bf < br
  ne : blockOf sa ≠ some br
  bel : Below bf w wr
  old : Below w0.heap.size w0 wr

section
variable {w0 w wr w1 w2 : World} {bf : Nat} {va : Option Addr} {vc : Nat} {wa : Option Addr} {wk : Nat} {vs : List Int} {bs : List Bool} {br : Nat} {r : RD} {pc : Option Addr} {kc : Nat} {pl : Option Addr} {kl : Nat} {pm : Option Addr} {km : Nat} {sa : Option Addr} {sl sc : Nat}

theorem Beside.kept (h : Beside w0 w wr bf va vc wa wk vs bs br r pc kc pl kl pm km sa sl sc) (hb : Below wr.heap.size wr w1) : Beside w0 w w1 bf va vc wa wk vs bs br r pc kc pl kl pm km sa sl sc :=
  ⟨h.fo.kept hb, h.run.kept hb, h.lt, h.ne, h.bel.trans (hb.mono (Nat.le_of_lt h.fo.lt)), h.old.trans (hb.mono h.old.size)⟩

theorem Beside.found (hbf : w0.heap.size ≤ bf) (h : Beside w0 w wr bf va vc wa wk vs bs br r pc kc pl kl pm km sa sl sc) {sa' : Option Addr} {sl' sc' : Nat} (hF : Fo w1 bf va vc wa wk sa' sl' sc' vs bs) (hb : Below bf wr w1) (hk : Keep bf sa wr w1 sa') : Beside w0 w w1 bf va vc wa wk vs bs br r pc kc pl kl pm km sa' sl' sc' := by
  have hlt := h.run.lt
  refine ⟨hF, h.run.same (hk.1 br hlt (by have := h.lt; omega) h.ne), h.lt, ?_, h.bel.trans hb, h.old.trans (hb.mono hbf)⟩
  rcases hk.2 with e | e
  · rw [e]; exact h.ne
  · intro hx
    have := e br hx
    omega
end
end Go.Proofs.Qxb6601041a
