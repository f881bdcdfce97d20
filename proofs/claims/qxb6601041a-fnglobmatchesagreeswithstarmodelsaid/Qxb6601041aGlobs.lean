/- The glob as a list of runs, and what the exported functions do to it. -/
import Derived.Test.Qxb6601041aAdd
import Derived.Test.Qxb6601041aRun
namespace Go.Proofs.Qxb6601041a
open Go.RowKit

/-- One run: its gap, its characters, its masks. -/
structure RD where
  gap : Int
  cs : List Int
  ws : List Int

def chars (rs : List RD) : List Int := rs.flatMap RD.cs
def lits (rs : List RD) : List Int := rs.flatMap fun r => litsOf r.cs
def masks (rs : List RD) : List Int := rs.flatMap RD.ws

/-- The spans' cells. -/
def spans (c l m : Nat) : List RD → List Value
  | [] => []
  | r :: rs => .int .i32 r.gap :: .int .i32 (c + r.cs.length : Nat) :: .int .i32 (l + (litsOf r.cs).length : Nat) :: .int .i32 (m + r.ws.length : Nat) :: spans (c + r.cs.length) (l + (litsOf r.cs).length) (m + r.ws.length) rs

theorem chars_append (xs ys : List RD) : chars (xs ++ ys) = chars xs ++ chars ys := by simp [chars]
theorem lits_append (xs ys : List RD) : lits (xs ++ ys) = lits xs ++ lits ys := by simp [lits]
theorem masks_append (xs ys : List RD) : masks (xs ++ ys) = masks xs ++ masks ys := by simp [masks]
theorem chars_one (r : RD) : chars [r] = r.cs := by simp [chars]
theorem lits_one (r : RD) : lits [r] = litsOf r.cs := by simp [lits]
theorem masks_one (r : RD) : masks [r] = r.ws := by simp [masks]

theorem spans_length (rs : List RD) : ∀ c l m, (spans c l m rs).length = rs.length * 4 := by
  induction rs with
  | nil => intros; rfl
  | cons r rs ih => intro c l m; simp [spans, ih]; omega

theorem spans_append (xs ys : List RD) : ∀ c l m, spans c l m (xs ++ ys) = spans c l m xs ++ spans (c + (chars xs).length) (l + (lits xs).length) (m + (masks xs).length) ys := by
  induction xs with
  | nil => intros; simp [spans, chars, lits, masks]
  | cons r xs ih => intro c l m; simp [spans, ih, chars, lits, masks, Nat.add_assoc]

theorem spans_at {xs ys : List RD} {r : RD} (j : Nat) : (spans 0 0 0 (xs ++ r :: ys))[xs.length * 4 + j]? = (spans (chars xs).length (lits xs).length (masks xs).length (r :: ys))[j]? := by
  rw [spans_append, List.getElem?_append_right (by rw [spans_length]; omega), spans_length]
  simp

structure GoodRD (r : RD) : Prop where
  mask : MaskTo r.cs (litsOf r.cs) ((r.cs.length + 63) / 64) r.ws r.cs.length 0
  lo : -2147483648 ≤ r.gap
  hi : r.gap ≤ 2147483647
  len : r.cs.length ≤ 1024

theorem GoodRD.mlen {r : RD} (h : GoodRD r) : r.ws.length ≤ 16400 := by
  have h1 := litsOf_length r.cs
  have h2 := h.len
  rw [h.mask.len]
  calc ((litsOf r.cs).length + 1) * ((r.cs.length + 63) / 64) ≤ 1025 * 16 := Nat.mul_le_mul (by omega) (by omega)
    _ = 16400 := rfl

theorem lits_le (rs : List RD) : (lits rs).length ≤ (chars rs).length := by
  induction rs with
  | nil => simp [lits, chars]
  | cons r rs ih =>
    have := litsOf_length r.cs
    have e1 : lits (r :: rs) = litsOf r.cs ++ lits rs := by simp [lits]
    have e2 : chars (r :: rs) = r.cs ++ chars rs := by simp [chars]
    rw [e1, e2]
    simp
    omega

theorem masks_le {rs : List RD} (h : ∀ r ∈ rs, GoodRD r) : (masks rs).length ≤ rs.length * 16400 := by
  induction rs with
  | nil => simp [masks]
  | cons r rs ih =>
    have h1 := (h r (by simp)).mlen
    have h2 := ih fun r hr => h r (by simp [hr])
    have e1 : masks (r :: rs) = r.ws ++ masks rs := by simp [masks]
    rw [e1]
    simp
    omega

/-- The glob at block bg holds the runs rs. -/
def IsG (w : World) (bg : Nat) (wd : Bool) (rs : List RD) : Prop :=
  (∀ r ∈ rs, GoodRD r) ∧ ∃ ac kc al kl am km az kz, Gl w bg wd (chars rs) (lits rs) (masks rs) (spans 0 0 0 rs) rs.length ac kc al kl am km az kz

theorem IsG.kept {w w' : World} {bg : Nat} {wd : Bool} {rs : List RD} (h : IsG w bg wd rs) (hb : Below w.heap.size w w') : IsG w' bg wd rs := by
  obtain ⟨h1, ac, kc, al, kl, am, km, az, kz, hG⟩ := h
  exact ⟨h1, ac, kc, al, kl, am, km, az, kz, hG.below hb (Nat.le_refl _)⟩

theorem IsG.lt {w : World} {bg : Nat} {wd : Bool} {rs : List RD} (h : IsG w bg wd rs) : bg < w.heap.size := by
  obtain ⟨h1, ac, kc, al, kl, am, km, az, kz, hG⟩ := h
  exact hG.lt

theorem IsG.drewN {w : World} {bg : Nat} {wd : Bool} {rs : List RD} (h : IsG w bg wd rs) (n : Nat) : IsG (w.drewN n) bg wd rs := by
  obtain ⟨h1, ac, kc, al, kl, am, km, az, kz, hG⟩ := h
  exact ⟨h1, ac, kc, al, kl, am, km, az, kz, hG.drewN n⟩

/-! ### A new glob -/
def NewGlob (wd : Bool) (w : World) (e : Ending) (w' : World) : Prop :=
  e = .returned (.pointer (some ⟨w.heap.size, 0, none⟩)) ∧ IsG w' w.heap.size wd [] ∧ Below w.heap.size w w'

theorem new_glob {w : World} {wd : Bool} {n : Nat} : NewGlob wd w (.returned (.pointer (some ⟨w.heap.size, 0, none⟩))) ((w.alloc (.cells #[.slice none 0 0, .slice none 0 0, .slice none 0 0, .slice none 0 0, .bool wd] 62)).drewN n) := by
  refine ⟨rfl, ⟨by simp, none, 0, none, 0, none, 0, none, 0, ?_⟩, below_drewN ((Below.refl _ _).alloc (Nat.le_refl _) _) n⟩
  have own : ∀ (W : World) e k, W.ownsRow (w.heap.size + 1) e k (.slice none 0 0) 0 [] := fun W e k => ⟨by simp, .inl ⟨rfl, rfl⟩⟩
  have sp : Sep none none := fun x hx => by cases hx
  exact ⟨heap_alloc_new _ _, own _ _ _, own _ _ _, own _ _ _, own _ _ _, sp, sp, sp, sp, sp, sp⟩

theorem newglob_any (w : World) (wd : Bool) : Calls Try.prog 27 #[.bool wd] w (NewGlob wd w) := by
  go_enter Try.func27, Try.ntmps27
  go_wp2
  go_ret
  exact new_glob (n := 0)

/-! ### Adding a run -/
def Added (bg : Nat) (w : World) (wd : Bool) (rs : List RD) (gap : Int) (zs : List Int) (e : Ending) (w' : World) : Prop :=
  e = .returned (.tuple #[]) ∧ Below bg w w' ∧ ∃ mk, IsG w' bg wd (rs ++ [⟨gap, zs, mk⟩])

theorem add_glob (bg : Nat) (gap : Int) (a : Option Addr) (c : Nat) (zs : List Int) (w : World) (wd : Bool) (rs : List RD) (hG : IsG w bg wd rs) (hz : Row .i32 w a zs) (hzb : ∀ x, blockOf a = some x → x < bg) (hnil : a = none → zs = [] ∧ c = 0) (hzl : zs.length ≤ 1024)
    (hcs : (chars rs).length ≤ 1000000) (hrs : rs.length ≤ 10000) (hgap1 : -2147483648 ≤ gap) (hgap2 : gap ≤ 2147483647) :
    Calls Try.prog 41 #[.pointer (some ⟨bg, 0, none⟩), .int .i64 gap, .slice a zs.length c] w (Added bg w wd rs gap zs) := by
  obtain ⟨hg, ac, kc, al, kl, am, km, az, kz, h⟩ := hG
  have h1 := lits_le rs
  have h2 := masks_le hg
  refine (add_any bg gap a c zs w wd _ _ _ _ _ _ _ _ _ _ _ _ _ h hz hzb hnil hzl (by omega) (by omega) hcs (by omega) hgap1 hgap2).mono ?_
  rintro e w' ⟨rfl, hb, mk, ac', kc', al', kl', am', km', az', kz', hm, hG'⟩
  refine ⟨rfl, hb, mk, ?_, ac', kc', al', kl', am', km', az', kz', ?_⟩
  · intro r hr
    rcases List.mem_append.1 hr with h | h
    · exact hg r h
    · simp at h
      subst h
      exact ⟨hm, hgap1, hgap2, hzl⟩
  · rw [chars_append, lits_append, masks_append, chars_one, lits_one, masks_one, spans_append]
    simp only [spans, List.length_append, List.length_singleton, Nat.zero_add] at hG' ⊢
    exact hG'

theorem zzadd_any (bg : Nat) (gap : Int) (a : Option Addr) (c : Nat) (zs : List Int) (w : World) (wd : Bool) (rs : List RD) (hG : IsG w bg wd rs) (hz : Row .i32 w a zs) (hzb : ∀ x, blockOf a = some x → x < bg) (hnil : a = none → zs = [] ∧ c = 0) (hzl : zs.length ≤ 1024)
    (hcs : (chars rs).length ≤ 1000000) (hrs : rs.length ≤ 10000) (hgap1 : -2147483648 ≤ gap) (hgap2 : gap ≤ 2147483647) :
    Calls Try.prog 28 #[.pointer (some ⟨bg, 0, none⟩), .int .i64 gap, .slice a zs.length c] w (Added bg w wd rs gap zs) := by
  have HC := add_glob bg gap a c zs w wd rs hG hz hzb hnil hzl hcs hrs hgap1 hgap2
  go_enter Try.func28, Try.ntmps28
  go_wp2_with fail
  refine HC.mono ?_
  intro e w' he
  have he' := he
  obtain ⟨rfl, _, _⟩ := he
  go_wp2_with fail
  go_end0
  exact he'

/-! ### How many runs -/
def Tells (n : Nat) (w : World) (e : Ending) (w' : World) : Prop := e = .returned (.int .i64 n) ∧ ∃ k, w' = w.drewN k

theorem numruns_any (bg : Nat) (w : World) (wd : Bool) (rs : List RD) (hG : IsG w bg wd rs) : Calls Try.prog 29 #[.pointer (some ⟨bg, 0, none⟩)] w (Tells rs.length w) := by
  obtain ⟨hg, ac, kc, al, kl, am, km, az, kz, h⟩ := hG
  obtain ⟨_, _, _, c3, _⟩ := h.cells
  clear h hg
  go_enter Try.func29, Try.ntmps29
  go_wp2
  go_ret
  exact ⟨rfl, 0, rfl⟩

/-! ### One run -/
theorem run_glob (bg : Nat) (w w0 : World) (wd : Bool) (xs ys : List RD) (r : RD) (hG : IsG w0 bg wd (xs ++ r :: ys)) (hb0 : Below w0.heap.size w0 w) (hcs : (chars (xs ++ r :: ys)).length ≤ 1000000) (hrs : (xs ++ r :: ys).length ≤ 10000) :
    Calls Try.prog 38 #[.pointer (some ⟨bg, 0, none⟩), .int .i64 xs.length] w (RunGot w0 r.gap r.cs (litsOf r.cs) r.ws w) := by
  obtain ⟨hg, ac, kc, al, kl, am, km, az, kz, h0⟩ := hG
  have h := h0.below hb0 (Nat.le_refl _)
  have hr := hg r (by simp)
  have h1 := lits_le (xs ++ r :: ys)
  have h2 := masks_le hg
  have e1 : chars (xs ++ r :: ys) = chars xs ++ r.cs ++ chars ys := by simp [chars]
  have e2 : lits (xs ++ r :: ys) = lits xs ++ litsOf r.cs ++ lits ys := by simp [lits]
  have e3 : masks (xs ++ r :: ys) = masks xs ++ r.ws ++ masks ys := by simp [masks]
  have b1 : (chars xs ++ r.cs).length ≤ 1000000 := by rw [e1] at hcs; simp at hcs ⊢; omega
  have b2 : (lits xs ++ litsOf r.cs).length ≤ 1000000 := by rw [e2] at h1; simp at h1 ⊢; omega
  have b3 : (masks xs ++ r.ws).length ≤ 1000000000 := by rw [e3] at h2; simp at h2 hrs ⊢; omega
  rw [e1, e2, e3] at h h0
  rcases List.eq_nil_or_concat xs with rfl | ⟨xs', r', rfl⟩
  · exact run0 bg w w0 wd _ _ _ r.cs (litsOf r.cs) r.ws _ _ _ _ _ r.gap ac kc al kl am km az kz h h0 (by simp) rfl rfl rfl (by simp [spans]) (by simp [spans, chars]) (by simp [spans, lits]) (by simp [spans, masks]) hr.lo hr.hi b1 b2 b3 (by omega)
  · have sp : ∀ j, (spans 0 0 0 (xs'.concat r' ++ r :: ys))[(xs'.length + 1) * 4 + j]? = (spans (chars (xs'.concat r')).length (lits (xs'.concat r')).length (masks (xs'.concat r')).length (r :: ys))[j]? := fun j => by
      have := spans_at (xs := xs'.concat r') (r := r) (ys := ys) j
      simpa using this
    have sq : ∀ j, (spans 0 0 0 (xs'.concat r' ++ r :: ys))[xs'.length * 4 + j]? = (spans (chars xs').length (lits xs').length (masks xs').length (r' :: (r :: ys)))[j]? := fun j => by
      have := spans_at (xs := xs') (r := r') (ys := r :: ys) j
      simpa using this
    have k1 : (chars (xs'.concat r')).length = (chars xs').length + r'.cs.length := by rw [List.concat_eq_append, chars_append, chars_one, List.length_append]
    have k2 : (lits (xs'.concat r')).length = (lits xs').length + (litsOf r'.cs).length := by rw [List.concat_eq_append, lits_append, lits_one, List.length_append]
    have k3 : (masks (xs'.concat r')).length = (masks xs').length + r'.ws.length := by rw [List.concat_eq_append, masks_append, masks_one, List.length_append]
    have hl : ((xs'.concat r').length : Int) = (xs'.length : Int) + 1 := by simp
    rw [hl]
    refine runS bg w w0 wd _ _ _ r.cs (litsOf r.cs) r.ws _ _ _ _ _ r.gap r'.gap xs'.length ac kc al kl am km az kz h h0 (by simp) ?_ ?_ ?_ ?_ ?_ ?_ ?_ ?_ hr.lo hr.hi b1 b2 b3 (by omega)
    · exact sq 0
    · rw [k1]; exact sq 1
    · rw [k2]; exact sq 2
    · rw [k3]; exact sq 3
    · exact sp 0
    · rw [List.length_append]; exact sp 1
    · rw [List.length_append]; exact sp 2
    · rw [List.length_append]; exact sp 3

/-- What ZZRunParts hands back. -/
def Parts (gap : Int) (cs ts mk : List Int) (w : World) (e : Ending) (w' : World) : Prop :=
  ∃ pc kc pl kl pm km, e = .returned (.tuple #[.int .i64 gap, .slice pc cs.length kc, .slice pl ts.length kl, .slice pm mk.length km]) ∧
    Row .i32 w' pc cs ∧ Row .i32 w' pl ts ∧ Row .u64 w' pm mk ∧ Below w.heap.size w w'

theorem parts_any (bg : Nat) (w : World) (wd : Bool) (xs ys : List RD) (r : RD) (hG : IsG w bg wd (xs ++ r :: ys)) (hcs : (chars (xs ++ r :: ys)).length ≤ 1000000) (hrs : (xs ++ r :: ys).length ≤ 10000) :
    Calls Try.prog 32 #[.pointer (some ⟨bg, 0, none⟩), .int .i64 xs.length] w (Parts r.gap r.cs (litsOf r.cs) r.ws w) := by
  have HC := run_glob bg w w wd xs ys r hG (Below.refl _ _) hcs hrs
  clear hG hcs hrs
  obtain ⟨i, hi⟩ : ∃ i, i = xs.length := ⟨_, rfl⟩
  rw [← hi] at HC ⊢
  clear hi
  go_enter Try.func32, Try.ntmps32
  go_wp2_with fail
  refine HC.mono ?_
  rintro e w' ⟨pc, kc, pl, kl, pm, km, rfl, h123, _, hb⟩
  obtain ⟨h1, h2, h3⟩ := h123 w' hb
  clear HC h123
  have hb0 := hb.size
  go_wp2_with fail
  have hW : Hid (Below w.heap.size w (w'.alloc (Obj.cells #[.int .i64 r.gap, .slice pc r.cs.length kc, .int .i64 ((↑r.cs.length + 63) / 64), .slice pl (litsOf r.cs).length kl, .slice pm r.ws.length km] 56))) := hb.alloc hb0 _
  have hN := heap_alloc_new w' (Obj.cells #[.int .i64 r.gap, .slice pc r.cs.length kc, .int .i64 ((↑r.cs.length + 63) / 64), .slice pl (litsOf r.cs).length kl, .slice pm r.ws.length km] 56)
  have hB2 := (Below.refl w'.heap.size w').alloc (Nat.le_refl _) (Obj.cells #[.int .i64 r.gap, .slice pc r.cs.length kc, .int .i64 ((↑r.cs.length + 63) / 64), .slice pl (litsOf r.cs).length kl, .slice pm r.ws.length km] 56)
  replace h1 := h1.kept hB2
  replace h2 := h2.kept hB2
  replace h3 := h3.kept hB2
  clear hB2
  generalize w'.alloc _ = w4 at *
  have g0 : w4.cell? ⟨w'.heap.size, 0, none⟩ = some (.int .i64 r.gap) := cell_of_block hN rfl
  have g1 : w4.cell? ⟨w'.heap.size, 1, none⟩ = some (.slice pc r.cs.length kc) := cell_of_block hN rfl
  have g3 : w4.cell? ⟨w'.heap.size, 3, none⟩ = some (.slice pl (litsOf r.cs).length kl) := cell_of_block hN rfl
  have g4 : w4.cell? ⟨w'.heap.size, 4, none⟩ = some (.slice pm r.ws.length km) := cell_of_block hN rfl
  clear hN
  have H : Hid (Row .i32 w4 pc r.cs ∧ Row .i32 w4 pl (litsOf r.cs) ∧ Row .u64 w4 pm r.ws) := ⟨h1, h2, h3⟩
  clear h1 h2 h3
  go_quiet (fail)
  go_wp2_with fail
  exact bodyPost_ret (v := .tuple #[.int .i64 r.gap, .slice pc r.cs.length kc, .slice pl (litsOf r.cs).length kl, .slice pm r.ws.length km]) (by simp [results, Try.results32, go_sem]) rfl ⟨pc, kc, pl, kl, pm, km, rfl, H.out.1.drewN _, H.out.2.1.drewN _, H.out.2.2.drewN _, below_drewN hW.out _⟩
end Go.Proofs.Qxb6601041a
