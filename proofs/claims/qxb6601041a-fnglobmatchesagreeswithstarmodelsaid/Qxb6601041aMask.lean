/- The mask of a character. -/
import Derived.Test.Qxb6601041aState
namespace Go.Proofs.Qxb6601041a
open Go.RowKit

def MaskGot (W : Nat) (pm : Option Addr) (cs mk : List Int) (c : Int) (w : World) (e : Ending) (w' : World) : Prop :=
  ∃ p cap, e = .returned (.slice p W cap) ∧ W ≤ cap ∧ (∃ q, w' = w.drewN q) ∧ ∀ W', Row .u64 W' pm mk → Row .u64 W' p ((mk.drop (rowOf cs c * W)).take W)

theorem mask_end {W k A B N km : Nat} {cs mk : List Int} {c : Int} {w : World} {pm p : Option Addr} (hk : k = rowOf cs c) (hA : A = k * W) (hB : B = (k + 1) * W) (hN : N = mk.length) (hBN : B ≤ N) (hkm : N ≤ km) (hp : (if km = A then pm else pm.map fun x => x.add A) = p) {w' : World} (q : ∃ q, w' = w.drewN q) :
    MaskGot W pm cs mk c w (.returned (.slice p (B - A) (km - A))) w' := by
  have e : B - A = W := by rw [hA, hB, Nat.succ_mul]; omega
  have hAB : A ≤ B := by rw [hA, hB, Nat.succ_mul]; omega
  refine ⟨p, km - A, by rw [e], by omega, q, fun W' hm => ?_⟩
  have h := hm.part (c := km) (lo := A) (hi := B) (by omega) (by omega) (by omega)
  rw [hp, e, hA, hk] at h
  exact h

set_option maxHeartbeats 1000000 in
set_option maxRecDepth 1000000 in
theorem mask_any (w : World) (br W kl km : Nat) (pl pm : Option Addr) (cs mk : List Int) (c : Int)
    (c2 : w.cell? ⟨br, 2, none⟩ = some (.int .i64 W)) (c3 : w.cell? ⟨br, 3, none⟩ = some (.slice pl (litsOf cs).length kl)) (c4 : w.cell? ⟨br, 4, none⟩ = some (.slice pm mk.length km))
    (hl : Row .i32 w pl (litsOf cs)) (hlen : mk.length = ((litsOf cs).length + 1) * W) (hkm : mk.length ≤ km) (hL : (litsOf cs).length ≤ 1024) (hN : mk.length ≤ 16400) :
    Calls Try.prog 48 #[.pointer (some ⟨br, 0, none⟩), .int .i32 c] w (MaskGot W pm cs mk c w) := by
  have HS : Hid (Calls Try.prog 51 #[.slice pl (litsOf cs).length kl, .int .i32 c] w (Found ((litsOf cs).countP (· < c)) ((litsOf cs).contains c) w)) := bsearch_any pl kl (litsOf cs) c w (by omega) hl (lt_le (litsOf_sorted cs))
  have hkle := rowOf_le cs c
  obtain ⟨k, hk⟩ : ∃ k, k = rowOf cs c := ⟨_, rfl⟩
  obtain ⟨A, hA⟩ : ∃ A, A = k * W := ⟨_, rfl⟩
  obtain ⟨B, hB⟩ : ∃ B, B = (k + 1) * W := ⟨_, rfl⟩
  obtain ⟨N, hN'⟩ : ∃ N, N = mk.length := ⟨_, rfl⟩
  obtain ⟨L, hL'⟩ : ∃ L, L = (litsOf cs).length := ⟨_, rfl⟩
  have hBN : B ≤ N := by rw [hB, hN', hlen]; exact Nat.mul_le_mul_right _ (by omega)
  have hAB : A ≤ B := by rw [hA, hB, Nat.succ_mul]; omega
  obtain ⟨p, hp⟩ : ∃ p, (if km = A then pm else pm.map fun x => x.add A) = p := ⟨_, rfl⟩
  have HE : Hid (∀ w', (∃ q, w' = w.drewN q) → MaskGot W pm cs mk c w (.returned (.slice p (B - A) (km - A))) w') := fun w' q => mask_end hk hA hB hN' hBN (by omega) hp q
  have hAw : IntKind.i64.wrap ((k : Int) * (W : Int)) = (A : Int) := by
    have e : (k : Int) * (W : Int) = (A : Int) := by rw [hA]; simp
    rw [e, IntKind.wrap_i64]; omega
  have hBw : IntKind.i64.wrap (((k : Int) + 1) * (W : Int)) = (B : Int) := by
    have e : ((k : Int) + 1) * (W : Int) = (B : Int) := by rw [hB]; simp
    rw [e, IntKind.wrap_i64]; omega
  have HK : Hid (((litsOf cs).contains c = true → (litsOf cs).countP (· < c) = k) ∧ ((litsOf cs).contains c = false → L = k)) := by
    constructor
    · intro h; rw [hk]; unfold rowOf; rw [if_pos h]
    · intro h; rw [hk, hL']; unfold rowOf; rw [if_neg (by rw [h]; simp)]
  rw [← hN'] at c4 hkm hN
  rw [← hL'] at c3 HS hL
  have hkL : k ≤ 1024 := by omega
  have hBk : B ≤ km := by omega
  generalize (litsOf cs).contains c = fd at HS HK
  generalize (litsOf cs).countP (· < c) = ct at HS HK
  clear hl hlen hkle hk hA hB hN' hL'
  go_enter Try.func48, Try.ntmps48
  go_wp2_with fail
  refine HS.out.mono ?_
  rintro e w' ⟨rfl, q, rfl⟩
  cases fd
  · have hLk := HK.out.2 rfl
    subst hLk
    clear HK HS
    go_wp2_with fail
    go_quiet (fail)
    go_wp2_with fail
    go_ret
    exact HE.out _ ⟨q + nq, World.drewN_drewN ..⟩
  · have hck := HK.out.1 rfl
    subst hck
    clear HK HS
    go_wp2_with fail
    go_quiet (fail)
    go_wp2_with fail
    go_ret
    exact HE.out _ ⟨q + nq, World.drewN_drewN ..⟩
end Go.Proofs.Qxb6601041a
