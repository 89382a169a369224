/-
  'lay': what one round of its last loop does, without a walk.
-/
import Derived.Test.Qxb6000433aLayLay
namespace Go.Proofs.Qxb6000433a
open Go.RowKit

theorem wrap_i64 {x : Int} (h : -9223372036854775808 ≤ x ∧ x ≤ 9223372036854775807) : IntKind.i64.wrap x = x := by
  simp [IntKind.wrap, IntKind.bits, IntKind.signed]
  split <;> omega
theorem wrap_i32 {x : Int} (h : -2147483648 ≤ x ∧ x ≤ 2147483647) : IntKind.i32.wrap x = x := by
  simp [IntKind.wrap, IntKind.bits, IntKind.signed]
  split <;> omega

/-- The state ahead of round k of the last loop (r: how many 'words' are filled). -/
structure LR (w wz : World) (pb gn n r : Nat) (ns : List Nd) (T : Nat → Int) (bits vw : Int) (Z : Nat → Ly) : Prop where
  no : NodesAt wz gn n ns Z
  mu : ∀ u, u < n → (Z u).mult = T u
  wo : ∀ u, u < r → (Z u).words = (T u + 63) / 64
  pb : PB wz pb gn n bits vw
  bel : Below gn w wz

section
variable {w wz : World} {pb gn n k : Nat} {ns : List Nd} {T : Nat → Int} {bits vw : Int} {Z : Nat → Ly}
theorem LR.vecWords (h : LR w wz pb gn n k ns T bits vw Z) (hk : k < n) (hg : gn < pb) (x wd : Int) (hw : (T k + 63) / 64 = wd) : ∃ Z2, LR w ((wz.setCell ⟨gn, k * 14 + 12, none⟩ (.int .i32 x)).setCell ⟨gn, k * 14 + 13, none⟩ (.int .i32 wd)).drew pb gn n (k + 1) ns T bits vw Z2 ∧ (Z2 k).words = wd := by
  refine ⟨_, ⟨((h.no.setVec k hk x).setWords k hk wd).drew, fun u hu => ?_, fun u hu => ?_, ((h.pb.other (by omega) _).other (by omega) _).drew, ((h.bel.setCell (Nat.le_refl _) _).setCell (Nat.le_refl _) _).drew⟩, ?_⟩
  · by_cases e : u = k
    · subst e; simp; exact h.mu u hu
    · simp [e]; exact h.mu u hu
  · by_cases e : u = k
    · subst e; simp; exact hw.symm
    · simp [e]; exact h.wo u (by omega)
  · simp
theorem LR.putVw (h : LR w wz pb gn n k ns T bits vw Z) (hg : gn < pb) (x : Int) : LR w (wz.setCell ⟨pb, 4, none⟩ (.int .i64 x)).drew pb gn n k ns T bits x Z :=
  ⟨(h.no.other (by omega) _).drew, h.mu, h.wo, (h.pb.setVw x).drew, (h.bel.setCell (by show gn ≤ pb; omega) _).drew⟩
theorem LR.base (h : LR w wz pb gn n k ns T bits vw Z) (hg : gn < pb) (j : Nat) (hj : j < n) (x : Int) : ∃ Z2, LR w (wz.setCell ⟨gn, j * 14 + 11, none⟩ (.int .i32 x)) pb gn n k ns T bits vw Z2 := by
  refine ⟨_, ⟨h.no.setBase j hj x, fun u hu => ?_, fun u hu => ?_, h.pb.other (by omega) _, h.bel.setCell (Nat.le_refl _) _⟩⟩
  · by_cases e : u = j
    · subst e; simp; exact h.mu u hu
    · simp [e]; exact h.mu u hu
  · by_cases e : u = j
    · subst e; simp; exact h.wo u hu
    · simp [e]; exact h.wo u hu
theorem LR.putBits (h : LR w wz pb gn n k ns T bits vw Z) (hg : gn < pb) (x : Int) : LR w (wz.setCell ⟨pb, 3, none⟩ (.int .i64 x)).drew pb gn n k ns T x vw Z :=
  ⟨(h.no.other (by omega) _).drew, h.mu, h.wo, (h.pb.setBits x).drew, (h.bel.setCell (by show gn ≤ pb; omega) _).drew⟩
end
end Go.Proofs.Qxb6000433a
