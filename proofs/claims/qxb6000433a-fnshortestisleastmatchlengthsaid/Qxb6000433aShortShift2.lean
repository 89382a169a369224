/-
  'lshift', as a shift of bits.
-/
import Derived.Test.Qxb6000433aShortShift
namespace Go.Proofs.Qxb6000433a
open Go.RowKit Go.Proofs.Qxb6000433a.BitPlain

theorem ws4 {a0 a1 a2 a3 : Int} (h0 : W a0) (h1 : W a1) (h2 : W a2) (h3 : W a3) : Ws [a0, a1, a2, a3] := by
  intro x hx
  simp at hx
  rcases hx with rfl | rfl | rfl | rfl <;> assumption
theorem gb4 (o0 o1 o2 o3 : Int) (l : Nat) : gb [o0, o1, o2, o3] (l : Int) = tb ([o0, o1, o2, o3].getD (l / 64) 0) (l % 64) := by
  unfold gb
  have e1 : (l : Int) / 64 = ((l / 64 : Nat) : Int) := by omega
  have e2 : ((l : Int) % 64).toNat = l % 64 := by omega
  rw [e1, e2, wd_nat]
theorem gb_neg (ws : List Int) (i : Int) (h : i < 0) : gb ws i = false := by
  unfold gb
  rw [wd_out (.inl (by omega)), tb_zero]
theorem shift_spec {ws : List Int} {k : Nat} {o0 o1 o2 o3 : Int} (h0 : At ws (64 * 0 - k) o0) (h1 : At ws (64 * 1 - k) o1) (h2 : At ws (64 * 2 - k) o2) (h3 : At ws (64 * 3 - k) o3) :
    Ws [o0, o1, o2, o3] ∧ ∀ l : Nat, l < 256 → gb [o0, o1, o2, o3] (l : Int) = (decide (k ≤ l) && gb ws ((l : Int) - k)) := by
  refine ⟨ws4 h0.1 h1.1 h2.1 h3.1, fun l hl => ?_⟩
  have key : gb [o0, o1, o2, o3] (l : Int) = gb ws ((l : Int) - k) := by
    rw [gb4]
    have hq : l / 64 = 0 ∨ l / 64 = 1 ∨ l / 64 = 2 ∨ l / 64 = 3 := by omega
    rcases hq with e | e | e | e
    · rw [e]; refine (h0.2 (l % 64) (by omega)).trans ?_; congr 1; omega
    · rw [e]; refine (h1.2 (l % 64) (by omega)).trans ?_; congr 1; omega
    · rw [e]; refine (h2.2 (l % 64) (by omega)).trans ?_; congr 1; omega
    · rw [e]; refine (h3.2 (l % 64) (by omega)).trans ?_; congr 1; omega
  rw [key]
  by_cases e : k ≤ l
  · simp [e]
  · rw [gb_neg _ _ (by omega)]; simp
section
variable {ws : List Int} (hw : Ws ws)
include hw
/-- A whole word. -/
theorem at_word (j i : Int) (hi : i = 64 * j) : At ws i (IntKind.u64.wrap (wd ws j)) := by
  have h := at_low j 0 (by omega) (by omega) hw (.inl rfl) (i := i)
  simp at h
  have hx := w_wd hw j
  have e : IntKind.u64.wrap (wd ws j) = wd ws j := by
    rw [IntKind.wrap_u64]
    obtain ⟨h1, h2⟩ := hx
    omega
  rw [e]; exact h
theorem at_two (j i : Int) (r : Nat) (hr : 0 < r) (hr2 : r < 64) (hi : i = 64 * j - r) : At ws i (bits .or .u64 (IntKind.u64.wrap (wd ws j * 2 ^ r)) (wd ws (j - 1) / 2 ^ (64 - r))) := by
  have h1 := w_shr (w_wd hw (j - 1)) (64 - r)
  have h2 := w_shl (w_wd hw j) r
  have h3 := w_or h2.1 h1.1
  refine at_of (j - 1) (64 - r) (by omega) (by omega) h3.1 (fun t ht => ?_) hw
  rw [h3.2, h1.2, h2.2, show j - 1 + 1 = j by omega, show 64 - (64 - r) = r by omega, Bool.or_comm]
  simp [ht]
theorem at_first (i : Int) (r : Nat) (hr : 0 < r) (hr2 : r < 64) (hi : i = - r) : At ws i (IntKind.u64.wrap (wd ws 0 * 2 ^ r)) := by
  have h2 := w_shl (w_wd hw 0) r
  refine at_of (-1) (64 - r) (by omega) (by omega) h2.1 (fun t ht => ?_) hw
  rw [h2.2, show (-1 : Int) + 1 = 0 by omega, show 64 - (64 - r) = r by omega, wd_out (ws := ws) (q := -1) (.inl (by omega)), tb_zero]
  simp [ht]
omit hw in
theorem at_neg (i : Int) (hi : i ≤ -64) : At ws i 0 := ⟨w_zero, fun t ht => by rw [tb_zero, gb_neg _ _ (by omega)]⟩
end
end Go.Proofs.Qxb6000433a
