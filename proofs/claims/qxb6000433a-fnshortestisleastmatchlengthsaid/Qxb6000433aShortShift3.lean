/-
  'lshift', one contract.
-/
import Derived.Test.Qxb6000433aShortShift2
namespace Go.Proofs.Qxb6000433a
open Go.RowKit Go.Proofs.Qxb6000433a.BitPlain

theorem lshift44 (a0 a1 a2 a3 : Int) (k : Nat) (hk : k < 256) (hw : Ws [a0, a1, a2, a3]) (w : World) : Calls Try.prog 44 #[ag a0 a1 a2 a3, .int .i64 (k : Int)] w fun e w' => ∃ o0 o1 o2 o3, e = .returned (ag o0 o1 o2 o3) ∧ Ws [o0, o1, o2, o3] ∧ (∀ l : Nat, l < 256 → gb [o0, o1, o2, o3] (l : Int) = (decide (k ≤ l) && gb [a0, a1, a2, a3] ((l : Int) - k))) ∧ Below w.heap.size w w' := by
  obtain ⟨r, hr⟩ : ∃ r, k % 64 = r := ⟨_, rfl⟩
  have hr64 : r < 64 := by omega
  have hb : bits .and .i64 (k : Int) 63 = (r : Int) := by rw [and63]; omega
  have hwr : IntKind.u64.wrap (r : Int) = (r : Int) := by rw [IntKind.wrap_u64]; omega
  have hq : k / 64 = 0 ∨ k / 64 = 1 ∨ k / 64 = 2 ∨ k / 64 = 3 := by omega
  rcases hq with hq | hq | hq | hq
  · by_cases h0 : r = 0
    · refine (lshift_00 a0 a1 a2 a3 k r (by omega) hb hwr hr64 h0 w).mono ?_
      rintro e w' ⟨rfl, hbel⟩
      obtain ⟨s1, s2⟩ := shift_spec (k := k) (at_word hw 0 _ (by omega)) (at_word hw 1 _ (by omega)) (at_word hw 2 _ (by omega)) (at_word hw 3 _ (by omega))
      exact ⟨_, _, _, _, rfl, s1, s2, hbel⟩
    · refine (lshift_01 a0 a1 a2 a3 k r (by omega) hb hwr hr64 (by omega) w).mono ?_
      rintro e w' ⟨rfl, hbel⟩
      obtain ⟨s1, s2⟩ := shift_spec (k := k) (at_first hw _ r (by omega) hr64 (by omega)) (at_two hw 1 _ r (by omega) hr64 (by omega)) (at_two hw 2 _ r (by omega) hr64 (by omega)) (at_two hw 3 _ r (by omega) hr64 (by omega))
      exact ⟨_, _, _, _, rfl, s1, s2, hbel⟩
  · by_cases h0 : r = 0
    · refine (lshift_10 a0 a1 a2 a3 k r (by omega) hb hwr hr64 h0 w).mono ?_
      rintro e w' ⟨rfl, hbel⟩
      obtain ⟨s1, s2⟩ := shift_spec (k := k) (at_neg _ (by omega)) (at_word hw 0 _ (by omega)) (at_word hw 1 _ (by omega)) (at_word hw 2 _ (by omega))
      exact ⟨_, _, _, _, rfl, s1, s2, hbel⟩
    · refine (lshift_11 a0 a1 a2 a3 k r (by omega) hb hwr hr64 (by omega) w).mono ?_
      rintro e w' ⟨rfl, hbel⟩
      obtain ⟨s1, s2⟩ := shift_spec (k := k) (at_neg _ (by omega)) (at_first hw _ r (by omega) hr64 (by omega)) (at_two hw 1 _ r (by omega) hr64 (by omega)) (at_two hw 2 _ r (by omega) hr64 (by omega))
      exact ⟨_, _, _, _, rfl, s1, s2, hbel⟩
  · by_cases h0 : r = 0
    · refine (lshift_20 a0 a1 a2 a3 k r (by omega) hb hwr hr64 h0 w).mono ?_
      rintro e w' ⟨rfl, hbel⟩
      obtain ⟨s1, s2⟩ := shift_spec (k := k) (at_neg _ (by omega)) (at_neg _ (by omega)) (at_word hw 0 _ (by omega)) (at_word hw 1 _ (by omega))
      exact ⟨_, _, _, _, rfl, s1, s2, hbel⟩
    · refine (lshift_21 a0 a1 a2 a3 k r (by omega) hb hwr hr64 (by omega) w).mono ?_
      rintro e w' ⟨rfl, hbel⟩
      obtain ⟨s1, s2⟩ := shift_spec (k := k) (at_neg _ (by omega)) (at_neg _ (by omega)) (at_first hw _ r (by omega) hr64 (by omega)) (at_two hw 1 _ r (by omega) hr64 (by omega))
      exact ⟨_, _, _, _, rfl, s1, s2, hbel⟩
  · by_cases h0 : r = 0
    · refine (lshift_30 a0 a1 a2 a3 k r (by omega) hb hwr hr64 h0 w).mono ?_
      rintro e w' ⟨rfl, hbel⟩
      obtain ⟨s1, s2⟩ := shift_spec (k := k) (at_neg _ (by omega)) (at_neg _ (by omega)) (at_neg _ (by omega)) (at_word hw 0 _ (by omega))
      exact ⟨_, _, _, _, rfl, s1, s2, hbel⟩
    · refine (lshift_31 a0 a1 a2 a3 k r (by omega) hb hwr hr64 (by omega) w).mono ?_
      rintro e w' ⟨rfl, hbel⟩
      obtain ⟨s1, s2⟩ := shift_spec (k := k) (at_neg _ (by omega)) (at_neg _ (by omega)) (at_neg _ (by omega)) (at_first hw _ r (by omega) hr64 (by omega))
      exact ⟨_, _, _, _, rfl, s1, s2, hbel⟩
end Go.Proofs.Qxb6000433a
