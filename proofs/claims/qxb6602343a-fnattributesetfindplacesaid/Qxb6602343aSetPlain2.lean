/-
  THE PLAIN LAWS of 'FnAttributeSetFindPlace' and 'FnAttributeSetAddList'. No Go here.
-/
import Derived.Test.Qxb6602343aSetPlain
namespace Go.Proofs.Qxb6602343a.SetPlain

theorem built_step_new (ks : List ByteArray) (j : Nat) (hj : j < ks.length) (h : ix (ks.getD j ByteArray.empty) 0 (ks.take j) = -1) : built ks (j + 1) = built ks j ++ [(ks.getD j ByteArray.empty, j)] := by
  rw [built_succ, grow_new ((built_has _ ks j (by omega)).2 h)]
theorem built_step_old (ks : List ByteArray) (j : Nat) (hj : j < ks.length) (h : ix (ks.getD j ByteArray.empty) 0 (ks.take j) ≠ -1) : built ks (j + 1) = built ks j := by
  rw [built_succ, grow_old (fun e => h ((built_has _ ks j (by omega)).1 e))]

theorem built_prefix (ks : List ByteArray) (j m : Nat) (h : j ≤ m) : ∃ r, built ks m = built ks j ++ r := by
  induction m with
  | zero => exact ⟨[], by rw [show j = 0 by omega]; simp⟩
  | succ m ih =>
    by_cases e : j = m + 1
    · exact ⟨[], by rw [e]; simp⟩
    · obtain ⟨r, hr⟩ := ih (by omega)
      rw [built_succ]
      unfold grow
      split
      · exact ⟨r ++ [(ks.getD m ByteArray.empty, m)], by rw [hr, List.append_assoc]⟩
      · exact ⟨r, hr⟩

/-- The key at a place that is new stands in the set at the place that the set's size told. -/
theorem built_at (ks : List ByteArray) (j n : Nat) (hj : j < n) (hn : n ≤ ks.length) (h : ix (ks.getD j ByteArray.empty) 0 (ks.take j) = -1) : (built ks n)[(built ks j).length]? = some (ks.getD j ByteArray.empty, j) := by
  obtain ⟨r, hr⟩ := built_prefix ks (j + 1) n (by omega)
  rw [hr, built_step_new ks j (by omega) h, List.append_assoc, List.getElem?_append_right (by omega)]
  simp

/-- The first place holds the key, and nothing ahead of it does. -/
theorem ix_first (q : ByteArray) (ks : List ByteArray) (k : Nat) (h : ix q k ks ≠ -1) : ∃ P, ix q k ks = ((k + P : Nat) : Int) ∧ P < ks.length ∧ ks.getD P ByteArray.empty = q ∧ ix q k (ks.take P) = -1 := by
  induction ks generalizing k with
  | nil => exact absurd rfl h
  | cons x r ih =>
    by_cases hx : (x.toList == q.toList) = true
    · exact ⟨0, by rw [ix_hit hx]; simp, by simp, by simp [eq_of_toList hx], rfl⟩
    · have hx : (x.toList == q.toList) = false := by simpa using hx
      rw [ix_miss hx] at h
      obtain ⟨P, h1, h2, h3, h4⟩ := ih (k + 1) h
      refine ⟨P + 1, ?_, by simp; omega, by simpa using h3, ?_⟩
      · rw [ix_miss hx, h1, show k + 1 + P = k + (P + 1) by omega]
      · rw [List.take_succ_cons, ix_miss hx]; exact h4

/-- Where the key came first at place P, the set tells the number of keys that it held before. -/
theorem built_place (q : ByteArray) (ks : List ByteArray) (P : Nat) (hP : P < ks.length) (hq : ks.getD P ByteArray.empty = q) (h : ix q 0 (ks.take P) = -1) : ix q 0 ((built ks ks.length).map Prod.fst) = ((built ks P).length : Int) := by
  obtain ⟨r, hr⟩ := built_prefix ks (P + 1) ks.length (by omega)
  have h0 : ix q 0 ((built ks P).map Prod.fst) = -1 := (built_has q ks P (by omega)).2 h
  have h1 := built_step_new ks P hP (by rw [hq]; exact h)
  rw [hq] at h1
  have h2 : ix q 0 ((built ks (P + 1)).map Prod.fst) = ((built ks P).length : Int) := by
    rw [h1, List.map_append]
    simp only [List.map_cons, List.map_nil]
    rw [ix_snoc_hit q q _ h0 (by simp)]; simp
  rw [hr, List.map_append, ix_append_hit _ _ _ _ (by rw [h2]; omega), h2]

/-- In a set in which no key stands twice each key is found at its own place. -/
theorem dist_ix {ps : List (ByteArray × Nat)} (h : Dist ps) (i : Nat) (p : ByteArray × Nat) (hp : ps[i]? = some p) : ix p.1 0 (ps.map Prod.fst) = (i : Int) := by
  have h1 := h i p hp
  have hi : i < ps.length := by
    rcases Nat.lt_or_ge i ps.length with h2 | h2
    · exact h2
    · rw [List.getElem?_eq_none h2] at hp; cases hp
  have hd : ps = ps.take i ++ p :: ps.drop (i + 1) := by
    have hpe : ps[i] = p := by rw [List.getElem?_eq_getElem hi] at hp; simpa using hp
    rw [← hpe, ← List.drop_eq_getElem_cons hi, List.take_append_drop]
  have hl : ((ps.take i).map Prod.fst).length = i := by simp; omega
  have h3 : ix p.1 0 ((ps.take i ++ p :: ps.drop (i + 1)).map Prod.fst) = (i : Int) := by
    rw [List.map_append, ix_append_miss _ _ _ _ h1, List.map_cons, ix_hit (by simp), hl]; simp
  rw [← hd] at h3
  exact h3
end Go.Proofs.Qxb6602343a.SetPlain
