/-
  THE PLAIN SIDE of the laws on 'AttributeSet': places in lists of keys. No Go here.
-/
import Derived.Laws.Strings
namespace Go.Proofs.Qxb6602343a.SetPlain

/-- The place of the first key that is 's', counted from k; -1 where there is none. -/
def ix (s : ByteArray) : Nat → List ByteArray → Int
  | _, [] => -1
  | k, x :: r => if (x.toList == s.toList) = true then (k : Int) else ix s (k + 1) r

theorem eq_of_toList {a b : ByteArray} (h : (a.toList == b.toList) = true) : a = b := by
  have h1 : a.toList = b.toList := by simpa using h
  rw [ByteArray.toList_eq, ByteArray.toList_eq] at h1
  cases a; cases b
  congr
  exact Array.toList_inj.1 h1

theorem ix_hit {s x : ByteArray} {k : Nat} {r : List ByteArray} (h : (x.toList == s.toList) = true) : ix s k (x :: r) = k := by simp [ix, h]
theorem ix_miss {s x : ByteArray} {k : Nat} {r : List ByteArray} (h : (x.toList == s.toList) = false) : ix s k (x :: r) = ix s (k + 1) r := by simp [ix, h]

theorem ix_bounds (s : ByteArray) (l : List ByteArray) (k : Nat) : ix s k l = -1 ∨ ((k : Int) ≤ ix s k l ∧ ix s k l < k + l.length) := by
  induction l generalizing k with
  | nil => exact .inl rfl
  | cons x r ih =>
    unfold ix
    split
    · right; simp; omega
    · rcases ih (k + 1) with h | ⟨h1, h2⟩
      · exact .inl h
      · right; simp; omega

theorem ix_append_hit (s : ByteArray) (l r : List ByteArray) (k : Nat) (h : ix s k l ≠ -1) : ix s k (l ++ r) = ix s k l := by
  induction l generalizing k with
  | nil => exact absurd rfl h
  | cons x t ih =>
    rw [List.cons_append]
    unfold ix at h ⊢
    split
    · rfl
    · next hx => rw [if_neg hx] at h; exact ih _ h

theorem ix_append_miss (s : ByteArray) (l r : List ByteArray) (k : Nat) (h : ix s k l = -1) : ix s k (l ++ r) = ix s (k + l.length) r := by
  induction l generalizing k with
  | nil => simp
  | cons x t ih =>
    rw [List.cons_append]
    unfold ix at h
    split at h
    · omega
    · next hx =>
      rw [ix_miss (by simpa using hx), ih _ h]
      simp only [List.length_cons]
      rw [show k + 1 + t.length = k + (t.length + 1) by omega]

theorem ix_snoc_hit (s x : ByteArray) (l : List ByteArray) (h : ix s 0 l = -1) (hx : (x.toList == s.toList) = true) : ix s 0 (l ++ [x]) = l.length := by
  rw [ix_append_miss _ _ _ _ h, ix_hit hx]; simp
theorem ix_snoc_miss (s x : ByteArray) (l : List ByteArray) (h : ix s 0 l = -1) (hx : (x.toList == s.toList) = false) : ix s 0 (l ++ [x]) = -1 := by
  rw [ix_append_miss _ _ _ _ h, ix_miss hx]; rfl

theorem ix_neg_of_mem (s : ByteArray) (l : List ByteArray) (k : Nat) : ix s k l = -1 ↔ ∀ x ∈ l, x ≠ s := by
  induction l generalizing k with
  | nil => simp [ix]
  | cons x r ih =>
    unfold ix
    split
    · next h => have := eq_of_toList h; subst this; simp
    · next h =>
      rw [ih]
      simp only [List.mem_cons, forall_eq_or_imp]
      constructor
      · intro hr; exact ⟨fun e => h (by subst e; simp), hr⟩
      · intro hr; exact hr.2

/-- The set after the keys 'ks', the first of which bears number j: each key that is new goes to the end, with its number. -/
def grow (ps : List (ByteArray × Nat)) (x : ByteArray) (j : Nat) : List (ByteArray × Nat) :=
  if ix x 0 (ps.map Prod.fst) = -1 then ps ++ [(x, j)] else ps
def built : List ByteArray → Nat → List (ByteArray × Nat)
  | _, 0 => []
  | ks, j + 1 => grow (built ks j) (ks.getD j ByteArray.empty) j

theorem built_succ (ks : List ByteArray) (j : Nat) : built ks (j + 1) = grow (built ks j) (ks.getD j ByteArray.empty) j := rfl

theorem grow_new {ps : List (ByteArray × Nat)} {x : ByteArray} {j : Nat} (h : ix x 0 (ps.map Prod.fst) = -1) : grow ps x j = ps ++ [(x, j)] := by simp [grow, h]
theorem grow_old {ps : List (ByteArray × Nat)} {x : ByteArray} {j : Nat} (h : ix x 0 (ps.map Prod.fst) ≠ -1) : grow ps x j = ps := by simp [grow, h]

theorem built_len (ks : List ByteArray) (j : Nat) : (built ks j).length ≤ j := by
  induction j with
  | zero => simp [built]
  | succ j ih =>
    rw [built_succ]
    unfold grow
    split
    · simp; omega
    · omega

/-- Every key that has come is in the set, and no other. -/
theorem built_has (s : ByteArray) (ks : List ByteArray) (j : Nat) (hj : j ≤ ks.length) : ix s 0 ((built ks j).map Prod.fst) = -1 ↔ ix s 0 (ks.take j) = -1 := by
  induction j with
  | zero => simp [built, ix]
  | succ j ih =>
    have ih := ih (by omega)
    have ht : ks.take (j + 1) = ks.take j ++ [ks.getD j ByteArray.empty] := by
      rw [List.take_succ_eq_append_getElem (by omega)]; simp [List.getD, show j < ks.length by omega]
    rw [ht, built_succ]
    generalize ks.getD j ByteArray.empty = x
    by_cases hx : ix x 0 ((built ks j).map Prod.fst) = -1
    · rw [grow_new hx, List.map_append]
      by_cases hs : ix s 0 ((built ks j).map Prod.fst) = -1
      · rw [ix_append_miss _ _ _ _ hs, ix_append_miss _ _ _ _ (ih.1 hs)]
        simp only [List.map_cons, List.map_nil]
        by_cases he : (x.toList == s.toList) = true
        · rw [ix_hit he, ix_hit he]; omega
        · rw [ix_miss (by simpa using he), ix_miss (by simpa using he)]; exact Iff.rfl
      · have hs2 : ix s 0 (ks.take j) ≠ -1 := fun e => hs (ih.2 e)
        rw [ix_append_hit _ _ _ _ hs, ix_append_hit _ _ _ _ hs2]; exact ih
    · rw [grow_old hx]
      by_cases hs : ix s 0 ((built ks j).map Prod.fst) = -1
      · have hs2 := ih.1 hs
        rw [ix_append_miss _ _ _ _ hs2]
        have hne : (x.toList == s.toList) = false := by
          cases h : (x.toList == s.toList)
          · rfl
          · exact absurd (eq_of_toList h ▸ hs) hx
        rw [ix_miss hne]
        constructor
        · intro _; rfl
        · intro _; exact hs
      · have hs2 : ix s 0 (ks.take j) ≠ -1 := fun e => hs (ih.2 e)
        rw [ix_append_hit _ _ _ _ hs2]; exact ih

/-- A key that has a place keeps it. -/
theorem grow_keeps (s : ByteArray) (ps : List (ByteArray × Nat)) (x : ByteArray) (j : Nat) (h : ix s 0 (ps.map Prod.fst) ≠ -1) : ix s 0 ((grow ps x j).map Prod.fst) = ix s 0 (ps.map Prod.fst) := by
  unfold grow
  split
  · rw [List.map_append, ix_append_hit _ _ _ _ h]
  · rfl

/-- No key stands twice: the key at each place is not among those ahead of it. -/
def Dist (ps : List (ByteArray × Nat)) : Prop := ∀ i p, ps[i]? = some p → ix p.1 0 ((ps.take i).map Prod.fst) = -1
theorem dist_nil : Dist [] := by intro i p h; simp at h
theorem dist_snoc {ps : List (ByteArray × Nat)} {x : ByteArray} {j : Nat} (h : Dist ps) (hx : ix x 0 (ps.map Prod.fst) = -1) : Dist (ps ++ [(x, j)]) := by
  intro i p hp
  by_cases hi : i < ps.length
  · rw [List.getElem?_append_left hi] at hp
    rw [List.take_append_of_le_length (by omega)]
    exact h i p hp
  · rw [List.getElem?_append_right (by omega)] at hp
    have : i - ps.length = 0 := by
      rcases Nat.eq_zero_or_pos (i - ps.length) with e | e
      · exact e
      · rw [List.getElem?_eq_none (by simp; omega)] at hp; cases hp
    rw [this] at hp
    simp at hp
    subst hp
    have hi2 : i = ps.length := by omega
    subst hi2
    simpa using hx
theorem dist_built (ks : List ByteArray) (j : Nat) : Dist (built ks j) := by
  induction j with
  | zero => exact dist_nil
  | succ j ih =>
    rw [built_succ]
    unfold grow
    split
    · next h => exact dist_snoc ih h
    · exact ih

/-- The keys of the set are keys that came. -/
theorem built_mem (ks : List ByteArray) (j : Nat) (hj : j ≤ ks.length) : ∀ p ∈ built ks j, p.1 ∈ ks ∧ p.2 < j := by
  induction j with
  | zero => intro p hp; simp [built] at hp
  | succ j ih =>
    intro p hp
    rw [built_succ] at hp
    unfold grow at hp
    have hg : ks.getD j ByteArray.empty ∈ ks := by simp [List.getD, show j < ks.length by omega]
    split at hp
    · rcases List.mem_append.1 hp with h | h
      · have := ih (by omega) p h; exact ⟨this.1, by omega⟩
      · simp at h; subst h; exact ⟨hg, by simp⟩
    · have := ih (by omega) p hp; exact ⟨this.1, by omega⟩
end Go.Proofs.Qxb6602343a.SetPlain
