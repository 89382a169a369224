/-
  THE PLAIN LAW of 'FnHomogeneousSpec': the one-pass reading and the pairwise reading of a list of kinds answer alike. No Go here.
-/
namespace Go.Proofs.Qxb6602343a.HomPlain

/-- The one pass: 'e' is the kind met so far (0: none yet). -/
def hom : Int → List Int → Bool
  | _, [] => true
  | e, z :: r => if z = 0 then hom e r else if z = 6 ∨ z = 7 then false else if e = 0 then hom z r else if z = e then hom e r else false

/-- No array and no map among them. -/
def flat : List Int → Bool
  | [] => true
  | z :: r => if z = 6 ∨ z = 7 then false else flat r

/-- Each of them is empty or of kind a. -/
def near (a : Int) : List Int → Bool
  | [] => true
  | z :: r => if z ≠ 0 ∧ z ≠ a then false else near a r

/-- Pair by pair. -/
def pairs : List Int → Bool
  | [] => true
  | z :: r => if z = 0 then pairs r else if near z r = true then pairs r else false

theorem pairs_of_near {a : Int} (l : List Int) (h : near a l = true) : pairs l = true := by
  induction l with
  | nil => rfl
  | cons z r ih =>
    unfold near at h
    split at h
    · cases h
    · next hz =>
      unfold pairs
      by_cases h0 : z = 0
      · rw [if_pos h0]; exact ih h
      · have : z = a := by
          by_cases e : z = a
          · exact e
          · exact absurd ⟨h0, e⟩ hz
        subst this
        rw [if_neg h0, if_pos h]; exact ih h

theorem hom_some (e : Int) (he : e ≠ 0) (l : List Int) : hom e l = (flat l && near e l) := by
  induction l with
  | nil => rfl
  | cons z r ih =>
    unfold hom flat near
    by_cases h0 : z = 0
    · subst h0; simp [ih]
    · by_cases h6 : z = 6 ∨ z = 7
      · simp [h0, h6]
      · by_cases hz : z = e
        · subst hz; simp [h0, h6, ih]
        · simp [h0, h6, he, hz]

theorem hom_none (l : List Int) : hom 0 l = (flat l && pairs l) := by
  induction l with
  | nil => rfl
  | cons z r ih =>
    unfold hom flat pairs
    by_cases h0 : z = 0
    · subst h0; simp [ih]
    · by_cases h6 : z = 6 ∨ z = 7
      · simp [h0, h6]
      · rw [if_neg h0, if_neg h6, if_pos rfl, if_neg h6, if_neg h0, hom_some z h0]
        by_cases hn : near z r = true
        · rw [if_pos hn, hn, pairs_of_near r hn]
        · rw [if_neg hn]; simp only [Bool.not_eq_true] at hn; rw [hn]

/-- What 'homogeneous' answers. -/
def homB (kind : Int) (l : List Int) : Bool := if kind = 6 then hom 0 l else true
/-- What 'zzAllowed' answers. -/
def allB (kind : Int) (l : List Int) : Bool := if kind = 6 then (flat l && pairs l) else true

theorem same (kind : Int) (l : List Int) : homB kind l = allB kind l := by
  unfold homB allB; rw [hom_none]

theorem drop_cons (l : List Int) (k : Nat) (h : k < l.length) : l.drop k = l.getD k 0 :: l.drop (k + 1) := by
  rw [List.drop_eq_getElem_cons h]; simp [List.getD, h]

theorem hom_zero {e z : Int} {r : List Int} (h : z = 0) : hom e (z :: r) = hom e r := by subst h; simp [hom]
theorem hom_bad {e z : Int} {r : List Int} (h0 : z ≠ 0) (h : z = 6 ∨ z = 7) : hom e (z :: r) = false := by simp [hom, h0, h]
theorem hom_first {e z : Int} {r : List Int} (h0 : z ≠ 0) (h6 : z ≠ 6) (h7 : z ≠ 7) (he : e = 0) : hom e (z :: r) = hom z r := by simp [hom, h0, h6, h7, he]
theorem hom_same {e z : Int} {r : List Int} (h0 : z ≠ 0) (h6 : z ≠ 6) (h7 : z ≠ 7) (he : e ≠ 0) (hz : z = e) : hom e (z :: r) = hom e r := by subst hz; simp [hom, h0, h6, h7]
theorem hom_other {e z : Int} {r : List Int} (h0 : z ≠ 0) (h6 : z ≠ 6) (h7 : z ≠ 7) (he : e ≠ 0) (hz : z ≠ e) : hom e (z :: r) = false := by simp [hom, h0, h6, h7, he, hz]

theorem flat_bad {z : Int} {r : List Int} (h : z = 6 ∨ z = 7) : flat (z :: r) = false := by simp [flat, h]
theorem flat_go {z : Int} {r : List Int} (h6 : z ≠ 6) (h7 : z ≠ 7) : flat (z :: r) = flat r := by simp [flat, h6, h7]
theorem near_bad {a z : Int} {r : List Int} (h0 : z ≠ 0) (ha : z ≠ a) : near a (z :: r) = false := by simp [near, h0, ha]
theorem near_go {a z : Int} {r : List Int} (h : z = 0 ∨ z = a) : near a (z :: r) = near a r := by rcases h with h | h <;> simp [near, h]
theorem pairs_zero {z : Int} {r : List Int} (h : z = 0) : pairs (z :: r) = pairs r := by simp [pairs, h]
theorem pairs_go {z : Int} {r : List Int} (h0 : z ≠ 0) (h : near z r = true) : pairs (z :: r) = pairs r := by simp [pairs, h0, h]
theorem pairs_bad {z : Int} {r : List Int} (h0 : z ≠ 0) (h : near z r = false) : pairs (z :: r) = false := by simp [pairs, h0, h]
end Go.Proofs.Qxb6602343a.HomPlain
