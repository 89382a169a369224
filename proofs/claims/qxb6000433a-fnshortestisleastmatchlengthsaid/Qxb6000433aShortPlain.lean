/-
  THE PLAIN SIDE OF 'shortest': the least length of each node; sets of lengths known by their least member.
-/
import Derived.Test.Qxb6000433aTreeForest
import Derived.Test.Qxb6000433aBitLists
namespace Go.Proofs.Qxb6000433a
open Go.Proofs.Qxb6000433a.BitPlain

def sumU (u : Nat → Nat) : List Nat → Nat
  | [] => 0
  | c :: r => u c + sumU u r
def minU (u : Nat → Nat) : List Nat → Nat
  | [] => 1099511627776
  | c :: r => min (u c) (minU u r)
/-- The least length that a node matches, out of its children's. -/
def nval (d : Nd) (ks : List Nat) (u : Nat → Nat) : Nat :=
  if d.kind = 0 then (d.exitLo - d.lo + 1).toNat
  else if d.kind = 2 then sumU u ks
  else if d.kind = 3 then minU u ks
  else if d.kind = 4 then d.mn.toNat * sumU u ks
  else 0
def uL (ns : List Nd) (kids : Nat → List Nat) : Nat → List Nat
  | 0 => []
  | k + 1 => uL ns kids k ++ [nval (nodeAt ns k) (kids k) (fun c => (uL ns kids k).getD c 0)]
theorem uL_len (ns : List Nd) (kids : Nat → List Nat) : ∀ k, (uL ns kids k).length = k
  | 0 => rfl
  | k + 1 => by rw [uL, List.length_append, uL_len ns kids k]; rfl
/-- The least length of a node. -/
def U (ns : List Nd) (kids : Nat → List Nat) (v : Nat) : Nat := (uL ns kids (v + 1)).getD v 0
theorem uL_get (ns : List Nd) (kids : Nat → List Nat) (v : Nat) : ∀ k, v < k → (uL ns kids k).getD v 0 = U ns kids v
  | 0, h => by omega
  | k + 1, h => by
    by_cases e : v = k
    · subst e; rfl
    · rw [uL]
      have hl := uL_len ns kids k
      have : (uL ns kids k ++ [nval (nodeAt ns k) (kids k) (fun c => (uL ns kids k).getD c 0)]).getD v 0 = (uL ns kids k).getD v 0 := by
        simp only [List.getD]; rw [List.getElem?_append_left (by omega)]
      rw [this]; exact uL_get ns kids v k (by omega)
theorem sumU_congr {u u' : Nat → Nat} : ∀ ks : List Nat, (∀ c ∈ ks, u c = u' c) → sumU u ks = sumU u' ks
  | [], _ => rfl
  | c :: r, h => by rw [sumU, sumU, h c (List.mem_cons_self ..), sumU_congr r (fun x hx => h x (List.mem_cons_of_mem _ hx))]
theorem minU_congr {u u' : Nat → Nat} : ∀ ks : List Nat, (∀ c ∈ ks, u c = u' c) → minU u ks = minU u' ks
  | [], _ => rfl
  | c :: r, h => by rw [minU, minU, h c (List.mem_cons_self ..), minU_congr r (fun x hx => h x (List.mem_cons_of_mem _ hx))]
theorem U_eq {ns : List Nd} {kids : Nat → List Nat} (hl : ∀ v, v < ns.length → ∀ c ∈ kids v, c < v) (v : Nat) (hv : v < ns.length) : U ns kids v = nval (nodeAt ns v) (kids v) (U ns kids) := by
  have h1 : U ns kids v = nval (nodeAt ns v) (kids v) (fun c => (uL ns kids v).getD c 0) := by
    unfold U
    rw [uL]
    have := uL_len ns kids v
    simp only [List.getD]; rw [List.getElem?_append_right (by omega)]
    simp [this]
  rw [h1]
  have hc : ∀ c ∈ kids v, (uL ns kids v).getD c 0 = U ns kids c := fun c hc => uL_get ns kids c v (hl v hv c hc)
  unfold nval
  rw [sumU_congr _ hc, minU_congr _ hc]
theorem sumU_app (u : Nat → Nat) : ∀ a b : List Nat, sumU u (a ++ b) = sumU u a + sumU u b
  | [], b => by simp [sumU]
  | c :: r, b => by rw [List.cons_append, sumU, sumU, sumU_app u r b]; omega
theorem minU_app (u : Nat → Nat) : ∀ a b : List Nat, minU u (a ++ b) = min (minU u a) (minU u b)
  | [], [] => by simp [minU]
  | [], c :: r => by
    have h : minU u (c :: r) ≤ 1099511627776 := by
      have : ∀ l : List Nat, minU u l ≤ 1099511627776 := by
        intro l
        induction l with
        | nil => exact Nat.le_refl _
        | cons x l ih => rw [minU]; omega
      exact this _
    show minU u (c :: r) = min 1099511627776 (minU u (c :: r))
    omega
  | c :: r, b => by rw [List.cons_append, minU, minU, minU_app u r b]; omega

/-! ### sets of lengths -/
/-- Up to x the set holds x alone. -/
def LL (ws : List Int) (x : Nat) : Prop := ∀ l : Nat, l < 256 → l ≤ x → gb ws (l : Int) = decide (l = x)
/-- Four words. -/
def L4 (ws : List Int) : Prop := ws.length = 4 ∧ Ws ws
theorem LL.zero {ws : List Int} (h : ∀ l : Nat, l < 256 → gb ws (l : Int) = false) {x : Nat} (hx : 256 ≤ x) : LL ws x := fun l hl hlx => by rw [h l hl]; simp; omega
theorem LL.or {a b o : List Int} {x y : Nat} (ha : LL a x) (hb : LL b y) (h : ∀ l : Nat, l < 256 → gb o (l : Int) = (gb a (l : Int) || gb b (l : Int))) : LL o (min x y) := fun l hl hlx => by
  rw [h l hl, ha l hl (by omega), hb l hl (by omega)]
  by_cases e1 : l = x
  · simp [e1]; omega
  · by_cases e2 : l = y
    · simp [e2]; omega
    · simp [e1, e2]; omega
/-- The sum set's loop, at J. -/
def LSum (o : List Int) (x y J : Nat) : Prop := ∀ l : Nat, l < 256 → l ≤ x + y → gb o (l : Int) = decide (l = x + y ∧ y < J)
theorem LSum.start {o : List Int} (h : ∀ l : Nat, l < 256 → gb o (l : Int) = false) (x y : Nat) : LSum o x y 0 := fun l hl _ => by rw [h l hl]; simp
theorem LSum.no {o b : List Int} {x y J : Nat} (h : LSum o x y J) (hb : LL b y) (hJ : J < 256) (hbit : gb b (J : Int) = false) : LSum o x y (J + 1) := fun l hl hlx => by
  rw [h l hl hlx]
  have : J ≠ y := fun e => by
    have h9 := hb J hJ (by omega)
    rw [hbit] at h9; simp [e] at h9
  by_cases e : l = x + y
  · simp [e]; omega
  · simp [e]
theorem LSum.yes {o o' a b s : List Int} {x y J : Nat} (h : LSum o x y J) (ha : LL a x) (hb : LL b y) (hJ : J < 256) (hbit : gb b (J : Int) = true) (hs : ∀ l : Nat, l < 256 → gb s (l : Int) = (decide (J ≤ l) && gb a ((l : Int) - J))) (ho : ∀ l : Nat, l < 256 → gb o' (l : Int) = (gb o (l : Int) || gb s (l : Int))) : LSum o' x y (J + 1) := fun l hl hlx => by
  have hJy : y ≤ J := by
    by_cases e : y ≤ J
    · exact e
    · have h9 := hb J hJ (by omega)
      rw [hbit] at h9; simp at h9; omega
  rw [ho l hl, h l hl hlx, hs l hl]
  by_cases e1 : J ≤ l
  · have e2 : ((l : Int) - J) = ((l - J : Nat) : Int) := by omega
    rw [e2, ha (l - J) (by omega) (by omega), Bool.eq_iff_iff]
    simp only [Bool.or_eq_true, Bool.and_eq_true, decide_eq_true_eq]
    omega
  · rw [decide_eq_false e1, Bool.false_and, Bool.or_false, Bool.eq_iff_iff]
    simp only [decide_eq_true_eq]
    omega
theorem LSum.done {o : List Int} {x y : Nat} (h : LSum o x y 256) : LL o (x + y) := fun l hl hlx => by
  rw [h l hl hlx]
  by_cases e : l = x + y
  · simp [e]; omega
  · simp [e]
end Go.Proofs.Qxb6000433a
