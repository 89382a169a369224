/-
  THE PLAIN SIDE OF 'lay': parents, copies, products over the ancestors.
-/
import Derived.Test.Qxb6000433aTreeForest
namespace Go.Proofs.Qxb6000433a

/-- The parent that the loop over the nodes below k has found for c; -1 for none. -/
def parOf (kids : Nat → List Nat) : Nat → Nat → Int
  | 0, _ => -1
  | k + 1, c => if c ∈ kids k then (k : Int) else parOf kids k c
/-- The copies that a repetition holds. -/
def cpn (d : Nd) : Int := if d.mx < 0 then (if d.mn < 1 then 1 else d.mn) else d.mx
def cfn (d : Nd) : Int := if d.kind = 4 then cpn d else 1
def satur : Int := 1099511627776
/-- One step up. -/
def upStep (d : Nd) (m : Int) : Int := if d.kind = 4 then (if m * cpn d > satur then satur else m * cpn d) else m
/-- The walk up to the root. -/
def up (ns : List Nd) (P : Nat → Int) : Nat → Int → Int → Int
  | 0, _, m => m
  | f + 1, a, m => if a < 0 then m else up ns P f (P a.toNat) (upStep (nodeAt ns a.toNat) m)
/-- The product over the ancestors from a on. -/
def anc (ns : List Nd) (P : Nat → Int) : Nat → Int → Int
  | 0, _ => 1
  | f + 1, a => if a < 0 then 1 else cfn (nodeAt ns a.toNat) * anc ns P f (P a.toNat)

theorem parOf_out (kids : Nat → List Nat) (c : Nat) : ∀ k, (∀ v, v < k → c ∉ kids v) → parOf kids k c = -1
  | 0, _ => rfl
  | k + 1, h => by rw [parOf, if_neg (h k (by omega)), parOf_out kids c k (fun v hv => h v (by omega))]
theorem parOf_in (kids : Nat → List Nat) (c v : Nat) (hv : c ∈ kids v) (hone : ∀ k, c ∈ kids k → v = k) : ∀ k, v < k → parOf kids k c = v
  | 0, h => by omega
  | k + 1, h => by
    rw [parOf]
    by_cases e : c ∈ kids k
    · rw [if_pos e, hone k e]
    · rw [if_neg e]
      have : v ≠ k := fun h => e (h ▸ hv)
      exact parOf_in kids c v hv hone k (by omega)

section
variable {ns : List Nd} {kids : Nat → List Nat} {pos : Nat}
/-- The parents of a tree. -/
structure Par (ns : List Nd) (kids : Nat → List Nat) (P : Nat → Int) : Prop where
  kid : ∀ v, v < ns.length → ∀ c ∈ kids v, P c = v
  root : P (ns.length - 1) = -1
  of : ∀ c, c + 1 < ns.length → ∃ v : Nat, P c = v ∧ c < v ∧ v < ns.length ∧ c ∈ kids v
theorem parOf_clip (kids : Nat → List Nat) (c : Nat) : ∀ k, parOf kids k c = -1 ∨ ∃ v : Nat, v < k ∧ parOf kids k c = v ∧ c ∈ kids v
  | 0 => .inl rfl
  | k + 1 => by
    rw [parOf]
    by_cases e : c ∈ kids k
    · rw [if_pos e]; exact .inr ⟨k, by omega, rfl, e⟩
    · rw [if_neg e]
      rcases parOf_clip kids c k with h | ⟨v, h1, h2, h3⟩
      · exact .inl h
      · exact .inr ⟨v, by omega, h2, h3⟩
theorem parOf_found (kids : Nat → List Nat) (c v : Nat) (hv : c ∈ kids v) : ∀ k, v < k → ∃ u : Nat, u < k ∧ parOf kids k c = u ∧ c ∈ kids u
  | 0, h => by omega
  | k + 1, h => by
    rw [parOf]
    by_cases e : c ∈ kids k
    · rw [if_pos e]; exact ⟨k, by omega, rfl, e⟩
    · rw [if_neg e]
      have : v ≠ k := fun h => e (h ▸ hv)
      obtain ⟨u, h1, h2, h3⟩ := parOf_found kids c v hv k (by omega)
      exact ⟨u, by omega, h2, h3⟩
theorem Forest.par (h : Forest ns [ns.length - 1] kids pos) : Par ns kids (parOf kids ns.length) := by
  refine ⟨fun v hv c hc => ?_, ?_, fun c hc => ?_⟩
  · obtain ⟨u, h1, h2, h3⟩ := parOf_found kids c v hc ns.length hv
    rw [h2, h.one u v c h1 hv h3 hc]
  · exact parOf_out kids _ _ (fun v hv => (h.stl _ (by simp)).2.2 v hv)
  · rcases h.all c (by omega) with h1 | ⟨v, h1, h2⟩
    · simp at h1; omega
    · obtain ⟨u, h3, h4, h5⟩ := parOf_found kids c v h2 ns.length h1
      exact ⟨u, h4, h.low u h3 c h5, h3, h5⟩

theorem cpn_bd {d : Nd} {ks : List Nat} (h : NodeOk d ks pos) (h4 : d.kind = 4) : 0 ≤ cpn d ∧ cpn d ≤ 7 := by
  unfold cpn
  rcases h with h | h | h | ⟨_, _, h1, h2, h3⟩
  · omega
  · omega
  · omega
  · split
    · split <;> omega
    · omega
theorem cfn_bd {d : Nd} {ks : List Nat} (h : NodeOk d ks pos) : 0 ≤ cfn d ∧ cfn d ≤ 7 := by
  unfold cfn
  split
  · exact cpn_bd h (by assumption)
  · omega

theorem anc_nonneg (P : Nat → Int) (hok : ∀ v, v < ns.length → NodeOk (nodeAt ns v) (kids v) pos) (hP : ∀ v, v < ns.length → P v < ns.length) : ∀ (f : Nat) (a : Int), a < ns.length → 0 ≤ anc ns P f a
  | 0, _, _ => by simp [anc]
  | f + 1, a, ha => by
    rw [anc]
    by_cases h : a < 0
    · rw [if_pos h]; omega
    · rw [if_neg h]
      have h1 := (cfn_bd (hok a.toNat (by omega))).1
      have h2 := anc_nonneg P hok hP f (P a.toNat) (hP _ (by omega))
      exact Int.mul_nonneg h1 h2

/-- The saturating walk is the product, cut off. -/
theorem up_anc (P : Nat → Int) (hok : ∀ v, v < ns.length → NodeOk (nodeAt ns v) (kids v) pos) (hP : ∀ v, v < ns.length → P v < ns.length) : ∀ (f : Nat) (a m : Int), a < ns.length → 0 ≤ m → m ≤ satur → up ns P f a m = (if m * anc ns P f a > satur then satur else m * anc ns P f a)
  | 0, a, m, _, h0, h1 => by rw [up, anc, Int.mul_one, if_neg (by omega)]
  | f + 1, a, m, ha, h0, h1 => by
    rw [up, anc]
    by_cases h : a < 0
    · rw [if_pos h, if_pos h, Int.mul_one, if_neg (by omega)]
    · rw [if_neg h, if_neg h]
      have hl : a.toNat < ns.length := by omega
      have hnn := anc_nonneg P hok hP f (P a.toNat) (hP _ hl)
      have hcf := cfn_bd (hok a.toNat hl)
      generalize hA : anc ns P f (P a.toNat) = A at hnn
      have hst : 0 ≤ upStep (nodeAt ns a.toNat) m ∧ upStep (nodeAt ns a.toNat) m ≤ satur ∧ (upStep (nodeAt ns a.toNat) m = m * cfn (nodeAt ns a.toNat) ∨ (upStep (nodeAt ns a.toNat) m = satur ∧ m * cfn (nodeAt ns a.toNat) > satur)) := by
        unfold upStep cfn at *
        by_cases h4 : (nodeAt ns a.toNat).kind = 4
        · simp only [if_pos h4] at hcf ⊢
          have := Int.mul_nonneg h0 hcf.1
          by_cases h5 : m * cpn (nodeAt ns a.toNat) > satur
          · rw [if_pos h5]; refine ⟨by unfold satur; omega, Int.le_refl _, .inr ⟨rfl, h5⟩⟩
          · rw [if_neg h5]; exact ⟨this, by omega, .inl rfl⟩
        · simp only [if_neg h4]
          exact ⟨h0, h1, .inl (Int.mul_one m).symm⟩
      rw [up_anc P hok hP f _ _ (hP _ hl) hst.1 hst.2.1, hA]
      generalize cfn (nodeAt ns a.toNat) = cf at hcf hst
      generalize upStep (nodeAt ns a.toNat) m = s at hst
      obtain ⟨hs0, hs1, hs⟩ := hst
      rw [← Int.mul_assoc]
      rcases hs with rfl | ⟨rfl, h5⟩
      · rfl
      · by_cases hA0 : A = 0
        · subst hA0; simp
        · have hA1 : 1 ≤ A := by omega
          have e1 : satur * 1 ≤ satur * A := Int.mul_le_mul_of_nonneg_left hA1 (by unfold satur; omega)
          have e2 : (m * cf) * 1 ≤ (m * cf) * A := Int.mul_le_mul_of_nonneg_left hA1 (by unfold satur at h5; omega)
          rw [Int.mul_one] at e1 e2
          rw [if_pos (show m * cf * A > satur by omega)]
          by_cases h6 : satur * A > satur
          · rw [if_pos h6]
          · rw [if_neg h6]; omega

/-- The fuel does not matter. -/
theorem anc_fuel (P : Nat → Int) (hP : ∀ v : Nat, v < ns.length → P v < 0 ∨ ((v : Int) < P v ∧ P v < ns.length)) : ∀ (f g : Nat) (a : Int), a < ns.length → ns.length ≤ f + a.toNat → ns.length ≤ g + a.toNat → anc ns P f a = anc ns P g a
  | 0, 0, _, _, _, _ => rfl
  | 0, g + 1, a, ha, h1, _ => by
    rw [anc, anc, if_pos (by omega)]
  | f + 1, 0, a, ha, _, h1 => by
    rw [anc, anc, if_pos (by omega)]
  | f + 1, g + 1, a, ha, h1, h2 => by
    rw [anc, anc]
    by_cases h : a < 0
    · rw [if_pos h, if_pos h]
    · rw [if_neg h, if_neg h]
      have hl : a.toNat < ns.length := by omega
      rcases hP a.toNat hl with hp | ⟨hp1, hp2⟩
      · have e : ∀ f, anc ns P f (P a.toNat) = 1 := by
          intro f
          cases f with
          | zero => rfl
          | succ f => rw [anc, if_pos hp]
        rw [e, e]
      · rw [anc_fuel P hP f g (P a.toNat) hp2 (by omega) (by omega)]

/-- The product over a node's repeating ancestors. -/
def prodT (ns : List Nd) (P : Nat → Int) (v : Nat) : Int := anc ns P ns.length (P v)
theorem Par.bd {P : Nat → Int} (h : Par ns kids P) (v : Nat) (hv : v < ns.length) : P v < 0 ∨ ((v : Int) < P v ∧ P v < ns.length) := by
  by_cases e : v + 1 < ns.length
  · obtain ⟨u, h1, h2, h3, _⟩ := h.of v e
    right; rw [h1]; omega
  · have : v = ns.length - 1 := by omega
    left; rw [this, h.root]; omega
theorem Par.lt {P : Nat → Int} (h : Par ns kids P) (v : Nat) (hv : v < ns.length) : P v < ns.length := by
  rcases h.bd v hv with h1 | h1 <;> omega
theorem prodT_root {P : Nat → Int} (h : Par ns kids P) : prodT ns P (ns.length - 1) = 1 := by
  unfold prodT
  rw [h.root]
  cases ns.length with
  | zero => rfl
  | succ f => rw [anc, if_pos (by omega)]
theorem prodT_kid {P : Nat → Int} (h : Par ns kids P) (v : Nat) (hv : v < ns.length) (c : Nat) (hc : c ∈ kids v) : prodT ns P c = prodT ns P v * cfn (nodeAt ns v) := by
  unfold prodT
  rw [h.kid v hv c hc]
  obtain ⟨f, hf⟩ : ∃ f, ns.length = f + 1 := ⟨ns.length - 1, by omega⟩
  have e1 : anc ns P ns.length (v : Int) = cfn (nodeAt ns v) * anc ns P f (P v) := by
    rw [hf, anc, if_neg (by omega)]; simp
  rw [e1, Int.mul_comm]
  congr 1
  rcases h.bd v hv with hp | ⟨hp1, hp2⟩
  · have e : ∀ f, anc ns P f (P v) = 1 := by
      intro f
      cases f with
      | zero => rfl
      | succ f => rw [anc, if_pos hp]
    rw [e, e]
  · exact anc_fuel P h.bd _ _ _ hp2 (by omega) (by omega)
/-- What 'multModel' answers. -/
def multM (ns : List Nd) (P : Nat → Int) (v : Nat) : Int := up ns P ns.length (P v) 1
theorem multM_small (h : Forest ns [ns.length - 1] kids pos) (v : Nat) (hv : v < ns.length) (hm : multM ns (parOf kids ns.length) v ≤ 1048576) : prodT ns (parOf kids ns.length) v = multM ns (parOf kids ns.length) v := by
  have hp := h.par
  unfold multM prodT at *
  rw [up_anc _ h.ok hp.lt _ _ _ (hp.lt v hv) (by omega) (by unfold satur; omega)] at hm ⊢
  rw [Int.one_mul] at *
  split at hm
  · unfold satur at hm; omega
  · rw [if_neg (by assumption)]
theorem prodT_nonneg (h : Forest ns [ns.length - 1] kids pos) (v : Nat) (hv : v < ns.length) : 0 ≤ prodT ns (parOf kids ns.length) v := anc_nonneg _ h.ok h.par.lt _ _ (h.par.lt v hv)
theorem multM_bd (h : Forest ns [ns.length - 1] kids pos) (v : Nat) (hv : v < ns.length) : 0 ≤ multM ns (parOf kids ns.length) v ∧ multM ns (parOf kids ns.length) v ≤ satur := by
  have hp := h.par
  have := prodT_nonneg h v hv
  unfold multM prodT at *
  rw [up_anc _ h.ok hp.lt _ _ _ (hp.lt v hv) (by omega) (by unfold satur; omega), Int.one_mul]
  split
  · unfold satur; omega
  · omega
end
end Go.Proofs.Qxb6000433a
