/-
  A row of sets of lengths.
-/
import Derived.Test.Qxb6000433aShortSumA
import Derived.Test.Qxb6000433aLayMult
namespace Go.Proofs.Qxb6000433a
open Go.RowKit Go.Proofs.Qxb6000433a.BitPlain

theorem Try.info38b : (Try.prog.info? 38).map (fun i => (i.zero, i.size, i.bytes)) = some (some (.agg #[.int .u64 0, .int .u64 0, .int .u64 0, .int .u64 0]), 4, 32) := by kernel_rfl

def RowS (w : World) (B g n : Nat) (F : Nat → Nat → Int) : Prop := ∃ xs, w.ownsRow B 38 4 (.slice (some ⟨g, 0, none⟩) n n) n xs ∧ ∀ j, j < n → ∀ k, k < 4 → xs[j * 4 + k]? = some (.int .u64 (F j k))
def fl (F : Nat → Nat → Int) (j : Nat) : List Int := [F j 0, F j 1, F j 2, F j 3]
theorem RowS.cell {w : World} {B g n : Nat} {F : Nat → Nat → Int} (h : RowS w B g n F) (j k : Nat) (hj : j < n) (hk : k < 4) : w.cell? ⟨g, j * 4 + k, none⟩ = some (.int .u64 (F j k)) := by
  obtain ⟨xs, h1, h2⟩ := h
  exact (h1.cellAt _ (by omega)).trans (h2 j hj k hk)
theorem RowS.free {w : World} {B g n : Nat} {F : Nat → Nat → Int} (h : RowS w B g n F) (j : Nat) : w.frozen? ⟨g, j, none⟩ = false := by
  obtain ⟨xs, h1, h2⟩ := h
  exact h1.frozenAt j
theorem RowS.lt {w : World} {B g n : Nat} {F : Nat → Nat → Int} (h : RowS w B g n F) : B ≤ g ∧ g < w.heap.size := by
  obtain ⟨xs, h1, h2⟩ := h
  exact h1.lt g rfl
theorem RowS.block {w w' : World} {B g n : Nat} {F : Nat → Nat → Int} (h : RowS w B g n F) (hb : w'.heap[g]? = w.heap[g]?) : RowS w' B g n F := by
  obtain ⟨xs, h1, h2⟩ := h
  refine ⟨xs, ⟨h1.1, ?_⟩, h2⟩
  rcases h1.2 with ⟨hv, _⟩ | ⟨g', cap', cur, hv, hg, hh, r⟩
  · cases hv
  · have e2 : g = g' := by simp at hv; exact hv.1
    exact Or.inr ⟨g', cap', cur, hv, hg, by rw [← e2, hb, e2]; exact hh, r⟩
theorem RowS.put {w : World} {B g n : Nat} {F : Nat → Nat → Int} (h : RowS w B g n F) (v k : Nat) (x : Int) (hv : v < n) (hk : k < 4) : RowS (w.setCell ⟨g, v * 4 + k, none⟩ (.int .u64 x)) B g n (fun j l => if j = v ∧ l = k then x else F j l) := by
  obtain ⟨xs, h1, h2⟩ := h
  refine ⟨_, (h1.stored _ (.int .u64 x)).1, fun j hj l hl => ?_⟩
  have hxl := h1.1
  dsimp only
  rw [List.getElem?_set]
  by_cases e : j = v ∧ l = k
  · obtain ⟨rfl, rfl⟩ := e
    rw [if_pos rfl, if_pos (by omega), if_pos ⟨rfl, rfl⟩]
  · rw [if_neg e, if_neg (by omega)]; exact h2 j hj l hl
def setF (F : Nat → Nat → Int) (v : Nat) (x0 x1 x2 x3 : Int) (j k : Nat) : Int := if j = v then (if k = 0 then x0 else if k = 1 then x1 else if k = 2 then x2 else x3) else F j k
theorem RowS.congr {w : World} {B g n : Nat} {F G : Nat → Nat → Int} (h : RowS w B g n F) (hf : ∀ j, j < n → ∀ k, k < 4 → G j k = F j k) : RowS w B g n G := by
  obtain ⟨xs, h1, h2⟩ := h
  exact ⟨xs, h1, fun j hj k hk => by rw [hf j hj k hk]; exact h2 j hj k hk⟩
theorem RowS.set4 {w : World} {B g n : Nat} {F : Nat → Nat → Int} (h : RowS w B g n F) (v : Nat) (x0 x1 x2 x3 : Int) (hv : v < n) : RowS ((((w.setCell ⟨g, v * 4, none⟩ (.int .u64 x0)).setCell ⟨g, v * 4 + 1, none⟩ (.int .u64 x1)).setCell ⟨g, v * 4 + 2, none⟩ (.int .u64 x2)).setCell ⟨g, v * 4 + 3, none⟩ (.int .u64 x3)) B g n (setF F v x0 x1 x2 x3) := by
  have h4 := ((((h.put v 0 x0 hv (by omega)).put v 1 x1 hv (by omega)).put v 2 x2 hv (by omega)).put v 3 x3 hv (by omega))
  refine RowS.congr h4 (fun j _ k hk => ?_)
  unfold setF
  by_cases e : j = v
  · subst e
    have hk4 : k = 0 ∨ k = 1 ∨ k = 2 ∨ k = 3 := by omega
    rcases hk4 with rfl | rfl | rfl | rfl <;> simp
  · simp [e]
theorem fl_set_at (F : Nat → Nat → Int) (v : Nat) (x0 x1 x2 x3 : Int) : fl (setF F v x0 x1 x2 x3) v = [x0, x1, x2, x3] := by simp [fl, setF]
theorem fl_set_other (F : Nat → Nat → Int) (v j : Nat) (x0 x1 x2 x3 : Int) (h : j ≠ v) : fl (setF F v x0 x1 x2 x3) j = fl F j := by simp [fl, setF, h]
theorem RowS.made {w : World} {B g n : Nat} (h : w.ownsRow B 38 4 (.slice (some ⟨g, 0, none⟩) n n) n (madeCells (Value.agg #[.int .u64 0, .int .u64 0, .int .u64 0, .int .u64 0]).cells (n * 4)).toList) : RowS w B g n (fun _ _ => 0) := ⟨_, h, fun j hj k hk => by
  have h1 : j * 4 + k < n * 4 := by omega
  have h2 : (Value.agg #[.int .u64 0, .int .u64 0, .int .u64 0, .int .u64 0]).cells = #[.int .u64 0, .int .u64 0, .int .u64 0, .int .u64 0] := by simp [Value.cells]
  rw [h2]
  have h3 : (j * 4 + k) % 4 = k := by omega
  have hk4 : k = 0 ∨ k = 1 ∨ k = 2 ∨ k = 3 := by omega
  simp [madeCells, h1, h3]
  rcases hk4 with rfl | rfl | rfl | rfl <;> rfl⟩
end Go.Proofs.Qxb6000433a
