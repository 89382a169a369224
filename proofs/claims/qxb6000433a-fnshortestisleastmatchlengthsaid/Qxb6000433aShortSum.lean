/-
  'lsum'.
-/
import Derived.Test.Qxb6000433aShortShift3
import Derived.Deep.RegionWith
namespace Go.Proofs.Qxb6000433a
open Go.RowKit Go.Proofs.Qxb6000433a.BitPlain

def A4 (w : World) (b : Nat) (x0 x1 x2 x3 : Int) : Prop := w.heap[b]? = some (.cells #[.int .u64 x0, .int .u64 x1, .int .u64 x2, .int .u64 x3] 38 (0, 0))
theorem A4.cell {w : World} {b : Nat} {x0 x1 x2 x3 : Int} (h : A4 w b x0 x1 x2 x3) : w.cell? ⟨b, 0, none⟩ = some (.int .u64 x0) ∧ w.cell? ⟨b, 1, none⟩ = some (.int .u64 x1) ∧ w.cell? ⟨b, 2, none⟩ = some (.int .u64 x2) ∧ w.cell? ⟨b, 3, none⟩ = some (.int .u64 x3) := by
  refine ⟨?_, ?_, ?_, ?_⟩ <;> (unfold World.cell?; dsimp only; rw [h]; rfl)
theorem A4.free {w : World} {b : Nat} {x0 x1 x2 x3 : Int} (h : A4 w b x0 x1 x2 x3) (j : Nat) : w.frozen? ⟨b, j, none⟩ = false := by
  unfold A4 at h; simp [World.frozen?, h]
theorem A4.block {w w' : World} {b : Nat} {x0 x1 x2 x3 : Int} (h : A4 w b x0 x1 x2 x3) (hb : w'.heap[b]? = w.heap[b]?) : A4 w' b x0 x1 x2 x3 := hb.trans h
theorem A4.lt {w : World} {b : Nat} {x0 x1 x2 x3 : Int} (h : A4 w b x0 x1 x2 x3) : b < w.heap.size := lt_of_block h
def put4 (w : World) (b : Nat) (y0 y1 y2 y3 : Int) : World := (((w.setCell ⟨b, 0, none⟩ (.int .u64 y0)).setCell ⟨b, 1, none⟩ (.int .u64 y1)).setCell ⟨b, 2, none⟩ (.int .u64 y2)).setCell ⟨b, 3, none⟩ (.int .u64 y3)
theorem A4.put {w : World} {b : Nat} {x0 x1 x2 x3 : Int} (h : A4 w b x0 x1 x2 x3) (y0 y1 y2 y3 : Int) : A4 (put4 w b y0 y1 y2 y3) b y0 y1 y2 y3 := by
  unfold A4 put4 at *
  have h1 := set_block (k := 0) (u := .int .u64 y0) h
  simp only [List.setIfInBounds_toArray, List.set_cons_zero] at h1
  have h2 := set_block (k := 1) (u := .int .u64 y1) h1
  simp only [List.setIfInBounds_toArray, List.set_cons_zero, List.set_cons_succ] at h2
  have h3 := set_block (k := 2) (u := .int .u64 y2) h2
  simp only [List.setIfInBounds_toArray, List.set_cons_zero, List.set_cons_succ] at h3
  have h4 := set_block (k := 3) (u := .int .u64 y3) h3
  simp only [List.setIfInBounds_toArray, List.set_cons_zero, List.set_cons_succ] at h4
  exact h4
theorem put4_block {w : World} {b c : Nat} (y0 y1 y2 y3 : Int) (h : c ≠ b) : (put4 w b y0 y1 y2 y3).heap[c]? = w.heap[c]? := by
  unfold put4
  rw [Below.heap_setCell _ _ _ _ h, Below.heap_setCell _ _ _ _ h, Below.heap_setCell _ _ _ _ h, Below.heap_setCell _ _ _ _ h]
theorem put4_below {w0 w : World} {b B : Nat} (h : Below B w0 w) (hb : B ≤ b) (y0 y1 y2 y3 : Int) : Below B w0 (put4 w b y0 y1 y2 y3) := by
  unfold put4
  exact (((h.setCell hb _).setCell hb _).setCell hb _).setCell hb _
theorem A4.drew {w : World} {b : Nat} {x0 x1 x2 x3 : Int} (h : A4 w b x0 x1 x2 x3) : A4 w.drew b x0 x1 x2 x3 := h
end Go.Proofs.Qxb6000433a
