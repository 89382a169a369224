/-
  'program'.
-/
import Derived.Test.Qxb6000433aTreeProg
namespace Go.Proofs.Qxb6000433a
open Go.RowKit

/-- A Program in memory: its struct in block pb, its nodes in block gn. -/
structure PAt (w : World) (pb gn : Nat) (n : Nat) (xs : List Value) (bits vw : Int) : Prop where
  blk : w.heap[pb]? = some (.cells #[.slice (some ⟨gn, 0, none⟩) n n, .slice none 0 0, .slice none 0 0, .int .i64 bits, .int .i64 vw] 76 (0, 0))
  own : w.ownsRow gn 80 14 (.slice (some ⟨gn, 0, none⟩) n n) n xs
  lt : gn < pb
/-- The tree's struct and its rows, as readers see them. -/
structure Rows9 (w : World) (tb : Nat) (ns : List Nd) : Prop where
  cells : ∃ (g cap : Nat → Nat), (∀ i, i < 9 → w.cell? ⟨tb, i, none⟩ = some (.slice (some ⟨g i, 0, none⟩) ns.length (cap i))) ∧ (∀ i, i < 9 → g i < w.heap.size) ∧ (∀ i j, i < 9 → j < ns.length → w.cell? ⟨g i, j, none⟩ = some (fld i (nodeAt ns j)))
  lt : tb < w.heap.size
theorem Rows9.below {w w' : World} {tb : Nat} {ns : List Nd} {C : Nat} (h : Rows9 w tb ns) (hb : Below C w w') (hC : w.heap.size ≤ C) : Rows9 w' tb ns := by
  obtain ⟨g, cap, h1, h2, h3⟩ := h.cells
  have hs := hb.size
  have := h.lt
  exact ⟨⟨g, cap, fun i hi => (hb.cell (p := ⟨tb, i, none⟩) (by show tb < C; omega)).trans (h1 i hi), fun i hi => by have := h2 i hi; omega, fun i j hi hj => (hb.cell (p := ⟨g i, j, none⟩) (by show g i < C; have := h2 i hi; omega)).trans (h3 i j hi hj)⟩, by omega⟩

set_option maxHeartbeats 1000000 in
theorem program17 (tb : Nat) (ns : List Nd) (hn : ns.length ≤ 65536) (w : World) (hr : Rows9 w tb ns) :
    Calls Try.prog 17 #[.pointer (some ⟨tb, 0, none⟩)] w fun e w' => ∃ pb xs, e = .returned (.pointer (some ⟨pb, 0, none⟩)) ∧ PAt w' pb w.heap.size ns.length xs 0 0 ∧ (∀ i, i < ns.length → Node xs i (nodeAt ns i) y0) ∧ Below w.heap.size w w' := by
  obtain ⟨g, cap, h1, h2, h3⟩ := hr.cells
  have t0 := h1 0 (by omega)
  have t1 := h1 1 (by omega)
  have t2 := h1 2 (by omega)
  have t3 := h1 3 (by omega)
  have t4 := h1 4 (by omega)
  have t5 := h1 5 (by omega)
  have t6 := h1 6 (by omega)
  have t7 := h1 7 (by omega)
  have t8 := h1 8 (by omega)
  have H2 : Hid (∀ i, i < 9 → g i < w.heap.size) := h2
  have H3 : Hid (∀ i j, i < 9 → j < ns.length → w.cell? ⟨g i, j, none⟩ = some (fld i (nodeAt ns j))) := h3
  clear h1 h2 h3 hr
  go_enter Try.func17, Try.ntmps17
  go_wp2
  go_still_tail 36, Try.mixed
  rw [show ({ w with drawn := w.drawn + 1 } : World) = w.drew from rfl]
  go_wp2_with fail
  refine (zzprogram40 (fun i => .slice (some ⟨g i, 0, none⟩) ns.length (cap i)) g cap ns hn w.drew (fun i hi => rfl) H2.out H3.out).mono ?_
  rintro e w1 ⟨pb, xs, rfl, a1, a2, a3, a4, a5⟩
  go_wp2
  go_ret
  exact ⟨pb, xs, rfl, ⟨a2, a3, a1⟩, a4, ⟨a5.os, a5.tape, a5.output, a5.size, a5.block⟩⟩
end Go.Proofs.Qxb6000433a
