/-
  'build' at the empty script.
-/
import Derived.Test.Qxb6000433aTreeBuildL
namespace Go.Proofs.Qxb6000433a
open Go.RowKit

set_option maxHeartbeats 1000000 in
theorem build12_nil (ao : Option Addr) (c : Nat) (w : World) :
    Calls Try.prog 12 #[.slice ao 0 c, .bool false] w fun e w' => e = .returned (.tuple #[.agg #[.slice none 0 0, .slice none 0 0, .slice none 0 0, .slice none 0 0, .slice none 0 0, .slice none 0 0, .slice none 0 0, .slice none 0 0, .slice none 0 0], .bool false]) ∧ Below w.heap.size w w' := by
  go_enter Try.func12, Try.ntmps12
  go_wp2
  obtain ⟨w0, hw0⟩ : ∃ w0, w0 = (w.alloc zO).alloc zO := ⟨_, rfl⟩
  have ht0 : Tree w0 (w.heap.size + 1) (w.heap.size + 2) (fun _ => .slice none 0 0) [] := by
    have := tree_new (w.alloc zO)
    rw [← hw0] at this
    simpa using this
  have hb0 : Below w.heap.size w w0 := by rw [hw0]; exact ((Below.refl _ _).alloc (Nat.le_refl _) _).alloc (by simp) _
  have hob : w0.heap[w.heap.size]? = some zO := by rw [hw0, Below.heap_alloc _ _ _ (by simp)]; exact heap_alloc_new w _
  have hwx : (w.alloc zO).alloc zO = w0 := hw0.symm
  unfold zO at hwx
  rw [hwx]
  clear hwx hw0
  have t0 : w0.cell? ⟨w.heap.size + 1, 0, none⟩ = some (.slice none 0 0) := ht0.cell 0 (by omega)
  have t1 : w0.cell? ⟨w.heap.size + 1, 1, none⟩ = some (.slice none 0 0) := ht0.cell 1 (by omega)
  have t2 : w0.cell? ⟨w.heap.size + 1, 2, none⟩ = some (.slice none 0 0) := ht0.cell 2 (by omega)
  have t3 : w0.cell? ⟨w.heap.size + 1, 3, none⟩ = some (.slice none 0 0) := ht0.cell 3 (by omega)
  have t4 : w0.cell? ⟨w.heap.size + 1, 4, none⟩ = some (.slice none 0 0) := ht0.cell 4 (by omega)
  have t5 : w0.cell? ⟨w.heap.size + 1, 5, none⟩ = some (.slice none 0 0) := ht0.cell 5 (by omega)
  have t6 : w0.cell? ⟨w.heap.size + 1, 6, none⟩ = some (.slice none 0 0) := ht0.cell 6 (by omega)
  have t7 : w0.cell? ⟨w.heap.size + 1, 7, none⟩ = some (.slice none 0 0) := ht0.cell 7 (by omega)
  have t8 : w0.cell? ⟨w.heap.size + 1, 8, none⟩ = some (.slice none 0 0) := ht0.cell 8 (by omega)
  have d0 := cellz hob 0 (by omega)
  have f0 := freez hob 0
  have d1 := cellz hob 1 (by omega)
  have f1 := freez hob 1
  have d2 := cellz hob 2 (by omega)
  have f2 := freez hob 2
  have d3 := cellz hob 3 (by omega)
  have f3 := freez hob 3
  have d4 := cellz hob 4 (by omega)
  have f4 := freez hob 4
  have d5 := cellz hob 5 (by omega)
  have f5 := freez hob 5
  have d6 := cellz hob 6 (by omega)
  have f6 := freez hob 6
  have d7 := cellz hob 7 (by omega)
  have f7 := freez hob 7
  have d8 := cellz hob 8 (by omega)
  have f8 := freez hob 8
  clear ht0
  refine wp_loop_rounds 1 ?_
  rw [rounds_succ]
  set_option maxRecDepth 20000 in
  go_wp2
  have eW := put9_spell (w := w0) (b := w.heap.size) (v := fun _ => .slice none 0 0) (a0 := .slice none 0 0) (a1 := .slice none 0 0) (a2 := .slice none 0 0) (a3 := .slice none 0 0) (a4 := .slice none 0 0) (a5 := .slice none 0 0) (a6 := .slice none 0 0) (a7 := .slice none 0 0) (a8 := .slice none 0 0) rfl rfl rfl rfl rfl rfl rfl rfl rfl
  rw [← eW]
  have g0 : (put9 w0 w.heap.size (fun _ => .slice none 0 0)).cell? ⟨w.heap.size, 0, none⟩ = some (.slice none 0 0) := put9_cell _ hob 0 (by omega)
  have g1 : (put9 w0 w.heap.size (fun _ => .slice none 0 0)).cell? ⟨w.heap.size, 1, none⟩ = some (.slice none 0 0) := put9_cell _ hob 1 (by omega)
  have g2 : (put9 w0 w.heap.size (fun _ => .slice none 0 0)).cell? ⟨w.heap.size, 2, none⟩ = some (.slice none 0 0) := put9_cell _ hob 2 (by omega)
  have g3 : (put9 w0 w.heap.size (fun _ => .slice none 0 0)).cell? ⟨w.heap.size, 3, none⟩ = some (.slice none 0 0) := put9_cell _ hob 3 (by omega)
  have g4 : (put9 w0 w.heap.size (fun _ => .slice none 0 0)).cell? ⟨w.heap.size, 4, none⟩ = some (.slice none 0 0) := put9_cell _ hob 4 (by omega)
  have g5 : (put9 w0 w.heap.size (fun _ => .slice none 0 0)).cell? ⟨w.heap.size, 5, none⟩ = some (.slice none 0 0) := put9_cell _ hob 5 (by omega)
  have g6 : (put9 w0 w.heap.size (fun _ => .slice none 0 0)).cell? ⟨w.heap.size, 6, none⟩ = some (.slice none 0 0) := put9_cell _ hob 6 (by omega)
  have g7 : (put9 w0 w.heap.size (fun _ => .slice none 0 0)).cell? ⟨w.heap.size, 7, none⟩ = some (.slice none 0 0) := put9_cell _ hob 7 (by omega)
  have g8 : (put9 w0 w.heap.size (fun _ => .slice none 0 0)).cell? ⟨w.heap.size, 8, none⟩ = some (.slice none 0 0) := put9_cell _ hob 8 (by omega)
  have hbn : Below w.heap.size w (put9 w0 w.heap.size (fun _ => .slice none 0 0)) := put9_below _ hb0 (Nat.le_refl _)
  clear eW
  generalize put9 w0 w.heap.size (fun _ => .slice none 0 0) = W at g0 g1 g2 g3 g4 g5 g6 g7 g8 hbn ⊢
  refine bodyPost_ret (v := .tuple #[.agg #[.slice none 0 0, .slice none 0 0, .slice none 0 0, .slice none 0 0, .slice none 0 0, .slice none 0 0, .slice none 0 0, .slice none 0 0, .slice none 0 0], .bool false]) (by simp [results, Try.results12, go_sem, g0, g1, g2, g3, g4, g5, g6, g7, g8]) rfl ⟨rfl, hbn⟩
end Go.Proofs.Qxb6000433a
