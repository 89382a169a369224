/-
  'lay': nodes in memory.
-/
import Derived.Test.Qxb6000433aLayTot
namespace Go.Proofs.Qxb6000433a
open Go.RowKit

def NodesAt (w : World) (gn n : Nat) (ns : List Nd) (Y : Nat → Ly) : Prop := ∃ xs, w.ownsRow gn 80 14 (.slice (some ⟨gn, 0, none⟩) n n) n xs ∧ ∀ i, i < n → Node xs i (nodeAt ns i) (Y i)
section
variable {w : World} {gn n : Nat} {ns : List Nd} {Y : Nat → Ly}
theorem NodesAt.cell (h : NodesAt w gn n ns Y) (i j : Nat) (hi : i < n) (hj : j < 14) : w.cell? ⟨gn, i * 14 + j, none⟩ = (ncells (nodeAt ns i) (Y i))[j]? := by
  obtain ⟨xs, h1, h2⟩ := h
  exact (h1.cellAt _ (by omega)).trans (h2 i hi j hj)
theorem NodesAt.free (h : NodesAt w gn n ns Y) (j : Nat) : w.frozen? ⟨gn, j, none⟩ = false := by
  obtain ⟨xs, h1, h2⟩ := h
  exact h1.frozenAt j
theorem NodesAt.lt (h : NodesAt w gn n ns Y) : gn < w.heap.size := by
  obtain ⟨xs, h1, h2⟩ := h
  exact (h1.lt gn rfl).2
theorem NodesAt.drew (h : NodesAt w gn n ns Y) : NodesAt w.drew gn n ns Y := by
  obtain ⟨xs, h1, h2⟩ := h
  exact ⟨xs, h1.drew, h2⟩
theorem NodesAt.block {w' : World} (h : NodesAt w gn n ns Y) (hb : w'.heap[gn]? = w.heap[gn]?) : NodesAt w' gn n ns Y := by
  obtain ⟨xs, h1, h2⟩ := h
  refine ⟨xs, ⟨h1.1, ?_⟩, h2⟩
  rcases h1.2 with ⟨hv, _⟩ | ⟨g', cap', cur, hv, hg, hh, r⟩
  · cases hv
  · have e2 : gn = g' := by simp at hv; exact hv.1
    exact Or.inr ⟨g', cap', cur, hv, hg, by rw [← e2, hb, e2]; exact hh, r⟩
theorem NodesAt.other (h : NodesAt w gn n ns Y) {b o : Nat} (hb : b ≠ gn) (u : Value) : NodesAt (w.setCell ⟨b, o, none⟩ u) gn n ns Y := h.block (Below.heap_setCell _ _ _ _ (fun e => hb e.symm))
theorem NodesAt.put (h : NodesAt w gn n ns Y) (i j : Nat) (hi : i < n) (hj : j < 14) (u : Value) (y : Ly) (hy : ncells (nodeAt ns i) y = (ncells (nodeAt ns i) (Y i)).set j u) : NodesAt (w.setCell ⟨gn, i * 14 + j, none⟩ u) gn n ns (fun k => if k = i then y else Y k) := by
  obtain ⟨xs, h1, h2⟩ := h
  refine ⟨_, (h1.stored _ u).1, fun k hk l hl => ?_⟩
  have hxl := h1.1
  dsimp only
  rw [List.getElem?_set]
  by_cases e : k = i
  · subst e
    rw [if_pos rfl, hy, List.getElem?_set]
    by_cases e2 : j = l
    · subst e2
      rw [if_pos rfl, if_pos rfl, if_pos (by omega), if_pos (by simp [ncells]; omega)]
    · rw [if_neg (by omega), if_neg e2]; exact h2 k hk l hl
  · rw [if_neg e, if_neg (by omega)]; exact h2 k hk l hl
theorem NodesAt.setMult (h : NodesAt w gn n ns Y) (i : Nat) (hi : i < n) (x : Int) : NodesAt (w.setCell ⟨gn, i * 14 + 10, none⟩ (.int .i32 x)) gn n ns (fun k => if k = i then { Y i with mult := x } else Y k) := h.put i 10 hi (by omega) _ _ rfl
theorem NodesAt.setBase (h : NodesAt w gn n ns Y) (i : Nat) (hi : i < n) (x : Int) : NodesAt (w.setCell ⟨gn, i * 14 + 11, none⟩ (.int .i32 x)) gn n ns (fun k => if k = i then { Y i with base := x } else Y k) := h.put i 11 hi (by omega) _ _ rfl
theorem NodesAt.setVec (h : NodesAt w gn n ns Y) (i : Nat) (hi : i < n) (x : Int) : NodesAt (w.setCell ⟨gn, i * 14 + 12, none⟩ (.int .i32 x)) gn n ns (fun k => if k = i then { Y i with vec := x } else Y k) := h.put i 12 hi (by omega) _ _ rfl
theorem NodesAt.setWords (h : NodesAt w gn n ns Y) (i : Nat) (hi : i < n) (x : Int) : NodesAt (w.setCell ⟨gn, i * 14 + 13, none⟩ (.int .i32 x)) gn n ns (fun k => if k = i then { Y i with words := x } else Y k) := h.put i 13 hi (by omega) _ _ rfl
end

/-- The Program's struct. -/
def PB (w : World) (pb gn n : Nat) (bits vw : Int) : Prop := w.heap[pb]? = some (.cells #[.slice (some ⟨gn, 0, none⟩) n n, .slice none 0 0, .slice none 0 0, .int .i64 bits, .int .i64 vw] 76 (0, 0))
section
variable {w : World} {pb gn n : Nat} {bits vw : Int}
theorem PB.c0 (h : PB w pb gn n bits vw) : w.cell? ⟨pb, 0, none⟩ = some (.slice (some ⟨gn, 0, none⟩) n n) := by
  unfold World.cell?; dsimp only; rw [h]; rfl
theorem PB.c3 (h : PB w pb gn n bits vw) : w.cell? ⟨pb, 3, none⟩ = some (.int .i64 bits) := by
  unfold World.cell?; dsimp only; rw [h]; rfl
theorem PB.c4 (h : PB w pb gn n bits vw) : w.cell? ⟨pb, 4, none⟩ = some (.int .i64 vw) := by
  unfold World.cell?; dsimp only; rw [h]; rfl
theorem PB.free (h : PB w pb gn n bits vw) (j : Nat) : w.frozen? ⟨pb, j, none⟩ = false := by
  unfold PB at h; simp [World.frozen?, h]
theorem PB.block {w' : World} (h : PB w pb gn n bits vw) (hb : w'.heap[pb]? = w.heap[pb]?) : PB w' pb gn n bits vw := hb.trans h
theorem PB.other (h : PB w pb gn n bits vw) {b o : Nat} (hb : b ≠ pb) (u : Value) : PB (w.setCell ⟨b, o, none⟩ u) pb gn n bits vw := h.block (Below.heap_setCell _ _ _ _ (fun e => hb e.symm))
theorem PB.setBits (h : PB w pb gn n bits vw) (x : Int) : PB (w.setCell ⟨pb, 3, none⟩ (.int .i64 x)) pb gn n x vw := by
  have := set_block (k := 3) (u := .int .i64 x) h
  simp only [List.setIfInBounds_toArray, List.set_cons_zero, List.set_cons_succ] at this
  exact this
theorem PB.setVw (h : PB w pb gn n bits vw) (x : Int) : PB (w.setCell ⟨pb, 4, none⟩ (.int .i64 x)) pb gn n bits x := by
  have := set_block (k := 4) (u := .int .i64 x) h
  simp only [List.setIfInBounds_toArray, List.set_cons_zero, List.set_cons_succ] at this
  exact this
theorem PB.drew (h : PB w pb gn n bits vw) : PB w.drew pb gn n bits vw := h
theorem PB.lt (h : PB w pb gn n bits vw) : pb < w.heap.size := lt_of_block h
end

set_option maxHeartbeats 400000 in
theorem copies46 (gn o : Nat) (d : Nd) (ks : List Nat) (pos : Nat) (hok : NodeOk d ks pos) (h4 : d.kind = 4) (w : World) (c7 : w.cell? ⟨gn, o + 7, none⟩ = some (.int .i32 d.mn)) (c8 : w.cell? ⟨gn, o + 8, none⟩ = some (.int .i32 d.mx)) :
    Calls Try.prog 46 #[.pointer (some ⟨gn, o, none⟩)] w fun e w' => e = .returned (.int .i64 (cpn d)) ∧ w' = w := by
  have hbd : d.mn ≤ 4 ∧ 0 ≤ d.mn ∧ d.mx ≤ 7 ∧ -1 ≤ d.mx := by
    rcases hok with h | h | h | ⟨_, _, q1, q2, q3⟩ <;> omega
  unfold cpn
  obtain ⟨x1, x2, x3, x4, x5, x6, x7, mn, mx⟩ := d
  dsimp only at *
  clear hok h4
  by_cases hm : mx < 0
  · have hm1 : mx = -1 := by omega
    subst hm1
    rw [if_pos hm]
    by_cases hn : mn < 1
    · have hn0 : mn = 0 := by omega
      subst hn0
      go_enter Try.func46, Try.ntmps46
      go_wp2
      go_ret
      exact ⟨rfl, rfl⟩
    · rw [if_neg hn]
      go_enter Try.func46, Try.ntmps46
      go_wp2
      go_ret
      exact ⟨rfl, rfl⟩
  · rw [if_neg hm]
    go_enter Try.func46, Try.ntmps46
    go_wp2
    go_ret
    exact ⟨rfl, rfl⟩
end Go.Proofs.Qxb6000433a
