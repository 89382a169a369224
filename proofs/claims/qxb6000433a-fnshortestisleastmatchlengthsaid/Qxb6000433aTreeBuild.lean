/-
  'build' (reverse is false): facts for the walk.
-/
import Derived.Test.Qxb6000433aTreeClone
import Derived.Test.Qxb6000433aTreeForest
import Derived.RegionTactic
import Derived.BigRegion
namespace Go.Proofs.Qxb6000433a
open Go.RowKit

theorem own_at {w w' : World} {base : Nat} {e : TypeId} {size g n cap : Nat} {xs : List Value} (h : w.ownsRow base e size (.slice (some ⟨g, 0, none⟩) n cap) n xs) (hb : w'.heap[g]? = w.heap[g]?) : w'.ownsRow base e size (.slice (some ⟨g, 0, none⟩) n cap) n xs := by
  obtain ⟨h1, h2⟩ := h
  refine ⟨h1, ?_⟩
  rcases h2 with ⟨hv, _⟩ | ⟨g', cap', cur, hv, hg, hh, r⟩
  · cases hv
  · have e2 : g = g' := by simp at hv; exact hv.1
    exact Or.inr ⟨g', cap', cur, hv, hg, by rw [← e2, hb, e2]; exact hh, r⟩

/-- The stack lies apart from the tree. -/
def Apart (v : Nat → Value) (sv : Value) : Prop := ∀ i, i < 9 → (v i).ownBlock = sv.ownBlock → sv.ownBlock = none
def si (st : List Nat) : List Value := st.map fun (c : Nat) => Value.int .i32 (c : Int)
theorem si_len (st : List Nat) : (si st).length = st.length := by simp [si]
theorem si_get (st : List Nat) (j : Nat) (h : j < st.length) : (si st)[j]? = some (.int .i32 ((st.getD j 0 : Nat) : Int)) := by
  unfold si
  rw [List.getElem?_map, List.getElem?_eq_getElem h]
  simp [List.getD, h]

/-- A call that works on the tree leaves the stack alone. -/
theorem Kept.stack {w w' : World} {tb B : Nat} {v v' : Nat → Value} {sv : Value} {n : Nat} {xs : List Value} (h : Kept w w' tb v v') (ho : w.ownsRow B 21 1 sv n xs) (ha : Apart v sv) (ht : tb < B) : w'.ownsRow B 21 1 sv n xs ∧ Apart v' sv := by
  constructor
  · rcases ho.2 with ⟨rfl, h0⟩ | ⟨g, cap, cur, rfl, _⟩
    · exact ⟨ho.1, .inl ⟨rfl, h0⟩⟩
    · refine own_at ho (h.block g (ho.lt g rfl).2 (by have := (ho.lt g rfl).1; omega) (fun i hi e => ?_))
      have := ha i hi e
      cases this
  · intro i hi e
    rcases h.at_ i hi with h1 | ⟨g, h1, h2⟩
    · exact ha i hi (h1.symm.trans e)
    · rw [h1] at e
      have := (ho.lt g e.symm).2
      omega

/-- An append to the stack leaves the tree alone. -/
theorem Tree.pushed {w w2 : World} {tb B : Nat} {v : Nat → Value} {ns : List Nd} {sv sv' : Value} {n : Nat} {xs : List Value} {o : Obj} (h : Tree w tb B v ns) (ho : w.ownsRow B 21 1 sv n xs) (ha : Apart v sv) (hg : (w.alloc o).grownBy w2 sv.ownBlock)
    (hat : sv'.ownBlock = sv.ownBlock ∨ sv'.ownBlock = some (w.alloc o).heap.size) : Tree w2 tb B v ns ∧ Apart v sv' := by
  have htl := h.lt
  have hsz : (w.alloc o).heap.size = w.heap.size + 1 := by simp
  refine ⟨⟨?_, h.tB, fun i hi => ?_, h.dis⟩, fun i hi e => ?_⟩
  · rw [hg.block tb (by omega) (fun e => own_ne ho h.tB e.symm), Below.heap_alloc _ _ _ htl]; exact h.blk
  · refine ((h.own i hi).alloc o).kept hg ?_
    by_cases hn : (v i).ownBlock = none
    · exact .inl hn
    · exact .inr (fun e2 => hn (by rw [e2]; exact ha i hi e2))
  · rcases hat with h1 | h1
    · rw [h1] at e ⊢; exact ha i hi e
    · rw [h1] at e
      have := ((h.own i hi).lt _ e).2
      omega
theorem below_push {w w2 : World} {tb B : Nat} {w0 : World} {sv : Value} {n : Nat} {xs : List Value} {o : Obj} (hb : Below tb w0 w) (ht : tb < B) (hs : tb ≤ w.heap.size) (ho : w.ownsRow B 21 1 sv n xs) (hg : (w.alloc o).grownBy w2 sv.ownBlock) : Below tb w0 w2 :=
  (hb.alloc hs _).grown hg (by simp; omega) (fun k hk => by have := (ho.lt k hk).1; omega)

theorem Try.z28 : (Try.prog.info? 28).map (fun i => (i.zero, i.size)) = some (some (.agg #[.slice none 0 0, .slice none 0 0, .slice none 0 0, .slice none 0 0, .slice none 0 0, .slice none 0 0, .slice none 0 0, .slice none 0 0, .slice none 0 0]), 9) := by kernel_rfl

def zO : Obj := .cells #[.slice none 0 0, .slice none 0 0, .slice none 0 0, .slice none 0 0, .slice none 0 0, .slice none 0 0, .slice none 0 0, .slice none 0 0, .slice none 0 0] 28
theorem tree_new (w : World) : Tree (w.alloc zO) w.heap.size (w.heap.size + 1) (fun _ => .slice none 0 0) [] :=
  ⟨heap_alloc_new w _, by omega, fun i hi => World.ownsRow_nil _ _ _ _, fun i j _ _ _ _ => rfl⟩

/-- What holds at each round's head. -/
structure Rd (w0 wr : World) (tb B k : Nat) (sv : Value) (pos : Nat) (ns : List Nd) (st : List Nat) (v : Nat → Value) (kids : Nat → List Nat) : Prop where
  tr : Tree wr tb B v ns
  so : wr.ownsRow B 21 1 sv st.length (si st)
  ap : Apart v sv
  fo : Forest ns st kids pos
  nl : ns.length ≤ k
  sl : st.length ≤ ns.length
  pl : pos ≤ 8 * k
  bel : Below tb w0 wr
  hB : B ≤ wr.heap.size

end Go.Proofs.Qxb6000433a
