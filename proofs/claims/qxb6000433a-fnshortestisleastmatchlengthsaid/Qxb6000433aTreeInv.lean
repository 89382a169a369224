/-
  THE TREE OF THE LAWS IN MEMORY: a struct of nine slices, each a row of the call's own.
-/
import Derived.Test.Qxb6000433aRows
import Derived.WalkKit
import Derived.WalkSpells
import Derived.WalkLawsBesides
import Derived.Deep.QuietTactic
import Derived.BigQuiet
import Derived.Maps.AppendAt
namespace Go.Proofs.Qxb6000433a
open Go.RowKit

/-- A node of the tree, as the nine slices hold it. -/
structure Nd where
  kind : Int
  empty : Int
  first : Int
  next : Int
  lo : Int
  hi : Int
  exitLo : Int
  mn : Int
  mx : Int

/-- What slice i holds of a node. -/
def fld : Nat → Nd → Value
  | 0, d => .int .u8 d.kind
  | 1, d => .int .u8 d.empty
  | 2, d => .int .i32 d.first
  | 3, d => .int .i32 d.next
  | 4, d => .int .i32 d.lo
  | 5, d => .int .i32 d.hi
  | 6, d => .int .i32 d.exitLo
  | 7, d => .int .i32 d.mn
  | _, d => .int .i32 d.mx
/-- Its element type. -/
def et : Nat → TypeId
  | 0 => 5
  | 1 => 5
  | _ => 21

/-- Nine rows of the call's own behind the struct in block tb. -/
structure Nine (w : World) (tb B : Nat) (v : Nat → Value) (ln : Nat → Nat) (xs : Nat → List Value) : Prop where
  blk : w.heap[tb]? = some (.cells #[v 0, v 1, v 2, v 3, v 4, v 5, v 6, v 7, v 8] 28 (0, 0))
  tB : tb < B
  own : ∀ i, i < 9 → w.ownsRow B (et i) 1 (v i) (ln i) (xs i)
  dis : ∀ i j, i < 9 → j < 9 → i ≠ j → (v i).ownBlock = (v j).ownBlock → (v i).ownBlock = none

/-- What a call that works on the tree leaves alone. -/
structure Kept (w w' : World) (tb : Nat) (v v' : Nat → Value) : Prop where
  os : w'.os = w.os
  tape : w'.tape = w.tape
  output : w'.output = w.output
  size : w.heap.size ≤ w'.heap.size
  block : ∀ b, b < w.heap.size → b ≠ tb → (∀ i, i < 9 → (v i).ownBlock ≠ some b) → w'.heap[b]? = w.heap[b]?
  at_ : ∀ i, i < 9 → (v' i).ownBlock = (v i).ownBlock ∨ ∃ g, (v' i).ownBlock = some g ∧ w.heap.size ≤ g

theorem Kept.refl (w : World) (tb : Nat) (v : Nat → Value) : Kept w w tb v v := ⟨rfl, rfl, rfl, Nat.le_refl _, fun _ _ _ _ => rfl, fun _ _ => .inl rfl⟩
theorem Kept.trans {a b c : World} {tb : Nat} {u v x : Nat → Value} (h : Kept a b tb u v) (k : Kept b c tb v x) : Kept a c tb u x := by
  refine ⟨k.os.trans h.os, k.tape.trans h.tape, k.output.trans h.output, Nat.le_trans h.size k.size, fun i hi hne hv => ?_, fun i hi => ?_⟩
  · refine (k.block i (Nat.lt_of_lt_of_le hi h.size) hne (fun j hj e => ?_)).trans (h.block i hi hne hv)
    rcases h.at_ j hj with h1 | ⟨g, h1, h2⟩
    · exact hv j hj (h1.symm.trans e)
    · rw [h1] at e; cases e; omega
  · rcases k.at_ i hi with h1 | ⟨g, h1, h2⟩
    · rcases h.at_ i hi with h3 | ⟨g, h3, h4⟩
      · exact .inl (h1.trans h3)
      · exact .inr ⟨g, h1.trans h3, h4⟩
    · exact .inr ⟨g, h1, Nat.le_trans h.size h2⟩
/-- Below the tree nothing has turned. -/
theorem Kept.below {w w' : World} {tb B C : Nat} {v v' : Nat → Value} {ln : Nat → Nat} {xs : Nat → List Value} (h : Kept w w' tb v v') (hn : Nine w tb B v ln xs) (hC : C ≤ tb) : Below C w w' := by
  have ht : tb < w.heap.size := lt_of_block hn.blk
  refine ⟨h.os, h.tape, h.output, h.size, fun k hk => h.block k (by omega) (by omega) (fun i hi e => ?_)⟩
  have := ((hn.own i hi).lt k e).1
  have := hn.tB
  omega

def upd (v : Nat → Value) (i : Nat) (u : Value) : Nat → Value := fun j => if j = i then u else v j
theorem upd_same (v : Nat → Value) (i : Nat) (u : Value) : upd v i u i = u := by simp [upd]
theorem upd_other (v : Nat → Value) {i j : Nat} (u : Value) (h : j ≠ i) : upd v i u j = v j := by simp [upd, h]
def updN (f : Nat → Nat) (i : Nat) (u : Nat) : Nat → Nat := fun j => if j = i then u else f j
def updL (f : Nat → List Value) (i : Nat) (u : List Value) : Nat → List Value := fun j => if j = i then u else f j

theorem set9 (v : Nat → Value) (k : Nat) (hk : k < 9) (u : Value) : (#[v 0, v 1, v 2, v 3, v 4, v 5, v 6, v 7, v 8] : Array Value).setIfInBounds k u = #[upd v k u 0, upd v k u 1, upd v k u 2, upd v k u 3, upd v k u 4, upd v k u 5, upd v k u 6, upd v k u 7, upd v k u 8] := by
  have : k = 0 ∨ k = 1 ∨ k = 2 ∨ k = 3 ∨ k = 4 ∨ k = 5 ∨ k = 6 ∨ k = 7 ∨ k = 8 := by omega
  rcases this with rfl | rfl | rfl | rfl | rfl | rfl | rfl | rfl | rfl <;> rfl
theorem get9 (v : Nat → Value) (k : Nat) (hk : k < 9) : (#[v 0, v 1, v 2, v 3, v 4, v 5, v 6, v 7, v 8] : Array Value)[k]? = some (v k) := by
  have : k = 0 ∨ k = 1 ∨ k = 2 ∨ k = 3 ∨ k = 4 ∨ k = 5 ∨ k = 6 ∨ k = 7 ∨ k = 8 := by omega
  rcases this with rfl | rfl | rfl | rfl | rfl | rfl | rfl | rfl | rfl <;> rfl
theorem set_block {w : World} {b k : Nat} {c : Array Value} {e : TypeId} {fr : Nat × Nat} {u : Value} (h : w.heap[b]? = some (.cells c e fr)) : (w.setCell ⟨b, k, none⟩ u).heap[b]? = some (.cells (c.setIfInBounds k u) e fr) := by
  have hlt := lt_of_block h
  have h' : w.heap[b] = .cells c e fr := by simpa [Array.getElem?_eq_getElem hlt] using h
  show (w.heap.modify b _)[b]? = _
  rw [Array.getElem?_eq_getElem (by simpa using hlt), Array.getElem_modify_self, h']
  rfl

theorem Nine.cell {w : World} {tb B : Nat} {v : Nat → Value} {ln : Nat → Nat} {xs : Nat → List Value} (h : Nine w tb B v ln xs) (k : Nat) (hk : k < 9) : w.cell? ⟨tb, k, none⟩ = some (v k) := by
  unfold World.cell?
  dsimp only
  rw [h.blk]
  dsimp only
  rw [get9 v k hk]; rfl
theorem Nine.free {w : World} {tb B : Nat} {v : Nat → Value} {ln : Nat → Nat} {xs : Nat → List Value} (h : Nine w tb B v ln xs) (k : Nat) : w.frozen? ⟨tb, k, none⟩ = false := by simp [World.frozen?, h.blk]
theorem Nine.lt {w : World} {tb B : Nat} {v : Nat → Value} {ln : Nat → Nat} {xs : Nat → List Value} (h : Nine w tb B v ln xs) : tb < w.heap.size := lt_of_block h.blk

theorem own_ne {w : World} {B : Nat} {e : TypeId} {v : Value} {n : Nat} {xs : List Value} (h : w.ownsRow B e 1 v n xs) {b : Nat} (hb : b < B) : v.ownBlock ≠ some b := fun e => by have := (h.lt b e).1; omega

/-- One slice has been appended to, and its new value stored. -/
theorem Nine.appended {w w1 : World} {tb B : Nat} {v : Nat → Value} {ln : Nat → Nat} {xs : Nat → List Value} (h : Nine w tb B v ln xs) (k : Nat) (hk : k < 9) (o : Obj) (v' : Value) (m : Nat) (ys : List Value)
    (hown : w1.ownsRow B (et k) 1 v' m ys) (hg : (w.alloc o).grownBy w1 (v k).ownBlock) (hat : v'.ownBlock = (v k).ownBlock ∨ v'.ownBlock = some (w.alloc o).heap.size) :
    Nine (w1.setCell ⟨tb, k, none⟩ v') tb B (upd v k v') (updN ln k m) (updL xs k ys) ∧ Kept w (w1.setCell ⟨tb, k, none⟩ v') tb v (upd v k v') ∧ w1.heap[tb]? = some (.cells #[v 0, v 1, v 2, v 3, v 4, v 5, v 6, v 7, v 8] 28 (0, 0)) := by
  have htl := h.lt
  have hsz : (w.alloc o).heap.size = w.heap.size + 1 := by simp
  have hb1 : w1.heap[tb]? = some (.cells #[v 0, v 1, v 2, v 3, v 4, v 5, v 6, v 7, v 8] 28 (0, 0)) := by
    rw [hg.block tb (by omega) (fun e => own_ne (h.own k hk) h.tB e.symm), Below.heap_alloc _ _ _ htl]; exact h.blk
  have hob : ∀ i, i < 9 → ∀ b, (v i).ownBlock = some b → b < w.heap.size := fun i hi b hb => ((h.own i hi).lt b hb).2
  refine ⟨⟨?_, h.tB, fun i hi => ?_, fun i j hi hj hij => ?_⟩, ⟨hg.os, hg.tape, hg.output, ?_, fun b hb hne hv => ?_, fun i hi => ?_⟩, hb1⟩
  · rw [set_block hb1, set9 v k hk]
  · by_cases e : i = k
    · subst e
      simp only [upd, updN, updL, if_true]
      exact ownsRow_setCell_below hown h.tB _
    · simp only [upd, updN, updL, if_neg e]
      refine ownsRow_setCell_below ?_ h.tB _
      refine ((h.own i hi).alloc o).kept hg ?_
      by_cases hn : (v i).ownBlock = none
      · exact .inl hn
      · exact .inr (fun e2 => hn (h.dis i k hi hk e e2))
  · simp only [upd]
    by_cases e : i = k
    · subst e
      rw [if_pos rfl, if_neg (fun e => hij e.symm)]
      intro e2
      rcases hat with h1 | h1
      · rw [h1] at e2 ⊢
        exact h.dis i j hi hj hij e2
      · rw [h1] at e2
        have := hob j hj _ e2.symm
        omega
    · rw [if_neg e]
      by_cases e3 : j = k
      · subst e3
        rw [if_pos rfl]
        intro e2
        rcases hat with h1 | h1
        · rw [h1] at e2
          exact h.dis i j hi hj hij e2
        · rw [h1] at e2
          have := hob i hi _ e2
          omega
      · rw [if_neg e3]
        exact h.dis i j hi hj hij
  · have := hg.size
    simp [World.setCell]
    omega
  · rw [Below.heap_setCell _ _ _ _ (by exact hne), hg.block b (by omega) (fun e => hv k hk e.symm), Below.heap_alloc _ _ _ hb]
  · simp only [upd]
    by_cases e : i = k
    · subst e
      rw [if_pos rfl]
      rcases hat with h1 | h1
      · exact .inl h1
      · exact .inr ⟨_, h1, by omega⟩
    · rw [if_neg e]; exact .inl rfl
end Go.Proofs.Qxb6000433a
