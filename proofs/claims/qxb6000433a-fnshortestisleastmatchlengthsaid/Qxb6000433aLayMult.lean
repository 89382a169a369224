/-
  'copiesOf', 'multModel'.
-/
import Derived.Test.Qxb6000433aTreeProg2
import Derived.Test.Qxb6000433aLayPlain
namespace Go.Proofs.Qxb6000433a
open Go.RowKit

theorem Try.info3 : (Try.prog.info? 3).map (fun i => (i.zero, i.size, i.bytes)) = some (some (.int .i64 0), 1, 8) := by kernel_rfl
theorem Try.info2 : (Try.prog.info? 2).map (fun i => (i.zero, i.size, i.bytes)) = some (some (.int .i64 0), 1, 8) := by kernel_rfl

/-! ### chains -/
theorem Chain.unique {ns : List Nd} : ∀ {f : Int} {a b : List Nat}, Chain ns f a → Chain ns f b → a = b
  | _, [], [], _, _ => rfl
  | _, [], c :: r, h, ⟨h1, _⟩ => by have : _ = _ := h; omega
  | _, c :: r, [], ⟨h1, _⟩, h => by have : _ = _ := h; omega
  | _, c :: r, d :: s, ⟨h1, h2, h3⟩, ⟨k1, k2, k3⟩ => by
    have e : c = d := by omega
    subst e
    rw [Chain.unique h3 k3]
open Classical in
/-- How long the chain from f on is. -/
noncomputable def clen (ns : List Nd) (f : Int) : Nat := if h : ∃ ks, Chain ns f ks then h.choose.length else 0
theorem clen_eq {ns : List Nd} {f : Int} {ks : List Nat} (h : Chain ns f ks) : clen ns f = ks.length := by
  unfold clen
  have hx : ∃ ks, Chain ns f ks := ⟨ks, h⟩
  rw [dif_pos hx, Chain.unique hx.choose_spec h]

set_option maxHeartbeats 400000 in
theorem copies42 (tb a : Nat) (ns : List Nd) (pos : Nat) (ks : List Nat) (ha : a < ns.length) (hok : NodeOk (nodeAt ns a) ks pos) (h4 : (nodeAt ns a).kind = 4) (w : World) (hr : Rows9 w tb ns) :
    Calls Try.prog 42 #[.pointer (some ⟨tb, 0, none⟩), .int .i64 a] w fun e w' => e = .returned (.int .i64 (cpn (nodeAt ns a))) ∧ w' = w := by
  obtain ⟨g, cap, h1, h2, h3⟩ := hr.cells
  have t7 := h1 7 (by omega)
  have t8 := h1 8 (by omega)
  have c7 := h3 7 a (by omega) ha
  have c8 := h3 8 a (by omega) ha
  have hbd : (nodeAt ns a).mn ≤ 4 ∧ 0 ≤ (nodeAt ns a).mn ∧ (nodeAt ns a).mx ≤ 7 ∧ -1 ≤ (nodeAt ns a).mx := by
    rcases hok with h | h | h | ⟨_, _, q1, q2, q3⟩ <;> omega
  dsimp only [fld] at c7 c8
  unfold cpn
  generalize nodeAt ns a = d at *
  obtain ⟨x1, x2, x3, x4, x5, x6, x7, mn, mx⟩ := d
  dsimp only at *
  clear h1 h2 h3 hr hok h4
  have hai : (a : Int) < (ns.length : Int) := by omega
  by_cases hm : mx < 0
  · rw [if_pos hm]
    by_cases hn : mn < 1
    · rw [if_pos hn]
      go_enter Try.func42, Try.ntmps42
      go_wp2
      go_ret
      exact ⟨rfl, rfl⟩
    · rw [if_neg hn]
      go_enter Try.func42, Try.ntmps42
      go_wp2
      go_ret
      exact ⟨rfl, rfl⟩
  · rw [if_neg hm]
    go_enter Try.func42, Try.ntmps42
    go_wp2
    go_ret
    exact ⟨rfl, rfl⟩

/-- A row of whole numbers. -/
def RowZ (w : World) (B e g n : Nat) (F : Nat → Int) : Prop := ∃ xs, w.ownsRow B e 1 (.slice (some ⟨g, 0, none⟩) n n) n xs ∧ ∀ j, j < n → xs[j]? = some (.int .i64 (F j))
theorem RowZ.cell {w : World} {B e g n : Nat} {F : Nat → Int} (h : RowZ w B e g n F) (j : Nat) (hj : j < n) : w.cell? ⟨g, j, none⟩ = some (.int .i64 (F j)) := by
  obtain ⟨xs, h1, h2⟩ := h
  exact (h1.cellAt j (by omega)).trans (h2 j hj)
theorem RowZ.free {w : World} {B e g n : Nat} {F : Nat → Int} (h : RowZ w B e g n F) (j : Nat) : w.frozen? ⟨g, j, none⟩ = false := by
  obtain ⟨xs, h1, h2⟩ := h
  exact h1.frozenAt j
theorem RowZ.lt {w : World} {B e g n : Nat} {F : Nat → Int} (h : RowZ w B e g n F) : B ≤ g ∧ g < w.heap.size := by
  obtain ⟨xs, h1, h2⟩ := h
  exact h1.lt g rfl
theorem RowZ.set {w : World} {B e g n : Nat} {F : Nat → Int} (h : RowZ w B e g n F) (k : Nat) (x : Int) (hk : k < n) : RowZ (w.setCell ⟨g, k, none⟩ (.int .i64 x)) B e g n (fun j => if j = k then x else F j) := by
  obtain ⟨xs, h1, h2⟩ := h
  refine ⟨_, (h1.stored k (.int .i64 x)).1, fun j hj => ?_⟩
  have hl := h1.1
  rw [List.getElem?_set]
  by_cases e : k = j
  · subst e; simp; omega
  · have e2 : ¬ j = k := fun h => e h.symm
    simp only [if_neg e, if_neg e2]; exact h2 j hj
theorem RowZ.other {w : World} {B e g n : Nat} {F : Nat → Int} (h : RowZ w B e g n F) {b o : Nat} (hb : b ≠ g) (u : Value) : RowZ (w.setCell ⟨b, o, none⟩ u) B e g n F := by
  obtain ⟨xs, h1, h2⟩ := h
  exact ⟨xs, own_at h1 (Below.heap_setCell _ _ _ _ (fun e => hb e.symm)), h2⟩
theorem RowZ.congr {w : World} {B e g n : Nat} {F G : Nat → Int} (h : RowZ w B e g n F) (hf : ∀ j, j < n → G j = F j) : RowZ w B e g n G := by
  obtain ⟨xs, h1, h2⟩ := h
  exact ⟨xs, h1, fun j hj => by rw [hf j hj]; exact h2 j hj⟩
theorem RowZ.block {w w' : World} {B e g n : Nat} {F : Nat → Int} (h : RowZ w B e g n F) (hb : w'.heap[g]? = w.heap[g]?) : RowZ w' B e g n F := by
  obtain ⟨xs, h1, h2⟩ := h
  exact ⟨xs, own_at h1 hb, h2⟩
theorem RowZ.made {w : World} {B e g n : Nat} (h : w.ownsRow B e 1 (.slice (some ⟨g, 0, none⟩) n n) n (madeCells (Value.int .i64 0).cells (n * 1)).toList) : RowZ w B e g n (fun _ => 0) := ⟨_, h, fun j hj => by
  have e := toList_madeCells_one (.int .i64 0) n
  have e2 : (madeCells (Value.int .i64 0).cells (n * 1)).toList = List.replicate n (.int .i64 0) := by rw [Nat.mul_one]; exact e
  rw [e2]; simp [hj]⟩
end Go.Proofs.Qxb6000433a
