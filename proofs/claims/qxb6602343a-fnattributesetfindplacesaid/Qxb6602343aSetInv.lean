/-
  WHAT AN 'AttributeSet' IS IN MEMORY, and small facts on worlds.
-/
import Derived.Test.Qxb6602343aRows
import Derived.Test.Qxb6602343aSetPlain
import Derived.WalkKit
import Derived.WalkSpells
import Derived.WalkLawsBesides
import Derived.Deep.QuietTactic
import Derived.BigQuiet
import Derived.Maps.Own
import Derived.Maps.OwnOps
import Derived.Maps.OwnSet
import Derived.Deep.RegionLaw
import Derived.BigRegion
namespace Go.Proofs.Qxb6602343a
open Go.RowKit Go.Maps SetPlain

theorem ret_i64 {a b : Int} (h : a = b) : Ending.returned (.int .i64 a) = .returned (.int .i64 b) := by rw [h]
theorem ret_b {a b : Bool} (h : a = b) : Ending.returned (.bool a) = .returned (.bool b) := by rw [h]

/-- The six cells of an attribute that the script adds. -/
def attr (p : ByteArray × Nat) : List Value := [.string p.1, .int .i64 3, .string ByteArray.empty, .int .u64 p.2, .slice none 0 0, .slice none 0 0]
theorem attr_len (ps : List (ByteArray × Nat)) : (ps.flatMap attr).length = ps.length * 6 := by
  induction ps with
  | nil => rfl
  | cons p r ih => rw [List.flatMap_cons, List.length_append, ih]; simp [attr]; omega
theorem attr_at (ps : List (ByteArray × Nat)) (i j : Nat) (p : ByteArray × Nat) (h : ps[i]? = some p) (hj : j < 6) : (ps.flatMap attr)[i * 6 + j]? = (attr p)[j]? := by
  induction ps generalizing i with
  | nil => simp at h
  | cons q r ih =>
    rw [List.flatMap_cons]
    have hl : (attr q).length = 6 := rfl
    cases i with
    | zero =>
      simp at h; subst h
      rw [List.getElem?_append_left (by omega)]; simp
    | succ i =>
      rw [List.getElem?_append_right (by omega), hl]
      rw [show (i + 1) * 6 + j - 6 = i * 6 + j by omega]
      exact ih i (by simpa using h)

/-- The index D tells of every key its place among 'ks'. -/
def Idx (D : DataW Unit) (ks : List ByteArray) : Prop :=
  IsMap D ∧ ∀ s : ByteArray, (ix s 0 ks = -1 → Maps.has D (.string s.data.toList) = false) ∧ (ix s 0 ks ≠ -1 → Maps.has D (.string s.data.toList) = true ∧ ∀ z, D.atKey (.string s.data.toList) z = .lit (.int .i64 (ix s 0 ks)))
theorem idx_nil : Idx (.map []) [] := ⟨isMap_empty, fun _ => ⟨fun _ => rfl, fun h => absurd rfl h⟩⟩
theorem data_ne {a b : ByteArray} (h : (a.toList == b.toList) = false) : Lit.string b.data.toList ≠ .string a.data.toList := by
  intro e
  have e2 : b.data.toList = a.data.toList := by simpa using e
  rw [ByteArray.toList_eq, ByteArray.toList_eq, e2] at h
  simp at h
theorem idx_put {D : DataW Unit} {ks : List ByteArray} (h : Idx D ks) (x : ByteArray) (hx : ix x 0 ks = -1) : Idx (D.put (.string x.data.toList) (.lit (.int .i64 (ks.length : Int)))) (ks ++ [x]) := by
  refine ⟨h.1.put _ _, fun s => ?_⟩
  by_cases he : (x.toList == s.toList) = true
  · have := eq_of_toList he
    subst this
    have hi := ix_snoc_hit x x ks hx he
    refine ⟨fun e => by omega, fun _ => ⟨has_put_same (k := .string x.data.toList) h.1 trivial _, fun z => ?_⟩⟩
    rw [atKey_put_same (k := .string x.data.toList) h.1 trivial, hi]
  · have he : (x.toList == s.toList) = false := by simpa using he
    have hne := data_ne he
    rw [has_put_other hne]
    by_cases hs : ix s 0 ks = -1
    · have hi := ix_snoc_miss s x ks hs he
      exact ⟨fun _ => (h.2 s).1 hs, fun e => absurd hi e⟩
    · rw [ix_append_hit _ _ _ _ hs]
      refine ⟨fun e => absurd e hs, fun _ => ⟨((h.2 s).2 hs).1, fun z => ?_⟩⟩
      rw [atKey_put_other hne]; exact ((h.2 s).2 hs).2 z

/-- The set in block sb: its list v holds the pairs ps; its index m. -/
structure Inv (w : World) (sb : Nat) (ps : List (ByteArray × Nat)) (v : Value) (m : Option Nat) : Prop where
  blk : w.heap[sb]? = some (.cells #[v, .map m, .int .i64 0] 44 (0, 0))
  own : w.ownsRow (sb + 1) 47 6 v ps.length (ps.flatMap attr)
  dist : Dist ps
  small : ∀ p ∈ ps, p.1.size ≤ maxLen
  idx : (m = none ∧ ps.length ≤ 32) ∨ (32 < ps.length ∧ ∃ mb D, m = some mb ∧ sb < mb ∧ w.ownsMap Try.prog 9 (plainElem Try.prog 3) mb ps.length D ∧ Idx D (ps.map Prod.fst))

theorem Inv.lt {w : World} {sb : Nat} {ps : List (ByteArray × Nat)} {v : Value} {m : Option Nat} (h : Inv w sb ps v m) : sb < w.heap.size := lt_of_block h.blk
theorem Inv.c0 {w : World} {sb : Nat} {ps : List (ByteArray × Nat)} {v : Value} {m : Option Nat} (h : Inv w sb ps v m) : w.cell? ⟨sb, 0, none⟩ = some v := by simp [World.cell?, h.blk]
theorem Inv.c1 {w : World} {sb : Nat} {ps : List (ByteArray × Nat)} {v : Value} {m : Option Nat} (h : Inv w sb ps v m) : w.cell? ⟨sb, 1, none⟩ = some (.map m) := by simp [World.cell?, h.blk]
theorem Inv.c2 {w : World} {sb : Nat} {ps : List (ByteArray × Nat)} {v : Value} {m : Option Nat} (h : Inv w sb ps v m) : w.cell? ⟨sb, 2, none⟩ = some (.int .i64 0) := by simp [World.cell?, h.blk]
theorem Inv.f0 {w : World} {sb : Nat} {ps : List (ByteArray × Nat)} {v : Value} {m : Option Nat} (h : Inv w sb ps v m) : w.frozen? ⟨sb, 0, none⟩ = false := by simp [World.frozen?, h.blk]
theorem Inv.f1 {w : World} {sb : Nat} {ps : List (ByteArray × Nat)} {v : Value} {m : Option Nat} (h : Inv w sb ps v m) : w.frozen? ⟨sb, 1, none⟩ = false := by simp [World.frozen?, h.blk]

theorem own_below {w w' : World} {base : Nat} {e : TypeId} {size : Nat} {v : Value} {n : Nat} {xs : List Value} (h : w.ownsRow base e size v n xs) (hb : Below w.heap.size w w') : w'.ownsRow base e size v n xs := by
  have hl := h.lt
  obtain ⟨h1, h2⟩ := h
  refine ⟨h1, ?_⟩
  rcases h2 with h2 | ⟨g, cap, cur, hv, hg, hh, r⟩
  · exact Or.inl h2
  · refine Or.inr ⟨g, cap, cur, hv, hg, ?_, r⟩
    rw [hb.block g (hl g (by rw [hv]; rfl)).2]; exact hh
theorem grown_of_below {w w' : World} (hb : Below w.heap.size w w') : w.grownBy w' none := ⟨hb.os, hb.tape, hb.output, hb.size, fun k hk _ => hb.block k hk⟩
theorem Inv.below {w w' : World} {sb : Nat} {ps : List (ByteArray × Nat)} {v : Value} {m : Option Nat} (h : Inv w sb ps v m) (hb : Below w.heap.size w w') : Inv w' sb ps v m := by
  refine ⟨(hb.block sb h.lt).trans h.blk, own_below h.own hb, h.dist, h.small, ?_⟩
  rcases h.idx with hi | ⟨hn, mb, D, hm, hs, ho, hD⟩
  · exact .inl hi
  · exact .inr ⟨hn, mb, D, hm, hs, ho.kept (grown_of_below hb) (by simp), hD⟩

/-- The list's value: nil and nothing in it, or at the head of a block of its own. -/
theorem own_shape {w : World} {base : Nat} {e : TypeId} {size : Nat} {v : Value} {n : Nat} {xs : List Value} (h : w.ownsRow base e size v n xs) : (v = .slice none 0 0 ∧ n = 0) ∨ ∃ g cap, v = .slice (some ⟨g, 0, none⟩) n cap ∧ base ≤ g ∧ g < w.heap.size ∧ n ≤ cap := by
  have hl := h.lt
  rcases h.2 with h2 | ⟨g, cap, cur, hv, hg, hh, hn, r⟩
  · exact .inl h2
  · exact .inr ⟨g, cap, hv, hg, (hl g (by rw [hv]; rfl)).2, hn⟩

/-- The six cells of the pair at place i. -/
theorem cells6 {w : World} {base g n cap : Nat} {ps : List (ByteArray × Nat)} (h : w.ownsRow base 47 6 (.slice (some ⟨g, 0, none⟩) n cap) n (ps.flatMap attr)) {i : Nat} {p : ByteArray × Nat} (hp : ps[i]? = some p) (hi : i < n) :
    w.cell? ⟨g, i * 6, none⟩ = some (.string p.1) ∧ w.cell? ⟨g, i * 6 + 1, none⟩ = some (.int .i64 3) ∧ w.cell? ⟨g, i * 6 + 2, none⟩ = some (.string ByteArray.empty) ∧ w.cell? ⟨g, i * 6 + 3, none⟩ = some (.int .u64 p.2) ∧ w.cell? ⟨g, i * 6 + 4, none⟩ = some (.slice none 0 0) ∧ w.cell? ⟨g, i * 6 + 5, none⟩ = some (.slice none 0 0) :=
  ⟨(h.cellAt _ (by omega)).trans (attr_at ps i 0 p hp (by omega)), (h.cellAt _ (by omega)).trans (attr_at ps i 1 p hp (by omega)), (h.cellAt _ (by omega)).trans (attr_at ps i 2 p hp (by omega)), (h.cellAt _ (by omega)).trans (attr_at ps i 3 p hp (by omega)), (h.cellAt _ (by omega)).trans (attr_at ps i 4 p hp (by omega)), (h.cellAt _ (by omega)).trans (attr_at ps i 5 p hp (by omega))⟩

theorem law9 : Keyed Try.prog 9 := string_keyed Try.underlying9
theorem zero3 (w : World) : (zeroValue 3).run Try.prog w = .ok (.int .i64 0) w := by kernel_rfl
end Go.Proofs.Qxb6602343a
