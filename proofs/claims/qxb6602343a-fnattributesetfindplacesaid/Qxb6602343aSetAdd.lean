/-
  'Add'.
-/
import Derived.Test.Qxb6602343aSetFind
import Derived.Deep.DeepCutAuto
namespace Go.Proofs.Qxb6602343a
open Go.RowKit Go.Maps SetPlain

/-- An append whose run is known, as one step of a region that draws. -/
theorem step_append_run {P : Program} {ops : Array Oper} {o : Oper} {a : Act} {w : World} {K : Act → World → Prop} {Q : Exit → Act → World → Prop} {E : Prop}
    (hg : o.guard = none) (s x : Operand) (t : TypeId) (hop : o.op = Op.call { callee := Callee.builtin Builtin.append, args := #[s, x], argTypes := #[t, t] })
    (sv xv v' : Value) (w' : World) (hs : a.eval s = sv) (hx : a.eval x = xv) (hrun : (Builtin.append_ #[t, t] o.type #[sv, xv]).run P w = .ok v' w') (hK : K (a.put o.dst v') w') :
    if Region.wanted o (yielded ops a.tmps) = true then Oper.wp P o a w K Q else E := by
  have hw : Region.wanted o (yielded ops a.tmps) = true := by simp [Region.wanted, hg]
  rw [if_pos hw]
  unfold Oper.wp
  simp [execOp, hop, resolve, invoke, builtin, hs, hx, hrun, Result.andThen]
  exact hK

theorem Try.info47 : (Try.prog.info? 47).map (fun i => (i.zero, i.size, i.bytes)) = some (some (.agg #[.string ByteArray.empty, .int .i64 0, .string ByteArray.empty, .int .u64 0, .slice none 0 0, .slice none 0 0]), 6, 96) := by kernel_rfl

/-- A new attribute, of whatever fields. -/
abbrev attrV (key : ByteArray) (j : Nat) : Value := .agg #[.string key, .int .i64 3, .string ByteArray.empty, .int .u64 j, .slice none 0 0, .slice none 0 0]

/-- The block that 'a' is boxed in, and the block that append's new element lies in. -/
abbrev boxO (key : ByteArray) (j : Nat) : Obj := .cells #[.string key, .int .i64 3, .string ByteArray.empty, .int .u64 j, .slice none 0 0, .slice none 0 0] 47
abbrev zeroL : List Value := [.string ByteArray.empty, .int .i64 0, .string ByteArray.empty, .int .u64 0, .slice none 0 0, .slice none 0 0]
abbrev zeroO : Obj := .cells #[.string ByteArray.empty, .int .i64 0, .string ByteArray.empty, .int .u64 0, .slice none 0 0, .slice none 0 0] 47

/-- What the append of one zero element leaves. -/
theorem append_one (sb : Nat) (w : World) (hs : sb < w.heap.size) (v : Value) (n : Nat) (xs : List Value) (hown : w.ownsRow (sb + 1) 47 6 v n xs) (hn : n ≤ 1048576) (key : ByteArray) (j : Nat) :
    ∃ g cap w1, (Builtin.append_ #[29, 29] 29 #[v, .slice (some ⟨w.heap.size + 1, 0, none⟩) 1 1]).run Try.prog ((w.alloc (boxO key j)).alloc zeroO).drew = .ok (.slice (some ⟨g, 0, none⟩) (n + 1) cap) w1 ∧
      w1.ownsRow (sb + 1) 47 6 (.slice (some ⟨g, 0, none⟩) (n + 1) cap) (n + 1) (xs ++ zeroL) ∧ ((w.alloc (boxO key j)).alloc zeroO).grownBy w1 v.ownBlock := by
  obtain ⟨i0, hi, hz0, hz1, hz2⟩ := info_parts Try.info47
  obtain ⟨v', w1, hrun, hown', hgrow, hnil⟩ := run_append_own (P := Try.prog) ((w.alloc (boxO key j)).alloc zeroO).drew (sb + 1) 29 29 47 i0 _ 6 96 Try.underlying29 hi hz0 hz1 hz2 rfl (by decide) v n xs ((hown.alloc _).alloc _).drew ⟨w.heap.size + 1, 0, none⟩ 1 1 zeroL rfl
    (fun i u hu => by
      have h1 : ((w.alloc (boxO key j)).alloc zeroO).heap[w.heap.size + 1]? = some zeroO := by
        have := heap_alloc_new (w.alloc (boxO key j)) zeroO
        simpa using this
      rw [WideShapes.add_plain]
      have e : ((w.alloc (boxO key j)).alloc zeroO).drew.cell? ⟨w.heap.size + 1, 0 + i, none⟩ = zeroL[i]? := by
        have h2 : ((w.alloc (boxO key j)).alloc zeroO).drew.heap[w.heap.size + 1]? = some zeroO := h1
        unfold World.cell?
        dsimp only
        rw [h2]; simp
      exact e.trans hu)
    (by decide) (by unfold maxLen; omega) (by omega) (by simp; omega)
  rcases own_shape hown' with ⟨_, h0⟩ | ⟨g, cap, rfl, _⟩
  · omega
  · exact ⟨g, cap, w1, hrun, hown', ⟨hgrow.os, hgrow.tape, hgrow.output, hgrow.size, hgrow.block⟩⟩

/-- The cells that the rest of 'Add' reads and writes, in the world behind the append. -/
structure Behind (w w1 : World) (sb : Nat) (v : Value) (m : Option Nat) (n g : Nat) (key : ByteArray) (j : Nat) : Prop where
  sg : sb < g
  gw : g ≠ w.heap.size
  e0 : w1.cell? ⟨sb, 0, none⟩ = some v
  e1 : w1.cell? ⟨sb, 1, none⟩ = some (.map m)
  e2 : w1.cell? ⟨sb, 2, none⟩ = some (.int .i64 0)
  f0 : w1.frozen? ⟨sb, 0, none⟩ = false
  f1 : w1.frozen? ⟨sb, 1, none⟩ = false
  b0 : w1.cell? ⟨w.heap.size, 0, none⟩ = some (.string key)
  b1 : w1.cell? ⟨w.heap.size, 1, none⟩ = some (.int .i64 3)
  b2 : w1.cell? ⟨w.heap.size, 2, none⟩ = some (.string ByteArray.empty)
  b3 : w1.cell? ⟨w.heap.size, 3, none⟩ = some (.int .u64 j)
  b4 : w1.cell? ⟨w.heap.size, 4, none⟩ = some (.slice none 0 0)
  b5 : w1.cell? ⟨w.heap.size, 5, none⟩ = some (.slice none 0 0)
  r : ∀ i, i < 6 → ∃ u, w1.cell? ⟨g, n * 6 + i, none⟩ = some u
  rf : ∀ i, w1.frozen? ⟨g, n * 6 + i, none⟩ = false

theorem behind {w w1 : World} {sb : Nat} {ps : List (ByteArray × Nat)} {v : Value} {m : Option Nat} (h : Inv w sb ps v m) {g cap : Nat} {key : ByteArray} {j : Nat}
    (hown : w1.ownsRow (sb + 1) 47 6 (.slice (some ⟨g, 0, none⟩) (ps.length + 1) cap) (ps.length + 1) (ps.flatMap attr ++ zeroL)) (hg : ((w.alloc (boxO key j)).alloc zeroO).grownBy w1 v.ownBlock) : Behind w w1 sb v m ps.length g key j := by
  have hlt := h.lt
  have hsg : sb < g := (hown.lt g rfl).1
  have hvs : ∀ b, v.ownBlock = some b → sb < b ∧ b < w.heap.size := fun b hb => h.own.lt b hb
  have hsb : w1.heap[sb]? = some (.cells #[v, .map m, .int .i64 0] 44 (0, 0)) := by
    rw [hg.block sb (by simp; omega) (fun e => by have := hvs sb e.symm; omega)]
    rw [Below.heap_alloc _ _ _ (by simp; omega), Below.heap_alloc _ _ _ hlt]; exact h.blk
  have hbx : w1.heap[w.heap.size]? = some (boxO key j) := by
    rw [hg.block w.heap.size (by simp; omega) (fun e => by have := hvs _ e.symm; omega)]
    rw [Below.heap_alloc _ _ _ (by simp)]; exact heap_alloc_new w _
  have hgw : g ≠ w.heap.size := by
    intro e
    have h1 := hown.cellAt (ps.length * 6 + 1) (by omega)
    have hxl : (ps.flatMap attr ++ zeroL)[ps.length * 6 + 1]? = some (.int .i64 0) := by
      rw [List.getElem?_append_right (by rw [attr_len]; omega), attr_len]; simp [show ps.length * 6 + 1 - ps.length * 6 = 1 by omega]
    rw [hxl, e] at h1
    unfold World.cell? at h1
    dsimp only at h1
    rw [hbx] at h1
    dsimp only at h1
    cases hps : ps.length with
    | zero => rw [hps] at h1; simp at h1
    | succ k => rw [hps] at h1; simp at h1; rw [List.getElem?_eq_none (by simp; omega)] at h1; cases h1
  refine ⟨hsg, hgw, ?_, ?_, ?_, ?_, ?_, ?_, ?_, ?_, ?_, ?_, ?_, ?_, ?_⟩
  iterate 3 simp [World.cell?, hsb]
  iterate 2 simp [World.frozen?, hsb]
  iterate 6 simp [World.cell?, hbx]
  · intro i hi
    have hl : (ps.flatMap attr ++ zeroL).length = ps.length * 6 + 6 := by rw [List.length_append, attr_len]; rfl
    exact ⟨_, (hown.cellAt _ (by omega)).trans (List.getElem?_eq_getElem (by omega))⟩
  · intro i; exact hown.frozenAt _

/-- Six stores in a row. -/
def six (w : World) (g o : Nat) (key : ByteArray) (j : Nat) : World :=
  (((((w.setCell ⟨g, o, none⟩ (.string key)).setCell ⟨g, o + 1, none⟩ (.int .i64 3)).setCell ⟨g, o + 2, none⟩ (.string ByteArray.empty)).setCell ⟨g, o + 3, none⟩ (.int .u64 j)).setCell ⟨g, o + 4, none⟩ (.slice none 0 0)).setCell ⟨g, o + 5, none⟩ (.slice none 0 0)
theorem six_own {w : World} {base g n cap : Nat} {ps : List (ByteArray × Nat)} (key : ByteArray) (j : Nat) (hn : ps.length = n) (h : w.ownsRow base 47 6 (.slice (some ⟨g, 0, none⟩) (n + 1) cap) (n + 1) (ps.flatMap attr ++ zeroL)) :
    (six w g (n * 6) key j).ownsRow base 47 6 (.slice (some ⟨g, 0, none⟩) (n + 1) cap) (n + 1) ((ps ++ [(key, j)]).flatMap attr) := by
  have h1 := ((((((h.stored (n * 6) (.string key)).1.stored (n * 6 + 1) (.int .i64 3)).1.stored (n * 6 + 2) (.string ByteArray.empty)).1).stored (n * 6 + 3) (.int .u64 j)).1.stored (n * 6 + 4) (.slice none 0 0)).1.stored (n * 6 + 5) (.slice none 0 0)
  have hl : (ps.flatMap attr).length = n * 6 := by rw [attr_len, hn]
  have e : ((((((ps.flatMap attr ++ zeroL).set (n * 6) (.string key)).set (n * 6 + 1) (.int .i64 3)).set (n * 6 + 2) (.string ByteArray.empty)).set (n * 6 + 3) (.int .u64 j)).set (n * 6 + 4) (.slice none 0 0)).set (n * 6 + 5) (.slice none 0 0) = (ps ++ [(key, j)]).flatMap attr := by
    rw [List.flatMap_append]
    simp [hl, attr]
  rw [e] at h1
  exact h1.1
theorem six_heap (w : World) (g o : Nat) (key : ByteArray) (j b : Nat) (h : b ≠ g) : (six w g o key j).heap[b]? = w.heap[b]? := by
  unfold six
  rw [Below.heap_setCell _ _ _ _ (by exact h), Below.heap_setCell _ _ _ _ (by exact h), Below.heap_setCell _ _ _ _ (by exact h), Below.heap_setCell _ _ _ _ (by exact h), Below.heap_setCell _ _ _ _ (by exact h), Below.heap_setCell _ _ _ _ (by exact h)]
theorem six_below {B : Nat} {a w : World} (h : Below B a w) (g o : Nat) (key : ByteArray) (j : Nat) (hg : B ≤ g) : Below B a (six w g o key j) :=
  (((((h.setCell (by exact hg) _).setCell (by exact hg) _).setCell (by exact hg) _).setCell (by exact hg) _).setCell (by exact hg) _).setCell (by exact hg) _
theorem set_head {w : World} {sb : Nat} {v u x y : Value} (h : w.heap[sb]? = some (.cells #[v, x, y] 44 (0, 0))) : (w.setCell ⟨sb, 0, none⟩ u).heap[sb]? = some (.cells #[u, x, y] 44 (0, 0)) := by
  have hlt := lt_of_block h
  have h' : w.heap[sb] = .cells #[v, x, y] 44 (0, 0) := by simpa [Array.getElem?_eq_getElem hlt] using h
  show (w.heap.modify sb _)[sb]? = _
  rw [Array.getElem?_eq_getElem (by simpa using hlt), Array.getElem_modify_self, h']
  rfl
theorem set_mid {w : World} {sb : Nat} {v u x y : Value} (h : w.heap[sb]? = some (.cells #[v, x, y] 44 (0, 0))) : (w.setCell ⟨sb, 1, none⟩ u).heap[sb]? = some (.cells #[v, u, y] 44 (0, 0)) := by
  have hlt := lt_of_block h
  have h' : w.heap[sb] = .cells #[v, x, y] 44 (0, 0) := by simpa [Array.getElem?_eq_getElem hlt] using h
  show (w.heap.modify sb _)[sb]? = _
  rw [Array.getElem?_eq_getElem (by simpa using hlt), Array.getElem_modify_self, h']
  rfl

/-- The set behind the append and its stores: all but the index. -/
structure Mid (w wc : World) (sb : Nat) (ps : List (ByteArray × Nat)) (g cap : Nat) (m : Option Nat) (key : ByteArray) (j : Nat) : Prop where
  blk : wc.heap[sb]? = some (.cells #[.slice (some ⟨g, 0, none⟩) (ps.length + 1) cap, .map m, .int .i64 0] 44 (0, 0))
  box : wc.heap[w.heap.size]? = some (boxO key j)
  own : wc.ownsRow (sb + 1) 47 6 (.slice (some ⟨g, 0, none⟩) (ps.length + 1) cap) (ps.length + 1) ((ps ++ [(key, j)]).flatMap attr)
  bel : Below sb w wc
  map : ∀ mb N (D : DataW Unit), sb < mb → w.ownsMap Try.prog 9 (plainElem Try.prog 3) mb N D → wc.ownsMap Try.prog 9 (plainElem Try.prog 3) mb N D

theorem mid_of {w w1 : World} {sb : Nat} {ps : List (ByteArray × Nat)} {v : Value} {m : Option Nat} (h : Inv w sb ps v m) {g cap : Nat} {key : ByteArray} {j : Nat}
    (hown : w1.ownsRow (sb + 1) 47 6 (.slice (some ⟨g, 0, none⟩) (ps.length + 1) cap) (ps.length + 1) (ps.flatMap attr ++ zeroL)) (hg : ((w.alloc (boxO key j)).alloc zeroO).grownBy w1 v.ownBlock) :
    Mid w ((six w1 g (ps.length * 6) key j).setCell ⟨sb, 0, none⟩ (.slice (some ⟨g, 0, none⟩) (ps.length + 1) cap)) sb ps g cap m key j ∧ Mid w (six (w1.setCell ⟨sb, 0, none⟩ (.slice (some ⟨g, 0, none⟩) (ps.length + 1) cap)) g (ps.length * 6) key j) sb ps g cap m key j := by
  have hlt := h.lt
  have hsg : sb < g := (hown.lt g rfl).1
  have hB := behind h hown hg
  have hgw := hB.gw
  have hvs : ∀ b, v.ownBlock = some b → sb < b ∧ b < w.heap.size := fun b hb => h.own.lt b hb
  have hsb : w1.heap[sb]? = some (.cells #[v, .map m, .int .i64 0] 44 (0, 0)) := by
    rw [hg.block sb (by simp; omega) (fun e => by have := hvs sb e.symm; omega)]
    rw [Below.heap_alloc _ _ _ (by simp; omega), Below.heap_alloc _ _ _ hlt]; exact h.blk
  have hbx : w1.heap[w.heap.size]? = some (boxO key j) := by
    rw [hg.block w.heap.size (by simp; omega) (fun e => by have := hvs _ e.symm; omega)]
    rw [Below.heap_alloc _ _ _ (by simp)]; exact heap_alloc_new w _
  have hb1 : Below sb w w1 := (((Below.refl sb w).alloc (by omega) _).alloc (by simp; omega) _).grown hg (by simp; omega) (fun k hk => by have := hvs k hk; omega)
  have hmap : ∀ mb N (D : DataW Unit), sb < mb → w.ownsMap Try.prog 9 (plainElem Try.prog 3) mb N D → w1.ownsMap Try.prog 9 (plainElem Try.prog 3) mb N D ∧ mb ≠ g := by
    intro mb N D hs ho
    have h2 : w1.ownsMap Try.prog 9 (plainElem Try.prog 3) mb N D := by
      refine ((ho.alloc (boxO key j)).alloc zeroO).kept hg (fun e => ?_)
      rcases h.own.2 with ⟨rfl, _⟩ | ⟨g', cap', cur', hv, _, hh, _⟩
      · cases e
      · rw [hv] at e
        have e2 : mb = g' := by simpa [Value.ownBlock] using e
        obtain ⟨es, cl, hm, _⟩ := ho
        rw [e2, hh] at hm; cases hm
    refine ⟨h2, fun e => ?_⟩
    subst e
    obtain ⟨es, cl, hm, _⟩ := h2
    rcases hown.2 with ⟨hv, _⟩ | ⟨g', cap', cur', hv, _, hh, _⟩
    · cases hv
    · have e2 : mb = g' := by simp at hv; exact hv.1
      rw [← e2, hm] at hh; cases hh
  refine ⟨⟨?_, ?_, ?_, ?_, ?_⟩, ⟨?_, ?_, ?_, ?_, ?_⟩⟩
  · exact set_head ((six_heap _ _ _ _ _ _ (by omega)).trans hsb)
  · rw [Below.heap_setCell _ _ _ _ (by show w.heap.size ≠ sb; omega), six_heap _ _ _ _ _ _ (by omega)]; exact hbx
  · exact ownsRow_setCell_below (six_own key j rfl hown) (by show sb < _; omega) _
  · exact (six_below hb1 _ _ _ _ (by omega)).setCell (by exact Nat.le_refl _) _
  · intro mb N D hs ho
    have hh := hmap mb N D hs ho
    refine World.ownsMap.setCell ?_ (by show mb ≠ sb; omega) _
    have hne := hh.2
    unfold six
    exact (((((hh.1.setCell (by exact hne) _).setCell (by exact hne) _).setCell (by exact hne) _).setCell (by exact hne) _).setCell (by exact hne) _).setCell (by exact hne) _
  · exact (six_heap _ _ _ _ _ _ (by omega)).trans (set_head hsb)
  · rw [six_heap _ _ _ _ _ _ (by omega), Below.heap_setCell _ _ _ _ (by show w.heap.size ≠ sb; omega)]; exact hbx
  · exact six_own key j rfl (ownsRow_setCell_below hown (by show sb < _; omega) _)
  · exact six_below (hb1.setCell (by exact Nat.le_refl _) _) _ _ _ _ (by omega)
  · intro mb N D hs ho
    have hh := hmap mb N D hs ho
    have hne := hh.2
    unfold six
    exact ((((((hh.1.setCell (by show mb ≠ sb; omega) _).setCell (by exact hne) _).setCell (by exact hne) _).setCell (by exact hne) _).setCell (by exact hne) _).setCell (by exact hne) _).setCell (by exact hne) _

/-- The set again, once its index is told: wz is wc but for map blocks and new blocks. -/
theorem Mid.inv {w wc wz : World} {sb : Nat} {ps : List (ByteArray × Nat)} {v : Value} {m0 m : Option Nat} {g cap : Nat} {key : ByteArray} {j : Nat} (hi : Inv w sb ps v m0) (hkl : key.size ≤ maxLen) (hnew : ix key 0 (ps.map Prod.fst) = -1)
    (hown : wc.ownsRow (sb + 1) 47 6 (.slice (some ⟨g, 0, none⟩) (ps.length + 1) cap) (ps.length + 1) ((ps ++ [(key, j)]).flatMap attr))
    (hg : wz.heap[g]? = wc.heap[g]?) (hb : wz.heap[sb]? = some (.cells #[.slice (some ⟨g, 0, none⟩) (ps.length + 1) cap, .map m, .int .i64 0] 44 (0, 0)))
    (hidx : (m = none ∧ ps.length + 1 ≤ 32) ∨ (32 < ps.length + 1 ∧ ∃ mb D, m = some mb ∧ sb < mb ∧ wz.ownsMap Try.prog 9 (plainElem Try.prog 3) mb (ps.length + 1) D ∧ Idx D ((ps ++ [(key, j)]).map Prod.fst))) :
    Inv wz sb (ps ++ [(key, j)]) (.slice (some ⟨g, 0, none⟩) (ps.length + 1) cap) m := by
  have hl : (ps ++ [(key, j)]).length = ps.length + 1 := by simp
  refine ⟨hb, ?_, dist_snoc hi.dist hnew, ?_, ?_⟩
  · rw [hl]
    refine ⟨hown.1, ?_⟩
    rcases hown.2 with ⟨hv, _⟩ | ⟨g', cap', cur, hv, h1, h2, r⟩
    · cases hv
    · have e2 : g = g' := by simp at hv; exact hv.1
      exact .inr ⟨g', cap', cur, hv, h1, by rw [← e2, hg, e2]; exact h2, r⟩
  · intro p hp
    rcases List.mem_append.1 hp with hp | hp
    · exact hi.small p hp
    · simp at hp; subst hp; exact hkl
  · rw [hl]; exact hidx
end Go.Proofs.Qxb6602343a
