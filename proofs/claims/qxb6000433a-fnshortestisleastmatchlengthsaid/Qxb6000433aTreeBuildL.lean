/-
  'build': one round's facts, without a walk.
-/
import Derived.Test.Qxb6000433aTreeBuild
namespace Go.Proofs.Qxb6000433a
open Go.RowKit

theorem own_take {w : World} {base : Nat} {g n cap top : Nat} {xs : List Value} (h : w.ownsRow base 21 1 (.slice (some ⟨g, 0, none⟩) n cap) n xs) (ht : top ≤ n) : w.ownsRow base 21 1 (.slice (some ⟨g, 0, none⟩) top cap) top (xs.take top) := by
  have hl := h.1
  rcases h.2 with ⟨hv, _⟩ | ⟨g', cap', cur, hv, hg, hh, r1, r2, r3, r4⟩
  · cases hv
  · simp at hv
    obtain ⟨rfl, rfl⟩ := hv
    refine ⟨by simp; omega, .inr ⟨g, cap, cur, rfl, hg, hh, by omega, r2, r3, ?_⟩⟩
    rw [← r4, List.take_take, show min top (n * 1) = top * 1 by omega]
theorem own_cap {w : World} {base : Nat} {g n cap : Nat} {xs : List Value} (h : w.ownsRow base 21 1 (.slice (some ⟨g, 0, none⟩) n cap) n xs) : n ≤ cap ∧ cap ≤ maxLen ∧ base ≤ g ∧ g < w.heap.size := by
  have h3 := h.lt g rfl
  rcases h.2 with ⟨hv, _⟩ | ⟨g', cap', cur, hv, hg, hh, r1, r2, r3, r4⟩
  · cases hv
  · simp at hv
    obtain ⟨rfl, rfl⟩ := hv
    exact ⟨r1, r2, h3⟩
theorem si_take (st : List Nat) (t : Nat) : si (st.take t) = (si st).take t := by simp [si]
theorem si_app (st : List Nat) (c : Nat) : si (st ++ [c]) = si st ++ [.int .i32 (c : Int)] := by simp [si]
theorem si_last (st : List Nat) (c : Nat) (h : st ≠ []) : si (st.take (st.length - 1) ++ [c]) = (si st).set (st.length - 1) (.int .i32 (c : Int)) := by
  have h0 : 0 < st.length := List.length_pos_iff.mpr h
  apply List.ext_getElem?
  intro i
  rw [si_app, si_take, List.getElem?_set]
  by_cases e : st.length - 1 = i
  · subst e
    rw [List.getElem?_append_right (by simp [si_len])]
    simp [si_len]
    omega
  · rw [if_neg e]
    by_cases e2 : i < st.length - 1
    · rw [List.getElem?_append_left (by simp [si_len]; omega), List.getElem?_take_of_lt e2]
    · rw [List.getElem?_eq_none (by simp [si_len]; omega), List.getElem?_eq_none (by simp [si_len]; omega)]

theorem one_drop {st : List Nat} (h : st ≠ []) : st.drop (st.length - 1) = [(st.drop (st.length - 1)).getD 0 0] := by
  have h0 : 0 < st.length := List.length_pos_iff.mpr h
  have hl : (st.drop (st.length - 1)).length = 1 := by simp; omega
  generalize st.drop (st.length - 1) = d at hl
  match d, hl with
  | [x], _ => rfl

section
variable {w0 wr w1 w2 : World} {tb B k : Nat} {sv sv0 sv' : Value} {pos pos' : Nat} {ns ns' : List Nd} {st : List Nat} {v v1 : Nat → Value} {kids kids' : Nat → List Nat} {o : Obj}
theorem Rd.skip (h : Rd w0 wr tb B k sv pos ns st v kids) : Rd w0 wr tb B (k + 1) sv pos ns st v kids := ⟨h.tr, h.so, h.ap, h.fo, by have := h.nl; omega, h.sl, by have := h.pl; omega, h.bel, h.hB⟩
/-- The stack, when it is not empty. -/
theorem Rd.stack (h : Rd w0 wr tb B k sv pos ns st v kids) (hs : st ≠ []) : ∃ gs cap, sv = .slice (some ⟨gs, 0, none⟩) st.length cap ∧ st.length ≤ cap ∧ cap ≤ maxLen ∧ B ≤ gs ∧ gs < wr.heap.size ∧ gs ≠ tb ∧ (∀ i, i < 9 → (v i).ownBlock ≠ some gs) := by
  have h0 : 0 < st.length := List.length_pos_iff.mpr hs
  have hso := h.so
  rcases hso.2 with ⟨_, h1⟩ | ⟨g, cap, cur, hv, _⟩
  · omega
  · rw [hv] at hso
    obtain ⟨c1, c2, c3, c4⟩ := own_cap hso
    have := h.tr.tB
    refine ⟨g, cap, hv, c1, c2, c3, c4, by omega, fun i hi e => ?_⟩
    have := h.ap i hi (by rw [hv]; exact e)
    rw [hv] at this; cases this
theorem Rd.nilLen (h : Rd w0 wr tb B k sv pos ns [] v kids) : ∃ p c, sv = .slice p 0 c := by
  rcases h.so.2 with ⟨h1, _⟩ | ⟨g, cap, cur, hv, _⟩
  · exact ⟨_, _, h1⟩
  · exact ⟨_, _, hv⟩

theorem Rd.push (h : Rd w0 wr tb B k sv pos ns st v kids) (ht : Tree w1 tb B v1 ns') (hk : Kept wr w1 tb v v1) (hsv : sv0.ownBlock = sv.ownBlock) (top : Nat) (htop : top ≤ st.length) (ho : w1.ownsRow B 21 1 sv0 top (si (st.take top)))
    (hown : w2.ownsRow B 21 1 sv' (top + 1) (si (st.take top) ++ [.int .i32 (ns.length : Int)])) (hg : (w1.alloc o).grownBy w2 sv0.ownBlock) (hat : sv'.ownBlock = sv0.ownBlock ∨ sv'.ownBlock = some (w1.alloc o).heap.size)
    (fo : Forest ns' (st.take top ++ [ns.length]) kids' pos') (nl : ns'.length = ns.length + 1) (pl : pos' ≤ 8 * (k + 1)) : Rd w0 w2 tb B (k + 1) sv' pos' ns' (st.take top ++ [ns.length]) v1 kids' := by
  obtain ⟨_, a1⟩ := hk.stack h.so h.ap h.tr.tB
  have a2 : Apart v1 sv0 := fun i hi e => by rw [hsv] at e ⊢; exact a1 i hi e
  obtain ⟨t2, a3⟩ := ht.pushed ho a2 hg hat
  have hb1 : Below tb w0 w1 := h.bel.trans (hk.below h.tr (Nat.le_refl tb))
  have hs1 : tb ≤ w1.heap.size := Nat.le_of_lt ht.lt
  have htl : (st.take top).length = top := by simp; omega
  have hnl := h.nl
  have hsl := h.sl
  refine ⟨t2, ?_, a3, fo, by omega, by simp; omega, pl, below_push hb1 ht.tB hs1 ho hg, ?_⟩
  · rw [si_app, List.length_append, htl]; exact hown
  · have h1 := h.hB
    have h2 := hk.size
    have h3 := hg.size
    simp at h3
    omega

theorem Rd.rep (h : Rd w0 wr tb B k sv pos ns st v kids) (hs : st ≠ []) (d : Nd) (hdn : d.next = -1) (ht : Tree w1 tb B v1 (ns ++ [d])) (hk : Kept wr w1 tb v v1) (gs cap : Nat) (hsv : sv = .slice (some ⟨gs, 0, none⟩) st.length cap) (g2 c2 : Nat) (hv2 : v1 2 = .slice (some ⟨g2, 0, none⟩) (ns.length + 1) c2)
    (ok : NodeOk d (st.drop (st.length - 1)) pos) :
    Rd w0 ((w1.setCell ⟨g2, ns.length, none⟩ (.int .i32 ((st.getD (st.length - 1) 0 : Nat) : Int))).setCell ⟨gs, st.length - 1, none⟩ (.int .i32 (ns.length : Int))) tb B (k + 1) sv pos (link ns.length (st.drop (st.length - 1)) (ns ++ [d]) 1) (st.take (st.length - 1) ++ [ns.length]) v1 (updK kids ns.length (st.drop (st.length - 1))) := by
  have h0 : 0 < st.length := List.length_pos_iff.mpr hs
  have hdl : (st.drop (st.length - 1)).length = 1 := by simp; omega
  have hfo := h.fo.link d hdn (st.length - 1) (by omega) (.inl ok)
  rw [hdl] at hfo
  obtain ⟨s1, a1⟩ := hk.stack h.so h.ap h.tr.tB
  obtain ⟨t2, k2⟩ := ht.first g2 _ c2 ns.length hv2 (by simp) ((st.getD (st.length - 1) 0 : Nat) : Int)
  obtain ⟨s2, a2⟩ := k2.stack s1 a1 ht.tB
  have e1 : link ns.length (st.drop (st.length - 1)) (ns ++ [d]) 1 = setFirst (ns ++ [d]) ns.length ((st.getD (st.length - 1) 0 : Nat) : Int) := by
    rw [link]; simp [List.getD]
  have hl1 : (setFirst (ns ++ [d]) ns.length ((st.getD (st.length - 1) 0 : Nat) : Int)).length = ns.length + 1 := by rw [setFirst_len]; simp
  rw [e1] at hfo ⊢
  generalize hW : w1.setCell ⟨g2, ns.length, none⟩ (.int .i32 ((st.getD (st.length - 1) 0 : Nat) : Int)) = w3 at t2 k2 s2 a2 ⊢
  rw [hsv] at s2 a2 ⊢
  obtain ⟨s3, g3⟩ := s2.stored (st.length - 1) (.int .i32 (ns.length : Int))
  have hgs := s2.lt gs rfl
  have hltb := ht.tB
  have hbel : Below tb w0 w3 := (h.bel.trans (hk.below h.tr (Nat.le_refl tb))).trans (k2.below ht (Nat.le_refl tb))
  have hnl := h.nl
  have hsl := h.sl
  have hpl := h.pl
  have hB := h.hB
  have hz1 := hk.size
  have hz2 := k2.size
  refine ⟨⟨?_, t2.tB, fun i hi => ?_, t2.dis⟩, ?_, a2, hfo, by omega, by rw [hl1]; simp; omega, by omega, hbel.grown g3 (by omega) (fun j hj => by cases hj; omega), by simp [World.setCell]; omega⟩
  · rw [Below.heap_setCell _ _ _ _ (by show tb ≠ gs; omega)]; exact t2.blk
  · refine ownsRow_setCell_other (t2.own i hi) (fun e2 => ?_) _
    have := a2 i hi e2
    cases this
  · rw [si_last st ns.length hs]
    have : (st.take (st.length - 1) ++ [ns.length]).length = st.length := by simp; omega
    rw [this]; exact s3
theorem Rd.drew (h : Rd w0 wr tb B k sv pos ns st v kids) : Rd w0 wr.drew tb B k sv pos ns st v kids := ⟨⟨h.tr.blk, h.tr.tB, fun i hi => (h.tr.own i hi).drew, h.tr.dis⟩, h.so.drew, h.ap, h.fo, h.nl, h.sl, h.pl, h.bel.drew, h.hB⟩
end

theorem own_slice {w : World} {B : Nat} {e : TypeId} {u : Value} {n : Nat} {xs : List Value} (h : w.ownsRow B e 1 u n xs) : ∃ p c, u = .slice p n c := by
  rcases h.2 with ⟨h1, h0⟩ | ⟨g, cap, cur, hv, _⟩
  · exact ⟨none, 0, by rw [h1, h0]⟩
  · exact ⟨_, _, hv⟩
theorem cellz {w : World} {b : Nat} (h : w.heap[b]? = some zO) (i : Nat) (hi : i < 9) : w.cell? ⟨b, i, none⟩ = some (.slice none 0 0) := by
  unfold World.cell?
  dsimp only
  rw [h]
  have : i = 0 ∨ i = 1 ∨ i = 2 ∨ i = 3 ∨ i = 4 ∨ i = 5 ∨ i = 6 ∨ i = 7 ∨ i = 8 := by omega
  rcases this with rfl | rfl | rfl | rfl | rfl | rfl | rfl | rfl | rfl <;> rfl
theorem freez {w : World} {b : Nat} (h : w.heap[b]? = some zO) (i : Nat) : w.frozen? ⟨b, i, none⟩ = false := by simp [World.frozen?, h, zO]
def put9 (w : World) (b : Nat) (v : Nat → Value) : World := ((((((((w.setCell ⟨b, 0, none⟩ (v 0)).setCell ⟨b, 1, none⟩ (v 1)).setCell ⟨b, 2, none⟩ (v 2)).setCell ⟨b, 3, none⟩ (v 3)).setCell ⟨b, 4, none⟩ (v 4)).setCell ⟨b, 5, none⟩ (v 5)).setCell ⟨b, 6, none⟩ (v 6)).setCell ⟨b, 7, none⟩ (v 7)).setCell ⟨b, 8, none⟩ (v 8)
theorem put9_own {w : World} {b B : Nat} {v : Nat → Value} {e : TypeId} {u : Value} {n : Nat} {xs : List Value} (h : w.ownsRow B e 1 u n xs) (hb : b < B) : (put9 w b v).ownsRow B e 1 u n xs := by
  unfold put9
  refine ownsRow_setCell_below ?_ hb _
  refine ownsRow_setCell_below ?_ hb _
  refine ownsRow_setCell_below ?_ hb _
  refine ownsRow_setCell_below ?_ hb _
  refine ownsRow_setCell_below ?_ hb _
  refine ownsRow_setCell_below ?_ hb _
  refine ownsRow_setCell_below ?_ hb _
  refine ownsRow_setCell_below ?_ hb _
  exact ownsRow_setCell_below h hb _
theorem put9_below {w0 w : World} {b B : Nat} (v : Nat → Value) (h : Below B w0 w) (hb : B ≤ b) : Below B w0 (put9 w b v) := by
  unfold put9
  exact ((((((((h.setCell hb _).setCell hb _).setCell hb _).setCell hb _).setCell hb _).setCell hb _).setCell hb _).setCell hb _).setCell hb _

theorem put9_spell {w : World} {b : Nat} {v : Nat → Value} {a0 a1 a2 a3 a4 a5 a6 a7 a8 : Value} (h0 : v 0 = a0) (h1 : v 1 = a1) (h2 : v 2 = a2) (h3 : v 3 = a3) (h4 : v 4 = a4) (h5 : v 5 = a5) (h6 : v 6 = a6) (h7 : v 7 = a7) (h8 : v 8 = a8) : put9 w b v = (((((((((w.setCell ⟨b, 0, none⟩ a0).setCell ⟨b, 1, none⟩ a1).setCell ⟨b, 2, none⟩ a2).setCell ⟨b, 3, none⟩ a3).setCell ⟨b, 4, none⟩ a4).setCell ⟨b, 5, none⟩ a5).setCell ⟨b, 6, none⟩ a6).setCell ⟨b, 7, none⟩ a7).setCell ⟨b, 8, none⟩ a8) := by
  unfold put9; rw [h0, h1, h2, h3, h4, h5, h6, h7, h8]
theorem put9_block {w : World} {b : Nat} (v : Nat → Value) (h : w.heap[b]? = some zO) : (put9 w b v).heap[b]? = some (.cells #[v 0, v 1, v 2, v 3, v 4, v 5, v 6, v 7, v 8] 28 (0, 0)) := by
  unfold put9
  unfold zO at h
  have h1 := set_block (k := 0) (u := v 0) h
  simp only [List.setIfInBounds_toArray, List.set_cons_zero] at h1
  have h2 := set_block (k := 1) (u := v 1) h1
  simp only [List.setIfInBounds_toArray, List.set_cons_zero, List.set_cons_succ] at h2
  have h3 := set_block (k := 2) (u := v 2) h2
  simp only [List.setIfInBounds_toArray, List.set_cons_zero, List.set_cons_succ] at h3
  have h4 := set_block (k := 3) (u := v 3) h3
  simp only [List.setIfInBounds_toArray, List.set_cons_zero, List.set_cons_succ] at h4
  have h5 := set_block (k := 4) (u := v 4) h4
  simp only [List.setIfInBounds_toArray, List.set_cons_zero, List.set_cons_succ] at h5
  have h6 := set_block (k := 5) (u := v 5) h5
  simp only [List.setIfInBounds_toArray, List.set_cons_zero, List.set_cons_succ] at h6
  have h7 := set_block (k := 6) (u := v 6) h6
  simp only [List.setIfInBounds_toArray, List.set_cons_zero, List.set_cons_succ] at h7
  have h8 := set_block (k := 7) (u := v 7) h7
  simp only [List.setIfInBounds_toArray, List.set_cons_zero, List.set_cons_succ] at h8
  have h9 := set_block (k := 8) (u := v 8) h8
  simp only [List.setIfInBounds_toArray, List.set_cons_zero, List.set_cons_succ] at h9
  exact h9
theorem put9_cell {w : World} {b : Nat} (v : Nat → Value) (h : w.heap[b]? = some zO) (i : Nat) (hi : i < 9) : (put9 w b v).cell? ⟨b, i, none⟩ = some (v i) := by
  unfold World.cell?
  dsimp only
  rw [put9_block v h]
  dsimp only
  rw [get9 v i hi]; rfl

/-- What 'build' leaves when it says ok. -/
structure Built (w' : World) (B n : Nat) (v : Nat → Value) (ns : List Nd) (kids : Nat → List Nat) (pos : Nat) : Prop where
  fo : Forest ns [ns.length - 1] kids pos
  ne : 0 < ns.length
  nl : ns.length ≤ n + 1
  pl : pos ≤ 8 * n
  rows : ∀ i, i < 9 → w'.ownsRow B (et i) 1 (v i) ns.length (ns.map (fld i))

theorem Built.one {w0 wr : World} {tb B k b : Nat} {sv : Value} {pos : Nat} {ns : List Nd} {st : List Nat} {v : Nat → Value} {kids : Nat → List Nat} (h : Rd w0 wr tb B k sv pos ns st v kids) (h1 : st.length = 1) (hb : b < B) : Built (put9 wr b v) B k v ns kids pos := by
  have hsl := h.sl
  have hn0 : ns.length ≠ 0 := by omega
  have ht := h.fo.top hn0
  have hst : st = [ns.length - 1] := by
    match st, h1, ht with
    | [x], _, ht => simp at ht; rw [ht]
  have hfo := h.fo
  rw [hst] at hfo
  have := h.nl
  exact ⟨hfo, by omega, by omega, h.pl, fun i hi => put9_own (h.tr.own i hi) hb⟩

/-- The append to the stack, for the walk. -/
theorem wpList_push {w : World} {B top : Nat} {sv : Value} {st : List Nat} {c : Nat} {ops : Array Oper} {rest : List Oper} {o : Oper} {a : Act} {Q : Exit → Act → World → Prop} (h : w.ownsRow B 21 1 sv top (si st)) (hl : top ≤ 65536) (hB : B ≤ w.heap.size)
    (hgd : o.guard = none) (s x : Operand) (ho : o.op = .call { callee := .builtin .append, args := #[s, x], argTypes := #[26, 26] })
    (hs : a.eval s = sv) (hx : a.eval x = .slice (some ⟨w.heap.size, 0, none⟩) 1 1)
    (hK : ∀ sv' w2, Hid (w2.ownsRow B 21 1 sv' (top + 1) (si st ++ [.int .i32 (c : Int)])) → Hid ((w.alloc (.cells #[.int .i32 (c : Int)] 21)).grownBy w2 sv.ownBlock) → Hid (sv'.ownBlock = sv.ownBlock ∨ sv'.ownBlock = some (w.alloc (.cells #[.int .i32 (c : Int)] 21)).heap.size) → wpList Try.prog ops Q rest (a.put o.dst sv') w2) :
    wpList Try.prog ops Q (o :: rest) a (w.alloc (.cells #[.int .i32 (c : Int)] 21)) := by
  obtain ⟨i21, hi21, hz210, hz211, hz212⟩ := info_parts Try.info21
  refine wpList_append_own_at _ hgd s x 26 ho B 21 i21 (.int .i32 0) 1 4 Try.underlying26 hi21 hz210 hz211 hz212 rfl (by decide) sv top (si st) hs (h.alloc _) ⟨w.heap.size, 0, none⟩ 1 1 [.int .i32 (c : Int)] hx rfl (fun j u hu => cell_one_new w (.int .i32 (c : Int)) 21 j u hu) (fun u hu => ?_) (by unfold maxLen; omega) (by omega) (by simp; omega) ?_
  · simp at hu; subst hu; rfl
  · intro v' w1 g1 g2 g3 g4
    exact hK v' w1 g1 g2 g4
end Go.Proofs.Qxb6000433a
