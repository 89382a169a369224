/-
  'Add' of the thirty-third attribute: the index is made.
-/
import Derived.Test.Qxb6602343aSetAddB
namespace Go.Proofs.Qxb6602343a
open Go.RowKit Go.Maps SetPlain

theorem run_makeMap42 (w : World) (k : Int) : (Instr.makeMap 42 (some (.int .i64 k))).run Try.prog w = .ok (.map (some w.heap.size)) (w.alloc (.map #[] 0)) := by
  simp [Instr.makeMap, run_underlying Try.underlying42, asInt, asIntOf]

set_option maxHeartbeats 1000000 in
theorem add21_make {w : World} {sb : Nat} {ps : List (ByteArray × Nat)} {v : Value} (h : Inv w sb ps v none) (hn : ps.length = 32) (key : ByteArray) (hkl : key.size ≤ maxLen) (j : Nat) (hnew : ix key 0 (ps.map Prod.fst) = -1) :
    Calls Try.prog 21 #[.pointer (some ⟨sb, 0, none⟩), .agg #[.string key, .int .i64 3, .string ByteArray.empty, .int .u64 j, .slice none 0 0, .slice none 0 0]] w fun e w' => e = .returned (.tuple #[]) ∧ Below sb w w' ∧ ∃ v' m', Inv w' sb (ps ++ [(key, j)]) v' m' := by
  have qn : ∀ (w : World) (r : Option Nat), (binOp .neq 42 (.map r) (.map none)).run Try.prog w = .ok (.bool !r.isNone) w := fun w r => run_neq_map_nil w _ _ _ r Try.underlying42
  have HN : Hid (ps.length = 32) := hn
  have hn2 : ps.length ≤ 32 := by omega
  clear hn
  have hs := h.lt
  have k0 := h.c0
  have k1 := h.c1
  have k2 := h.c2
  have l0 := h.f0
  have l1 := h.f1
  obtain ⟨g, cap, w1, hrun, hown1, hgrow⟩ := append_one sb w hs v ps.length _ h.own (by omega) key j
  have hB := behind h hown1 hgrow
  obtain ⟨HA, HB⟩ := mid_of h hown1 hgrow
  unfold six at HA HB
  obtain ⟨ao, c, hv⟩ : ∃ ao c, v = .slice ao ps.length c := by
    rcases own_shape h.own with ⟨rfl, h0⟩ | ⟨g, cap, rfl, _⟩
    · exact ⟨none, 0, by rw [h0]⟩
    · exact ⟨_, _, rfl⟩
  subst hv
  have HR : Hid ((Builtin.append_ #[29, 29] 29 #[.slice ao ps.length c, .slice (some ⟨w.heap.size + 1, 0, none⟩) 1 1]).run Try.prog ((w.alloc (boxO key j)).alloc zeroO).drew = .ok (.slice (some ⟨g, 0, none⟩) (ps.length + 1) cap) w1) := hrun
  clear hrun
  have HI : Hid (Inv w sb ps (.slice ao ps.length c) none) := h
  obtain ⟨hsg, hgw, e0, e1, e2, f0, f1, b0, b1, b2, b3, b4, b5, hr, hrf⟩ := hB
  obtain ⟨u0, r0⟩ := hr 0 (by omega)
  obtain ⟨u1, r1⟩ := hr 1 (by omega)
  obtain ⟨u2, r2⟩ := hr 2 (by omega)
  obtain ⟨u3, r3⟩ := hr 3 (by omega)
  obtain ⟨u4, r4⟩ := hr 4 (by omega)
  obtain ⟨u5, r5⟩ := hr 5 (by omega)
  have q0 := hrf 0
  have q1 := hrf 1
  have q2 := hrf 2
  have q3 := hrf 3
  have q4 := hrf 4
  have q5 := hrf 5
  simp only [Nat.add_zero] at r0 q0
  clear hr hrf h hown1 hgrow
  have hnn : (ps.length : Int) < (ps.length : Int) + 1 := by omega
  go_enter Try.func21, Try.ntmps21
  go_wp2
  go_cut [] (fun wc => Mid w wc sb ps g cap none key j)
  case first =>
    go_region_law (refine step_append_run rfl (.tmp 9) (.tmp 12) 29 rfl (.slice ao ps.length c) (.slice (some ⟨w.heap.size + 1, 0, none⟩) 1 1) _ _ rfl rfl HR.out ?_)
    all_goals (go_wp2_with fail; go_meet; first | with_reducible exact HA | with_reducible exact HB)
  case rest =>
    have hmm := run_makeMap42
    have m0 : wc.cell? ⟨sb, 0, none⟩ = some (.slice (some ⟨g, 0, none⟩) (ps.length + 1) cap) := by simp [World.cell?, hcut.blk]
    have m1 : wc.cell? ⟨sb, 1, none⟩ = some (.map none) := by simp [World.cell?, hcut.blk]
    have m2 : wc.cell? ⟨sb, 2, none⟩ = some (.int .i64 0) := by simp [World.cell?, hcut.blk]
    have m3 : wc.frozen? ⟨sb, 1, none⟩ = false := by simp [World.frozen?, hcut.blk]
    have HC : Hid (Mid w wc sb ps g cap none key j) := hcut
    have hgs : g < wc.heap.size := (hcut.own.lt g rfl).2
    have hss : sb < wc.heap.size := lt_of_block hcut.blk
    rw [HN.out] at m0
    clear hcut e0 e1 e2 f0 f1 b0 b1 b2 b3 b4 b5 r0 r1 r2 r3 r4 r5 q0 q1 q2 q3 q4 q5 k0 k1 k2 l0 l1 HA HB HR hnn
    go_wp2
    go_region
    go_wp2
    have hx : (wc.setCell ⟨sb, 1, none⟩ (.map (some wc.heap.size))).heap.size = wc.heap.size := by simp [World.setCell]
    obtain ⟨wd, hwd⟩ : ∃ wd, wd = ((wc.setCell ⟨sb, 1, none⟩ (.map (some wc.heap.size))).alloc (Obj.map #[] 0)).drew := ⟨_, rfl⟩
    rw [← hwd]
    have hblk : wd.heap[sb]? = some (.cells #[.slice (some ⟨g, 0, none⟩) (ps.length + 1) cap, .map (some wc.heap.size), .int .i64 0] 44 (0, 0)) := by
      rw [hwd]
      exact (Below.heap_alloc _ _ _ (by rw [hx]; exact hss)).trans (set_mid HC.out.blk)
    have hgg : wd.heap[g]? = wc.heap[g]? := by
      rw [hwd]
      exact (Below.heap_alloc _ _ _ (by rw [hx]; exact hgs)).trans (Below.heap_setCell _ _ _ _ (by show g ≠ sb; omega))
    have hmap : wd.ownsMap Try.prog 9 (plainElem Try.prog 3) wc.heap.size 0 (.map [] : DataW Unit) := by
      have := World.ownsMap_made (wc.setCell ⟨sb, 1, none⟩ (.map (some wc.heap.size))) Try.prog 9 (plainElem (H := Unit) Try.prog 3)
      rw [hx] at this
      rw [hwd]; exact this.drew
    have hbd : Below sb w wd := by
      rw [hwd]
      exact ((HC.out.bel.setCell (p := ⟨sb, 1, none⟩) (Nat.le_refl _) _).alloc (by rw [hx]; omega) _).drew
    have hsd : wc.heap.size < wd.heap.size := by rw [hwd]; simp [World.setCell]
    have HG : Hid (wd.ownsRow (sb + 1) 47 6 (.slice (some ⟨g, 0, none⟩) 33 cap) 33 ((ps ++ [(key, j)]).flatMap attr)) := by
      have ho := HC.out.own
      rw [HN.out] at ho
      refine ⟨ho.1, ?_⟩
      rcases ho.2 with ⟨hv, _⟩ | ⟨g', cap', cur, hv, h1, h2, r⟩
      · cases hv
      · have e2 : g = g' := by simp at hv; exact hv.1
        exact .inr ⟨g', cap', cur, hv, h1, by rw [← e2, hgg, e2]; exact h2, r⟩
    have HL : Hid ((ps ++ [(key, j)]).length = 33) := by show _ = _; simp [HN.out]
    have HDi : Hid (Dist (ps ++ [(key, j)])) := dist_snoc HI.out.dist hnew
    have HSm : Hid (∀ p ∈ ps ++ [(key, j)], p.1.size ≤ maxLen) := by
      intro p hp
      rcases List.mem_append.1 hp with hp | hp
      · exact HI.out.small p hp
      · simp at hp; subst hp; exact hkl
    rw [HN.out] at hblk
    have HGG : Hid (wd.heap[g]? = wc.heap[g]?) := hgg
    have HBK : Hid (wd.heap[sb]? = some (.cells #[.slice (some ⟨g, 0, none⟩) 33 cap, .map (some wc.heap.size), .int .i64 0] 44 (0, 0))) := hblk
    have hbs := HC.out.bel.size
    generalize hbx : wc.heap.size = mb at *
    clear hx hwd hblk hgg m0 m1 m2 m3 hbx
    have hgm : g < mb := hgs
    go_loopw [61] (fun i wr => ∃ (k : Nat) (D : DataW Unit), k ≤ 33 ∧ i = .int .i64 k ∧ wr.ownsMap Try.prog 9 (plainElem Try.prog 3) mb k D ∧ Hid (Idx D (((ps ++ [(key, j)]).take k).map Prod.fst)) ∧ Below sb w wr ∧ Hid (wr.heap[g]? = wd.heap[g]?) ∧ Hid (wr.heap[sb]? = wd.heap[sb]?) ∧ wd.heap.size ≤ wr.heap.size) (fun i _ => 33 - (intOf i).toNat)
    case atStart => exact ⟨0, _, Nat.zero_le _, rfl, hmap, idx_nil, hbd, rfl, rfl, Nat.le_refl _⟩
    case round =>
      obtain ⟨k, D, hk, rfl, hom, HD, hbel, Hg, Hs, hsz⟩ := hrel
      by_cases hlt : k < 33
      · obtain ⟨p, hp⟩ : ∃ p, (ps ++ [(key, j)])[k]? = some p := ⟨_, List.getElem?_eq_getElem (by rw [HL.out]; exact hlt)⟩
        have ho := HG.out
        have ho2 : wr.ownsRow (sb + 1) 47 6 (.slice (some ⟨g, 0, none⟩) 33 cap) 33 ((ps ++ [(key, j)]).flatMap attr) := by
          refine ⟨ho.1, ?_⟩
          rcases ho.2 with ⟨hv, _⟩ | ⟨g', cap', cur, hv, h1, h2, r⟩
          · cases hv
          · have e2 : g = g' := by simp at hv; exact hv.1
            exact .inr ⟨g', cap', cur, hv, h1, by rw [← e2, Hg.out, e2]; exact h2, r⟩
        obtain ⟨e0, e1, e2, e3, e4, e5⟩ := cells6 ho2 hp hlt
        have hsbk := Hs.out.trans HBK.out
        have m1 : wr.cell? ⟨sb, 1, none⟩ = some (.map (some mb)) := by simp [World.cell?, hsbk]
        have hsr : sb < wr.heap.size := lt_of_block hsbk
        have hgr : g < wr.heap.size := by omega
        have hps : p.1.size ≤ maxLen := HSm.out p (List.mem_of_getElem? hp)
        have HNew : Hid (ix p.1 0 (((ps ++ [(key, j)]).take k).map Prod.fst) = -1) := HDi.out k p hp
        have HT1 : Hid (((ps ++ [(key, j)]).take (k + 1)).map Prod.fst = ((ps ++ [(key, j)]).take k).map Prod.fst ++ [p.1]) := by
          show _ = _
          have hkl2 : k < (ps ++ [(key, j)]).length := by rw [HL.out]; exact hlt
          have hpe : (ps ++ [(key, j)])[k] = p := by rw [List.getElem?_eq_getElem hkl2] at hp; simpa using hp
          rw [List.take_succ_eq_append_getElem hkl2, hpe]; simp
        have HT2 : Hid ((((ps ++ [(key, j)]).take k).map Prod.fst).length = k) := by
          show _ = _
          rw [List.length_map, List.length_take, HL.out]; omega
        clear hp ho ho2 hsbk
        obtain ⟨pk, pj⟩ := p
        dsimp only at e0 e3 hps HNew HT1
        have hk2 := WideMaps.keyOf_string_mk (P := Try.prog) Try.underlying9 hps
        obtain ⟨w2, hst, hom2, htn⟩ := ((hom.alloc (.cells #[.string pk, .int .i64 3, .string ByteArray.empty, .int .u64 pj, .slice none 0 0, .slice none 0 0] 47)).drew).store law9 Try.underlying42 (by unfold maxLen; omega) hk2 (plainElem_int (a := (k : Int)) Try.underlying3 (WalkArith.wf_i64 (by omega)))
        have hT := htn.grown
        have HM : Hid (w2.ownsMap Try.prog 9 (plainElem Try.prog 3) mb (k + 1) (D.put (.string pk.data.toList) (.lit (.int .i64 (k : Int))))) := hom2
        have HI2 : Hid (Idx (D.put (.string pk.data.toList) (.lit (.int .i64 (k : Int)))) (((ps ++ [(key, j)]).take (k + 1)).map Prod.fst)) := by
          have := idx_put HD.out pk HNew.out
          rw [HT2.out, ← HT1.out] at this
          exact this
        have HB2 : Hid (Below sb w w2) := (hbel.alloc (by omega) _).drew.grown hT (by simp; omega) (fun k hk => by cases hk; omega)
        have Hg2 : Hid (w2.heap[g]? = wd.heap[g]?) := ((hT.block g (by simp; omega) (by simp; omega)).trans (Below.heap_alloc _ _ _ hgr)).trans Hg.out
        have Hs2 : Hid (w2.heap[sb]? = wd.heap[sb]?) := ((hT.block sb (by simp; omega) (by simp; omega)).trans (Below.heap_alloc _ _ _ hsr)).trans Hs.out
        have hsz2 : wd.heap.size ≤ w2.heap.size := by have := hT.size; simp at this; omega
        clear hk2 hom2 htn hT HT1 HT2 HNew hom
        go_wp2
        go_region
        all_goals
          go_wp2
          go_roundw
          case rel => exact ⟨k + 1, _, by omega, by go_num, HM.out, HI2, HB2.out, Hg2, Hs2, hsz2⟩
          case measure => simp [intOf]; omega
      · have hk33 : k = 33 := by omega
        subst hk33
        have hD := HD.out
        rw [List.take_of_length_le (by rw [HL.out]; omega)] at hD
        have HD2 : Hid (Idx D ((ps ++ [(key, j)]).map Prod.fst)) := hD
        clear hD HD
        go_wp2
        go_end0
        have hb := Hs.out.trans HBK.out
        refine ⟨rfl, hbel, .slice (some ⟨g, 0, none⟩) (ps.length + 1) cap, some mb, Mid.inv HI.out hkl hnew HC.out.own (Hg.out.trans HGG.out) ?_ (.inr ⟨by rw [HN.out]; omega, mb, D, rfl, by omega, ?_, HD2.out⟩)⟩
        · rw [HN.out]; exact hb
        · rw [HN.out]; exact hom
end Go.Proofs.Qxb6602343a
