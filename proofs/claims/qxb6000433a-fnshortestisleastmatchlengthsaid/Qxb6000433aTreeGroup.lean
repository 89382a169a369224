/-
  'tree.group' (reverse is false).
-/
import Derived.Test.Qxb6000433aTreeAdd
namespace Go.Proofs.Qxb6000433a
open Go.RowKit

def setFirst (ns : List Nd) (p : Nat) (c : Int) : List Nd := ns.modify p (fun d => { d with first := c })
def setNext (ns : List Nd) (p : Nat) (c : Int) : List Nd := ns.modify p (fun d => { d with next := c })
theorem setFirst_len (ns : List Nd) (p : Nat) (c : Int) : (setFirst ns p c).length = ns.length := by simp [setFirst]
theorem setNext_len (ns : List Nd) (p : Nat) (c : Int) : (setNext ns p c).length = ns.length := by simp [setNext]

theorem modify_map (ns : List Nd) (p : Nat) (f : Nd → Nd) (g : Nd → Value) (h : ∀ d, g (f d) = g d) : (ns.modify p f).map g = ns.map g := by
  apply List.ext_getElem?
  intro i
  rw [List.getElem?_map, List.getElem?_map, List.getElem?_modify]
  by_cases e : p = i
  · cases ns[i]? <;> simp [e, h]
  · cases ns[i]? <;> simp [e]
theorem modify_map_set (ns : List Nd) (p : Nat) (hp : p < ns.length) (f : Nd → Nd) (g : Nd → Value) (u : Value) (h : ∀ d, g (f d) = u) : (ns.modify p f).map g = (ns.map g).set p u := by
  apply List.ext_getElem?
  intro i
  rw [List.getElem?_map, List.getElem?_modify, List.getElem?_set]
  by_cases e : p = i
  · subst e
    simp [hp, h]
  · cases hh : ns[i]? <;> simp [e, hh]

/-- A store into one cell of one row. -/
theorem Nine.stored {w : World} {tb B : Nat} {v : Nat → Value} {ln : Nat → Nat} {xs : Nat → List Value} (h : Nine w tb B v ln xs) (k : Nat) (hk : k < 9) (g n cap p : Nat) (hv : v k = .slice (some ⟨g, 0, none⟩) n cap) (u : Value) :
    Nine (w.setCell ⟨g, p, none⟩ u) tb B v ln (updL xs k ((xs k).set p u)) ∧ Kept w (w.setCell ⟨g, p, none⟩ u) tb v v := by
  have hok := h.own k hk
  have hob : (v k).ownBlock = some g := by rw [hv]; rfl
  have hgB := (hok.lt g hob)
  have htB := h.tB
  have hln : ln k = n := by
    rcases hok.2 with ⟨e, _⟩ | ⟨g', cap', cur, e, _⟩
    · rw [hv] at e; cases e
    · rw [hv] at e; simp at e; omega
  refine ⟨⟨?_, htB, fun i hi => ?_, h.dis⟩, ⟨rfl, rfl, rfl, by simp [World.setCell], fun b hb hne hvb => ?_, fun i hi => .inl rfl⟩⟩
  · rw [Below.heap_setCell _ _ _ _ (by show tb ≠ g; omega)]; exact h.blk
  · by_cases e : i = k
    · subst e
      simp only [updL, if_true]
      rw [hv, hln] at hok ⊢
      exact (hok.stored p u).1
    · simp only [updL, if_neg e]
      refine ownsRow_setCell_other (h.own i hi) (fun e2 => ?_) u
      have e3 : (v i).ownBlock = (v k).ownBlock := by rw [hob]; exact e2
      have := h.dis i k hi hk e e3
      rw [e2] at this; cases this
  · exact Below.heap_setCell _ _ _ _ (fun e => hvb k hk (by rw [hob]; subst e; rfl))
theorem Tree.first {w : World} {tb B : Nat} {v : Nat → Value} {ns : List Nd} (h : Tree w tb B v ns) (g n cap p : Nat) (hv : v 2 = .slice (some ⟨g, 0, none⟩) n cap) (hp : p < ns.length) (c : Int) : Tree (w.setCell ⟨g, p, none⟩ (.int .i32 c)) tb B v (setFirst ns p c) ∧ Kept w (w.setCell ⟨g, p, none⟩ (.int .i32 c)) tb v v := by
  obtain ⟨h1, h2⟩ := Nine.stored h 2 (by omega) g n cap p hv (.int .i32 c)
  refine ⟨?_, h2⟩
  unfold Tree
  rw [setFirst_len]
  have e : (fun i => (setFirst ns p c).map (fld i)) = updL (fun i => ns.map (fld i)) 2 ((ns.map (fld 2)).set p (.int .i32 c)) := by
    funext i
    unfold updL setFirst
    by_cases e : i = 2
    · subst e; rw [if_pos rfl]; exact modify_map_set ns p hp _ _ _ (fun d => rfl)
    · rw [if_neg e]
      refine modify_map ns p _ _ (fun d => ?_)
      match i, e with
      | 0, _ | 1, _ | 3, _ | 4, _ | 5, _ | 6, _ | 7, _ => rfl
      | _ + 8, _ => rfl
  rw [e]; exact h1
theorem Tree.next {w : World} {tb B : Nat} {v : Nat → Value} {ns : List Nd} (h : Tree w tb B v ns) (g n cap p : Nat) (hv : v 3 = .slice (some ⟨g, 0, none⟩) n cap) (hp : p < ns.length) (c : Int) : Tree (w.setCell ⟨g, p, none⟩ (.int .i32 c)) tb B v (setNext ns p c) ∧ Kept w (w.setCell ⟨g, p, none⟩ (.int .i32 c)) tb v v := by
  obtain ⟨h1, h2⟩ := Nine.stored h 3 (by omega) g n cap p hv (.int .i32 c)
  refine ⟨?_, h2⟩
  unfold Tree
  rw [setNext_len]
  have e : (fun i => (setNext ns p c).map (fld i)) = updL (fun i => ns.map (fld i)) 3 ((ns.map (fld 3)).set p (.int .i32 c)) := by
    funext i
    unfold updL setNext
    by_cases e : i = 3
    · subst e; rw [if_pos rfl]; exact modify_map_set ns p hp _ _ _ (fun d => rfl)
    · rw [if_neg e]
      refine modify_map ns p _ _ (fun d => ?_)
      match i, e with
      | 0, _ | 1, _ | 2, _ | 4, _ | 5, _ | 6, _ | 7, _ => rfl
      | _ + 8, _ => rfl
  rw [e]; exact h1
theorem Tree.shape {w : World} {tb B : Nat} {v : Nat → Value} {ns : List Nd} (h : Tree w tb B v ns) (k : Nat) (hk : k < 9) (hn : 0 < ns.length) : ∃ g cap, v k = .slice (some ⟨g, 0, none⟩) ns.length cap ∧ g < w.heap.size ∧ B ≤ g := by
  have hok := h.own k hk
  rcases hok.2 with ⟨_, h0⟩ | ⟨g, cap, cur, hv, hB, _⟩
  · omega
  · exact ⟨g, cap, hv, (hok.lt g (by rw [hv]; rfl)).2, hB⟩

/-- After t of the children have been linked under the new node v. -/
def link (v : Nat) (ks : List Nat) (ns : List Nd) : Nat → List Nd
  | 0 => ns
  | 1 => setFirst ns v ((ks.getD 0 0 : Nat) : Int)
  | t + 2 => setNext (link v ks ns (t + 1)) (ks.getD t 0) ((ks.getD (t + 1) 0 : Nat) : Int)
theorem link_len (v : Nat) (ks : List Nat) (ns : List Nd) (t : Nat) : (link v ks ns t).length = ns.length := by
  match t with
  | 0 => rfl
  | 1 => exact setFirst_len _ _ _
  | t + 2 => rw [link, setNext_len]; exact link_len v ks ns (t + 1)

/-- The tree with a new node over the children ks. -/
def grouped (ns : List Nd) (kd : Int) (ks : List Nat) : List Nd := link ns.length ks (ns ++ [⟨kd, 0, -1, -1, 0, 0, 0, 0, 0⟩]) ks.length

set_option maxHeartbeats 1000000 in
theorem group35 (tb B : Nat) (v : Nat → Value) (ns : List Nd) (kd : Int) (ks : List Nat) (gs top k cs : Nat) (hkl : ks.length = k) (hk9 : k ≤ 65537) (hks : ∀ c ∈ ks, c < ns.length) (hn : ns.length ≤ 65536) (w : World) (hB : B ≤ w.heap.size) (h : Tree w tb B v ns)
    (hgs : gs < w.heap.size) (hgt : gs ≠ tb) (hgv : ∀ i, i < 9 → (v i).ownBlock ≠ some gs) (hc : ∀ j, j < k → w.cell? ⟨gs, top + j, none⟩ = some (.int .i32 ((ks.getD j 0 : Nat) : Int))) :
    Calls Try.prog 35 #[.pointer (some ⟨tb, 0, none⟩), .int .u8 kd, .slice (some ⟨gs, top, none⟩) k cs, .bool false] w fun e w' => e = .returned (.int .i32 ns.length) ∧ ∃ v', Tree w' tb B v' (grouped ns kd ks) ∧ Kept w w' tb v v' := by
  have HC : Hid (∀ j, j < k → w.cell? ⟨gs, top + j, none⟩ = some (.int .i32 ((ks.getD j 0 : Nat) : Int))) := hc
  have HKS : Hid (∀ c ∈ ks, c < ns.length) := hks
  have HKL : Hid (ks.length = k) := hkl
  have hadd := add34 tb B v ns kd 0 0 0 0 0 0 hn w hB h
  have HADD : Hid (Calls Try.prog 34 #[.pointer (some ⟨tb, 0, none⟩), .int .u8 kd, .int .u8 0, .int .i32 0, .int .i32 0, .int .i32 0, .int .i32 0, .int .i32 0] w fun e w' => e = .returned (.int .i32 ns.length) ∧ ∃ v', Tree w' tb B v' (ns ++ [⟨kd, 0, -1, -1, 0, 0, 0, 0, 0⟩]) ∧ Kept w w' tb v v') := hadd
  clear hc hks hkl hadd h
  go_enter Try.func35, Try.ntmps35
  go_wp2_with fail
  refine HADD.out.mono ?_
  rintro e w1 ⟨rfl, v1, ht1, hk1⟩
  obtain ⟨n1, hn1⟩ : ∃ n1, n1 = ns ++ [(⟨kd, 0, -1, -1, 0, 0, 0, 0, 0⟩ : Nd)] := ⟨_, rfl⟩
  have hn1l : n1.length = ns.length + 1 := by rw [hn1]; simp
  rw [← hn1] at ht1
  obtain ⟨g2, cap2, hv2, hg2, _⟩ := ht1.shape 2 (by omega) (by omega)
  obtain ⟨g3, cap3, hv3, hg3, _⟩ := ht1.shape 3 (by omega) (by omega)
  rw [hn1l] at hv2 hv3
  have hblk := hk1.block gs hgs hgt hgv
  have hgv1 : ∀ i, i < 9 → (v1 i).ownBlock ≠ some gs := by
    intro i hi e
    rcases hk1.at_ i hi with h1 | ⟨g, h1, h2⟩
    · exact hgv i hi (h1.symm.trans e)
    · rw [h1] at e; cases e; omega
  have hsz1 := hk1.size
  have HN1 : Hid (n1 = ns ++ [(⟨kd, 0, -1, -1, 0, 0, 0, 0, 0⟩ : Nd)]) := hn1
  have HNL : Hid (n1.length = ns.length + 1) := hn1l
  have HC1 : Hid (∀ j, j < k → w1.cell? ⟨gs, top + j, none⟩ = some (.int .i32 ((ks.getD j 0 : Nat) : Int))) := fun j hj => (World.cell?_of_block (w := w) (a := ⟨gs, top + j, none⟩) hblk).trans (HC.out j hj)
  have HV2 : Hid (v1 2 = .slice (some ⟨g2, 0, none⟩) (ns.length + 1) cap2) := hv2
  have HV3 : Hid (v1 3 = .slice (some ⟨g3, 0, none⟩) (ns.length + 1) cap3) := hv3
  clear hn1 hn1l hblk hv2 hv3
  have hsg1 : gs < w1.heap.size := by omega
  go_wp2
  go_loopw [11, 12] (fun pv jv wr => ∃ t : Nat, t ≤ k ∧ jv = .int .i64 t ∧ pv = .int .i32 (if t = 0 then -1 else ((ks.getD (t - 1) 0 : Nat) : Int)) ∧ Tree wr tb B v1 (link ns.length ks n1 t) ∧ Kept w1 wr tb v1 v1) (fun _ jv _ => k - (intOf jv).toNat)
  case atStart => exact ⟨0, Nat.zero_le _, rfl, rfl, ht1, Kept.refl _ _ _⟩
  case round =>
    clear ht1
    obtain ⟨t, ht, rfl, rfl, htr, hkr⟩ := hrel
    by_cases hlt : t < k
    · have hcell : wr.cell? ⟨gs, top + t, none⟩ = some (.int .i32 ((ks.getD t 0 : Nat) : Int)) := (World.cell?_of_block (w := w1) (a := ⟨gs, top + t, none⟩) (hkr.block gs hsg1 hgt hgv1)).trans (HC1.out t hlt)
      have hbd : ks.getD t 0 < ns.length := HKS.out _ (by simp [List.getD, HKL.out, hlt])
      obtain ⟨c, hcc⟩ : ∃ c, ks.getD t 0 = c := ⟨_, rfl⟩
      rw [hcc] at hcell hbd
      have hll : (link ns.length ks n1 t).length = ns.length + 1 := by rw [link_len, HNL.out]
      have c2 : wr.cell? ⟨tb, 2, none⟩ = some (.slice (some ⟨g2, 0, none⟩) (ns.length + 1) cap2) := by rw [← HV2.out]; exact htr.cell 2 (by omega)
      have c3 : wr.cell? ⟨tb, 3, none⟩ = some (.slice (some ⟨g3, 0, none⟩) (ns.length + 1) cap3) := by rw [← HV3.out]; exact htr.cell 3 (by omega)
      have o2 := htr.own 2 (by omega)
      have o3 := htr.own 3 (by omega)
      rw [HV2.out] at o2
      rw [HV3.out] at o3
      rw [hll] at o2 o3
      by_cases h0 : t = 0
      · subst h0
        rw [Nat.add_zero] at hcell
        obtain ⟨htn, hkn⟩ := htr.first g2 _ _ ns.length HV2.out (by omega) (c : Int)
        have hl1 : link ns.length ks n1 1 = setFirst n1 ns.length (c : Int) := by rw [link, hcc]
        have HT : Hid (Tree (wr.setCell ⟨g2, ns.length, none⟩ (.int .i32 (c : Int))) tb B v1 (link ns.length ks n1 1)) := by rw [hl1]; exact htn
        have HP : Hid (((if 0 + 1 = 0 then -1 else ((ks.getD (0 + 1 - 1) 0 : Nat) : Int))) = (c : Int)) := by show _ = _; rw [if_neg (by omega)]; exact congrArg _ hcc
        have f2 := o2.frozenAt ns.length
        have e2 := o2.cellAt ns.length (by omega)
        have e9 : ns.length < ((link ns.length ks n1 0).map (fld 2)).length := by rw [List.length_map, hll]; omega
        rw [List.getElem?_eq_getElem e9] at e2
        generalize ((link ns.length ks n1 0).map (fld 2))[ns.length] = u2 at e2
        have i1 : (ns.length : Int) < (ns.length : Int) + 1 := by omega
        clear o2 o3 htn hll hcc hl1 htr
        go_wp2
        go_roundw
        case rel => exact ⟨1, by omega, by go_num, by rw [HP.out], HT.out, hkr.trans hkn⟩
        case measure => simp [intOf]; omega
      · obtain ⟨u, rfl⟩ : ∃ u, t = u + 1 := ⟨t - 1, by omega⟩
        have hbp : ks.getD u 0 < ns.length := HKS.out _ (by simp [List.getD, HKL.out, show u < k by omega])
        have hp1 : ks.getD (u + 1 - 1) 0 = ks.getD u 0 := rfl
        rw [if_neg h0, hp1]
        obtain ⟨pr, hpr⟩ : ∃ pr, ks.getD u 0 = pr := ⟨_, rfl⟩
        rw [hpr] at hbp ⊢
        obtain ⟨htn, hkn⟩ := htr.next g3 _ _ pr HV3.out (by omega) (c : Int)
        have hl1 : link ns.length ks n1 (u + 2) = setNext (link ns.length ks n1 (u + 1)) pr (c : Int) := by rw [link, hcc, hpr]
        have HT : Hid (Tree (wr.setCell ⟨g3, pr, none⟩ (.int .i32 (c : Int))) tb B v1 (link ns.length ks n1 (u + 2))) := by rw [hl1]; exact htn
        have HP : Hid (((if u + 2 = 0 then -1 else ((ks.getD (u + 2 - 1) 0 : Nat) : Int))) = (c : Int)) := by show _ = _; rw [if_neg (by omega)]; exact congrArg _ hcc
        have f3 := o3.frozenAt pr
        have e3 := o3.cellAt pr (by omega)
        have e9 : pr < ((link ns.length ks n1 (u + 1)).map (fld 3)).length := by rw [List.length_map, hll]; omega
        rw [List.getElem?_eq_getElem e9] at e3
        generalize ((link ns.length ks n1 (u + 1)).map (fld 3))[pr] = u3 at e3
        have i1 : (pr : Int) < (ns.length : Int) + 1 := by omega
        have i2 : (0 : Int) ≤ (pr : Int) := by omega
        clear o2 o3 htn hll hcc hl1 hpr hp1 htr
        go_wp2
        go_roundw
        case rel => exact ⟨u + 2, by omega, by go_num, by rw [HP.out], HT.out, hkr.trans hkn⟩
        case measure => simp [intOf]; omega
    · have htk : t = k := by omega
      subst htk
      obtain ⟨pv, hpv⟩ : ∃ pv : Int, (if t = 0 then -1 else ((ks.getD (t - 1) 0 : Nat) : Int)) = pv := ⟨_, rfl⟩
      rw [hpv]
      clear hpv
      go_wp2
      go_ret
      refine ⟨rfl, v1, ?_, hk1.trans hkr⟩
      unfold grouped
      rw [← HN1.out, HKL.out]; exact htr
end Go.Proofs.Qxb6000433a
