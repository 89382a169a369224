/-
  'FnPutBitsSetsEachBitAsTheModelSays', the way on which she goes through.
-/
import Derived.Test.Qxb6000433aBitSmall
namespace Go.Proofs.Qxb6000433a
open Go.RowKit BitPlain

theorem own_below {w w' : World} {base : Nat} {e : TypeId} {size : Nat} {v : Value} {n : Nat} {xs : List Value} (h : w.ownsRow base e size v n xs) (hb : Below w.heap.size w w') : w'.ownsRow base e size v n xs := by
  have hl := h.lt
  obtain ⟨h1, h2⟩ := h
  refine ⟨h1, ?_⟩
  rcases h2 with h2 | ⟨g, cap, cur, hv, hg, hh, r⟩
  · exact Or.inl h2
  · refine Or.inr ⟨g, cap, cur, hv, hg, ?_, r⟩
    rw [hb.block g (hl g (by rw [hv]; rfl)).2]; exact hh
theorem own_at {w w' : World} {base : Nat} {e : TypeId} {size g n cap : Nat} {xs : List Value} (h : w.ownsRow base e size (.slice (some ⟨g, 0, none⟩) n cap) n xs) (hb : w'.heap[g]? = w.heap[g]?) : w'.ownsRow base e size (.slice (some ⟨g, 0, none⟩) n cap) n xs := by
  obtain ⟨h1, h2⟩ := h
  refine ⟨h1, ?_⟩
  rcases h2 with ⟨hv, _⟩ | ⟨g', cap', cur, hv, hg, hh, r⟩
  · cases hv
  · have e2 : g = g' := by simp at hv; exact hv.1
    exact Or.inr ⟨g', cap', cur, hv, hg, by rw [← e2, hb, e2]; exact hh, r⟩
theorem wrds_of {w : World} {ao : Option Addr} {n B : Nat} {zs : List Int} (hz : zs.length = n) (h : 0 < n → ao = some ⟨B, 0, none⟩ ∧ w.ownsRow B 36 1 (.slice (some ⟨B, 0, none⟩) n n) n (wl zs)) : Wrds w ao n zs B := by
  intro hn
  obtain ⟨h1, h2⟩ := h hn
  exact ⟨h1, (h2.lt B rfl).2, fun i hi => cells_of_wl hz h2 i hi⟩
theorem Wrds.below {w w' : World} {ao : Option Addr} {n B C : Nat} {ws : List Int} (h : Wrds w ao n ws B) (hb : Below C w w') (hC : 0 < n → B < C) : Wrds w' ao n ws B := by
  intro hn
  obtain ⟨h1, h2, h3⟩ := h hn
  exact ⟨h1, Nat.lt_of_lt_of_le h2 hb.size, fun i hi => (hb.cell (hC hn)).trans (h3 i hi)⟩

theorem one_word {c : Int} (hc : W c) (r : Nat) (hr : r < 64) (b : Bool) :
    (W (bits .or .u64 c (IntKind.u64.wrap (2 ^ r))) ∧ ∀ t, t < 64 → tb (bits .or .u64 c (IntKind.u64.wrap (2 ^ r))) t = if r ≤ t ∧ t < r + 1 then true else tb c t) ∧
    (W (bits .or .u64 (bits .andNot .u64 c (IntKind.u64.wrap (2 ^ r))) (IntKind.u64.wrap (bv b * 2 ^ r))) ∧ ∀ t, t < 64 → tb (bits .or .u64 (bits .andNot .u64 c (IntKind.u64.wrap (2 ^ r))) (IntKind.u64.wrap (bv b * 2 ^ r))) t = if r ≤ t ∧ t < r + 1 then b else tb c t) := by
  have h1 : W (IntKind.u64.wrap (2 ^ r)) ∧ ∀ t, t < 64 → tb (IntKind.u64.wrap (2 ^ r)) t = decide (t = r) := by
    have h := w_shl w_one r
    rw [Int.one_mul] at h
    refine ⟨h.1, fun t ht => ?_⟩
    rw [h.2, tb_one, decide_eq_true ht]
    by_cases e : t = r
    · subst e; simp
    · simp [e]; omega
  have hb : W (bv b) ∧ ∀ t, tb (bv b) t = (b && decide (t = 0)) := by
    cases b
    · exact ⟨w_zero, fun t => by rw [show bv false = 0 from rfl, tb_zero]; rfl⟩
    · exact ⟨w_one, fun t => by rw [show bv true = 1 from rfl, tb_one]; rfl⟩
  have h2 := w_shl hb.1 r
  have ho := w_or hc h1.1
  have hn := w_andNot hc h1.1
  have ho2 := w_or hn.1 h2.1
  refine ⟨⟨ho.1, fun t ht => ?_⟩, ⟨ho2.1, fun t ht => ?_⟩⟩
  · rw [ho.2, h1.2 t ht]
    by_cases e : t = r
    · subst e; simp
    · rw [if_neg (by omega), decide_eq_false e]; simp
  · rw [ho2.2, hn.2 t ht, h1.2 t ht, h2.2, hb.2, decide_eq_true ht]
    by_cases e : t = r
    · subst e; simp
    · rw [if_neg (by omega), decide_eq_false e]
      by_cases e2 : r ≤ t
      · rw [decide_eq_false (show ¬ t - r = 0 by omega)]; simp
      · rw [decide_eq_false e2]; simp

/-- One bit laid. -/
theorem bit_next {add : Bool} {ds src cs : List Int} {D M q r n : Nat} {s sn dd y : Int} (hdone : Done add ds src D s M cs) (hcl : cs.length = n) (hqn : q < n) (hD : (D : Int) + M = dd) (hq : dd / 64 = (q : Int)) (hr : dd % 64 = (r : Int)) (hs : s + M = sn) (hy : W y)
    (hb : ∀ t, t < 64 → tb y t = if r ≤ t ∧ t < r + 1 then (if add = true then (tb (cs.getD q 0) t || gb src sn) else gb src sn) else tb (cs.getD q 0) t) : Done add ds src D s (M + 1) (cs.set q y) := by
  refine done_step hdone q y (by omega) hy r (by omega) (by omega) (fun t ht => ?_)
  rw [hb t ht]
  by_cases e : r ≤ t ∧ t < r + 1
  · rw [if_pos e, if_pos e, hs]
    have e2 : sn + ((t : Int) - (r : Int)) = sn := by omega
    rw [e2]
  · rw [if_neg e, if_neg e]

set_option maxHeartbeats 2000000 in
theorem law5_in (a0 a2 : Option Addr) (n c m c2 : Nat) (ds src : List Int) (D K : Nat) (s : Int) (add : Bool) (hn : n ≤ 65536) (hm : m ≤ 65536) (hK : K ≤ 65536) (hDK : D + K ≤ 64 * n) (hs1 : -1073741824 ≤ s) (hs2 : s ≤ 1073741824) (hn0 : 0 < n)
    (hdl : ds.length = n) (hsl : src.length = m) (hdw : Ws ds) (hsw : Ws src) (w : World) (hd : Got w a0 n ds) (hs : Got w a2 m src) :
    Calls Try.prog 5 #[.slice a0 n c, .int .i64 D, .slice a2 m c2, .int .i64 s, .int .i64 K, .bool add] w fun e w' => e = .returned (.bool true) ∧ Below w.heap.size w w' := by
  have hb := bytes19 a0 a2 n c m c2 D s K add (by unfold maxLen; omega) (by unfold maxLen; omega) w
  have HB : Hid (Calls Try.prog 19 #[.slice a0 n c, .int .i64 D, .slice a2 m c2, .int .i64 s, .int .i64 K, .bool add] w fun e w' => ∃ b : Bool, e = .returned (.bool b) ∧ w' = w) := hb
  have HD : Hid (Got w a0 n ds) := hd
  have HS : Hid (Got w a2 m src) := hs
  have HDL : Hid (ds.length = n) := hdl
  have HSL : Hid (src.length = m) := hsl
  have HDW : Hid (Ws ds) := hdw
  have HSW : Hid (Ws src) := hsw
  have g1 : (0 : Int) ≤ (D : Int) := by omega
  have g2 : (D : Int) ≤ 64 * (n : Int) := by omega
  have g3 : (K : Int) ≤ 64 * (n : Int) - (D : Int) := by omega
  clear hb hd hs hdl hsl hdw hsw
  go_enter Try.func5, Try.ntmps5
  go_wp2_with fail
  refine HB.out.mono ?_
  rintro e w' ⟨b, rfl, hw⟩
  subst hw
  cases b
  · go_wp2
    go_ret
    exact ⟨rfl, Below.refl _ _⟩
  · go_wp2_with fail
    refine (clone20 a0 n c ds HDL.out hn w' HD.out).mono ?_
    rintro e w1 ⟨ao1, rfl, h1, hb1⟩
    obtain ⟨rfl, hown1⟩ := h1 hn0
    have hz1 := hb1.size
    have hgs1 : Got w1 a2 m src := by
      intro hm0
      obtain ⟨b, off, e1, e2, e3⟩ := HS.out hm0
      exact ⟨b, off, e1, by omega, fun i hi => (hb1.cell e2).trans (e3 i hi)⟩
    go_wp2_with fail
    refine (clone20 a2 m c2 src HSL.out hm w1 hgs1).mono ?_
    rintro e w2 ⟨ao2, rfl, h2, hb2⟩
    have hz2 := hb2.size
    have hl1 : w'.heap.size < w1.heap.size := (hown1.lt _ rfl).2
    have hown2 := own_below hown1 hb2
    have hw2 := wrds_of HSL.out h2
    have hgd2 : Got w2 (some ⟨w'.heap.size, 0, none⟩) n ds := fun _ => ⟨w'.heap.size, 0, rfl, by omega, fun i hi => by rw [Nat.zero_add]; exact cells_of_wl HDL.out hown2 i hi⟩
    clear h1 h2 hgs1
    go_wp2_with fail
    refine (clone20 (some ⟨w'.heap.size, 0, none⟩) n n ds HDL.out hn w2 hgd2).mono ?_
    rintro e w3 ⟨ao3, rfl, h3, hb3⟩
    obtain ⟨rfl, hown3⟩ := h3 hn0
    have hz3 := hb3.size
    have hw3 := hw2.below hb3 (fun hm0 => (hw2 hm0).2.1)
    have HO1 : Hid (w3.ownsRow w'.heap.size 36 1 (.slice (some ⟨w'.heap.size, 0, none⟩) n n) n (wl ds)) := own_below hown2 hb3
    have HW3 : Hid (Wrds w3 ao2 m src w1.heap.size) := hw3
    have HB3 : Hid (0 < m → w1.heap.size < w2.heap.size) := fun hm0 => (hw2 hm0).2.1
    have h00 := done_zero add src D s HDW.out
    clear h3 hgd2 hw2 hw3 hown1 hown2
    go_wp2
    go_loopw [14] (fun iv wr => ∃ (M : Nat) (cs : List Int), M ≤ K ∧ iv = .int .i64 M ∧ wr.ownsRow w2.heap.size 36 1 (.slice (some ⟨w2.heap.size, 0, none⟩) n n) n (wl cs) ∧ Done add ds src D s M cs ∧ Below w2.heap.size w3 wr) (fun iv _ => K - (intOf iv).toNat)
    case atStart => exact ⟨0, ds, Nat.zero_le _, rfl, hown3, h00, Below.refl _ _⟩
    case round =>
      clear h00 hown3
      obtain ⟨M, cs, hM, rfl, hown, hdone, hbel⟩ := hrel
      have hzr := hbel.size
      by_cases hlt : M < K
      · obtain ⟨sn, hsn⟩ : ∃ sn : Int, s + M = sn := ⟨_, rfl⟩
        obtain ⟨dd, hdd⟩ : ∃ dd : Int, (D : Int) + M = dd := ⟨_, rfl⟩
        obtain ⟨q, hq⟩ : ∃ q : Nat, dd / 64 = (q : Int) := ⟨(dd / 64).toNat, by omega⟩
        obtain ⟨r, hr⟩ : ∃ r : Nat, dd % 64 = (r : Int) := ⟨(dd % 64).toNat, by omega⟩
        have hba : bits .and .i64 dd 63 = (r : Int) := by rw [and63]; exact hr
        have hr64 : r < 64 := by omega
        have hqn : q < n := by omega
        have hd0 : 0 ≤ dd := by omega
        have hd1 : dd ≤ 5000000 := by omega
        have hcl : cs.length = n := by rw [hdone.1, HDL.out]
        have hcq : wr.cell? ⟨w2.heap.size, q, none⟩ = some (.int .u64 (cs.getD q 0)) := (hown.cellAt q (by omega)).trans (wl_get cs q (by omega))
        have hfq := hown.frozenAt q
        have hqi : (q : Int) < (n : Int) := by omega
        have hwr := HW3.out.below hbel HB3.out
        have hcall := bitOf21 ao2 m w1.heap.size src sn hm HSL.out HSW.out wr hwr
        have HCALL : Hid (Calls Try.prog 21 #[.slice ao2 m m, .int .i64 sn] wr fun e w' => e = .returned (.int .u64 (bv (gb src sn))) ∧ w' = wr) := hcall
        have HDD : Hid ((D : Int) + M = dd) := hdd
        have HSN : Hid (s + M = sn) := hsn
        have HRQ : Hid (dd % 64 = (r : Int)) := hr
        obtain ⟨cq, hcqe⟩ : ∃ cq, cs.getD q 0 = cq := ⟨_, rfl⟩
        rw [hcqe] at hcq
        have HCQ : Hid (cs.getD q 0 = cq) := hcqe
        clear hcqe hwr hcall hr
        go_wp2_with fail
        refine HCALL.out.mono ?_
        rintro e w5 ⟨rfl, rfl⟩
        have HCW : Hid (W cq) := by rw [← HCQ.out]; exact ws_get hdone.2.1 q
        cases add
        · go_wp2
          have hw := (one_word HCW.out r hr64 (gb src sn)).2
          have hnx := bit_next hdone hcl hqn HDD.out hq HRQ.out HSN.out hw.1 (fun t ht => by rw [hw.2 t ht, HCQ.out]; simp)
          have hst := hown.stored q (.int .u64 (bits .or .u64 (bits .andNot .u64 cq (IntKind.u64.wrap (2 ^ r))) (IntKind.u64.wrap (bv (gb src sn) * 2 ^ r))))
          rw [wl_set] at hst
          go_roundw
          case rel => exact ⟨M + 1, _, by omega, by go_num, hst.1, hnx, hbel.setCell (by simp) _⟩
          case measure => simp [intOf]; omega
        · cases hgb : gb src sn
          · go_wp2
            have hnx := bit_next (y := cs.getD q 0) hdone hcl hqn HDD.out hq HRQ.out HSN.out (ws_get hdone.2.1 q) (fun t ht => by rw [hgb]; simp)
            have hse : cs.set q (cs.getD q 0) = cs := by
              have hq2 : q < cs.length := by omega
              rw [show cs.getD q 0 = cs[q] by simp [List.getD, hq2]]
              exact List.set_getElem_self hq2
            rw [hse] at hnx
            go_roundw
            case rel => exact ⟨M + 1, cs, by omega, by go_num, hown, hnx, hbel⟩
            case measure => simp [intOf]; omega
          · go_wp2
            have hw := (one_word HCW.out r hr64 true).1
            have hnx := bit_next hdone hcl hqn HDD.out hq HRQ.out HSN.out hw.1 (fun t ht => by rw [hw.2 t ht, HCQ.out, hgb]; simp)
            have hst := hown.stored q (.int .u64 (bits .or .u64 cq (IntKind.u64.wrap (2 ^ r))))
            rw [wl_set] at hst
            go_roundw
            case rel => exact ⟨M + 1, _, by omega, by go_num, hst.1, hnx, hbel.setCell (by simp) _⟩
            case measure => simp [intOf]; omega
      · have hMK : M = K := by omega
        subst hMK
        have hl2 : w'.heap.size < w2.heap.size := by omega
        have ho1 : wr.ownsRow w'.heap.size 36 1 (.slice (some ⟨w'.heap.size, 0, none⟩) n n) n (wl ds) := own_at HO1.out (hbel.block _ hl2)
        have hwr := HW3.out.below hbel HB3.out
        have hput := put22 (put41 add w'.heap.size n ds HDL.out hn D ao2 m w1.heap.size src HSL.out hm HSW.out s hs1 hs2 M hK hDK HDW.out wr w'.heap.size ho1 hwr (fun _ => by omega))
        have HPUT : Hid (Calls Try.prog 22 #[.slice (some ⟨w'.heap.size, 0, none⟩) n n, .int .i64 D, .slice ao2 m m, .int .i64 s, .int .i64 M, .bool add] wr fun e w9 => e = .returned (.tuple #[]) ∧ ∃ cs, w9.ownsRow w'.heap.size 36 1 (.slice (some ⟨w'.heap.size, 0, none⟩) n n) n (wl cs) ∧ Done add ds src D s M cs ∧ wr.grownBy w9 (some w'.heap.size)) := hput
        clear hput hwr
        go_wp2_with fail
        refine HPUT.out.mono ?_
        rintro e w9 ⟨rfl, es, ho9, hd9, hg9⟩
        have hee : es = cs := done_one hd9 hdone
        subst hee
        have hgl : w2.heap.size < wr.heap.size := (hown.lt _ rfl).2
        have ho3 : w9.ownsRow w2.heap.size 36 1 (.slice (some ⟨w2.heap.size, 0, none⟩) n n) n (wl es) := own_at hown (hg9.block _ hgl (by simp; omega))
        have hel : es.length = n := by rw [hdone.1, HDL.out]
        go_wp2_with fail
        refine (same23 w'.heap.size w2.heap.size n es hn w9 (ho9.lt _ rfl).2 (ho3.lt _ rfl).2 (cells_of_wl hel ho9) (cells_of_wl hel ho3)).mono ?_
        rintro e w10 ⟨rfl, hb10⟩
        go_wp2
        go_ret
        have hz9 := hg9.size
        refine ⟨rfl, ?_⟩
        have hA : Below w'.heap.size w' wr := ((hb1.trans (hb2.mono hz1)).trans (hb3.mono (by omega))).trans (hbel.mono (by omega))
        exact (hA.grown hg9 (by omega) (fun k hk => by cases hk; exact Nat.le_refl _)).trans (hb10.mono (by omega))
end Go.Proofs.Qxb6000433a
