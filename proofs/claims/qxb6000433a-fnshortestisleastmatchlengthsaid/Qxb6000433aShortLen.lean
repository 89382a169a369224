/-
  'lengthSets'.
-/
import Derived.Test.Qxb6000433aShortRows
import Derived.Test.Qxb6000433aShortBound
import Derived.Test.Qxb6000433aShortEq
import Derived.Deep.Cut
namespace Go.Proofs.Qxb6000433a
open Go.RowKit Go.Proofs.Qxb6000433a.BitPlain

/-- A set and its least length. -/
def SetOk (s : List Int) (x : Nat) : Prop := Ws s ∧ LL s x
theorem gb_z (l : Nat) (hl : l < 256) : gb [0, 0, 0, 0] (l : Int) = false := by
  rw [gb4]
  have hq : l / 64 = 0 ∨ l / 64 = 1 ∨ l / 64 = 2 ∨ l / 64 = 3 := by omega
  rcases hq with e | e | e | e <;> rw [e] <;> exact tb_zero _
theorem setOk_zero {x : Nat} (hx : 256 ≤ x) : SetOk [0, 0, 0, 0] x := ⟨ws4 w_zero w_zero w_zero w_zero, LL.zero gb_z hx⟩
theorem setOk_unit : SetOk [1, 0, 0, 0] 0 := ⟨ws4 w_one w_zero w_zero w_zero, fun l hl h => by
  have e : l = 0 := by omega
  subst e
  rfl⟩
theorem setOk_sum {a b o : List Int} {x y : Nat} (h : ∀ x y, LL a x → LL b y → LL o (x + y)) (hw : Ws o) (ha : SetOk a x) (hb : SetOk b y) : SetOk o (x + y) := ⟨hw, h x y ha.2 hb.2⟩
theorem setOk_or {o0 o1 o2 o3 p0 p1 p2 p3 : Int} {x y : Nat} (ha : SetOk [o0, o1, o2, o3] x) (hb : SetOk [p0, p1, p2, p3] y) : SetOk [bits .or .u64 o0 p0, bits .or .u64 o1 p1, bits .or .u64 o2 p2, bits .or .u64 o3 p3] (min x y) :=
  ⟨(or_spec ha.1 hb.1).1, LL.or ha.2 hb.2 (or_spec ha.1 hb.1).2⟩
theorem setOk_step {F : Nat → Nat → Int} {u : Nat → Nat} {v x : Nat} {s0 s1 s2 s3 : Int} (h : ∀ j, j < v → SetOk (fl F j) (u j)) (hx : u v = x) (hs : SetOk [s0, s1, s2, s3] x) : ∀ j, j < v + 1 → SetOk (fl (setF F v s0 s1 s2 s3) j) (u j) := fun j hj => by
  by_cases e : j = v
  · subst e; rw [fl_set_at, hx]; exact hs
  · rw [fl_set_other _ _ _ _ _ _ _ e]; exact h j (by omega)

theorem A4.put0 {w : World} {b : Nat} {x0 x1 x2 x3 : Int} (h : A4 w b x0 x1 x2 x3) (y0 : Int) : A4 (w.setCell ⟨b, 0, none⟩ (.int .u64 y0)) b y0 x1 x2 x3 := by
  unfold A4 at *
  have h1 := set_block (k := 0) (u := .int .u64 y0) h
  simp only [List.setIfInBounds_toArray, List.set_cons_zero] at h1
  exact h1
theorem bit_put {y : Int} {x l : Nat} (hy : W y) (h : ∀ t : Nat, t < 64 → tb y t = decide (x ≤ t ∧ t < l)) (hx : x ≤ l) : W (bits .or .u64 y (IntKind.u64.wrap (2 ^ l))) ∧ ∀ t : Nat, t < 64 → tb (bits .or .u64 y (IntKind.u64.wrap (2 ^ l))) t = decide (x ≤ t ∧ t < l + 1) := by
  have h1 := w_shl w_one l
  rw [Int.one_mul] at h1
  have h2 := w_or hy h1.1
  refine ⟨h2.1, fun t ht => ?_⟩
  rw [h2.2, h1.2, h t ht, tb_one, Bool.eq_iff_iff]
  simp only [Bool.or_eq_true, Bool.and_eq_true, decide_eq_true_eq]
  omega
theorem run_ok {y : Int} {x l : Nat} (hy : W y) (h : ∀ t : Nat, t < 64 → tb y t = decide (x ≤ t ∧ t < l)) (hx : x < l) (hx2 : x < 64) : SetOk [y, 0, 0, 0] x := ⟨ws4 hy w_zero w_zero w_zero, fun t ht htx => by
  rw [gb4, show t / 64 = 0 by omega, show t % 64 = t by omega]
  show tb y t = _
  rw [h t (by omega), Bool.eq_iff_iff]
  simp only [decide_eq_true_eq]
  omega⟩

set_option maxRecDepth 20000 in
set_option maxHeartbeats 16000000 in
theorem sets14 (tb pos : Nat) (ns : List Nd) (kids : Nat → List Nat) (hn0 : 0 < ns.length) (hn : ns.length ≤ 65536) (hfo : Forest ns [ns.length - 1] kids pos) (w : World) (hr : Rows9 w tb ns) :
    Calls Try.prog 14 #[.pointer (some ⟨tb, 0, none⟩)] w fun e w' => ∃ (F : Nat → Nat → Int), e = .returned (.slice (some ⟨w.heap.size, 0, none⟩) ns.length ns.length) ∧ RowS w' w.heap.size w.heap.size ns.length F ∧ (∀ v, v < ns.length → SetOk (fl F v) (U ns kids v)) ∧ Below w.heap.size w w' := by
  obtain ⟨g, cap, h1, h2, h3⟩ := hr.cells
  have htb := hr.lt
  have HFO : Hid (Forest ns [ns.length - 1] kids pos) := hfo
  have H1 : Hid (∀ i, i < 9 → w.cell? ⟨tb, i, none⟩ = some (.slice (some ⟨g i, 0, none⟩) ns.length (cap i))) := h1
  have H2 : Hid (∀ i, i < 9 → g i < w.heap.size) := h2
  have H3 : Hid (∀ i j, i < 9 → j < ns.length → w.cell? ⟨g i, j, none⟩ = some (fld i (nodeAt ns j))) := h3
  have HU : Hid (∀ v, v < ns.length → U ns kids v = nval (nodeAt ns v) (kids v) (U ns kids)) := fun v hv => U_eq hfo.low v hv
  have t0 := h1 0 (by omega)
  clear h1 h2 h3 hr hfo
  generalize U ns kids = u at HU ⊢
  obtain ⟨n, hnn⟩ : ∃ n, n = ns.length := ⟨_, rfl⟩
  rw [← hnn] at hn0 hn H1 H3 t0 HU ⊢
  have HNN : Hid (n = ns.length) := hnn
  clear hnn
  obtain ⟨i2, hi2, hz20, hz21, hz22⟩ := info_parts Try.info38b
  go_enter Try.func14, Try.ntmps14
  go_wp2_with (at_make; refine wpList_make_full _ rfl _ _ 33 rfl w.heap.size 38 i2 (.agg #[.int .u64 0, .int .u64 0, .int .u64 0, .int .u64 0]) 4 Try.underlying33 hi2 hz20 hz21 .i64 .i64 _ _ n rfl rfl rfl rfl (by rw [hz22]; omega) (by unfold maxLen; omega) (by simp) ?_; intro w1 hown hgrow)
  have hbl : Below w.heap.size w w1 := (Below.refl _ _).grown hgrow (Nat.le_refl _) (by simp)
  have hrz := RowS.made hown
  clear hgrow hown
  go_loopw [5, 6, 7, 8, 9, 10, 11, 12, 13, 14, 15] (fun i _ _ _ _ _ _ _ _ _ _ wr => ∃ (v : Nat) (F : Nat → Nat → Int), v ≤ n ∧ i = .int .i64 v ∧ RowS wr w.heap.size w.heap.size n F ∧ Hid (∀ j, j < v → SetOk (fl F j) (u j)) ∧ Below w.heap.size w wr) (fun i _ _ _ _ _ _ _ _ _ _ _ => n - (intOf i).toNat)
  case atStart => exact ⟨0, _, Nat.zero_le _, rfl, hrz, fun j hj => absurd hj (Nat.not_lt_zero _), hbl⟩
  case round =>
    clear hrz hbl
    obtain ⟨v, F, hv, rfl, hrow, HF, hbel⟩ := hrel
    by_cases hlt : v < n
    · have hvl : v < ns.length := by rw [← HNN.out]; exact hlt
      have hki : (v : Int) < (n : Int) := by omega
      have hv0 : (0 : Int) ≤ (v : Int) := by omega
      have t0 : wr.cell? ⟨tb, 0, none⟩ = _ := (hbel.cell htb).trans (H1.out 0 (by omega))
      have c0 : wr.cell? ⟨g 0, v, none⟩ = some (.int .u8 (nodeAt ns v).kind) := (hbel.cell (H2.out 0 (by omega))).trans (H3.out 0 v (by omega) hlt)
      have hok := HFO.out.ok v hvl
      have hval := HU.out v hlt
      have hch := HFO.out.chain v hvl
      have hlow := HFO.out.low v hvl
      obtain ⟨x, hx⟩ : ∃ x, u v = x := ⟨_, rfl⟩
      have HX : Hid (u v = x) := hx
      rw [hx] at hval
      clear hx
      have hgl := hrow.lt.2
      obtain ⟨sB, hsB⟩ : ∃ sB, wr.heap.size = sB := ⟨_, rfl⟩
      obtain ⟨w1, hw1⟩ : ∃ w1, w1 = wr.alloc (.cells #[.int .u64 0, .int .u64 0, .int .u64 0, .int .u64 0] 38) := ⟨_, rfl⟩
      have k6 : A4 w1 sB 0 0 0 0 := by rw [hw1, ← hsB]; exact heap_alloc_new _ _
      have hrow1 : RowS w1 w.heap.size w.heap.size n F := by rw [hw1]; exact hrow.block (Below.heap_alloc _ _ _ hgl)
      have hbel1 : Below w.heap.size w w1 := by rw [hw1]; exact hbel.alloc (by omega) _
      have HSZ : Hid (w1.heap.size = sB + 1) := by show _ = _; rw [hw1, ← hsB]; simp
      have HW1 : Hid (w1 = wr.alloc (.cells #[.int .u64 0, .int .u64 0, .int .u64 0, .int .u64 0] 38)) := hw1
      have HSB : Hid (wr.heap.size = sB) := hsB
      have hne1 : tb < wr.heap.size := by omega
      have hne2 : g 0 < wr.heap.size := by have := H2.out 0 (by omega); omega
      have hgs : w.heap.size < sB := by omega
      have hne3 : ¬ tb = sB := by omega
      have hne4 : ∀ i, i < 9 → ¬ g i = sB := fun i hi => by have := H2.out i hi; omega
      have HNE : Hid (∀ i, i < 9 → ¬ g i = sB) := hne4
      have HK6 : Hid (A4 w1 sB 0 0 0 0) := k6
      have HROW1 : Hid (RowS w1 w.heap.size w.heap.size n F) := hrow1
      have HBEL1 : Hid (Below w.heap.size w w1) := hbel1
      clear hw1 hsB hne4 hrow1 hbel1 k6
      rcases hok with ⟨hk, hks, he0, hl0, hl1, hl2, hl3, hl4⟩ | ⟨hk, hks⟩ | ⟨hk | hk, hks⟩ | ⟨hk, ⟨c, hks⟩, hm0, hm1, hmx⟩
      · as_aux_lemma =>
          rw [hk] at c0
          have hval2 : (nodeAt ns v).exitLo - (nodeAt ns v).lo + 1 = (x : Int) := by
            unfold nval at hval; rw [if_pos hk] at hval; omega
          have t4 : w1.cell? ⟨tb, 4, none⟩ = _ := (HBEL1.out.cell htb).trans (H1.out 4 (by omega))
          have c4 : w1.cell? ⟨g 4, v, none⟩ = some (.int .i32 (nodeAt ns v).lo) := (HBEL1.out.cell (H2.out 4 (by omega))).trans (H3.out 4 v (by omega) (by omega))
          have t6 : w1.cell? ⟨tb, 6, none⟩ = _ := (HBEL1.out.cell htb).trans (H1.out 6 (by omega))
          have c6 : w1.cell? ⟨g 6, v, none⟩ = some (.int .i32 (nodeAt ns v).exitLo) := (HBEL1.out.cell (H2.out 6 (by omega))).trans (H3.out 6 v (by omega) (by omega))
          have HC4 : Hid (∀ wz : World, Below w.heap.size w wz → wz.cell? ⟨g 4, v, none⟩ = some (.int .i32 (nodeAt ns v).lo) ∧ wz.cell? ⟨tb, 4, none⟩ = some (.slice (some ⟨g 4, 0, none⟩) n (cap 4))) := fun wz hb => ⟨(hb.cell (H2.out 4 (by omega))).trans (H3.out 4 v (by omega) hlt), (hb.cell htb).trans (H1.out 4 (by omega))⟩
          have HC5 : Hid (∀ wz : World, Below w.heap.size w wz → wz.cell? ⟨g 5, v, none⟩ = some (.int .i32 (nodeAt ns v).hi) ∧ wz.cell? ⟨tb, 5, none⟩ = some (.slice (some ⟨g 5, 0, none⟩) n (cap 5))) := fun wz hb => ⟨(hb.cell (H2.out 5 (by omega))).trans (H3.out 5 v (by omega) hlt), (hb.cell htb).trans (H1.out 5 (by omega))⟩
          clear hval hch hlow hks hk hrow hbel he0
          generalize (nodeAt ns v).lo = lo at *
          generalize (nodeAt ns v).exitLo = el at *
          generalize (nodeAt ns v).hi = hi at *
          have hsz := HSZ.out
          have hg1 : ¬ w.heap.size = sB := by omega
          have hg2 : ¬ sB = w.heap.size := by omega
          have wa1 := wrap_i32 (x := el - lo) (by omega)
          have wa2 := wrap_i64 (x := el - lo) (by omega)
          have wa3 := wrap_i64 (x := el - lo + 1) (by omega)
          obtain ⟨tp, htp⟩ : ∃ tp : Nat, hi - lo = tp := ⟨(hi - lo).toNat, by omega⟩
          have wa4 := wrap_i32 (x := hi - lo) (by omega)
          have wa5 := wrap_i64 (x := hi - lo) (by omega)
          rw [htp] at wa4 wa5
          have hxt : x ≤ tp := by omega
          have htp8 : tp ≤ 8 := by omega
          have HTP : Hid (hi - lo = (tp : Int)) := htp
          clear htp
          go_wp2
          rw [← HW1.out, HSB.out]
          clear HW1 HSB hne1 hne2 t0 c0
          go_quiet (fail)
          try rw [hval2]
          go_wp2
          go_loopw [7] (fun iv wz => ∃ (l : Nat) (y : Int), x ≤ l ∧ l ≤ tp + 1 ∧ iv = .int .i64 l ∧ A4 wz sB y 0 0 0 ∧ Hid (W y ∧ ∀ t : Nat, t < 64 → BitPlain.tb y t = decide (x ≤ t ∧ t < l)) ∧ RowS wz w.heap.size w.heap.size n F ∧ Below w.heap.size w wz) (fun iv _ => 300 - (intOf iv).toNat)
          case atStart => exact ⟨x, 0, Nat.le_refl _, by omega, (by first | rfl | go_num), HK6.out, ⟨w_zero, fun t _ => by rw [tb_zero]; symm; simp <;> omega⟩, HROW1.out.block rfl, below_drewN HBEL1.out _⟩
          case round =>
            clear HK6 HROW1 HBEL1 t4 c4 t6 c6
            obtain ⟨l, y, hxl, hlt1, rfl, k6, HY, hrow, hbel⟩ := hrel
            obtain ⟨c4, t4⟩ := HC4.out wr hbel
            obtain ⟨c5, t5⟩ := HC5.out wr hbel
            by_cases hle : l ≤ tp
            · have hli : (l : Int) ≤ (tp : Int) := by omega
              have hl256 : (l : Int) < 256 := by omega
              have hd1 : decide ((l : Int) ≤ (tp : Int)) = true := by simp; omega
              have hd2 : decide ((l : Int) < 256) = true := by simp; omega
              have htp := HTP.out
              go_wp2
              go_quiet (fail)
              have hl64 : (l : Int) / 64 = 0 := by omega
              have hl63 : bits .and .i64 (l : Int) 63 = (l : Int) := by rw [and63]; omega
              have hlw : IntKind.u64.wrap (l : Int) = (l : Int) := by rw [IntKind.wrap_u64]; omega
              obtain ⟨y0, y1, y2, y3⟩ := k6.cell
              have f0 := k6.free 0
              have HNEW : Hid (W (bits .or .u64 y (IntKind.u64.wrap (2 ^ l))) ∧ ∀ t : Nat, t < 64 → BitPlain.tb (bits .or .u64 y (IntKind.u64.wrap (2 ^ l))) t = decide (x ≤ t ∧ t < l + 1)) := bit_put HY.out.1 HY.out.2 hxl
              have hk7 := A4.put0 (w := wr.drewN nq) k6 (bits .or .u64 y (IntKind.u64.wrap (2 ^ l)))
              have HK7 : Hid _ := hk7
              have HR7 : Hid _ := (hrow.block (w' := (wr.drewN nq).setCell ⟨sB, 0, none⟩ (.int .u64 (bits .or .u64 y (IntKind.u64.wrap (2 ^ l))))) (Below.heap_setCell _ _ _ _ (by simp; omega)))
              have HB7 : Hid _ := (below_drewN hbel nq).setCell (p := ⟨sB, 0, none⟩) (by show _ ≤ sB; omega) (.int .u64 (bits .or .u64 y (IntKind.u64.wrap (2 ^ l))))
              clear hk7
              go_wp2
              refine ⟨⟨l + 1, _, by omega, by omega, by go_num, HK7.out, HNEW, HR7.out, HB7.out⟩, ?_⟩
              simp [intOf]; omega
            · have hnl : ¬ (l : Int) ≤ (tp : Int) := by omega
              have hd1 : decide ((l : Int) ≤ (tp : Int)) = false := by simp; omega
              have htp := HTP.out
              go_wp2
              go_quiet (fail)
              go_upto_region 44 with fail
              have HS : Hid (SetOk [y, 0, 0, 0] x) := run_ok HY.out.1 HY.out.2 (by omega) (by omega)
              have k6 : A4 (wr.drewN nq) sB y 0 0 0 := k6
              have hrow := hrow.block (w' := wr.drewN nq) rfl
              have hbel := below_drewN hbel nq
              clear c4 t4 c5 t5
              generalize wr.drewN nq = wr at k6 hrow hbel ⊢
              obtain ⟨g0, g1, g2, g3⟩ := k6.cell
              have r0 : wr.cell? ⟨w.heap.size, v * 4, none⟩ = some (.int .u64 (F v 0)) := hrow.cell v 0 hlt (by omega)
              have r1 := hrow.cell v 1 hlt (by omega)
              have r2 := hrow.cell v 2 hlt (by omega)
              have r3 := hrow.cell v 3 hlt (by omega)
              have rf0 := hrow.free (v * 4)
              have rf1 := hrow.free (v * 4 + 1)
              have rf2 := hrow.free (v * 4 + 2)
              have rf3 := hrow.free (v * 4 + 3)
              have HROW : Hid (RowS wr w.heap.size w.heap.size n F) := hrow
              have HBEL : Hid (Below w.heap.size w wr) := hbel
              have HSTEP : Hid (∀ j, j < v + 1 → SetOk (fl (setF F v y 0 0 0) j) (u j)) := setOk_step HF.out HX.out HS.out
              clear hrow hbel k6
              generalize F v 0 = e0 at r0
              generalize F v 1 = e1 at r1
              generalize F v 2 = e2 at r2
              generalize F v 3 = e3 at r3
              go_wp2
              go_roundw
              case rel => exact ⟨v + 1, setF F v y 0 0 0, by omega, by go_num, HROW.out.set4 v y 0 0 0 hlt, HSTEP, (((HBEL.out.setCell (p := ⟨w.heap.size, v * 4, none⟩) (Nat.le_refl _) _).setCell (p := ⟨w.heap.size, v * 4 + 1, none⟩) (Nat.le_refl _) _).setCell (p := ⟨w.heap.size, v * 4 + 2, none⟩) (Nat.le_refl _) _).setCell (p := ⟨w.heap.size, v * 4 + 3, none⟩) (Nat.le_refl _) _⟩
              case measure => simp [intOf]; omega
      · as_aux_lemma =>
          rw [hk] at c0
          have hx0 : x = 0 := by
            unfold nval at hval; rw [if_neg (by omega), if_neg (by omega), if_neg (by omega), if_neg (by omega)] at hval; exact hval
          subst hx0
          clear hval hch hlow hks hk hrow hbel
          go_wp2_with fail
          rw [← HW1.out, HSB.out]
          refine (lunit36 _).mono ?_
          rintro e w2 ⟨rfl, hb2⟩
          have hsz := HSZ.out
          have k7 : A4 w2 sB 0 0 0 0 := HK6.out.block (hb2.block _ (by omega))
          obtain ⟨z0, z1, z2, z3⟩ := k7.cell
          have f0 := k7.free 0
          have f1 := k7.free 1
          have f2 := k7.free 2
          have f3 := k7.free 3
          have hrow2 : RowS w2 w.heap.size w.heap.size n F := HROW1.out.block (hb2.block _ (by omega))
          have hbel2 : Below w.heap.size w w2 := HBEL1.out.trans (hb2.mono (by omega))
          obtain ⟨s0, hs0⟩ : ∃ s0 : Int, s0 = 1 := ⟨_, rfl⟩
          obtain ⟨s1, hs1⟩ : ∃ s1 : Int, s1 = 0 := ⟨_, rfl⟩
          obtain ⟨s2, hs2⟩ : ∃ s2 : Int, s2 = 0 := ⟨_, rfl⟩
          obtain ⟨s3, hs3⟩ : ∃ s3 : Int, s3 = 0 := ⟨_, rfl⟩
          have HS : Hid (SetOk [s0, s1, s2, s3] 0) := by rw [hs0, hs1, hs2, hs3]; exact setOk_unit
          have eag : ag 1 0 0 0 = .agg #[.int .u64 s0, .int .u64 s1, .int .u64 s2, .int .u64 s3] := by rw [hs0, hs1, hs2, hs3]; rfl
          rw [eag]
          clear eag hs0 hs1 hs2 hs3 HW1 HSB hne1 hne2 t0 c0
          obtain ⟨wr, hwr⟩ : ∃ wr, wr = put4 w2 sB s0 s1 s2 s3 := ⟨_, rfl⟩
          have k6 : A4 wr sB s0 s1 s2 s3 := by rw [hwr]; exact k7.put _ _ _ _
          have hrow : RowS wr w.heap.size w.heap.size n F := by rw [hwr]; exact hrow2.block (put4_block _ _ _ _ (by omega))
          have hbel : Below w.heap.size w wr := by rw [hwr]; exact put4_below hbel2 (by omega) _ _ _ _
          have hg1 : ¬ w.heap.size = sB := by omega
          have hg2 : ¬ sB = w.heap.size := by omega
          go_upto_region 44 with fail
          unfold put4 at hwr
          rw [← hwr]
          clear hwr z0 z1 z2 z3 f0 f1 f2 f3 k7 hrow2 hbel2
          obtain ⟨g0, g1, g2, g3⟩ := k6.cell
          have r0 : wr.cell? ⟨w.heap.size, v * 4, none⟩ = some (.int .u64 (F v 0)) := hrow.cell v 0 hlt (by omega)
          have r1 := hrow.cell v 1 hlt (by omega)
          have r2 := hrow.cell v 2 hlt (by omega)
          have r3 := hrow.cell v 3 hlt (by omega)
          have rf0 := hrow.free (v * 4)
          have rf1 := hrow.free (v * 4 + 1)
          have rf2 := hrow.free (v * 4 + 2)
          have rf3 := hrow.free (v * 4 + 3)
          have HROW : Hid (RowS wr w.heap.size w.heap.size n F) := hrow
          have HBEL : Hid (Below w.heap.size w wr) := hbel
          have HSTEP : Hid (∀ j, j < v + 1 → SetOk (fl (setF F v s0 s1 s2 s3) j) (u j)) := setOk_step HF.out HX.out HS.out
          clear hrow hbel k6
          generalize F v 0 = e0 at r0
          generalize F v 1 = e1 at r1
          generalize F v 2 = e2 at r2
          generalize F v 3 = e3 at r3
          go_wp2
          go_roundw
          case rel => exact ⟨v + 1, setF F v s0 s1 s2 s3, by omega, by go_num, HROW.out.set4 v s0 s1 s2 s3 hlt, HSTEP, (((HBEL.out.setCell (p := ⟨w.heap.size, v * 4, none⟩) (Nat.le_refl _) _).setCell (p := ⟨w.heap.size, v * 4 + 1, none⟩) (Nat.le_refl _) _).setCell (p := ⟨w.heap.size, v * 4 + 2, none⟩) (Nat.le_refl _) _).setCell (p := ⟨w.heap.size, v * 4 + 3, none⟩) (Nat.le_refl _) _⟩
          case measure => simp [intOf]; omega
      · as_aux_lemma =>
          rw [hk] at c0
          have hval2 : x = sumU u (kids v) := by
            unfold nval at hval; rw [if_neg (by omega), if_pos hk] at hval; exact hval
          have HV : Hid (x = sumU u (kids v)) := hval2
          have HLOW : Hid (∀ c ∈ kids v, c < v) := hlow
          have HK0 : Hid (kids v = [] ++ kids v) := rfl
          clear hval hval2 hlow hks hk hrow hbel
          have hsz := HSZ.out
          have hg1 : ¬ w.heap.size = sB := by omega
          have hg2 : ¬ sB = w.heap.size := by omega
          have hg3 : ¬ g 3 = sB := HNE.out 3 (by omega)
          have hg4 : ¬ g 2 = sB := HNE.out 2 (by omega)
          go_wp2_with fail
          rw [← HW1.out, HSB.out]
          refine (lunit36 _).mono ?_
          rintro e w2 ⟨rfl, hb2⟩
          have k7 : A4 w2 sB 0 0 0 0 := HK6.out.block (hb2.block _ (by omega))
          obtain ⟨z0, z1, z2, z3⟩ := k7.cell
          have f0 := k7.free 0
          have f1 := k7.free 1
          have f2 := k7.free 2
          have f3 := k7.free 3
          have hrow2 : RowS w2 w.heap.size w.heap.size n F := HROW1.out.block (hb2.block _ (by omega))
          have hbel2 : Below w.heap.size w w2 := HBEL1.out.trans (hb2.mono (by omega))
          have t2 : w2.cell? ⟨tb, 2, none⟩ = _ := (hbel2.cell htb).trans (H1.out 2 (by omega))
          have c2 : w2.cell? ⟨g 2, v, none⟩ = some (.int .i32 (nodeAt ns v).first) := (hbel2.cell (H2.out 2 (by omega))).trans (H3.out 2 v (by omega) (by omega))
          clear HW1 HSB hne1 hne2 t0 c0
          unfold ag
          go_wp2
          go_loopw [8] (fun cv wz => ∃ (done rest : List Nat) (f s0 s1 s2 s3 : Int), Hid (kids v = done ++ rest) ∧ cv = .int .i32 f ∧ Chain ns f rest ∧ A4 wz sB s0 s1 s2 s3 ∧ Hid (SetOk [s0, s1, s2, s3] (sumU u done)) ∧ RowS wz w.heap.size w.heap.size n F ∧ Below w.heap.size w wz) (fun cv _ => clen ns (intOf cv))
          case atStart => exact ⟨[], kids v, _, 1, 0, 0, 0, HK0, rfl, hch, k7.put _ _ _ _, setOk_unit, hrow2.block (put4_block _ _ _ _ (by omega)), put4_below hbel2 (by omega) _ _ _ _⟩
          case round =>
            clear hch HK0 k7 z0 z1 z2 z3 f0 f1 f2 f3 hrow2 hbel2 hb2 t2 c2
            clear HK6 HROW1 HBEL1
            obtain ⟨done, rest, f, s0, s1, s2, s3, hkd, rfl, hch, k6, HS, hrow, hbel⟩ := hrel
            cases rest with
            | nil =>
              have hf1 : f = -1 := hch
              subst hf1
              have hkd2 : sumU u done = x := by have h9 := hkd.out; rw [List.append_nil] at h9; rw [HV.out, h9]
              rw [hkd2] at HS
              clear hch hkd hkd2
              obtain ⟨g0, g1, g2, g3⟩ := k6.cell
              have r0 : wr.cell? ⟨w.heap.size, v * 4, none⟩ = some (.int .u64 (F v 0)) := hrow.cell v 0 hlt (by omega)
              have r1 := hrow.cell v 1 hlt (by omega)
              have r2 := hrow.cell v 2 hlt (by omega)
              have r3 := hrow.cell v 3 hlt (by omega)
              have rf0 := hrow.free (v * 4)
              have rf1 := hrow.free (v * 4 + 1)
              have rf2 := hrow.free (v * 4 + 2)
              have rf3 := hrow.free (v * 4 + 3)
              have HROW : Hid (RowS wr w.heap.size w.heap.size n F) := hrow
              have HBEL : Hid (Below w.heap.size w wr) := hbel
              have HSTEP : Hid (∀ j, j < v + 1 → SetOk (fl (setF F v s0 s1 s2 s3) j) (u j)) := setOk_step HF.out HX.out HS.out
              clear hrow hbel k6
              generalize F v 0 = e0 at r0
              generalize F v 1 = e1 at r1
              generalize F v 2 = e2 at r2
              generalize F v 3 = e3 at r3
              go_wp2
              go_roundw
              case rel => exact ⟨v + 1, setF F v s0 s1 s2 s3, by omega, by go_num, HROW.out.set4 v s0 s1 s2 s3 hlt, HSTEP, (((HBEL.out.setCell (p := ⟨w.heap.size, v * 4, none⟩) (Nat.le_refl _) _).setCell (p := ⟨w.heap.size, v * 4 + 1, none⟩) (Nat.le_refl _) _).setCell (p := ⟨w.heap.size, v * 4 + 2, none⟩) (Nat.le_refl _) _).setCell (p := ⟨w.heap.size, v * 4 + 3, none⟩) (Nat.le_refl _) _⟩
              case measure => simp [intOf]; omega
            | cons c r =>
              obtain ⟨hf, hcl, hch2⟩ := hch
              have HM : Hid (clen ns f = r.length + 1) := clen_eq (ks := c :: r) ⟨hf, hcl, hch2⟩
              have HM2 : Hid (clen ns (nodeAt ns c).next = r.length) := clen_eq hch2
              rw [← HNN.out] at hcl
              subst hf
              have hcv : c < v := HLOW.out c (by rw [hkd.out]; simp)
              have hkd2 : Hid (kids v = (done ++ [c]) ++ r) := by show _ = _; rw [hkd.out]; simp
              have hci : (c : Int) < (n : Int) := by omega
              have hc0 : (0 : Int) ≤ (c : Int) := by omega
              obtain ⟨g0, g1, g2, g3⟩ := k6.cell
              have r0 : wr.cell? ⟨w.heap.size, c * 4, none⟩ = some (.int .u64 (F c 0)) := hrow.cell c 0 hcl (by omega)
              have r1 := hrow.cell c 1 hcl (by omega)
              have r2 := hrow.cell c 2 hcl (by omega)
              have r3 := hrow.cell c 3 hcl (by omega)
              have hq : SetOk [F c 0, F c 1, F c 2, F c 3] (u c) := HF.out c hcv
              have HROW : Hid (RowS wr w.heap.size w.heap.size n F) := hrow
              have HBEL : Hid (Below w.heap.size w wr) := hbel
              have hkl := k6.lt
              clear hrow hbel hkd
              generalize F c 0 = q0 at r0 hq
              generalize F c 1 = q1 at r1 hq
              generalize F c 2 = q2 at r2 hq
              generalize F c 3 = q3 at r3 hq
              have HQ : Hid (SetOk [q0, q1, q2, q3] (u c)) := hq
              clear hq
              go_wp2
              go_region_with (
                go_at_call 37
                refine (lsum37 s0 s1 s2 s3 q0 q1 q2 q3 HS.out.1 HQ.out.1 _).mono ?_
                rintro e wA ⟨p0, p1, p2, p3, rfl, hpw, hpl, hbA⟩
                have HS2 : Hid (SetOk [p0, p1, p2, p3] (sumU u (done ++ [c]))) := by show SetOk _ _; rw [sumU_snoc]; exact setOk_sum hpl hpw HS.out HQ.out
                clear hpw hpl
                have hbb : Below wr.heap.size wr wA := (Below.refl _ wr).drew.trans hbA
                have kA : A4 wA sB s0 s1 s2 s3 := k6.block (hbb.block _ hkl)
                have a0 := kA.cell.1
                have a1 := kA.cell.2.1
                have a2 := kA.cell.2.2.1
                have a3 := kA.cell.2.2.2
                have f0 := kA.free 0
                have f1 := kA.free 1
                have f2 := kA.free 2
                have f3 := kA.free 3
                simp only [ag])
              all_goals (
                have hrowA : RowS wA w.heap.size w.heap.size n F := HROW.out.block (hbb.block _ HROW.out.lt.2)
                have hbelA : Below w.heap.size w wA := HBEL.out.trans (hbb.mono (by omega))
                have t3 : wA.cell? ⟨tb, 3, none⟩ = _ := (hbelA.cell htb).trans (H1.out 3 (by omega))
                have c3 : wA.cell? ⟨g 3, c, none⟩ = some (.int .i32 (nodeAt ns c).next) := (hbelA.cell (H2.out 3 (by omega))).trans (H3.out 3 c (by omega) hcl)
                have kn := kA.put p0 p1 p2 p3
                have rn : RowS (put4 wA sB p0 p1 p2 p3) w.heap.size w.heap.size n F := hrowA.block (put4_block _ _ _ _ (by omega))
                have bn : Below w.heap.size w (put4 wA sB p0 p1 p2 p3) := put4_below hbelA (by omega) _ _ _ _
                have KN : Hid _ := kn
                have RN : Hid _ := rn
                have BN : Hid _ := bn
                clear kn rn bn hrowA hbelA g0 g1 g2 g3 r0 r1 r2 r3 a0 a1 a2 a3 f0 f1 f2 f3
                go_wp2
                go_roundw
                case rel => exact ⟨done ++ [c], r, _, p0, p1, p2, p3, hkd2, rfl, hch2, KN.out, HS2, RN.out, BN.out⟩
                case measure => simp only [intOf]; rw [HM.out, HM2.out]; omega)
      · as_aux_lemma =>
          rw [hk] at c0
          have hval2 : x = minU u (kids v) := by
            unfold nval at hval; rw [if_neg (by omega), if_neg (by omega), if_pos hk] at hval; exact hval
          have HV : Hid (x = minU u (kids v)) := hval2
          have HLOW : Hid (∀ c ∈ kids v, c < v) := hlow
          have HK0 : Hid (kids v = [] ++ kids v) := rfl
          clear hval hval2 hlow hks hk hrow hbel
          have hsz := HSZ.out
          have hg1 : ¬ w.heap.size = sB := by omega
          have hg2 : ¬ sB = w.heap.size := by omega
          have hg3 : ¬ g 3 = sB := HNE.out 3 (by omega)
          have hg4 : ¬ g 2 = sB := HNE.out 2 (by omega)
          have t2 : w1.cell? ⟨tb, 2, none⟩ = _ := (HBEL1.out.cell htb).trans (H1.out 2 (by omega))
          have c2 : w1.cell? ⟨g 2, v, none⟩ = some (.int .i32 (nodeAt ns v).first) := (HBEL1.out.cell (H2.out 2 (by omega))).trans (H3.out 2 v (by omega) (by omega))
          rw [HW1.out] at t2 c2
          go_wp2_with fail
          rw [← HW1.out, HSB.out]
          clear HW1 HSB hne1 hne2 t0 c0 t2 c2
          go_loopw [9] (fun cv wz => ∃ (done rest : List Nat) (f s0 s1 s2 s3 : Int), Hid (kids v = done ++ rest) ∧ cv = .int .i32 f ∧ Chain ns f rest ∧ A4 wz sB s0 s1 s2 s3 ∧ Hid (SetOk [s0, s1, s2, s3] (minU u done)) ∧ RowS wz w.heap.size w.heap.size n F ∧ Below w.heap.size w wz) (fun cv _ => clen ns (intOf cv))
          case atStart => exact ⟨[], kids v, _, 0, 0, 0, 0, HK0, rfl, hch, HK6.out, setOk_zero (by simp only [minU]; omega), HROW1.out, HBEL1.out⟩
          case round =>
            clear hch HK0
            clear HK6 HROW1 HBEL1
            obtain ⟨done, rest, f, s0, s1, s2, s3, hkd, rfl, hch, k6, HS, hrow, hbel⟩ := hrel
            cases rest with
            | nil =>
              have hf1 : f = -1 := hch
              subst hf1
              have hkd2 : minU u done = x := by have h9 := hkd.out; rw [List.append_nil] at h9; rw [HV.out, h9]
              rw [hkd2] at HS
              clear hch hkd hkd2
              obtain ⟨g0, g1, g2, g3⟩ := k6.cell
              have r0 : wr.cell? ⟨w.heap.size, v * 4, none⟩ = some (.int .u64 (F v 0)) := hrow.cell v 0 hlt (by omega)
              have r1 := hrow.cell v 1 hlt (by omega)
              have r2 := hrow.cell v 2 hlt (by omega)
              have r3 := hrow.cell v 3 hlt (by omega)
              have rf0 := hrow.free (v * 4)
              have rf1 := hrow.free (v * 4 + 1)
              have rf2 := hrow.free (v * 4 + 2)
              have rf3 := hrow.free (v * 4 + 3)
              have HROW : Hid (RowS wr w.heap.size w.heap.size n F) := hrow
              have HBEL : Hid (Below w.heap.size w wr) := hbel
              have HSTEP : Hid (∀ j, j < v + 1 → SetOk (fl (setF F v s0 s1 s2 s3) j) (u j)) := setOk_step HF.out HX.out HS.out
              clear hrow hbel k6
              generalize F v 0 = e0 at r0
              generalize F v 1 = e1 at r1
              generalize F v 2 = e2 at r2
              generalize F v 3 = e3 at r3
              go_wp2
              go_roundw
              case rel => exact ⟨v + 1, setF F v s0 s1 s2 s3, by omega, by go_num, HROW.out.set4 v s0 s1 s2 s3 hlt, HSTEP, (((HBEL.out.setCell (p := ⟨w.heap.size, v * 4, none⟩) (Nat.le_refl _) _).setCell (p := ⟨w.heap.size, v * 4 + 1, none⟩) (Nat.le_refl _) _).setCell (p := ⟨w.heap.size, v * 4 + 2, none⟩) (Nat.le_refl _) _).setCell (p := ⟨w.heap.size, v * 4 + 3, none⟩) (Nat.le_refl _) _⟩
              case measure => simp [intOf]; omega
            | cons c r =>
              obtain ⟨hf, hcl, hch2⟩ := hch
              have HM : Hid (clen ns f = r.length + 1) := clen_eq (ks := c :: r) ⟨hf, hcl, hch2⟩
              have HM2 : Hid (clen ns (nodeAt ns c).next = r.length) := clen_eq hch2
              rw [← HNN.out] at hcl
              subst hf
              have hcv : c < v := HLOW.out c (by rw [hkd.out]; simp)
              have hkd2 : Hid (kids v = (done ++ [c]) ++ r) := by show _ = _; rw [hkd.out]; simp
              have hci : (c : Int) < (n : Int) := by omega
              have hc0 : (0 : Int) ≤ (c : Int) := by omega
              obtain ⟨g0, g1, g2, g3⟩ := k6.cell
              have r0 : wr.cell? ⟨w.heap.size, c * 4, none⟩ = some (.int .u64 (F c 0)) := hrow.cell c 0 hcl (by omega)
              have r1 := hrow.cell c 1 hcl (by omega)
              have r2 := hrow.cell c 2 hcl (by omega)
              have r3 := hrow.cell c 3 hcl (by omega)
              have hq : SetOk [F c 0, F c 1, F c 2, F c 3] (u c) := HF.out c hcv
              have HROW : Hid (RowS wr w.heap.size w.heap.size n F) := hrow
              have HBEL : Hid (Below w.heap.size w wr) := hbel
              have hkl := k6.lt
              clear hrow hbel hkd
              generalize F c 0 = q0 at r0 hq
              generalize F c 1 = q1 at r1 hq
              generalize F c 2 = q2 at r2 hq
              generalize F c 3 = q3 at r3 hq
              have HQ : Hid (SetOk [q0, q1, q2, q3] (u c)) := hq
              clear hq
              go_wp2
              go_region_with (
                go_at_call 38
                refine (lor38 s0 s1 s2 s3 q0 q1 q2 q3 _).mono ?_
                rintro e wA ⟨rfl, hbA⟩
                obtain ⟨p0, hp0⟩ : ∃ p0, bits .or .u64 s0 q0 = p0 := ⟨_, rfl⟩
                obtain ⟨p1, hp1⟩ : ∃ p1, bits .or .u64 s1 q1 = p1 := ⟨_, rfl⟩
                obtain ⟨p2, hp2⟩ : ∃ p2, bits .or .u64 s2 q2 = p2 := ⟨_, rfl⟩
                obtain ⟨p3, hp3⟩ : ∃ p3, bits .or .u64 s3 q3 = p3 := ⟨_, rfl⟩
                have hso := setOk_or HS.out HQ.out
                rw [hp0, hp1, hp2, hp3] at hso
                have HS2 : Hid (SetOk [p0, p1, p2, p3] (minU u (done ++ [c]))) := by
                  show SetOk _ _
                  rw [minU_app]
                  refine ⟨hso.1, fun l hl hlx => ?_⟩
                  have h9 := hso.2 l hl (by simp only [minU] at hlx; omega)
                  rw [h9]
                  simp only [minU] at hlx ⊢
                  congr 1
                  exact propext ⟨fun h => by omega, fun h => by omega⟩
                clear hso
                simp only [hp0, hp1, hp2, hp3]
                clear hp0 hp1 hp2 hp3
                have hbb : Below wr.heap.size wr wA := (Below.refl _ wr).drew.trans hbA
                have kA : A4 wA sB s0 s1 s2 s3 := k6.block (hbb.block _ hkl)
                have a0 := kA.cell.1
                have a1 := kA.cell.2.1
                have a2 := kA.cell.2.2.1
                have a3 := kA.cell.2.2.2
                have f0 := kA.free 0
                have f1 := kA.free 1
                have f2 := kA.free 2
                have f3 := kA.free 3
                simp only [ag])
              all_goals (
                have hrowA : RowS wA w.heap.size w.heap.size n F := HROW.out.block (hbb.block _ HROW.out.lt.2)
                have hbelA : Below w.heap.size w wA := HBEL.out.trans (hbb.mono (by omega))
                have t3 : wA.cell? ⟨tb, 3, none⟩ = _ := (hbelA.cell htb).trans (H1.out 3 (by omega))
                have c3 : wA.cell? ⟨g 3, c, none⟩ = some (.int .i32 (nodeAt ns c).next) := (hbelA.cell (H2.out 3 (by omega))).trans (H3.out 3 c (by omega) hcl)
                have kn := kA.put p0 p1 p2 p3
                have rn : RowS (put4 wA sB p0 p1 p2 p3) w.heap.size w.heap.size n F := hrowA.block (put4_block _ _ _ _ (by omega))
                have bn : Below w.heap.size w (put4 wA sB p0 p1 p2 p3) := put4_below hbelA (by omega) _ _ _ _
                have KN : Hid _ := kn
                have RN : Hid _ := rn
                have BN : Hid _ := bn
                clear kn rn bn hrowA hbelA g0 g1 g2 g3 r0 r1 r2 r3 a0 a1 a2 a3 f0 f1 f2 f3
                go_wp2
                go_roundw
                case rel => exact ⟨done ++ [c], r, _, p0, p1, p2, p3, hkd2, rfl, hch2, KN.out, HS2, RN.out, BN.out⟩
                case measure => simp only [intOf]; rw [HM.out, HM2.out]; omega)
      · as_aux_lemma =>
          rw [hk] at c0
          have hcv : c < v := hlow c (by rw [hks]; simp)
          have hcl : c < n := by omega
          have hci : (c : Int) < (n : Int) := by omega
          have hc0 : (0 : Int) ≤ (c : Int) := by omega
          have hval2 : x = (nodeAt ns v).mn.toNat * u c := by
            unfold nval at hval; rw [if_neg (by omega), if_neg (by omega), if_neg (by omega), if_pos hk, hks] at hval; simpa [sumU] using hval
          have t2 : wr.cell? ⟨tb, 2, none⟩ = _ := (hbel.cell htb).trans (H1.out 2 (by omega))
          have c2 : wr.cell? ⟨g 2, v, none⟩ = some (.int .i32 (nodeAt ns v).first) := (hbel.cell (H2.out 2 (by omega))).trans (H3.out 2 v (by omega) (by omega))
          rw [hks] at hch
          rw [hch.1] at c2
          have HC7 : Hid (∀ wz : World, Below w.heap.size w wz → wz.cell? ⟨g 7, v, none⟩ = some (.int .i32 (nodeAt ns v).mn) ∧ wz.cell? ⟨tb, 7, none⟩ = some (.slice (some ⟨g 7, 0, none⟩) n (cap 7))) := fun wz hb => ⟨(hb.cell (H2.out 7 (by omega))).trans (H3.out 7 v (by omega) hlt), (hb.cell htb).trans (H1.out 7 (by omega))⟩
          have HC8 : Hid (∀ wz : World, Below w.heap.size w wz → wz.cell? ⟨g 8, v, none⟩ = some (.int .i32 (nodeAt ns v).mx) ∧ wz.cell? ⟨tb, 8, none⟩ = some (.slice (some ⟨g 8, 0, none⟩) n (cap 8))) := fun wz hb => ⟨(hb.cell (H2.out 8 (by omega))).trans (H3.out 8 v (by omega) hlt), (hb.cell htb).trans (H1.out 8 (by omega))⟩
          have r0 : wr.cell? ⟨w.heap.size, c * 4, none⟩ = some (.int .u64 (F c 0)) := hrow.cell c 0 hcl (by omega)
          have r1 := hrow.cell c 1 hcl (by omega)
          have r2 := hrow.cell c 2 hcl (by omega)
          have r3 := hrow.cell c 3 hcl (by omega)
          have hq : SetOk [F c 0, F c 1, F c 2, F c 3] (u c) := HF.out c hcv
          clear hval hch hlow hks hk
          generalize F c 0 = q0 at r0 hq
          generalize F c 1 = q1 at r1 hq
          generalize F c 2 = q2 at r2 hq
          generalize F c 3 = q3 at r3 hq
          obtain ⟨y, hy⟩ : ∃ y, u c = y := ⟨_, rfl⟩
          rw [hy] at hq hval2
          clear hy
          have HQ : Hid (SetOk [q0, q1, q2, q3] y) := hq
          clear hq
          generalize (nodeAt ns v).mn = mn at *
          generalize (nodeAt ns v).mx = mx at *
          obtain ⟨m, rfl⟩ : ∃ m : Nat, mn = m := ⟨mn.toNat, by omega⟩
          have hxm : x = m * y := by rw [hval2]; simp
          have HXQ : Hid (x = m * y) := hxm
          have HXM : Hid (x ≤ m * y) := by show _ ≤ _; omega
          have hm4 : m ≤ 4 := by omega
          clear hval2 hxm
          have hg2r : g 2 < wr.heap.size := by have := H2.out 2 (by omega); omega
          have hbb1 : tb < wr.heap.size + 1 := by omega
          have HROWR : Hid (RowS wr w.heap.size w.heap.size n F) := hrow
          have HBELR : Hid (Below w.heap.size w wr) := hbel
          clear hrow hbel
          go_wp2_with fail
          obtain ⟨w2, hw2⟩ : ∃ w2, w2 = (wr.alloc (.cells #[.int .u64 0, .int .u64 0, .int .u64 0, .int .u64 0] 38)).alloc (.cells #[.int .u64 q0, .int .u64 q1, .int .u64 q2, .int .u64 q3] 38) := ⟨_, rfl⟩
          rw [← hw2, HSB.out]
          have ksb : A4 w2 sB 0 0 0 0 := by
            rw [hw2]; unfold A4
            rw [Below.heap_alloc _ _ _ (by simp [HSB.out]), ← HSB.out]; exact heap_alloc_new _ _
          have kpb : A4 w2 (sB + 1) q0 q1 q2 q3 := by
            rw [hw2]; unfold A4
            have := heap_alloc_new (wr.alloc (.cells #[.int .u64 0, .int .u64 0, .int .u64 0, .int .u64 0] 38)) (.cells #[.int .u64 q0, .int .u64 q1, .int .u64 q2, .int .u64 q3] 38)
            simpa [HSB.out] using this
          have hrow2 : RowS w2 w.heap.size w.heap.size n F := by
            rw [hw2]; exact HROWR.out.block (by rw [Below.heap_alloc _ _ _ (by simp; omega), Below.heap_alloc _ _ _ hgl])
          have hbel2 : Below w.heap.size w w2 := by rw [hw2]; exact (HBELR.out.alloc (by omega) _).alloc (by simp; omega) _
          have hsz2 : w2.heap.size = sB + 2 := by rw [hw2]; simp [HSB.out]
          clear hw2
          refine (lunit36 _).mono ?_
          rintro e w3 ⟨rfl, hb3⟩
          have hsz3 := hb3.size
          have ksb3 := ksb.block (hb3.block _ (by omega))
          have kpb3 := kpb.block (hb3.block _ (by omega))
          have hrow3 := hrow2.block (hb3.block _ (by omega))
          have hbel3 : Below w.heap.size w w3 := hbel2.trans (hb3.mono (by omega))
          clear ksb kpb hrow2 hbel2 HW1 HSB hne1 hne2 t0 c0 t2 c2 r0 r1 r2 r3 hg2r hbb1 HROWR HBELR HK6 HROW1 HBEL1 HSZ hgl
          obtain ⟨aB, haB⟩ : ∃ aB, w3.heap.size = aB := ⟨_, rfl⟩
          have hab : sB + 1 < aB := by omega
          obtain ⟨w4, hw4⟩ : ∃ w4, w4 = w3.alloc (.cells #[.int .u64 1, .int .u64 0, .int .u64 0, .int .u64 0] 38) := ⟨_, rfl⟩
          have ksb4 : A4 w4 sB 0 0 0 0 := by rw [hw4]; exact ksb3.block (Below.heap_alloc _ _ _ (by omega))
          have kpb4 : A4 w4 (sB + 1) q0 q1 q2 q3 := by rw [hw4]; exact kpb3.block (Below.heap_alloc _ _ _ (by omega))
          have kab4 : A4 w4 aB 1 0 0 0 := by rw [hw4, ← haB]; exact heap_alloc_new _ _
          have hrow4 : RowS w4 w.heap.size w.heap.size n F := by rw [hw4]; exact hrow3.block (Below.heap_alloc _ _ _ (by omega))
          have hbel4 : Below w.heap.size w w4 := by rw [hw4]; exact hbel3.alloc (by omega) _
          have HW4 : Hid (w4 = w3.alloc (.cells #[.int .u64 1, .int .u64 0, .int .u64 0, .int .u64 0] 38)) := hw4
          have HAB : Hid (w3.heap.size = aB) := haB
          clear ksb3 kpb3 hrow3 hbel3 hw4 haB hb3
          unfold ag
          go_wp2
          rw [← HW4.out, HAB.out]
          clear HW4 HAB hsz3 hsz2
          have hg1 : ¬ w.heap.size = sB := by omega
          have hg2 : ¬ sB = w.heap.size := by omega
          have hg3 : ¬ tb = aB := by omega
          have hg4 : ¬ sB = aB := by omega
          have hg5 : ¬ aB = sB := by omega
          have hg6 : ¬ sB + 1 = aB := by omega
          have hg7 : ¬ aB = sB + 1 := by omega
          have hg8 : ¬ g 7 = aB := by have := H2.out 7 (by omega); omega
          have hg9 : ¬ g 7 = sB := by have := H2.out 7 (by omega); omega
          have hg10 : ¬ g 8 = sB := by have := H2.out 8 (by omega); omega
          go_loopw [12] (fun iv wz => ∃ (k : Nat) (a0 a1 a2 a3 : Int), k ≤ m ∧ iv = .int .i32 ((k : Int) + 1) ∧ A4 wz sB 0 0 0 0 ∧ A4 wz (sB + 1) q0 q1 q2 q3 ∧ A4 wz aB a0 a1 a2 a3 ∧ Hid (SetOk [a0, a1, a2, a3] (k * y)) ∧ RowS wz w.heap.size w.heap.size n F ∧ Below w.heap.size w wz) (fun iv _ => 1000 - (intOf iv).toNat)
          case atStart => exact ⟨0, 1, 0, 0, 0, Nat.zero_le _, (by first | rfl | go_num), ksb4, kpb4, kab4, (by show SetOk _ _; rw [Nat.zero_mul]; exact setOk_unit), hrow4, hbel4⟩
          case round =>
            clear ksb4 kpb4 kab4 hrow4 hbel4
            obtain ⟨k, a0, a1, a2, a3, hkm, rfl, k6, kp, ka, HS, hrow, hbel⟩ := hrel
            obtain ⟨c7, t7⟩ := HC7.out wr hbel
            by_cases hlt5 : k < m
            · have hki5 : (k : Int) + 1 ≤ (m : Int) := by omega
              obtain ⟨g0, g1, g2, g3⟩ := ka.cell
              obtain ⟨p0', p1', p2', p3'⟩ := kp.cell
              go_wp2_with fail
              refine (lsum37 a0 a1 a2 a3 q0 q1 q2 q3 HS.out.1 HQ.out.1 _).mono ?_
              rintro e wA ⟨p0, p1, p2, p3, rfl, hpw, hpl, hbA⟩
              have HS2 : Hid (SetOk [p0, p1, p2, p3] ((k + 1) * y)) := by show SetOk _ _; rw [Nat.succ_mul]; exact setOk_sum hpl hpw HS.out HQ.out
              clear hpw hpl g0 g1 g2 g3 p0' p1' p2' p3' c7 t7
              have hlp := kp.lt
              have hla := ka.lt
              have hls := k6.lt
              have hlr := hrow.lt.2
              have kp2 : A4 wA (sB + 1) q0 q1 q2 q3 := kp.block (hbA.block _ hlp)
              have ka2 : A4 wA aB a0 a1 a2 a3 := ka.block (hbA.block _ hla)
              have k62 : A4 wA sB 0 0 0 0 := k6.block (hbA.block _ hls)
              have hrow2 : RowS wA w.heap.size w.heap.size n F := hrow.block (hbA.block _ hlr)
              have hbel2 : Below w.heap.size w wA := hbel.trans (hbA.mono (by omega))
              have KP : Hid (A4 (put4 wA aB p0 p1 p2 p3) (sB + 1) q0 q1 q2 q3) := kp2.block (put4_block _ _ _ _ (by omega))
              have KS : Hid (A4 (put4 wA aB p0 p1 p2 p3) sB 0 0 0 0) := k62.block (put4_block _ _ _ _ (by omega))
              have KA : Hid (A4 (put4 wA aB p0 p1 p2 p3) aB p0 p1 p2 p3) := ka2.put _ _ _ _
              have RW : Hid (RowS (put4 wA aB p0 p1 p2 p3) w.heap.size w.heap.size n F) := hrow2.block (put4_block _ _ _ _ (by omega))
              have BW : Hid (Below w.heap.size w (put4 wA aB p0 p1 p2 p3)) := put4_below hbel2 (by omega) _ _ _ _
              have f0 := ka2.free 0
              have f1 := ka2.free 1
              have f2 := ka2.free 2
              have f3 := ka2.free 3
              obtain ⟨g0, g1, g2, g3⟩ := ka2.cell
              clear kp ka k6 hrow hbel kp2 k62 hrow2 hbel2
              unfold ag
              go_wp2
              go_roundw
              case rel => exact ⟨k + 1, p0, p1, p2, p3, by omega, by go_num, KS.out, KP.out, KA.out, HS2, RW.out, BW.out⟩
              case measure => simp [intOf]; omega
            · have hkm2 : m = k := by omega
              subst hkm2
              have hki5 : ¬ (m : Int) + 1 ≤ (m : Int) := by omega
              obtain ⟨c8, t8⟩ := HC8.out wr hbel
              obtain ⟨g0, g1, g2, g3⟩ := ka.cell
              obtain ⟨z0, z1, z2, z3⟩ := k6.cell
              have f0 := k6.free 0
              have f1 := k6.free 1
              have f2 := k6.free 2
              have f3 := k6.free 3
              have KP : Hid (A4 (put4 wr sB a0 a1 a2 a3) (sB + 1) q0 q1 q2 q3) := kp.block (put4_block _ _ _ _ (by omega))
              have KA : Hid (A4 (put4 wr sB a0 a1 a2 a3) aB a0 a1 a2 a3) := ka.block (put4_block _ _ _ _ (by omega))
              have KS : Hid (A4 (put4 wr sB a0 a1 a2 a3) sB a0 a1 a2 a3) := k6.put _ _ _ _
              have RW : Hid (RowS (put4 wr sB a0 a1 a2 a3) w.heap.size w.heap.size n F) := hrow.block (put4_block _ _ _ _ (by omega))
              have BW : Hid (Below w.heap.size w (put4 wr sB a0 a1 a2 a3)) := put4_below hbel (by omega) _ _ _ _
              have HS0 : Hid (SetOk [a0, a1, a2, a3] x) := by rw [HXQ.out]; exact HS.out
              clear kp ka k6 hrow hbel
              have wa1 := wrap_i64 (x := (m : Int)) (by omega)
              have wa2 := wrap_i64 (x := (m : Int) + 256) (by omega)
              have wa3 := wrap_i64 (x := (m : Int) + 1) (by omega)
              rcases hmx with hmx | hmx
              · subst hmx
                obtain ⟨tp, htp⟩ : ∃ tp : Nat, (m : Int) + 256 = tp := ⟨m + 256, by omega⟩
                have HTPE : Hid ((m : Int) + 256 = tp) := htp
                have htop : tp ≤ 260 := by omega
                have hkm : m + 1 ≤ tp + 1 := by omega
                clear htp
                go_wp2
                rw [HTPE.out]
                clear g0 g1 g2 g3 z0 z1 z2 z3 f0 f1 f2 f3 c7 t7 c8 t8 wa1 wa2 wa3
                go_loopw [14, 15] (fun iv _ wz => ∃ (k z : Nat) (b0 b1 b2 b3 s0 s1 s2 s3 : Int), k ≤ tp + 1 ∧ iv = .int .i64 k ∧ A4 wz (sB + 1) q0 q1 q2 q3 ∧ A4 wz aB b0 b1 b2 b3 ∧ Hid (SetOk [b0, b1, b2, b3] z ∧ x ≤ z) ∧ A4 wz sB s0 s1 s2 s3 ∧ Hid (SetOk [s0, s1, s2, s3] x) ∧ RowS wz w.heap.size w.heap.size n F ∧ Below w.heap.size w wz) (fun iv _ _ => 1000 - (intOf iv).toNat)
                case atStart => exact ⟨m + 1, m * y, a0, a1, a2, a3, a0, a1, a2, a3, hkm, by go_num, KP.out, KA.out, ⟨HS.out, HXM.out⟩, KS.out, HS0, RW.out, BW.out⟩
                case round =>
                  clear HS KP KA KS HS0 RW BW hkm
                  obtain ⟨k, z, b0, b1, b2, b3, s0, s1, s2, s3, hk, rfl, kp, ka, HA, k6, HS, hrow, hbel⟩ := hrel
                  by_cases hkt : k ≤ tp
                  · have hkti : (k : Int) ≤ (tp : Int) := by omega
                    obtain ⟨g0, g1, g2, g3⟩ := ka.cell
                    obtain ⟨p0', p1', p2', p3'⟩ := kp.cell
                    go_wp2_with fail
                    refine (lsum37 b0 b1 b2 b3 q0 q1 q2 q3 HA.out.1.1 HQ.out.1 _).mono ?_
                    rintro e wA ⟨p0, p1, p2, p3, rfl, hpw, hpl, hbA⟩
                    have HP : Hid (SetOk [p0, p1, p2, p3] (z + y)) := setOk_sum hpl hpw HA.out.1 HQ.out
                    have hlp := kp.lt
                    have hla := ka.lt
                    have hls := k6.lt
                    have hlr := hrow.lt.2
                    have kp2 : A4 wA (sB + 1) q0 q1 q2 q3 := kp.block (hbA.block _ hlp)
                    have ka2 : A4 wA aB b0 b1 b2 b3 := ka.block (hbA.block _ hla)
                    have k62 : A4 wA sB s0 s1 s2 s3 := k6.block (hbA.block _ hls)
                    have hrow2 : RowS wA w.heap.size w.heap.size n F := hrow.block (hbA.block _ hlr)
                    have hbel2 : Below w.heap.size w wA := hbel.trans (hbA.mono (by omega))
                    have hszA := hbA.size
                    clear hpw hpl g0 g1 g2 g3 p0' p1' p2' p3' kp ka k6 hrow hbel hbA
                    obtain ⟨g0, g1, g2, g3⟩ := ka2.cell
                    have hla2 : aB < wA.heap.size := by omega
                    have hls2 : sB < wA.heap.size := by omega
                    have hlp2 : sB + 1 < wA.heap.size := by omega
                    have hlr2 : w.heap.size < wA.heap.size := by omega
                    clear hlp hla hls hlr hszA
                    have heq := eq38 p0 p1 p2 p3 b0 b1 b2 b3 (wA.alloc (.cells #[.int .u64 p0, .int .u64 p1, .int .u64 p2, .int .u64 p3] 38))
                    obtain ⟨eb, heb⟩ : ∃ eb, (p0 == b0 && p1 == b1 && p2 == b2 && p3 == b3) = eb := ⟨_, rfl⟩
                    rw [heb] at heq
                    clear heb
                    unfold ag
                    cases eb with
                    | true =>
                      go_upto_region 44 with fail
                      have k6 : A4 (wA.alloc (.cells #[.int .u64 p0, .int .u64 p1, .int .u64 p2, .int .u64 p3] 38)) sB s0 s1 s2 s3 := k62.block (Below.heap_alloc _ _ _ hls2)
                      have hrow := hrow2.block (Below.heap_alloc wA (.cells #[.int .u64 p0, .int .u64 p1, .int .u64 p2, .int .u64 p3] 38) _ hlr2)
                      have hbel := hbel2.alloc (by omega) (.cells #[.int .u64 p0, .int .u64 p1, .int .u64 p2, .int .u64 p3] 38)
                      clear heq HA kp2 ka2 k62 hrow2 hbel2 g0 g1 g2 g3
                      generalize wA.alloc (.cells #[.int .u64 p0, .int .u64 p1, .int .u64 p2, .int .u64 p3] 38) = wr at k6 hrow hbel ⊢
                      obtain ⟨g0, g1, g2, g3⟩ := k6.cell
                      have r0 : wr.cell? ⟨w.heap.size, v * 4, none⟩ = some (.int .u64 (F v 0)) := hrow.cell v 0 hlt (by omega)
                      have r1 := hrow.cell v 1 hlt (by omega)
                      have r2 := hrow.cell v 2 hlt (by omega)
                      have r3 := hrow.cell v 3 hlt (by omega)
                      have rf0 := hrow.free (v * 4)
                      have rf1 := hrow.free (v * 4 + 1)
                      have rf2 := hrow.free (v * 4 + 2)
                      have rf3 := hrow.free (v * 4 + 3)
                      have HROW : Hid (RowS wr w.heap.size w.heap.size n F) := hrow
                      have HBEL : Hid (Below w.heap.size w wr) := hbel
                      have HSTEP : Hid (∀ j, j < v + 1 → SetOk (fl (setF F v s0 s1 s2 s3) j) (u j)) := setOk_step HF.out HX.out HS.out
                      clear hrow hbel k6
                      generalize F v 0 = e0 at r0
                      generalize F v 1 = e1 at r1
                      generalize F v 2 = e2 at r2
                      generalize F v 3 = e3 at r3
                      go_wp2
                      go_roundw
                      case rel => exact ⟨v + 1, setF F v s0 s1 s2 s3, by omega, by go_num, HROW.out.set4 v s0 s1 s2 s3 hlt, HSTEP, (((HBEL.out.setCell (p := ⟨w.heap.size, v * 4, none⟩) (Nat.le_refl _) _).setCell (p := ⟨w.heap.size, v * 4 + 1, none⟩) (Nat.le_refl _) _).setCell (p := ⟨w.heap.size, v * 4 + 2, none⟩) (Nat.le_refl _) _).setCell (p := ⟨w.heap.size, v * 4 + 3, none⟩) (Nat.le_refl _) _⟩
                      case measure => simp [intOf]; omega
                    | false =>
                      have fa0 := ka2.free 0
                      have fa1 := ka2.free 1
                      have fa2 := ka2.free 2
                      have fa3 := ka2.free 3
                      obtain ⟨x0, x1, x2, x3⟩ := k62.cell
                      go_wp2_with fail
                      obtain ⟨w5, hw5⟩ : ∃ w5, w5 = (put4 wA aB p0 p1 p2 p3).alloc (.cells #[.int .u64 p0, .int .u64 p1, .int .u64 p2, .int .u64 p3] 38) := ⟨_, rfl⟩
                      have hpsz : (put4 wA aB p0 p1 p2 p3).heap.size = wA.heap.size := by simp [put4]
                      have ks5 : A4 w5 sB s0 s1 s2 s3 := by rw [hw5]; exact k62.block ((Below.heap_alloc _ _ _ (by omega)).trans (put4_block _ _ _ _ (by omega)))
                      have kp5 : A4 w5 (sB + 1) q0 q1 q2 q3 := by rw [hw5]; exact kp2.block ((Below.heap_alloc _ _ _ (by omega)).trans (put4_block _ _ _ _ (by omega)))
                      have ka5 : A4 w5 aB p0 p1 p2 p3 := by rw [hw5]; exact (ka2.put p0 p1 p2 p3).block (Below.heap_alloc _ _ _ (by omega))
                      have hr5 : RowS w5 w.heap.size w.heap.size n F := by rw [hw5]; exact hrow2.block ((Below.heap_alloc _ _ _ (by omega)).trans (put4_block _ _ _ _ (by omega)))
                      have hb5 : Below w.heap.size w w5 := by rw [hw5]; exact (put4_below hbel2 (by omega) _ _ _ _).alloc (by omega) _
                      unfold put4 at hw5
                      rw [← hw5]
                      clear hw5 hpsz k62 kp2 ka2 hrow2 hbel2 heq fa0 fa1 fa2 fa3 g0 g1 g2 g3 x0 x1 x2 x3 hla2 hls2 hlp2 hlr2
                      refine (lor38 s0 s1 s2 s3 p0 p1 p2 p3 _).mono ?_
                      rintro e wB ⟨rfl, hbB⟩
                      obtain ⟨r0, hr0⟩ : ∃ r0, bits .or .u64 s0 p0 = r0 := ⟨_, rfl⟩
                      obtain ⟨r1, hr1⟩ : ∃ r1, bits .or .u64 s1 p1 = r1 := ⟨_, rfl⟩
                      obtain ⟨r2, hr2⟩ : ∃ r2, bits .or .u64 s2 p2 = r2 := ⟨_, rfl⟩
                      obtain ⟨r3, hr3⟩ : ∃ r3, bits .or .u64 s3 p3 = r3 := ⟨_, rfl⟩
                      have hso := setOk_or HS.out HP.out
                      have hzz : x ≤ z + y := by have := HA.out.2; omega
                      rw [hr0, hr1, hr2, hr3, show min x (z + y) = x by omega] at hso
                      have HS2 : Hid (SetOk [r0, r1, r2, r3] x) := hso
                      have HA2 : Hid (SetOk [p0, p1, p2, p3] (z + y) ∧ x ≤ z + y) := ⟨HP.out, hzz⟩
                      simp only [ag, hr0, hr1, hr2, hr3]
                      clear hso hr0 hr1 hr2 hr3 hzz HP HA HS
                      have hl6 := ks5.lt
                      have hl7 := kp5.lt
                      have hl8 := ka5.lt
                      have hl9 := hr5.lt.2
                      have ks6 : A4 wB sB s0 s1 s2 s3 := ks5.block (hbB.block _ hl6)
                      have kp6 : A4 wB (sB + 1) q0 q1 q2 q3 := kp5.block (hbB.block _ hl7)
                      have ka6 : A4 wB aB p0 p1 p2 p3 := ka5.block (hbB.block _ hl8)
                      have hr6 : RowS wB w.heap.size w.heap.size n F := hr5.block (hbB.block _ hl9)
                      have hb6 : Below w.heap.size w wB := hb5.trans (hbB.mono (by omega))
                      have KP : Hid (A4 (put4 wB sB r0 r1 r2 r3) (sB + 1) q0 q1 q2 q3) := kp6.block (put4_block _ _ _ _ (by omega))
                      have KA : Hid (A4 (put4 wB sB r0 r1 r2 r3) aB p0 p1 p2 p3) := ka6.block (put4_block _ _ _ _ (by omega))
                      have KS : Hid (A4 (put4 wB sB r0 r1 r2 r3) sB r0 r1 r2 r3) := ks6.put _ _ _ _
                      have RW : Hid (RowS (put4 wB sB r0 r1 r2 r3) w.heap.size w.heap.size n F) := hr6.block (put4_block _ _ _ _ (by omega))
                      have BW : Hid (Below w.heap.size w (put4 wB sB r0 r1 r2 r3)) := put4_below hb6 (by omega) _ _ _ _
                      obtain ⟨x0, x1, x2, x3⟩ := ks6.cell
                      have fs0 := ks6.free 0
                      have fs1 := ks6.free 1
                      have fs2 := ks6.free 2
                      have fs3 := ks6.free 3
                      clear ks5 kp5 ka5 hr5 hb5 ks6 kp6 ka6 hr6 hb6 hbB hl6 hl7 hl8 hl9
                      go_wp2
                      go_roundw
                      case rel => exact ⟨k + 1, z + y, p0, p1, p2, p3, r0, r1, r2, r3, by omega, by go_num, KP.out, KA.out, HA2, KS.out, HS2, RW.out, BW.out⟩
                      case measure => simp [intOf]; omega
                  · have hnk : ¬ (k : Int) ≤ (tp : Int) := by omega
                    go_upto_region 44 with fail
                    clear HA ka kp
                    obtain ⟨g0, g1, g2, g3⟩ := k6.cell
                    have r0 : wr.cell? ⟨w.heap.size, v * 4, none⟩ = some (.int .u64 (F v 0)) := hrow.cell v 0 hlt (by omega)
                    have r1 := hrow.cell v 1 hlt (by omega)
                    have r2 := hrow.cell v 2 hlt (by omega)
                    have r3 := hrow.cell v 3 hlt (by omega)
                    have rf0 := hrow.free (v * 4)
                    have rf1 := hrow.free (v * 4 + 1)
                    have rf2 := hrow.free (v * 4 + 2)
                    have rf3 := hrow.free (v * 4 + 3)
                    have HROW : Hid (RowS wr w.heap.size w.heap.size n F) := hrow
                    have HBEL : Hid (Below w.heap.size w wr) := hbel
                    have HSTEP : Hid (∀ j, j < v + 1 → SetOk (fl (setF F v s0 s1 s2 s3) j) (u j)) := setOk_step HF.out HX.out HS.out
                    clear hrow hbel k6
                    generalize F v 0 = e0 at r0
                    generalize F v 1 = e1 at r1
                    generalize F v 2 = e2 at r2
                    generalize F v 3 = e3 at r3
                    go_wp2
                    go_roundw
                    case rel => exact ⟨v + 1, setF F v s0 s1 s2 s3, by omega, by go_num, HROW.out.set4 v s0 s1 s2 s3 hlt, HSTEP, (((HBEL.out.setCell (p := ⟨w.heap.size, v * 4, none⟩) (Nat.le_refl _) _).setCell (p := ⟨w.heap.size, v * 4 + 1, none⟩) (Nat.le_refl _) _).setCell (p := ⟨w.heap.size, v * 4 + 2, none⟩) (Nat.le_refl _) _).setCell (p := ⟨w.heap.size, v * 4 + 3, none⟩) (Nat.le_refl _) _⟩
                    case measure => simp [intOf]; omega
              · obtain ⟨tp, rfl⟩ : ∃ tp : Nat, mx = tp := ⟨mx.toNat, by omega⟩
                have htop : tp ≤ 260 := by omega
                have hkm : m + 1 ≤ tp + 1 := by omega
                have wa4 := wrap_i64 (x := (tp : Int)) (by omega)
                have htp0 : (0 : Int) ≤ (tp : Int) := by omega
                go_wp2
                clear g0 g1 g2 g3 z0 z1 z2 z3 f0 f1 f2 f3 c7 t7 c8 t8 wa1 wa2 wa3 wa4
                go_loopw [14, 15] (fun iv _ wz => ∃ (k z : Nat) (b0 b1 b2 b3 s0 s1 s2 s3 : Int), k ≤ tp + 1 ∧ iv = .int .i64 k ∧ A4 wz (sB + 1) q0 q1 q2 q3 ∧ A4 wz aB b0 b1 b2 b3 ∧ Hid (SetOk [b0, b1, b2, b3] z ∧ x ≤ z) ∧ A4 wz sB s0 s1 s2 s3 ∧ Hid (SetOk [s0, s1, s2, s3] x) ∧ RowS wz w.heap.size w.heap.size n F ∧ Below w.heap.size w wz) (fun iv _ _ => 1000 - (intOf iv).toNat)
                case atStart => exact ⟨m + 1, m * y, a0, a1, a2, a3, a0, a1, a2, a3, hkm, by go_num, KP.out, KA.out, ⟨HS.out, HXM.out⟩, KS.out, HS0, RW.out, BW.out⟩
                case round =>
                  clear HS KP KA KS HS0 RW BW hkm
                  obtain ⟨k, z, b0, b1, b2, b3, s0, s1, s2, s3, hk, rfl, kp, ka, HA, k6, HS, hrow, hbel⟩ := hrel
                  by_cases hkt : k ≤ tp
                  · have hkti : (k : Int) ≤ (tp : Int) := by omega
                    obtain ⟨g0, g1, g2, g3⟩ := ka.cell
                    obtain ⟨p0', p1', p2', p3'⟩ := kp.cell
                    go_wp2_with fail
                    refine (lsum37 b0 b1 b2 b3 q0 q1 q2 q3 HA.out.1.1 HQ.out.1 _).mono ?_
                    rintro e wA ⟨p0, p1, p2, p3, rfl, hpw, hpl, hbA⟩
                    have HP : Hid (SetOk [p0, p1, p2, p3] (z + y)) := setOk_sum hpl hpw HA.out.1 HQ.out
                    have hlp := kp.lt
                    have hla := ka.lt
                    have hls := k6.lt
                    have hlr := hrow.lt.2
                    have kp2 : A4 wA (sB + 1) q0 q1 q2 q3 := kp.block (hbA.block _ hlp)
                    have ka2 : A4 wA aB b0 b1 b2 b3 := ka.block (hbA.block _ hla)
                    have k62 : A4 wA sB s0 s1 s2 s3 := k6.block (hbA.block _ hls)
                    have hrow2 : RowS wA w.heap.size w.heap.size n F := hrow.block (hbA.block _ hlr)
                    have hbel2 : Below w.heap.size w wA := hbel.trans (hbA.mono (by omega))
                    have hszA := hbA.size
                    clear hpw hpl g0 g1 g2 g3 p0' p1' p2' p3' kp ka k6 hrow hbel hbA
                    obtain ⟨g0, g1, g2, g3⟩ := ka2.cell
                    have hla2 : aB < wA.heap.size := by omega
                    have hls2 : sB < wA.heap.size := by omega
                    have hlp2 : sB + 1 < wA.heap.size := by omega
                    have hlr2 : w.heap.size < wA.heap.size := by omega
                    clear hlp hla hls hlr hszA
                    have heq := eq38 p0 p1 p2 p3 b0 b1 b2 b3 (wA.alloc (.cells #[.int .u64 p0, .int .u64 p1, .int .u64 p2, .int .u64 p3] 38))
                    obtain ⟨eb, heb⟩ : ∃ eb, (p0 == b0 && p1 == b1 && p2 == b2 && p3 == b3) = eb := ⟨_, rfl⟩
                    rw [heb] at heq
                    clear heb
                    unfold ag
                    cases eb with
                    | true =>
                      go_upto_region 44 with fail
                      have k6 : A4 (wA.alloc (.cells #[.int .u64 p0, .int .u64 p1, .int .u64 p2, .int .u64 p3] 38)) sB s0 s1 s2 s3 := k62.block (Below.heap_alloc _ _ _ hls2)
                      have hrow := hrow2.block (Below.heap_alloc wA (.cells #[.int .u64 p0, .int .u64 p1, .int .u64 p2, .int .u64 p3] 38) _ hlr2)
                      have hbel := hbel2.alloc (by omega) (.cells #[.int .u64 p0, .int .u64 p1, .int .u64 p2, .int .u64 p3] 38)
                      clear heq HA kp2 ka2 k62 hrow2 hbel2 g0 g1 g2 g3
                      generalize wA.alloc (.cells #[.int .u64 p0, .int .u64 p1, .int .u64 p2, .int .u64 p3] 38) = wr at k6 hrow hbel ⊢
                      obtain ⟨g0, g1, g2, g3⟩ := k6.cell
                      have r0 : wr.cell? ⟨w.heap.size, v * 4, none⟩ = some (.int .u64 (F v 0)) := hrow.cell v 0 hlt (by omega)
                      have r1 := hrow.cell v 1 hlt (by omega)
                      have r2 := hrow.cell v 2 hlt (by omega)
                      have r3 := hrow.cell v 3 hlt (by omega)
                      have rf0 := hrow.free (v * 4)
                      have rf1 := hrow.free (v * 4 + 1)
                      have rf2 := hrow.free (v * 4 + 2)
                      have rf3 := hrow.free (v * 4 + 3)
                      have HROW : Hid (RowS wr w.heap.size w.heap.size n F) := hrow
                      have HBEL : Hid (Below w.heap.size w wr) := hbel
                      have HSTEP : Hid (∀ j, j < v + 1 → SetOk (fl (setF F v s0 s1 s2 s3) j) (u j)) := setOk_step HF.out HX.out HS.out
                      clear hrow hbel k6
                      generalize F v 0 = e0 at r0
                      generalize F v 1 = e1 at r1
                      generalize F v 2 = e2 at r2
                      generalize F v 3 = e3 at r3
                      go_wp2
                      go_roundw
                      case rel => exact ⟨v + 1, setF F v s0 s1 s2 s3, by omega, by go_num, HROW.out.set4 v s0 s1 s2 s3 hlt, HSTEP, (((HBEL.out.setCell (p := ⟨w.heap.size, v * 4, none⟩) (Nat.le_refl _) _).setCell (p := ⟨w.heap.size, v * 4 + 1, none⟩) (Nat.le_refl _) _).setCell (p := ⟨w.heap.size, v * 4 + 2, none⟩) (Nat.le_refl _) _).setCell (p := ⟨w.heap.size, v * 4 + 3, none⟩) (Nat.le_refl _) _⟩
                      case measure => simp [intOf]; omega
                    | false =>
                      have fa0 := ka2.free 0
                      have fa1 := ka2.free 1
                      have fa2 := ka2.free 2
                      have fa3 := ka2.free 3
                      obtain ⟨x0, x1, x2, x3⟩ := k62.cell
                      go_wp2_with fail
                      obtain ⟨w5, hw5⟩ : ∃ w5, w5 = (put4 wA aB p0 p1 p2 p3).alloc (.cells #[.int .u64 p0, .int .u64 p1, .int .u64 p2, .int .u64 p3] 38) := ⟨_, rfl⟩
                      have hpsz : (put4 wA aB p0 p1 p2 p3).heap.size = wA.heap.size := by simp [put4]
                      have ks5 : A4 w5 sB s0 s1 s2 s3 := by rw [hw5]; exact k62.block ((Below.heap_alloc _ _ _ (by omega)).trans (put4_block _ _ _ _ (by omega)))
                      have kp5 : A4 w5 (sB + 1) q0 q1 q2 q3 := by rw [hw5]; exact kp2.block ((Below.heap_alloc _ _ _ (by omega)).trans (put4_block _ _ _ _ (by omega)))
                      have ka5 : A4 w5 aB p0 p1 p2 p3 := by rw [hw5]; exact (ka2.put p0 p1 p2 p3).block (Below.heap_alloc _ _ _ (by omega))
                      have hr5 : RowS w5 w.heap.size w.heap.size n F := by rw [hw5]; exact hrow2.block ((Below.heap_alloc _ _ _ (by omega)).trans (put4_block _ _ _ _ (by omega)))
                      have hb5 : Below w.heap.size w w5 := by rw [hw5]; exact (put4_below hbel2 (by omega) _ _ _ _).alloc (by omega) _
                      unfold put4 at hw5
                      rw [← hw5]
                      clear hw5 hpsz k62 kp2 ka2 hrow2 hbel2 heq fa0 fa1 fa2 fa3 g0 g1 g2 g3 x0 x1 x2 x3 hla2 hls2 hlp2 hlr2
                      refine (lor38 s0 s1 s2 s3 p0 p1 p2 p3 _).mono ?_
                      rintro e wB ⟨rfl, hbB⟩
                      obtain ⟨r0, hr0⟩ : ∃ r0, bits .or .u64 s0 p0 = r0 := ⟨_, rfl⟩
                      obtain ⟨r1, hr1⟩ : ∃ r1, bits .or .u64 s1 p1 = r1 := ⟨_, rfl⟩
                      obtain ⟨r2, hr2⟩ : ∃ r2, bits .or .u64 s2 p2 = r2 := ⟨_, rfl⟩
                      obtain ⟨r3, hr3⟩ : ∃ r3, bits .or .u64 s3 p3 = r3 := ⟨_, rfl⟩
                      have hso := setOk_or HS.out HP.out
                      have hzz : x ≤ z + y := by have := HA.out.2; omega
                      rw [hr0, hr1, hr2, hr3, show min x (z + y) = x by omega] at hso
                      have HS2 : Hid (SetOk [r0, r1, r2, r3] x) := hso
                      have HA2 : Hid (SetOk [p0, p1, p2, p3] (z + y) ∧ x ≤ z + y) := ⟨HP.out, hzz⟩
                      simp only [ag, hr0, hr1, hr2, hr3]
                      clear hso hr0 hr1 hr2 hr3 hzz HP HA HS
                      have hl6 := ks5.lt
                      have hl7 := kp5.lt
                      have hl8 := ka5.lt
                      have hl9 := hr5.lt.2
                      have ks6 : A4 wB sB s0 s1 s2 s3 := ks5.block (hbB.block _ hl6)
                      have kp6 : A4 wB (sB + 1) q0 q1 q2 q3 := kp5.block (hbB.block _ hl7)
                      have ka6 : A4 wB aB p0 p1 p2 p3 := ka5.block (hbB.block _ hl8)
                      have hr6 : RowS wB w.heap.size w.heap.size n F := hr5.block (hbB.block _ hl9)
                      have hb6 : Below w.heap.size w wB := hb5.trans (hbB.mono (by omega))
                      have KP : Hid (A4 (put4 wB sB r0 r1 r2 r3) (sB + 1) q0 q1 q2 q3) := kp6.block (put4_block _ _ _ _ (by omega))
                      have KA : Hid (A4 (put4 wB sB r0 r1 r2 r3) aB p0 p1 p2 p3) := ka6.block (put4_block _ _ _ _ (by omega))
                      have KS : Hid (A4 (put4 wB sB r0 r1 r2 r3) sB r0 r1 r2 r3) := ks6.put _ _ _ _
                      have RW : Hid (RowS (put4 wB sB r0 r1 r2 r3) w.heap.size w.heap.size n F) := hr6.block (put4_block _ _ _ _ (by omega))
                      have BW : Hid (Below w.heap.size w (put4 wB sB r0 r1 r2 r3)) := put4_below hb6 (by omega) _ _ _ _
                      obtain ⟨x0, x1, x2, x3⟩ := ks6.cell
                      have fs0 := ks6.free 0
                      have fs1 := ks6.free 1
                      have fs2 := ks6.free 2
                      have fs3 := ks6.free 3
                      clear ks5 kp5 ka5 hr5 hb5 ks6 kp6 ka6 hr6 hb6 hbB hl6 hl7 hl8 hl9
                      go_wp2
                      go_roundw
                      case rel => exact ⟨k + 1, z + y, p0, p1, p2, p3, r0, r1, r2, r3, by omega, by go_num, KP.out, KA.out, HA2, KS.out, HS2, RW.out, BW.out⟩
                      case measure => simp [intOf]; omega
                  · have hnk : ¬ (k : Int) ≤ (tp : Int) := by omega
                    go_upto_region 44 with fail
                    clear HA ka kp
                    obtain ⟨g0, g1, g2, g3⟩ := k6.cell
                    have r0 : wr.cell? ⟨w.heap.size, v * 4, none⟩ = some (.int .u64 (F v 0)) := hrow.cell v 0 hlt (by omega)
                    have r1 := hrow.cell v 1 hlt (by omega)
                    have r2 := hrow.cell v 2 hlt (by omega)
                    have r3 := hrow.cell v 3 hlt (by omega)
                    have rf0 := hrow.free (v * 4)
                    have rf1 := hrow.free (v * 4 + 1)
                    have rf2 := hrow.free (v * 4 + 2)
                    have rf3 := hrow.free (v * 4 + 3)
                    have HROW : Hid (RowS wr w.heap.size w.heap.size n F) := hrow
                    have HBEL : Hid (Below w.heap.size w wr) := hbel
                    have HSTEP : Hid (∀ j, j < v + 1 → SetOk (fl (setF F v s0 s1 s2 s3) j) (u j)) := setOk_step HF.out HX.out HS.out
                    clear hrow hbel k6
                    generalize F v 0 = e0 at r0
                    generalize F v 1 = e1 at r1
                    generalize F v 2 = e2 at r2
                    generalize F v 3 = e3 at r3
                    go_wp2
                    go_roundw
                    case rel => exact ⟨v + 1, setF F v s0 s1 s2 s3, by omega, by go_num, HROW.out.set4 v s0 s1 s2 s3 hlt, HSTEP, (((HBEL.out.setCell (p := ⟨w.heap.size, v * 4, none⟩) (Nat.le_refl _) _).setCell (p := ⟨w.heap.size, v * 4 + 1, none⟩) (Nat.le_refl _) _).setCell (p := ⟨w.heap.size, v * 4 + 2, none⟩) (Nat.le_refl _) _).setCell (p := ⟨w.heap.size, v * 4 + 3, none⟩) (Nat.le_refl _) _⟩
                    case measure => simp [intOf]; omega
    · have hvn : v = n := by omega
      subst hvn
      clear hlt
      go_wp2
      go_ret
      exact ⟨F, rfl, hrow, HF.out, hbel⟩
end Go.Proofs.Qxb6000433a
