/-
  'multModel'.
-/
import Derived.Test.Qxb6000433aLayMult
namespace Go.Proofs.Qxb6000433a
open Go.RowKit

/-- While the children of v are gone through. -/
def midP (kids : Nat → List Nat) (v : Nat) (done : List Nat) (c : Nat) : Int := if c ∈ done then (v : Int) else parOf kids v c
theorem midP_nil (kids : Nat → List Nat) (v c : Nat) : midP kids v [] c = parOf kids v c := by simp [midP]
theorem midP_all (kids : Nat → List Nat) (v c : Nat) : midP kids v (kids v) c = parOf kids (v + 1) c := rfl
theorem midP_step (kids : Nat → List Nat) (v : Nat) (done : List Nat) (d c : Nat) : midP kids v (done ++ [d]) c = if c = d then (v : Int) else midP kids v done c := by
  unfold midP
  by_cases h : c = d
  · subst h; simp
  · simp [h]

theorem Par.bd1 {ns : List Nd} {kids : Nat → List Nat} {P : Nat → Int} (h : Par ns kids P) (v : Nat) (hv : v < ns.length) : P v = -1 ∨ ((v : Int) < P v ∧ P v < ns.length) := by
  by_cases e : v + 1 < ns.length
  · obtain ⟨u, h1, h2, h3, _⟩ := h.of v e
    right; rw [h1]; omega
  · have : v = ns.length - 1 := by omega
    left; rw [this, h.root]
theorem up_neg (ns : List Nd) (P : Nat → Int) (f : Nat) (m : Int) : up ns P f (-1) m = m := by
  cases f with
  | zero => rfl
  | succ f => rw [up, if_pos (by omega)]
theorem up_pos (ns : List Nd) (P : Nat → Int) (f b : Nat) (m : Int) : up ns P (f + 1) (b : Int) m = up ns P f (P b) (upStep (nodeAt ns b) m) := by
  rw [up, if_neg (by omega)]; simp

theorem meas_up (b v : Nat) (pb : Int) (hb : b < v) (hp : pb = -1 ∨ ((b : Int) < pb ∧ pb < v)) : (if pb < 0 then 0 else v - pb.toNat) < (if (b : Int) < 0 then 0 else v - (b : Int).toNat) := by
  rw [if_neg (show ¬ (b : Int) < 0 by omega)]
  split <;> omega

set_option maxHeartbeats 1000000 in
theorem mult27 (tb pos : Nat) (ns : List Nd) (kids : Nat → List Nat) (hn0 : 0 < ns.length) (hn : ns.length ≤ 65536) (hfo : Forest ns [ns.length - 1] kids pos) (w : World) (hr : Rows9 w tb ns) :
    Calls Try.prog 27 #[.pointer (some ⟨tb, 0, none⟩)] w fun e w' => ∃ gm, e = .returned (.slice (some ⟨gm, 0, none⟩) ns.length ns.length) ∧ RowZ w' w.heap.size 2 gm ns.length (multM ns (parOf kids ns.length)) ∧ Below w.heap.size w w' := by
  obtain ⟨g, cap, h1, h2, h3⟩ := hr.cells
  have htb := hr.lt
  have HR9 : Hid (Rows9 w tb ns) := hr
  have HFO : Hid (Forest ns [ns.length - 1] kids pos) := hfo
  have H1 : Hid (∀ i, i < 9 → w.cell? ⟨tb, i, none⟩ = some (.slice (some ⟨g i, 0, none⟩) ns.length (cap i))) := h1
  have H2 : Hid (∀ i, i < 9 → g i < w.heap.size) := h2
  have H3 : Hid (∀ i j, i < 9 → j < ns.length → w.cell? ⟨g i, j, none⟩ = some (fld i (nodeAt ns j))) := h3
  have t0 := h1 0 (by omega)
  clear h1 h2 h3 hr hfo
  obtain ⟨n, hnn⟩ : ∃ n, n = ns.length := ⟨_, rfl⟩
  rw [← hnn] at hn0 hn H1 H3 t0 ⊢
  have HNN : Hid (n = ns.length) := hnn
  clear hnn
  obtain ⟨i3, hi3, hz30, hz31, hz32⟩ := info_parts Try.info3
  obtain ⟨i2, hi2, hz20, hz21, hz22⟩ := info_parts Try.info2
  go_enter Try.func27, Try.ntmps27
  go_wp2_with (at_make; refine wpList_make_full _ rfl _ _ 71 rfl w.heap.size 3 i3 (.int .i64 0) 1 Try.underlying71 hi3 hz30 hz31 .i64 .i64 _ _ n rfl rfl rfl rfl (by rw [hz32]; omega) (by unfold maxLen; omega) (by simp) ?_; intro w1 hown hgrow)
  have hbl : Below w.heap.size w w1 := (Below.refl _ _).grown hgrow (Nat.le_refl _) (by simp)
  have hrz := RowZ.made hown
  clear hgrow hown
  go_loopw [5] (fun i wr => ∃ (k : Nat) (F : Nat → Int), k ≤ n ∧ i = .int .i64 k ∧ RowZ wr w.heap.size 3 w.heap.size n F ∧ (∀ j, j < k → F j = -1) ∧ Below w.heap.size w wr) (fun i _ => n - (intOf i).toNat)
  case atStart => exact ⟨0, _, Nat.zero_le _, rfl, hrz, fun i hi => absurd hi (Nat.not_lt_zero _), hbl⟩
  case round =>
    clear hrz hbl
    obtain ⟨k, F, hk, rfl, hrow, hF, hbel⟩ := hrel
    by_cases hlt : k < n
    · have hki : (k : Int) < (n : Int) := by omega
      have c0 := hrow.cell k hlt
      have f0 := hrow.free k
      have HF : Hid (∀ j, j < k → F j = -1) := hF
      generalize F k = fk at c0
      clear hF
      go_wp2
      go_roundw
      case rel =>
        refine ⟨k + 1, _, by omega, by go_num, hrow.set k (-1) hlt, fun j hj => ?_, hbel.setCell (Nat.le_refl _) _⟩
        by_cases e : j = k
        · rw [if_pos e]
        · rw [if_neg e]; exact HF.out j (by omega)
      case measure => simp [intOf]; omega
    · have hkn : k = n := by omega
      subst hkn
      have hrz : RowZ wr w.heap.size 3 w.heap.size k (parOf kids 0) := hrow.congr (fun j hj => (hF j hj).symm)
      clear hrow hF hlt
      go_wp2
      obtain ⟨w2, hw2⟩ : ∃ w2, w2 = wr := ⟨_, rfl⟩
      go_loopw [6, 7] (fun i _ wr => ∃ (v : Nat), v ≤ k ∧ i = .int .i64 v ∧ RowZ wr w.heap.size 3 w.heap.size k (parOf kids v) ∧ Below w.heap.size w wr) (fun i _ _ => k - (intOf i).toNat)
      case atStart => exact ⟨0, Nat.zero_le _, rfl, hrz, hbel⟩
      case round =>
        clear hrz hbel hw2
        obtain ⟨v, hv, rfl, hrow, hbel⟩ := hrel
        by_cases hlt : v < k
        · have hki : (v : Int) < (k : Int) := by omega
          have t2 : wr.cell? ⟨tb, 2, none⟩ = _ := (hbel.cell htb).trans (H1.out 2 (by omega))
          have c2 : wr.cell? ⟨g 2, v, none⟩ = some (.int .i32 (nodeAt ns v).first) := (hbel.cell (H2.out 2 (by omega))).trans (H3.out 2 v (by omega) hlt)
          have hch := HFO.out.chain v (by rw [← HNN.out]; exact hlt)
          have hrow0 : RowZ wr w.heap.size 3 w.heap.size k (midP kids v []) := hrow.congr (fun j _ => midP_nil kids v j)
          have HK0 : Hid (kids v = [] ++ kids v) := rfl
          go_wp2
          go_loopw [7] (fun cv wr => ∃ (done rest : List Nat) (f : Int), Hid (kids v = done ++ rest) ∧ cv = .int .i32 f ∧ Chain ns f rest ∧ RowZ wr w.heap.size 3 w.heap.size k (midP kids v done) ∧ Below w.heap.size w wr) (fun cv _ => clen ns (intOf cv))
          case atStart => exact ⟨[], kids v, _, HK0, rfl, hch, hrow0, hbel⟩
          case round =>
            clear hrow0 hrow hbel hch t2 c2 HK0
            obtain ⟨done, rest, f, hkd, rfl, hch, hrow, hbel⟩ := hrel
            cases rest with
            | nil =>
              have hf1 : f = -1 := hch
              subst hf1
              have hkd2 : kids v = done := by have := hkd.out; simpa using this
              have hrow2 : RowZ wr w.heap.size 3 w.heap.size k (parOf kids (v + 1)) := hrow.congr (fun j _ => by rw [← midP_all, hkd2])
              clear hrow hch hkd hkd2
              go_wp2
              go_roundw
              case rel => exact ⟨v + 1, by omega, by go_num, hrow2, hbel⟩
              case measure => simp [intOf]; omega
            | cons c r =>
              obtain ⟨hf, hcl, hch2⟩ := hch
              have HM : Hid (clen ns f = r.length + 1) := clen_eq (ks := c :: r) ⟨hf, hcl, hch2⟩
              have HM2 : Hid (clen ns (nodeAt ns c).next = r.length) := clen_eq hch2
              rw [← HNN.out] at hcl
              subst hf
              have hci : (c : Int) < (k : Int) := by omega
              have hc0 : (0 : Int) ≤ (c : Int) := by omega
              have p0 := hrow.cell c hcl
              have f0 := hrow.free c
              have t3 : wr.cell? ⟨tb, 3, none⟩ = _ := (hbel.cell htb).trans (H1.out 3 (by omega))
              have c3 : wr.cell? ⟨g 3, c, none⟩ = some (.int .i32 (nodeAt ns c).next) := (hbel.cell (H2.out 3 (by omega))).trans (H3.out 3 c (by omega) hcl)
              have hn3 : ¬ g 3 = w.heap.size := by have := H2.out 3 (by omega); omega
              have hn4 : ¬ w.heap.size = g 3 := fun h => hn3 h.symm
              have hn5 : ¬ tb = w.heap.size := by omega
              have hn6 : ¬ w.heap.size = tb := by omega
              generalize midP kids v done c = q0 at p0
              go_wp2
              go_roundw
              case rel =>
                refine ⟨done ++ [c], r, _, (by show _ = _; rw [hkd.out]; simp), rfl, hch2, ?_, hbel.setCell (Nat.le_refl _) _⟩
                exact (hrow.set c (v : Int) hcl).congr (fun j _ => midP_step kids v done c j)
              case measure => simp only [intOf]; rw [HM.out, HM2.out]; omega
        · have hvk : v = k := by omega
          subst hvk
          have hpr : RowZ wr w.heap.size 3 w.heap.size v (parOf kids v) := hrow
          go_wp2_with (at_make; refine wpList_make_full _ rfl _ _ 51 rfl w.heap.size 2 i2 (.int .i64 0) 1 Try.underlying51 hi2 hz20 hz21 .i64 .i64 _ _ v rfl rfl rfl rfl (by rw [hz22]; omega) (by unfold maxLen; omega) (by have := hrow.lt; omega) ?_; intro w3 hown3 hgrow3)
          have hbl3 : Below w.heap.size w w3 := hbel.trans ((Below.refl _ _).grown hgrow3 (by have := hrow.lt; omega) (by simp))
          have hpr3 : RowZ w3 w.heap.size 3 w.heap.size v (parOf kids v) := hpr.block (hgrow3.block _ hrow.lt.2 (by simp))
          have hmr := RowZ.made hown3
          have hlt2 := hrow.lt.2
          obtain ⟨gm, hgm⟩ : ∃ gm, gm = wr.heap.size := ⟨_, rfl⟩
          rw [← hgm] at hmr hlt2 ⊢
          clear hown3 hgrow3 hrow hpr hbel hgm
          go_loopw [9, 10, 11] (fun i _ _ wr => ∃ (u : Nat) (F : Nat → Int), u ≤ v ∧ i = .int .i64 u ∧ RowZ wr w.heap.size 3 w.heap.size v (parOf kids v) ∧ RowZ wr w.heap.size 2 gm v F ∧ (∀ j, j < u → F j = multM ns (parOf kids v) j) ∧ Below w.heap.size w wr) (fun i _ _ _ => v - (intOf i).toNat)
          case atStart => exact ⟨0, _, Nat.zero_le _, rfl, hpr3, hmr, fun j hj => absurd hj (Nat.not_lt_zero _), hbl3⟩
          case round =>
            clear hpr3 hmr hbl3
            obtain ⟨u, F, hu, rfl, hpr, hmr, hF, hbel⟩ := hrel
            by_cases hlu : u < v
            · have hki : (u : Int) < (v : Int) := by omega
              have p0 := hpr.cell u hlu
              have HUP : Hid (up ns (parOf kids v) v (parOf kids v u) 1 = multM ns (parOf kids v) u) := by show _ = _; unfold multM; rw [← HNN.out]
              have HF : Hid (∀ j, j < u → F j = multM ns (parOf kids v) j) := hF
              have HPR : Hid (RowZ wr w.heap.size 3 w.heap.size v (parOf kids v)) := hpr
              have HMR : Hid (RowZ wr w.heap.size 2 gm v F) := hmr
              have HBEL : Hid (Below w.heap.size w wr) := hbel
              have hpar := HFO.out.par
              rw [← HNN.out] at hpar
              have HPAR : Hid (Par ns kids (parOf kids v)) := hpar
              have hpb := hpar.bd1 u (by rw [← HNN.out]; exact hlu)
              rw [← HNN.out] at hpb
              clear hF hpr hmr hbel hpar
              go_wp2
              obtain ⟨w4, hw4⟩ : ∃ w4, w4 = wr := ⟨_, rfl⟩
              go_loopw [10, 11] (fun mv av wz => ∃ (f : Nat) (a m : Int), mv = .int .i64 m ∧ av = .int .i64 a ∧ Hid (up ns (parOf kids v) f a m = multM ns (parOf kids v) u) ∧ 0 ≤ m ∧ m ≤ 1099511627776 ∧ (a < 0 ∨ (a < v ∧ v ≤ f + a.toNat)) ∧ -1 ≤ a ∧ wz = wr) (fun _ av _ => if intOf av < 0 then 0 else v - (intOf av).toNat)
              case atStart => exact ⟨v, _, 1, rfl, rfl, HUP, by omega, by omega, by omega, by omega, rfl⟩
              case round =>
                clear hpb p0 HUP hw4
                obtain ⟨f, a, m, rfl, rfl, HUP, hm0, hm1, ha, ha1, rfl⟩ := hrel
                by_cases hneg : a < 0
                · have ha2 : a = -1 := by omega
                  subst ha2
                  have hmm : multM ns (parOf kids v) u = m := by rw [← HUP.out, up_neg]
                  have HMM : Hid (multM ns (parOf kids v) u = m) := hmm
                  have q0 := HMR.out.cell u hlu
                  have qf := HMR.out.free u
                  generalize F u = fu at q0
                  clear hmm
                  go_wp2
                  go_roundw
                  case rel =>
                    refine ⟨u + 1, _, by omega, by go_num, HPR.out.other (by omega) _, HMR.out.set u m hlu, fun j hj => ?_, HBEL.out.setCell (show w.heap.size ≤ gm by omega) _⟩
                    by_cases e : j = u
                    · rw [if_pos e, e, HMM.out]
                    · rw [if_neg e]; exact HF.out j (by omega)
                  case measure => simp [intOf]; omega
                · obtain ⟨b, rfl⟩ : ∃ b : Nat, a = b := ⟨a.toNat, by omega⟩
                  have hbv : b < v := by omega
                  obtain ⟨f1, rfl⟩ : ∃ f1, f = f1 + 1 := ⟨f - 1, by omega⟩
                  have hup : up ns (parOf kids v) f1 (parOf kids v b) (upStep (nodeAt ns b) m) = multM ns (parOf kids v) u := by rw [← HUP.out, up_pos]
                  have hbns : b < ns.length := by rw [← HNN.out]; exact hbv
                  have hok := HFO.out.ok b hbns
                  have hpb := HPAR.out.bd1 b hbns
                  rw [← HNN.out] at hpb
                  have t0 : wr.cell? ⟨tb, 0, none⟩ = _ := (HBEL.out.cell htb).trans (H1.out 0 (by omega))
                  have c0 : wr.cell? ⟨g 0, b, none⟩ = some (.int .u8 (nodeAt ns b).kind) := (HBEL.out.cell (H2.out 0 (by omega))).trans (H3.out 0 b (by omega) hbv)
                  have q0 := HPR.out.cell b hbv
                  have hbi : (b : Int) < (v : Int) := by omega
                  have hb0 : (0 : Int) ≤ (b : Int) := by omega
                  have hr9 : Rows9 wr tb ns := HR9.out.below HBEL.out (Nat.le_refl _)
                  have HR : Hid (Rows9 wr tb ns) := hr9
                  clear hr9 HUP
                  by_cases h4 : (nodeAt ns b).kind = 4
                  · have hcp := cpn_bd hok h4
                    have hcall := copies42 tb b ns pos (kids b) hbns hok h4 wr HR.out
                    rw [h4] at c0
                    unfold upStep at hup
                    rw [if_pos h4] at hup
                    generalize cpn (nodeAt ns b) = cp at hcp hcall hup
                    have hq1 := Int.mul_nonneg hm0 hcp.1
                    have hq2 : m * cp ≤ m * 7 := Int.mul_le_mul_of_nonneg_left hcp.2 hm0
                    obtain ⟨q, hq⟩ : ∃ q, m * cp = q := ⟨_, rfl⟩
                    rw [hq] at hq1 hq2 hup
                    have HUP : Hid (up ns (parOf kids v) f1 (parOf kids v b) (if q > satur then satur else q) = multM ns (parOf kids v) u) := hup
                    clear hup hok
                    generalize parOf kids v b = pb at hpb q0 HUP
                    go_wp2_with fail
                    refine hcall.mono ?_
                    rintro e w5 ⟨rfl, rfl⟩
                    clear hcall
                    by_cases hqs : q > 1099511627776
                    · have HUQ : Hid (up ns (parOf kids v) f1 pb 1099511627776 = multM ns (parOf kids v) u) := by have h9 := HUP.out; rw [if_pos (show q > satur from hqs)] at h9; exact h9
                      go_wp2
                      go_roundw
                      case rel => exact ⟨f1, pb, 1099511627776, rfl, rfl, HUQ, by omega, by omega, by omega, by omega, (by first | rfl | trivial)⟩
                      case measure => simp only [intOf]; exact meas_up _ _ _ hbv hpb
                    · have HUQ : Hid (up ns (parOf kids v) f1 pb q = multM ns (parOf kids v) u) := by have h9 := HUP.out; rw [if_neg (show ¬ q > satur from hqs)] at h9; exact h9
                      go_wp2
                      go_roundw
                      case rel => exact ⟨f1, pb, q, rfl, rfl, HUQ, by omega, by omega, by omega, by omega, (by first | rfl | trivial)⟩
                      case measure => simp only [intOf]; exact meas_up _ _ _ hbv hpb
                  · unfold upStep at hup
                    rw [if_neg h4] at hup
                    have hkb : 0 ≤ (nodeAt ns b).kind ∧ (nodeAt ns b).kind ≤ 255 := by rcases hok with h | h | h | h <;> omega
                    have HUP : Hid (up ns (parOf kids v) f1 (parOf kids v b) m = multM ns (parOf kids v) u) := hup
                    clear hup hok
                    generalize (nodeAt ns b).kind = kd at c0 h4 hkb
                    generalize parOf kids v b = pb at hpb q0 HUP
                    go_wp2
                    go_roundw
                    case rel => exact ⟨f1, pb, m, rfl, rfl, HUP, by omega, by omega, by omega, by omega, (by first | rfl | trivial)⟩
                    case measure => simp only [intOf]; exact meas_up _ _ _ hbv hpb
            · have huv : u = v := by omega
              subst huv
              clear hlu
              have HF : Hid (∀ j, j < u → F j = multM ns (parOf kids u) j) := hF
              clear hF
              go_wp2
              go_ret
              exact ⟨gm, rfl, hmr.congr (fun j hj => (HF.out j hj).symm), hbel⟩
end Go.Proofs.Qxb6000433a
