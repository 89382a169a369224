/-
  'lsum', the walk.
-/
import Derived.Test.Qxb6000433aShortSum
namespace Go.Proofs.Qxb6000433a
open Go.RowKit Go.Proofs.Qxb6000433a.BitPlain

theorem or_spec {o0 o1 o2 o3 p0 p1 p2 p3 : Int} (ho : Ws [o0, o1, o2, o3]) (hp : Ws [p0, p1, p2, p3]) : Ws [bits .or .u64 o0 p0, bits .or .u64 o1 p1, bits .or .u64 o2 p2, bits .or .u64 o3 p3] ∧ ∀ l : Nat, l < 256 → gb [bits .or .u64 o0 p0, bits .or .u64 o1 p1, bits .or .u64 o2 p2, bits .or .u64 o3 p3] (l : Int) = (gb [o0, o1, o2, o3] (l : Int) || gb [p0, p1, p2, p3] (l : Int)) := by
  have h0 := w_or (ho o0 (by simp)) (hp p0 (by simp))
  have h1 := w_or (ho o1 (by simp)) (hp p1 (by simp))
  have h2 := w_or (ho o2 (by simp)) (hp p2 (by simp))
  have h3 := w_or (ho o3 (by simp)) (hp p3 (by simp))
  refine ⟨ws4 h0.1 h1.1 h2.1 h3.1, fun l hl => ?_⟩
  rw [gb4, gb4, gb4]
  have hq : l / 64 = 0 ∨ l / 64 = 1 ∨ l / 64 = 2 ∨ l / 64 = 3 := by omega
  rcases hq with e | e | e | e <;> rw [e]
  · exact h0.2 _
  · exact h1.2 _
  · exact h2.2 _
  · exact h3.2 _

set_option maxRecDepth 20000 in
set_option maxHeartbeats 2000000 in
theorem lsum37 (a0 a1 a2 a3 b0 b1 b2 b3 : Int) (ha : Ws [a0, a1, a2, a3]) (hb : Ws [b0, b1, b2, b3]) (w : World) : Calls Try.prog 37 #[ag a0 a1 a2 a3, ag b0 b1 b2 b3] w fun e w' => ∃ o0 o1 o2 o3, e = .returned (ag o0 o1 o2 o3) ∧ Ws [o0, o1, o2, o3] ∧ (∀ x y, LL [a0, a1, a2, a3] x → LL [b0, b1, b2, b3] y → LL [o0, o1, o2, o3] (x + y)) ∧ Below w.heap.size w w' := by
  have HA : Hid (Ws [a0, a1, a2, a3]) := ha
  have HB : Hid (Ws [b0, b1, b2, b3]) := hb
  clear ha hb
  unfold ag
  go_enter Try.func37, Try.ntmps37
  go_wp2
  obtain ⟨w0, hw0⟩ : ∃ w0, w0 = (((w.alloc (.cells #[.int .u64 a0, .int .u64 a1, .int .u64 a2, .int .u64 a3] 38)).alloc (.cells #[.int .u64 b0, .int .u64 b1, .int .u64 b2, .int .u64 b3] 38)).alloc (.cells #[.int .u64 0, .int .u64 0, .int .u64 0, .int .u64 0] 38)).alloc (.cells #[.int .u64 0, .int .u64 0, .int .u64 0, .int .u64 0] 38) := ⟨_, rfl⟩
  rw [← hw0]
  have k0 : A4 w0 w.heap.size a0 a1 a2 a3 := by
    rw [hw0]; unfold A4
    rw [Below.heap_alloc _ _ _ (by simp <;> omega), Below.heap_alloc _ _ _ (by simp <;> omega), Below.heap_alloc _ _ _ (by simp)]; exact heap_alloc_new _ _
  have k1 : A4 w0 (w.heap.size + 1) b0 b1 b2 b3 := by
    rw [hw0]; unfold A4
    rw [Below.heap_alloc _ _ _ (by simp <;> omega), Below.heap_alloc _ _ _ (by simp)]
    have := heap_alloc_new (w.alloc (.cells #[.int .u64 a0, .int .u64 a1, .int .u64 a2, .int .u64 a3] 38)) (.cells #[.int .u64 b0, .int .u64 b1, .int .u64 b2, .int .u64 b3] 38)
    simpa using this
  have k2 : A4 w0 (w.heap.size + 1 + 1) 0 0 0 0 := by
    rw [hw0]; unfold A4
    rw [Below.heap_alloc _ _ _ (by simp)]
    have := heap_alloc_new ((w.alloc (.cells #[.int .u64 a0, .int .u64 a1, .int .u64 a2, .int .u64 a3] 38)).alloc (.cells #[.int .u64 b0, .int .u64 b1, .int .u64 b2, .int .u64 b3] 38)) (.cells #[.int .u64 0, .int .u64 0, .int .u64 0, .int .u64 0] 38)
    simpa using this
  have k3 : A4 w0 (w.heap.size + 1 + 1 + 1) 0 0 0 0 := by
    rw [hw0]; unfold A4
    have := heap_alloc_new (((w.alloc (.cells #[.int .u64 a0, .int .u64 a1, .int .u64 a2, .int .u64 a3] 38)).alloc (.cells #[.int .u64 b0, .int .u64 b1, .int .u64 b2, .int .u64 b3] 38)).alloc (.cells #[.int .u64 0, .int .u64 0, .int .u64 0, .int .u64 0] 38)) (.cells #[.int .u64 0, .int .u64 0, .int .u64 0, .int .u64 0] 38)
    simpa using this
  have hbl : Below w.heap.size w w0 := by rw [hw0]; exact ((((Below.refl _ _).alloc (Nat.le_refl _) _).alloc (by simp) _).alloc (by simp <;> omega) _).alloc (by simp <;> omega) _
  clear hw0
  have hz : ∀ l : Nat, l < 256 → gb [0, 0, 0, 0] (l : Int) = false := fun l hl => by
    rw [gb4]
    have hq : l / 64 = 0 ∨ l / 64 = 1 ∨ l / 64 = 2 ∨ l / 64 = 3 := by omega
    rcases hq with e | e | e | e <;> rw [e] <;> exact tb_zero _
  have HZ : Hid (∀ l : Nat, l < 256 → gb [0, 0, 0, 0] (l : Int) = false) := hz
  clear hz
  go_loopw [6] (fun iv wr => ∃ (J : Nat) (o0 o1 o2 o3 : Int), J ≤ 256 ∧ iv = .int .i64 J ∧ A4 wr w.heap.size a0 a1 a2 a3 ∧ A4 wr (w.heap.size + 1) b0 b1 b2 b3 ∧ A4 wr (w.heap.size + 1 + 1) 0 0 0 0 ∧ A4 wr (w.heap.size + 1 + 1 + 1) o0 o1 o2 o3 ∧ Ws [o0, o1, o2, o3] ∧ Hid (∀ x y, LL [a0, a1, a2, a3] x → LL [b0, b1, b2, b3] y → LSum [o0, o1, o2, o3] x y J) ∧ Below w.heap.size w wr) (fun iv _ => 256 - (intOf iv).toNat)
  case atStart => exact ⟨0, 0, 0, 0, 0, by omega, rfl, k0, k1, k2, k3, ws4 w_zero w_zero w_zero w_zero, fun x y _ _ => LSum.start HZ.out x y, hbl⟩
  case round =>
    clear k0 k1 k2 k3 hbl
    obtain ⟨J, o0, o1, o2, o3, hJ, rfl, k0, k1, k2, k3, hws, HS, hbel⟩ := hrel
    by_cases hlt : J < 256
    · obtain ⟨q, hq⟩ : ∃ q, J / 64 = q := ⟨_, rfl⟩
      obtain ⟨r, hr⟩ : ∃ r, J % 64 = r := ⟨_, rfl⟩
      have hq4 : q < 4 := by omega
      have hr64 : r < 64 := by omega
      have hqi : (J : Int) / 64 = (q : Int) := by omega
      have hand : bits .and .i64 (J : Int) 63 = (r : Int) := by rw [and63]; omega
      have hwr : IntKind.u64.wrap (r : Int) = (r : Int) := by rw [IntKind.wrap_u64]; omega
      obtain ⟨bq, hbq⟩ : ∃ bq, [b0, b1, b2, b3].getD q 0 = bq := ⟨_, rfl⟩
      have hWq : W bq := by rw [← hbq]; exact ws_get HB.out q
      have hgb : gb [b0, b1, b2, b3] (J : Int) = tb bq r := by rw [gb4, hq, hr, hbq]
      have cb : wr.cell? ⟨w.heap.size + 1, q, none⟩ = some (.int .u64 bq) := by
        obtain ⟨e0, e1, e2, e3⟩ := k1.cell
        have h4 : q = 0 ∨ q = 1 ∨ q = 2 ∨ q = 3 := by omega
        rcases h4 with rfl | rfl | rfl | rfl <;> (rw [← hbq]; assumption)
      have HGB : Hid (gb [b0, b1, b2, b3] (J : Int) = tb bq r) := hgb
      have hone := bit_one hWq r
      have hq5 : (q : Int) < 4 := by omega
      have hq0 : (0 : Int) ≤ (q : Int) := by omega
      clear hgb hq hr hbq
      by_cases hbt : tb bq r = true
      · rw [if_pos hbt] at hone
        obtain ⟨d0, d1, d2, d3⟩ := k0.cell
        obtain ⟨g0, g1, g2, g3⟩ := k3.cell
        have hsh := lshift44 a0 a1 a2 a3 J hlt HA.out
        have HSH : Hid _ := hsh
        clear hsh
        have l3 := k3.lt
        go_wp2
        go_region_with (first
          | (go_at_call 44
             refine (HSH.out _).mono ?_
             rintro e wA ⟨p0, p1, p2, p3, rfl, hp1, hp2, hbA⟩
             have hp3 : Hid _ := hp2
             clear hp2
             have kA : A4 wA (w.heap.size + 1 + 1 + 1) o0 o1 o2 o3 := k3.block (hbA.block _ (by exact l3))
             have q0 := kA.cell.1
             have q1 := kA.cell.2.1
             have q2 := kA.cell.2.2.1
             have q3 := kA.cell.2.2.2
             simp only [ag])
          | (go_at_call 38
             refine (lor38 o0 o1 o2 o3 p0 p1 p2 p3 _).mono ?_
             rintro e wB ⟨rfl, hbB⟩
             have kB : A4 wB (w.heap.size + 1 + 1 + 1) o0 o1 o2 o3 := kA.block (hbB.block _ (by exact kA.lt))
             have r0 := kB.cell.1
             have r1 := kB.cell.2.1
             have r2 := kB.cell.2.2.1
             have r3 := kB.cell.2.2.2
             have f0 := kB.free 0
             have f1 := kB.free 1
             have f2 := kB.free 2
             have f3 := kB.free 3
             simp only [ag]))
        all_goals (
          have hor := or_spec hws hp1
          have HOR : Hid _ := hor.2
          have hwo := hor.1
          clear hor
          have HS2 : Hid (∀ x y, LL [a0, a1, a2, a3] x → LL [b0, b1, b2, b3] y → LSum [bits .or .u64 o0 p0, bits .or .u64 o1 p1, bits .or .u64 o2 p2, bits .or .u64 o3 p3] x y (J + 1)) := fun x y h1 h2 => (HS.out x y h1 h2).yes h1 h2 hlt (by rw [HGB.out]; exact hbt) hp3.out HOR.out
          have hbb : Below wr.heap.size wr wB := ((Below.refl _ wr).drew.trans hbA).trans (hbB.mono hbA.size)
          have n0 : A4 (put4 wB (w.heap.size + 1 + 1 + 1) (bits .or .u64 o0 p0) (bits .or .u64 o1 p1) (bits .or .u64 o2 p2) (bits .or .u64 o3 p3)) w.heap.size a0 a1 a2 a3 := k0.block ((put4_block _ _ _ _ (by omega)).trans (hbb.block _ (by omega)))
          have n1 : A4 (put4 wB (w.heap.size + 1 + 1 + 1) (bits .or .u64 o0 p0) (bits .or .u64 o1 p1) (bits .or .u64 o2 p2) (bits .or .u64 o3 p3)) (w.heap.size + 1) b0 b1 b2 b3 := k1.block ((put4_block _ _ _ _ (by omega)).trans (hbb.block _ (by omega)))
          have n2 : A4 (put4 wB (w.heap.size + 1 + 1 + 1) (bits .or .u64 o0 p0) (bits .or .u64 o1 p1) (bits .or .u64 o2 p2) (bits .or .u64 o3 p3)) (w.heap.size + 1 + 1) 0 0 0 0 := k2.block ((put4_block _ _ _ _ (by omega)).trans (hbb.block _ (by omega)))
          have n3 := kB.put (bits .or .u64 o0 p0) (bits .or .u64 o1 p1) (bits .or .u64 o2 p2) (bits .or .u64 o3 p3)
          have nb : Below w.heap.size w (put4 wB (w.heap.size + 1 + 1 + 1) (bits .or .u64 o0 p0) (bits .or .u64 o1 p1) (bits .or .u64 o2 p2) (bits .or .u64 o3 p3)) := put4_below (hbel.trans (hbb.mono (by omega))) (by omega) _ _ _ _
          go_wp2
          go_roundw
          case rel => exact ⟨J + 1, _, _, _, _, by omega, by go_num, n0, n1, n2, n3, hwo, HS2, nb⟩
          case measure => simp [intOf]; omega)
      · rw [if_neg hbt] at hone
        have HS2 : Hid (∀ x y, LL [a0, a1, a2, a3] x → LL [b0, b1, b2, b3] y → LSum [o0, o1, o2, o3] x y (J + 1)) := fun x y h1 h2 => (HS.out x y h1 h2).no h2 hlt (by rw [HGB.out]; simpa using hbt)
        go_wp2
        go_roundw
        case rel => exact ⟨J + 1, o0, o1, o2, o3, by omega, by go_num, k0, k1, k2, k3, hws, HS2, hbel⟩
        case measure => simp [intOf]; omega
    · have hJ6 : J = 256 := by omega
      subst hJ6
      obtain ⟨g0, g1, g2, g3⟩ := k3.cell
      obtain ⟨z0, z1, z2, z3⟩ := k2.cell
      have f0 := k2.free 0
      have f1 := k2.free 1
      have f2 := k2.free 2
      have f3 := k2.free 3
      obtain ⟨wp, hwp⟩ : ∃ wp, wp = put4 wr (w.heap.size + 1 + 1) o0 o1 o2 o3 := ⟨_, rfl⟩
      have kp : A4 wp (w.heap.size + 1 + 1) o0 o1 o2 o3 := by rw [hwp]; exact k2.put _ _ _ _
      obtain ⟨c0, c1, c2, c3⟩ := kp.cell
      have hbp : Below w.heap.size w wp := by rw [hwp]; exact put4_below hbel (by omega) _ _ _ _
      go_wp2
      unfold put4 at hwp
      rw [← hwp]
      refine bodyPost_ret (v := ag o0 o1 o2 o3) (by simp [results, Try.results37, go_sem, ag, c0, c1, c2, c3]) rfl ?_
      exact ⟨o0, o1, o2, o3, rfl, hws, fun x y h1 h2 => (HS.out x y h1 h2).done, hbp⟩
end Go.Proofs.Qxb6000433a
