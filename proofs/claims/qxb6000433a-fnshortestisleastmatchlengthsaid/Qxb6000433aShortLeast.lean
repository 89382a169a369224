/-
  'lleast'.
-/
import Derived.Test.Qxb6000433aShortSum
namespace Go.Proofs.Qxb6000433a
open Go.RowKit Go.Proofs.Qxb6000433a.BitPlain

theorem least_of {ws : List Int} {J : Nat} (hJ : J < 256) (hlo : ∀ t : Nat, t < J → gb ws (t : Int) = false) (hb : gb ws (J : Int) = true) (x : Nat) (h : LL ws x) : (J : Int) = if x < 256 then (x : Int) else -1 := by
  have h1 : ¬ J < x := fun e => by
    have := h J hJ (by omega)
    rw [hb] at this; simp at this; omega
  by_cases hx : x < 256
  · have h2 : ¬ x < J := fun e => by
      have := h x hx (by omega)
      rw [hlo x e] at this; simp at this
    rw [if_pos hx]; omega
  · omega
theorem least_none {ws : List Int} (hlo : ∀ t : Nat, t < 256 → gb ws (t : Int) = false) (x : Nat) (h : LL ws x) : (-1 : Int) = if x < 256 then (x : Int) else -1 := by
  by_cases hx : x < 256
  · have := h x hx (by omega)
    rw [hlo x hx] at this; simp at this
  · rw [if_neg hx]

set_option maxRecDepth 20000 in
set_option maxHeartbeats 1000000 in
theorem lleast15 (b0 b1 b2 b3 : Int) (hb : Ws [b0, b1, b2, b3]) (w : World) : Calls Try.prog 15 #[ag b0 b1 b2 b3] w fun e w' => ∃ r : Int, e = .returned (.int .i64 r) ∧ (∀ x, LL [b0, b1, b2, b3] x → r = if x < 256 then (x : Int) else -1) ∧ Below w.heap.size w w' := by
  have HB : Hid (Ws [b0, b1, b2, b3]) := hb
  clear hb
  unfold ag
  go_enter Try.func15, Try.ntmps15
  go_wp2
  obtain ⟨w0, hw0⟩ : ∃ w0, w0 = (w.alloc (.cells #[.int .u64 b0, .int .u64 b1, .int .u64 b2, .int .u64 b3] 38)) := ⟨_, rfl⟩
  rw [← hw0]
  have k0 : A4 w0 w.heap.size b0 b1 b2 b3 := by
    rw [hw0]; unfold A4
    exact heap_alloc_new _ _
  have hbl : Below w.heap.size w w0 := by rw [hw0]; exact ((Below.refl _ _).alloc (Nat.le_refl _) _)
  clear hw0
  go_loopw [3] (fun iv wr => ∃ (J : Nat), J ≤ 256 ∧ iv = .int .i64 J ∧ A4 wr w.heap.size b0 b1 b2 b3 ∧ Hid (∀ t : Nat, t < J → gb [b0, b1, b2, b3] (t : Int) = false) ∧ Below w.heap.size w wr) (fun iv _ => 256 - (intOf iv).toNat)
  case atStart => exact ⟨0, by omega, rfl, k0, fun t h => absurd h (Nat.not_lt_zero _), hbl⟩
  case round =>
    clear k0 hbl
    obtain ⟨J, hJ, rfl, k1, HS, hbel⟩ := hrel
    by_cases hlt : J < 256
    · obtain ⟨q, hq⟩ : ∃ q, J / 64 = q := ⟨_, rfl⟩
      obtain ⟨r, hr⟩ : ∃ r, J % 64 = r := ⟨_, rfl⟩
      have hq4 : q < 4 := by omega
      have hr64 : r < 64 := by omega
      have hqi : (J : Int) / 64 = (q : Int) := by omega
      have hand : bits .and .i64 (J : Int) 63 = (r : Int) := by rw [and63]; omega
      have hwr : IntKind.u64.wrap (r : Int) = (r : Int) := by rw [IntKind.wrap_u64]; omega
      obtain ⟨bq, hbq⟩ : ∃ bq, [b0, b1, b2, b3].getD q 0 = bq := ⟨_, rfl⟩
      have hWq : W bq := by rw [← hbq]; exact ws_get HB.out q
      have hgb : gb [b0, b1, b2, b3] (J : Int) = tb bq r := by rw [gb4, hq, hr, hbq]
      have cb : wr.cell? ⟨w.heap.size, q, none⟩ = some (.int .u64 bq) := by
        obtain ⟨e0, e1, e2, e3⟩ := k1.cell
        have h4 : q = 0 ∨ q = 1 ∨ q = 2 ∨ q = 3 := by omega
        rcases h4 with rfl | rfl | rfl | rfl <;> (rw [← hbq]; assumption)
      have HGB : Hid (gb [b0, b1, b2, b3] (J : Int) = tb bq r) := hgb
      have hone := bit_one hWq r
      have hq5 : (q : Int) < 4 := by omega
      have hq0 : (0 : Int) ≤ (q : Int) := by omega
      clear hgb hq hr hbq
      by_cases hbt : tb bq r = true
      · rw [if_pos hbt] at hone
        have HR : Hid (∀ x, LL [b0, b1, b2, b3] x → (J : Int) = if x < 256 then (x : Int) else -1) := fun x h => least_of hlt HS.out (HGB.out.trans hbt) x h
        go_wp2
        go_ret
        exact ⟨_, rfl, HR.out, hbel⟩
      · rw [if_neg hbt] at hone
        have HS2 : Hid (∀ t : Nat, t < J + 1 → gb [b0, b1, b2, b3] (t : Int) = false) := fun t ht => by
          by_cases e : t = J
          · rw [e, HGB.out]; simpa using hbt
          · exact HS.out t (by omega)
        go_wp2
        go_roundw
        case rel => exact ⟨J + 1, by omega, by go_num, k1, HS2, hbel⟩
        case measure => simp [intOf]; omega
    · have hJ6 : J = 256 := by omega
      subst hJ6
      have HR : Hid (∀ x, LL [b0, b1, b2, b3] x → (-1 : Int) = if x < 256 then (x : Int) else -1) := fun x h => least_none HS.out x h
      go_wp2
      go_ret
      exact ⟨_, rfl, HR.out, hbel⟩
end Go.Proofs.Qxb6000433a
