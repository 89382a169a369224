/-
  'bitsAt' whole; 'putBits'.
-/
import Derived.Test.Qxb6000433aBitWalks
namespace Go.Proofs.Qxb6000433a
open Go.RowKit BitPlain

/-- 'bitsAt'. -/
theorem bitsAt45 (ao : Option Addr) (n B : Nat) (ws : List Int) (i : Int) (hn : n ≤ 65536) (h1 : -2147483648 ≤ i) (h2 : i ≤ 2147483648) (hl : ws.length = n) (hw : Ws ws) (w : World) (h : Wrds w ao n ws B) :
    Calls Try.prog 45 #[.slice ao n n, .int .i64 i] w fun e w' => ∃ x, e = .returned (.int .u64 x) ∧ At ws i x ∧ w' = w := by
  obtain ⟨q, hq⟩ : ∃ q : Int, i / 64 = q := ⟨_, rfl⟩
  obtain ⟨r, hr⟩ : ∃ r : Nat, i % 64 = (r : Int) := ⟨(i % 64).toNat, by omega⟩
  have hb : bits .and .i64 i 63 = (r : Int) := by rw [and63]; exact hr
  have hiq : i = 64 * q + r := by omega
  have hr64 : r < 64 := by omega
  by_cases hin : 0 ≤ q ∧ q < (n : Int)
  · obtain ⟨rfl, _, hc⟩ := h (by omega)
    obtain ⟨p, rfl⟩ : ∃ p : Nat, q = (p : Int) := ⟨q.toNat, by omega⟩
    refine (bitsAt45_in B n p r i (ws.getD p 0) hn (by omega) hr64 hq hb w (hc p (by omega)) (ws.getD (p + 1) 0) (fun hp => hc (p + 1) hp)).mono ?_
    rintro e w' ⟨rfl, rfl⟩
    have e1 : ((p : Int) + 1) = ((p + 1 : Nat) : Int) := by omega
    by_cases hc2 : r ≠ 0 ∧ p + 1 < n
    · refine ⟨_, rfl, ?_, rfl⟩
      rw [if_pos hc2]
      have := at_both (ws := ws) (p : Int) r hiq hr64 hw
      rw [e1, wd_nat, wd_nat] at this
      exact this
    · refine ⟨_, rfl, ?_, rfl⟩
      rw [if_neg hc2]
      have := at_low (ws := ws) (p : Int) r hiq hr64 hw (by
        by_cases h0 : r = 0
        · exact .inl h0
        · exact .inr (wd_out (by rw [hl]; omega)))
      rw [wd_nat] at this
      exact this
  · by_cases hbl : q = -1 ∧ 0 < r ∧ 0 < n
    · obtain ⟨rfl, hr0, hn0⟩ := hbl
      obtain ⟨rfl, _, hc⟩ := h hn0
      refine (bitsAt45_below B n r i (ws.getD 0 0) hn hn0 hr0 hr64 hq hb w (hc 0 hn0)).mono ?_
      rintro e w' ⟨rfl, rfl⟩
      refine ⟨_, rfl, ?_, rfl⟩
      have := at_high (ws := ws) (-1) r hiq hr64 hw (wd_out (by omega))
      rw [show ((-1 : Int) + 1) = ((0 : Nat) : Int) by omega, wd_nat] at this
      exact this
    · refine (bitsAt45_out ao n r i q hn hr64 (by omega) (by omega) (by omega) hq hb w).mono ?_
      rintro e w' ⟨rfl, rfl⟩
      refine ⟨_, rfl, ?_, rfl⟩
      refine at_none q r hiq hr64 hw (wd_out (by rw [hl]; omega)) ?_
      by_cases h0 : r = 0
      · exact .inl h0
      · exact .inr (wd_out (by rw [hl]; omega))

/-! ### One step of 'putBits' on words -/
theorem mask_bits (r k : Nat) (hk : k ≤ 64) : W (IntKind.u64.wrap (18446744073709551615 / 2 ^ (64 - k) * 2 ^ r)) ∧ ∀ t, t < 64 → tb (IntKind.u64.wrap (18446744073709551615 / 2 ^ (64 - k) * 2 ^ r)) t = decide (r ≤ t ∧ t < r + k) := by
  have h1 := w_ones k hk
  have h2 := w_shl h1.1 r
  refine ⟨h2.1, fun t ht => ?_⟩
  rw [h2.2, h1.2, decide_eq_true ht]
  by_cases hr : r ≤ t
  · simp [hr]; omega
  · simp [hr]
theorem put_word {src : List Int} {s x c : Int} (hx : At src s x) (hc : W c) (r k : Nat) (hk : r + k ≤ 64) :
    (W (bits .or .u64 c (bits .and .u64 (IntKind.u64.wrap (x * 2 ^ r)) (IntKind.u64.wrap (18446744073709551615 / 2 ^ (64 - k) * 2 ^ r)))) ∧
      ∀ t, t < 64 → tb (bits .or .u64 c (bits .and .u64 (IntKind.u64.wrap (x * 2 ^ r)) (IntKind.u64.wrap (18446744073709551615 / 2 ^ (64 - k) * 2 ^ r)))) t = if r ≤ t ∧ t < r + k then (tb c t || gb src (s + ((t : Int) - (r : Int)))) else tb c t) ∧
    (W (bits .or .u64 (bits .andNot .u64 c (IntKind.u64.wrap (18446744073709551615 / 2 ^ (64 - k) * 2 ^ r))) (bits .and .u64 (IntKind.u64.wrap (x * 2 ^ r)) (IntKind.u64.wrap (18446744073709551615 / 2 ^ (64 - k) * 2 ^ r)))) ∧
      ∀ t, t < 64 → tb (bits .or .u64 (bits .andNot .u64 c (IntKind.u64.wrap (18446744073709551615 / 2 ^ (64 - k) * 2 ^ r))) (bits .and .u64 (IntKind.u64.wrap (x * 2 ^ r)) (IntKind.u64.wrap (18446744073709551615 / 2 ^ (64 - k) * 2 ^ r)))) t = if r ≤ t ∧ t < r + k then gb src (s + ((t : Int) - (r : Int))) else tb c t) := by
  have hm := mask_bits r k (by omega)
  generalize IntKind.u64.wrap (18446744073709551615 / 2 ^ (64 - k) * 2 ^ r) = m at hm
  have hs := w_shl hx.1 r
  have ha := w_and hs.1 hm.1
  have hnb : ∀ t, t < 64 → tb (bits .and .u64 (IntKind.u64.wrap (x * 2 ^ r)) m) t = if r ≤ t ∧ t < r + k then gb src (s + ((t : Int) - (r : Int))) else false := by
    intro t ht
    rw [ha.2, hs.2, hm.2 t ht, decide_eq_true ht]
    by_cases hc : r ≤ t ∧ t < r + k
    · rw [if_pos hc, decide_eq_true hc, decide_eq_true hc.1, hx.2 (t - r) (by omega)]
      have e : s + ((t - r : Nat) : Int) = s + ((t : Int) - (r : Int)) := by omega
      rw [e]; simp
    · rw [if_neg hc, decide_eq_false hc]; simp
  generalize bits .and .u64 (IntKind.u64.wrap (x * 2 ^ r)) m = y at ha hnb
  have ho := w_or hc ha.1
  have hn := w_andNot hc hm.1
  have ho2 := w_or hn.1 ha.1
  refine ⟨⟨ho.1, fun t ht => ?_⟩, ⟨ho2.1, fun t ht => ?_⟩⟩
  · rw [ho.2, hnb t ht]
    by_cases hc : r ≤ t ∧ t < r + k
    · rw [if_pos hc, if_pos hc]
    · rw [if_neg hc, if_neg hc]; simp
  · rw [ho2.2, hn.2 t ht, hnb t ht, hm.2 t ht]
    by_cases hc : r ≤ t ∧ t < r + k
    · rw [if_pos hc, if_pos hc, decide_eq_true hc]; simp
    · rw [if_neg hc, if_neg hc, decide_eq_false hc]; simp
end Go.Proofs.Qxb6000433a
