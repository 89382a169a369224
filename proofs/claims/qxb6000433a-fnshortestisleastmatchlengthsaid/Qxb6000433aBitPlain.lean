/-
  THE PLAIN SIDE of 'FnPutBitsSetsEachBitAsTheModelSays': words, and lists of words, read bit by bit. No Go program here.
-/
import Derived.Laws.BitsAllLaws
namespace Go.Proofs.Qxb6000433a.BitPlain

/-- A word. -/
def W (x : Int) : Prop := 0 ≤ x ∧ x < 18446744073709551616
/-- Its bit t. -/
def tb (x : Int) (t : Nat) : Bool := x.toNat.testBit t

theorem tb_of_nat (a t : Nat) : tb (a : Int) t = a.testBit t := rfl
theorem w_nat {x : Int} (h : W x) : ∃ a : Nat, x = a ∧ a < 2 ^ 64 := ⟨x.toNat, by have := h.1; omega, by have := h.2; have := h.1; omega⟩
theorem w_of_nat {a : Nat} (h : a < 2 ^ 64) : W (a : Int) := ⟨by omega, by omega⟩

theorem tb_high {x : Int} (h : W x) {t : Nat} (ht : 64 ≤ t) : tb x t = false := by
  obtain ⟨a, rfl, ha⟩ := w_nat h
  rw [tb_of_nat]
  exact Nat.testBit_lt_two_pow (Nat.lt_of_lt_of_le ha (Nat.pow_le_pow_right (by omega) ht))
theorem ext {x y : Int} (hx : W x) (hy : W y) (h : ∀ t, t < 64 → tb x t = tb y t) : x = y := by
  obtain ⟨a, rfl, ha⟩ := w_nat hx
  obtain ⟨b, rfl, hb⟩ := w_nat hy
  have : a = b := by
    apply Nat.eq_of_testBit_eq
    intro t
    by_cases ht : t < 64
    · exact h t ht
    · have h1 := tb_high hx (t := t) (by omega)
      have h2 := tb_high hy (t := t) (by omega)
      rw [tb_of_nat] at h1 h2
      rw [h1, h2]
  rw [this]

theorem w_or {x y : Int} (hx : W x) (hy : W y) : W (bits .or .u64 x y) ∧ ∀ t, tb (bits .or .u64 x y) t = (tb x t || tb y t) := by
  obtain ⟨a, rfl, ha⟩ := w_nat hx
  obtain ⟨b, rfl, hb⟩ := w_nat hy
  rw [u64_or_nat a b (by omega) (by omega)]
  exact ⟨w_of_nat (Nat.or_lt_two_pow ha hb), fun t => by simp [tb]⟩
theorem w_and {x y : Int} (hx : W x) (hy : W y) : W (bits .and .u64 x y) ∧ ∀ t, tb (bits .and .u64 x y) t = (tb x t && tb y t) := by
  obtain ⟨a, rfl, ha⟩ := w_nat hx
  obtain ⟨b, rfl, hb⟩ := w_nat hy
  rw [u64_and_nat a b (by omega) (by omega)]
  exact ⟨w_of_nat (Nat.and_lt_two_pow _ hb), fun t => by simp [tb]⟩
theorem w_andNot {x y : Int} (hx : W x) (hy : W y) : W (bits .andNot .u64 x y) ∧ ∀ t, t < 64 → tb (bits .andNot .u64 x y) t = (tb x t && !tb y t) := by
  obtain ⟨a, rfl, ha⟩ := w_nat hx
  obtain ⟨b, rfl, hb⟩ := w_nat hy
  rw [u64_andNot_nat a b (by omega) (by omega)]
  refine ⟨w_of_nat (Nat.and_lt_two_pow _ (by omega)), fun t ht => ?_⟩
  have hc : (18446744073709551615 - b) = 2 ^ 64 - (b + 1) := by omega
  rw [tb_of_nat, tb_of_nat, tb_of_nat, Nat.testBit_and, hc, Nat.testBit_two_pow_sub_succ (by omega)]
  simp [ht]
theorem w_shr {x : Int} (hx : W x) (k : Nat) : W (x / 2 ^ k) ∧ ∀ t, tb (x / 2 ^ k) t = tb x (k + t) := by
  obtain ⟨a, rfl, ha⟩ := w_nat hx
  have e : (a : Int) / 2 ^ k = ((a / 2 ^ k : Nat) : Int) := by simp
  rw [e]
  refine ⟨w_of_nat (Nat.lt_of_le_of_lt (Nat.div_le_self _ _) ha), fun t => ?_⟩
  rw [tb_of_nat, tb_of_nat, Nat.testBit_div_two_pow, Nat.add_comm]
theorem w_shl {x : Int} (hx : W x) (k : Nat) : W (IntKind.u64.wrap (x * 2 ^ k)) ∧ ∀ t, tb (IntKind.u64.wrap (x * 2 ^ k)) t = (decide (t < 64) && (decide (k ≤ t) && tb x (t - k))) := by
  obtain ⟨a, rfl, ha⟩ := w_nat hx
  have e : IntKind.u64.wrap ((a : Int) * 2 ^ k) = ((a * 2 ^ k % 2 ^ 64 : Nat) : Int) := by
    rw [IntKind.wrap_u64]
    simp
  rw [e]
  refine ⟨w_of_nat (Nat.mod_lt _ (by omega)), fun t => ?_⟩
  rw [tb_of_nat, tb_of_nat, Nat.testBit_mod_two_pow, Nat.testBit_mul_two_pow]
theorem w_ones (k : Nat) (hk : k ≤ 64) : W (18446744073709551615 / 2 ^ (64 - k)) ∧ ∀ t, tb (18446744073709551615 / 2 ^ (64 - k)) t = decide (t < k) := by
  have h := w_shr (x := 18446744073709551615) ⟨by omega, by omega⟩ (64 - k)
  refine ⟨h.1, fun t => ?_⟩
  rw [h.2]
  have e : tb 18446744073709551615 (64 - k + t) = decide (64 - k + t < 64) := by
    have := Nat.testBit_two_pow_sub_one 64 (64 - k + t)
    show (2 ^ 64 - 1).testBit _ = _
    rw [this]
  rw [e]
  by_cases ht : t < k
  · simp [ht]; omega
  · simp [ht]; omega

theorem and63 (s : Int) : bits .and .i64 s 63 = s % 64 := by
  unfold bits
  simp only [BitVec.toNat_and]
  have h63 : (BitVec.ofInt IntKind.i64.bits 63).toNat = 2 ^ 6 - 1 := by decide
  rw [h63, Nat.and_two_pow_sub_one_eq_mod, BitVec.toNat_ofInt]
  have e : (((s % ((2 ^ IntKind.i64.bits : Nat) : Int)).toNat % 2 ^ 6 : Nat) : Int) = s % 64 := by
    have hb : IntKind.i64.bits = 64 := rfl
    rw [hb]
    omega
  rw [e]
  unfold IntKind.wrap
  have hb : IntKind.i64.bits = 64 := rfl
  rw [hb]
  have h1 : s % 64 % (2 ^ 64) = s % 64 := by omega
  rw [h1, if_neg]
  simp
  omega
end Go.Proofs.Qxb6000433a.BitPlain
