/-
  'bitOf', 'bitsAt'.
-/
import Derived.Test.Qxb6000433aRows
import Derived.Test.Qxb6000433aBitLists
import Derived.WalkKit
import Derived.WalkSpells
import Derived.WalkLawsBesides
import Derived.Deep.QuietTactic
import Derived.BigQuiet
namespace Go.Proofs.Qxb6000433a
open Go.RowKit BitPlain

/-- A slice of words of the call's own, read: in block B where it is not empty. -/
def Wrds (w : World) (ao : Option Addr) (n : Nat) (ws : List Int) (B : Nat) : Prop :=
  0 < n → ao = some ⟨B, 0, none⟩ ∧ B < w.heap.size ∧ ∀ i, i < n → w.cell? ⟨B, i, none⟩ = some (.int .u64 (ws.getD i 0))

theorem ret_u64 {a b : Int} (h : a = b) : Ending.returned (.int .u64 a) = .returned (.int .u64 b) := by rw [h]

/-- A bit as a number. -/
def bv (b : Bool) : Int := if b = true then 1 else 0

set_option maxHeartbeats 400000 in
theorem bitOf21_in (B n q r : Nat) (i x : Int) (hn : n ≤ 65536) (hq : q < n) (hr : r < 64) (hi : i / 64 = (q : Int)) (hb : bits .and .i64 i 63 = (r : Int)) (h0 : 0 ≤ i) (h1 : i < 64 * (n : Int)) (w : World) (hc : w.cell? ⟨B, q, none⟩ = some (.int .u64 x)) :
    Calls Try.prog 21 #[.slice (some ⟨B, 0, none⟩) n n, .int .i64 i] w fun e w' => e = .returned (.int .u64 (bits .and .u64 (x / 2 ^ r) 1)) ∧ w' = w := by
  go_enter Try.func21, Try.ntmps21
  go_wp2
  go_ret
  exact ⟨rfl, rfl⟩

set_option maxHeartbeats 400000 in
theorem bitOf21_out (ao : Option Addr) (n : Nat) (i : Int) (hn : n ≤ 65536) (h : i < 0 ∨ 64 * (n : Int) ≤ i) (w : World) :
    Calls Try.prog 21 #[.slice ao n n, .int .i64 i] w fun e w' => e = .returned (.int .u64 0) ∧ w' = w := by
  rcases h with h | h
  · go_enter Try.func21, Try.ntmps21
    go_wp2
    go_ret
    exact ⟨rfl, rfl⟩
  · by_cases h0 : i < 0
    · go_enter Try.func21, Try.ntmps21
      go_wp2
      go_ret
      exact ⟨rfl, rfl⟩
    · have h2 : decide (i < 0) = false := decide_eq_false h0
      go_enter Try.func21, Try.ntmps21
      go_wp2
      go_ret
      exact ⟨rfl, rfl⟩

/-- 'bitOf'. -/
theorem bitOf21 (ao : Option Addr) (n B : Nat) (ws : List Int) (i : Int) (hn : n ≤ 65536) (hl : ws.length = n) (hw : Ws ws) (w : World) (h : Wrds w ao n ws B) :
    Calls Try.prog 21 #[.slice ao n n, .int .i64 i] w fun e w' => e = .returned (.int .u64 (bv (gb ws i))) ∧ w' = w := by
  by_cases hi : 0 ≤ i ∧ i < 64 * (n : Int)
  · obtain ⟨rfl, _, hc⟩ := h (by omega)
    obtain ⟨q, hq⟩ : ∃ q : Nat, i / 64 = (q : Int) := ⟨(i / 64).toNat, by omega⟩
    obtain ⟨r, hr⟩ : ∃ r : Nat, i % 64 = (r : Int) := ⟨(i % 64).toNat, by omega⟩
    refine (bitOf21_in B n q r i (ws.getD q 0) hn (by omega) (by omega) hq (by rw [and63]; exact hr) hi.1 hi.2 w (hc q (by omega))).mono ?_
    rintro e w' ⟨rfl, rfl⟩
    refine ⟨ret_u64 ?_, rfl⟩
    rw [bit_one (ws_get hw q)]
    unfold bv gb
    have e2 : (i % 64).toNat = r := by omega
    rw [hq, wd_nat, e2]
  · refine (bitOf21_out ao n i hn (by omega) w).mono ?_
    rintro e w' ⟨rfl, rfl⟩
    refine ⟨ret_u64 ?_, rfl⟩
    have : gb ws i = false := by
      unfold gb
      rw [wd_out (by rw [hl]; omega), tb_zero]
    rw [this]; rfl

set_option maxHeartbeats 400000 in
theorem bitsAt45_in (B n q r : Nat) (i a : Int) (hn : n ≤ 65536) (hq : q < n) (hr : r < 64) (hi : i / 64 = (q : Int)) (hb : bits .and .i64 i 63 = (r : Int)) (w : World) (hc : w.cell? ⟨B, q, none⟩ = some (.int .u64 a)) (b : Int) (hd : q + 1 < n → w.cell? ⟨B, q + 1, none⟩ = some (.int .u64 b)) :
    Calls Try.prog 45 #[.slice (some ⟨B, 0, none⟩) n n, .int .i64 i] w fun e w' => e = .returned (.int .u64 (if r ≠ 0 ∧ q + 1 < n then bits .or .u64 (a / 2 ^ r) (IntKind.u64.wrap (b * 2 ^ (64 - r))) else a / 2 ^ r)) ∧ w' = w := by
  have hqi : (q : Int) < (n : Int) := by omega
  by_cases h0 : r = 0
  · subst h0
    rw [if_neg (by omega)]
    go_enter Try.func45, Try.ntmps45
    go_wp2
    go_ret
    exact ⟨ret_u64 (by simp), rfl⟩
  · have hr1 : ((r : Int) != 0) = true := by simpa using h0
    by_cases h1 : q + 1 < n
    · have hdd := hd h1
      rw [if_pos ⟨h0, h1⟩]
      clear hd
      have h2 : (q : Int) + 1 < (n : Int) := by omega
      go_enter Try.func45, Try.ntmps45
      go_wp2
      go_ret
      exact ⟨rfl, rfl⟩
    · rw [if_neg (by omega)]
      clear hd
      have h2 : decide ((q : Int) + 1 < (n : Int)) = false := decide_eq_false (by omega)
      go_enter Try.func45, Try.ntmps45
      go_wp2
      go_ret
      exact ⟨rfl, rfl⟩

set_option maxHeartbeats 400000 in
theorem bitsAt45_below (B n r : Nat) (i b : Int) (hn : n ≤ 65536) (hn0 : 0 < n) (hr0 : 0 < r) (hr : r < 64) (hi : i / 64 = -1) (hb : bits .and .i64 i 63 = (r : Int)) (w : World) (hd : w.cell? ⟨B, 0, none⟩ = some (.int .u64 b)) :
    Calls Try.prog 45 #[.slice (some ⟨B, 0, none⟩) n n, .int .i64 i] w fun e w' => e = .returned (.int .u64 (bits .or .u64 0 (IntKind.u64.wrap (b * 2 ^ (64 - r))))) ∧ w' = w := by
  have hr1 : ((r : Int) != 0) = true := by simp; omega
  have hni : (0 : Int) < (n : Int) := by omega
  go_enter Try.func45, Try.ntmps45
  go_wp2
  go_ret
  exact ⟨rfl, rfl⟩

set_option maxHeartbeats 400000 in
theorem bitsAt45_out (ao : Option Addr) (n r : Nat) (i q : Int) (hn : n ≤ 65536) (hr : r < 64) (hq : q < -1 ∨ (q = -1 ∧ (r = 0 ∨ n = 0)) ∨ (n : Int) ≤ q) (hq1 : -2147483648 ≤ q) (hq2 : q ≤ 2147483648) (hi : i / 64 = q) (hb : bits .and .i64 i 63 = (r : Int)) (w : World) :
    Calls Try.prog 45 #[.slice ao n n, .int .i64 i] w fun e w' => e = .returned (.int .u64 0) ∧ w' = w := by
  rcases hq with hq | ⟨rfl, rfl | rfl⟩ | hq
  · have hd : decide (0 ≤ q) = false := decide_eq_false (by omega)
    have hd2 : decide (0 ≤ q + 1) = false := decide_eq_false (by omega)
    by_cases h0 : r = 0
    · subst h0
      go_enter Try.func45, Try.ntmps45
      go_wp2
      go_ret
      exact ⟨rfl, rfl⟩
    · have hr1 : ((r : Int) != 0) = true := by simpa using h0
      go_enter Try.func45, Try.ntmps45
      go_wp2
      go_ret
      exact ⟨rfl, rfl⟩
  · go_enter Try.func45, Try.ntmps45
    go_wp2
    go_ret
    exact ⟨rfl, rfl⟩
  · by_cases h0 : r = 0
    · subst h0
      go_enter Try.func45, Try.ntmps45
      go_wp2
      go_ret
      exact ⟨rfl, rfl⟩
    · have hr1 : ((r : Int) != 0) = true := by simpa using h0
      go_enter Try.func45, Try.ntmps45
      go_wp2
      go_ret
      exact ⟨rfl, rfl⟩
  · have hd : decide (q < (n : Int)) = false := decide_eq_false (by omega)
    have hd2 : decide (q + 1 < (n : Int)) = false := decide_eq_false (by omega)
    have hq0 : 0 ≤ q := by omega
    by_cases h0 : r = 0
    · subst h0
      go_enter Try.func45, Try.ntmps45
      go_wp2
      go_ret
      exact ⟨rfl, rfl⟩
    · have hr1 : ((r : Int) != 0) = true := by simpa using h0
      go_enter Try.func45, Try.ntmps45
      go_wp2
      go_ret
      exact ⟨rfl, rfl⟩
end Go.Proofs.Qxb6000433a
