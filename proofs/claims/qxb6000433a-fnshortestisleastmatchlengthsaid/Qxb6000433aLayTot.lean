/-
  'layTotals', and the small functions of 'lay'.
-/
import Derived.Test.Qxb6000433aLayMult
namespace Go.Proofs.Qxb6000433a
open Go.RowKit

def wS (M : Nat → Int) : Nat → Int
  | 0 => 0
  | k + 1 => wS M k + (M k + 63) / 64
def bS (ns : List Nd) (M : Nat → Int) : Nat → Int
  | 0 => 0
  | k + 1 => bS ns M k + (if (nodeAt ns k).kind = 0 then ((nodeAt ns k).hi - (nodeAt ns k).lo) * M k else 0)
theorem wS_bd (M : Nat → Int) : ∀ k, (∀ j, j < k → 0 ≤ M j ∧ M j ≤ 1048576) → 0 ≤ wS M k ∧ wS M k ≤ 16385 * k
  | 0, _ => by simp [wS]
  | k + 1, h => by
    have h1 := wS_bd M k (fun j hj => h j (by omega))
    have h2 := h k (by omega)
    rw [wS]; omega
theorem bS_bd (ns : List Nd) (M : Nat → Int) (kids : Nat → List Nat) (pos : Nat) : ∀ k, (∀ j, j < k → 0 ≤ M j ∧ M j ≤ 1048576) → (∀ j, j < k → NodeOk (nodeAt ns j) (kids j) pos) → 0 ≤ bS ns M k ∧ bS ns M k ≤ 8388608 * k
  | 0, _, _ => by simp [bS]
  | k + 1, h, hok => by
    have h1 := bS_bd ns M kids pos k (fun j hj => h j (by omega)) (fun j hj => hok j (by omega))
    have h2 := h k (by omega)
    rw [bS]
    by_cases hk : (nodeAt ns k).kind = 0
    · rw [if_pos hk]
      have h3 : 1 ≤ (nodeAt ns k).hi - (nodeAt ns k).lo ∧ (nodeAt ns k).hi - (nodeAt ns k).lo ≤ 8 := by
        rcases hok k (by omega) with h | h | h | h <;> omega
      generalize (nodeAt ns k).hi - (nodeAt ns k).lo = s at h3
      have h4 := Int.mul_nonneg (show 0 ≤ s by omega) h2.1
      have h5 : s * M k ≤ 8 * M k := Int.mul_le_mul_of_nonneg_right h3.2 h2.1
      omega
    · rw [if_neg hk]; omega

theorem cap29 (w : World) : Calls Try.prog 29 #[] w fun e w' => e = .returned (.int .i64 4611686018427387904) ∧ w' = w := by
  go_enter Try.func29, Try.ntmps29
  go_wp2
  go_ret
  exact ⟨rfl, rfl⟩
theorem words47 (x : Int) (h0 : 0 ≤ x) (h1 : x ≤ 2147483647) (w : World) : Calls Try.prog 47 #[.int .i64 x] w fun e w' => e = .returned (.int .i64 ((x + 63) / 64)) ∧ w' = w := by
  go_enter Try.func47, Try.ntmps47
  go_wp2
  go_ret
  exact ⟨rfl, rfl⟩

set_option maxHeartbeats 1000000 in
theorem tot28 (tb pos gm B : Nat) (ns : List Nd) (kids : Nat → List Nat) (M : Nat → Int) (hn : ns.length ≤ 65536) (hp : pos ≤ 524288) (hok : ∀ j, j < ns.length → NodeOk (nodeAt ns j) (kids j) pos) (hM : ∀ j, j < ns.length → 0 ≤ M j ∧ M j ≤ satur) (w : World) (hr : Rows9 w tb ns) (hm : RowZ w B 2 gm ns.length M) :
    Calls Try.prog 28 #[.pointer (some ⟨tb, 0, none⟩), .slice (some ⟨gm, 0, none⟩) ns.length ns.length, .int .i64 1048576, .int .i64 4611686018427387904, .int .i64 1073741824] w fun e w' => ∃ b wd ok, e = .returned (.tuple #[.int .i64 b, .int .i64 wd, .bool ok]) ∧ Below w.heap.size w w' ∧ (ok = true → (∀ j, j < ns.length → M j ≤ 1048576) ∧ b = bS ns M ns.length ∧ wd = wS M ns.length) := by
  obtain ⟨g, cap, h1, h2, h3⟩ := hr.cells
  have htb := hr.lt
  have hgm := hm.lt.2
  have HM : Hid (∀ j, j < ns.length → 0 ≤ M j ∧ M j ≤ satur) := hM
  have HMC : Hid (∀ j, j < ns.length → w.cell? ⟨gm, j, none⟩ = some (.int .i64 (M j))) := fun j hj => hm.cell j hj
  have HOK : Hid (∀ j, j < ns.length → NodeOk (nodeAt ns j) (kids j) pos) := hok
  have H1 : Hid (∀ i, i < 9 → w.cell? ⟨tb, i, none⟩ = some (.slice (some ⟨g i, 0, none⟩) ns.length (cap i))) := h1
  have H2 : Hid (∀ i, i < 9 → g i < w.heap.size) := h2
  have H3 : Hid (∀ i j, i < 9 → j < ns.length → w.cell? ⟨g i, j, none⟩ = some (fld i (nodeAt ns j))) := h3
  clear h1 h2 h3 hr hok hM hm
  obtain ⟨n, hnn⟩ : ∃ n, n = ns.length := ⟨_, rfl⟩
  rw [← hnn] at hn HM HMC HOK H1 H3 ⊢
  clear hnn
  go_enter Try.func28, Try.ntmps28
  go_wp2
  go_loopw [13, 14, 15] (fun bv wv iv wr => ∃ k : Nat, k ≤ n ∧ iv = .int .i64 k ∧ bv = .int .i64 (bS ns M k) ∧ wv = .int .i64 (wS M k) ∧ Hid (∀ j, j < k → M j ≤ 1048576) ∧ Below w.heap.size w wr) (fun _ _ iv _ => n - (intOf iv).toNat)
  case atStart => exact ⟨0, Nat.zero_le _, rfl, rfl, rfl, fun j hj => absurd hj (Nat.not_lt_zero _), Below.refl _ _⟩
  case round =>
    obtain ⟨k, hk, rfl, rfl, rfl, HS, hbel⟩ := hrel
    have hwb := wS_bd M k (fun j hj => ⟨(HM.out j (by omega)).1, HS.out j hj⟩)
    have hbb := bS_bd ns M kids pos k (fun j hj => ⟨(HM.out j (by omega)).1, HS.out j hj⟩) (fun j hj => HOK.out j (by omega))
    have t0 : wr.cell? ⟨tb, 0, none⟩ = _ := (hbel.cell htb).trans (H1.out 0 (by omega))
    by_cases hlt : k < n
    · have hki : (k : Int) < (n : Int) := by omega
      have t4 : wr.cell? ⟨tb, 4, none⟩ = _ := (hbel.cell htb).trans (H1.out 4 (by omega))
      have t5 : wr.cell? ⟨tb, 5, none⟩ = _ := (hbel.cell htb).trans (H1.out 5 (by omega))
      have c0 : wr.cell? ⟨g 0, k, none⟩ = some (.int .u8 (nodeAt ns k).kind) := (hbel.cell (H2.out 0 (by omega))).trans (H3.out 0 k (by omega) hlt)
      have c4 : wr.cell? ⟨g 4, k, none⟩ = some (.int .i32 (nodeAt ns k).lo) := (hbel.cell (H2.out 4 (by omega))).trans (H3.out 4 k (by omega) hlt)
      have c5 : wr.cell? ⟨g 5, k, none⟩ = some (.int .i32 (nodeAt ns k).hi) := (hbel.cell (H2.out 5 (by omega))).trans (H3.out 5 k (by omega) hlt)
      have cm : wr.cell? ⟨gm, k, none⟩ = some (.int .i64 (M k)) := (hbel.cell hgm).trans (HMC.out k hlt)
      have hok := HOK.out k hlt
      have HB1 : Hid (bS ns M (k + 1) = bS ns M k + (if (nodeAt ns k).kind = 0 then ((nodeAt ns k).hi - (nodeAt ns k).lo) * M k else 0)) := rfl
      have HW1 : Hid (wS M (k + 1) = wS M k + (M k + 63) / 64) := rfl
      have hmk := HM.out k hlt
      unfold satur at hmk
      generalize nodeAt ns k = d at c0 c4 c5 hok HB1
      generalize bS ns M k = bk at hbb HB1 ⊢
      generalize wS M k = wk at hwb HW1 ⊢
      have HMK : Hid (∀ x, x = k → M x = M k) := fun x hx => by rw [hx]
      have HS1 : Hid (M k ≤ 1048576 → ∀ j, j < k + 1 → M j ≤ 1048576) := fun h9 j hj => by
        by_cases e : j = k
        · rw [e]; exact h9
        · exact HS.out j (by omega)
      generalize M k = mk at cm hmk HB1 HW1 HS1
      obtain ⟨kd, x2, x3, x4, lo, hi, x7, x8, x9⟩ := d
      dsimp only at c0 c4 c5
      by_cases hms : mk ≤ 1048576
      · by_cases hkd : kd = 0
        · subst hkd
          have hbd : 0 ≤ lo ∧ lo < hi ∧ hi ≤ lo + 8 ∧ hi ≤ 524288 := by
            rcases hok with h | h | h | h <;> simp at h <;> omega
          obtain ⟨sp, hsp⟩ : ∃ sp, hi - lo = sp := ⟨_, rfl⟩
          have hq1 := Int.mul_nonneg (show 0 ≤ sp by omega) hmk.1
          have hq2 : sp * mk ≤ 8 * mk := Int.mul_le_mul_of_nonneg_right (by omega) hmk.1
          have HB2 : Hid (bS ns M (k + 1) = bk + sp * mk) := by have h9 := HB1.out; simp only [if_true] at h9; rw [hsp] at h9; exact h9
          obtain ⟨q, hq⟩ : ∃ q, sp * mk = q := ⟨_, rfl⟩
          rw [hq] at hq1 hq2 HB2
          clear hok HB1
          go_wp2
          go_quiet (fail)
          go_wp2
          go_roundw
          case rel => exact ⟨k + 1, by omega, by go_num, by rw [HB2.out], by rw [HW1.out], HS1.out hms, below_drewN hbel _⟩
          case measure => simp [intOf]; omega
        · have hkb : 0 ≤ kd ∧ kd ≤ 255 := by rcases hok with h | h | h | h <;> simp at h <;> omega
          have HB2 : Hid (bS ns M (k + 1) = bk) := by have h9 := HB1.out; simp only [if_neg hkd] at h9; rw [Int.add_zero] at h9; exact h9
          clear hok HB1
          go_wp2
          go_roundw
          case rel => exact ⟨k + 1, by omega, by go_num, by rw [HB2.out], by rw [HW1.out], HS1.out hms, hbel⟩
          case measure => simp [intOf]; omega
      · clear hok
        have hms' : (1048576 : Int) < mk := by omega
        go_wp2
        exact bodyPost_ret (v := .tuple #[.int .i64 0, .int .i64 0, .bool false]) (by simp [results, Try.results28, go_sem]) rfl ⟨0, 0, .inl ⟨rfl, hbel⟩⟩
    · have hkn : k = n := by omega
      subst hkn
      obtain ⟨bk, hbk⟩ : ∃ bk, bS ns M k = bk := ⟨_, rfl⟩
      obtain ⟨wk, hwk⟩ : ∃ wk, wS M k = wk := ⟨_, rfl⟩
      rw [hbk] at hbb ⊢
      rw [hwk] at hwb ⊢
      have HBK : Hid (bS ns M k = bk) := hbk
      have HWK : Hid (wS M k = wk) := hwk
      clear hbk hwk hlt
      have hb62 : bk ≤ 4611686018427387904 := by omega
      by_cases hw9 : (1073741824 : Int) < wk
      · go_wp2
        exact bodyPost_ret (v := .tuple #[.int .i64 0, .int .i64 0, .bool false]) (by simp [results, Try.results28, go_sem]) rfl ⟨0, 0, false, rfl, hbel, fun h => by cases h⟩
      · go_wp2
        exact bodyPost_ret (v := .tuple #[.int .i64 bk, .int .i64 wk, .bool true]) (by simp [results, Try.results28, go_sem]) rfl ⟨bk, wk, .inr ⟨rfl, hbel, HS.out, HBK.out.symm, HWK.out.symm⟩⟩
end Go.Proofs.Qxb6000433a
