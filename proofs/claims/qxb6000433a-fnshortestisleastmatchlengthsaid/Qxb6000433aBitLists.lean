/-
  LISTS OF WORDS, bit by bit: what 'bitOf', 'bitsAt', 'putBits' and the model's loop do to them. No Go program here.
-/
import Derived.Test.Qxb6000433aBitPlain
namespace Go.Proofs.Qxb6000433a.BitPlain

def Ws (ws : List Int) : Prop := ∀ x ∈ ws, W x
/-- The word at place q; 0 outside the list. -/
def wd (ws : List Int) (q : Int) : Int := if 0 ≤ q then ws.getD q.toNat 0 else 0
/-- Bit i of the list. -/
def gb (ws : List Int) (i : Int) : Bool := tb (wd ws (i / 64)) (i % 64).toNat

theorem w_zero : W 0 := ⟨by omega, by omega⟩
theorem tb_zero (t : Nat) : tb 0 t = false := by simp [tb]
theorem ws_get {ws : List Int} (h : Ws ws) (q : Nat) : W (ws.getD q 0) := by
  by_cases hq : q < ws.length
  · have : ws.getD q 0 = ws[q] := by simp [List.getD, hq]
    rw [this]; exact h _ (List.getElem_mem hq)
  · have : ws.getD q 0 = 0 := by simp [List.getD, List.getElem?_eq_none (show ws.length ≤ q by omega)]
    rw [this]; exact w_zero
theorem w_wd {ws : List Int} (h : Ws ws) (q : Int) : W (wd ws q) := by
  unfold wd; split
  · exact ws_get h _
  · exact w_zero
theorem wd_nat (ws : List Int) (q : Nat) : wd ws (q : Int) = ws.getD q 0 := by simp [wd]
theorem wd_out {ws : List Int} {q : Int} (h : q < 0 ∨ (ws.length : Int) ≤ q) : wd ws q = 0 := by
  unfold wd
  split
  · have : ws.length ≤ q.toNat := by omega
    simp [List.getD, List.getElem?_eq_none this]
  · rfl

theorem w_one : W 1 := ⟨by omega, by omega⟩
theorem tb_one (t : Nat) : tb 1 t = decide (t = 0) := by
  have h : Nat.testBit 1 t = true ↔ t = 0 := Nat.testBit_one_eq_true_iff_self_eq_zero
  rw [Bool.eq_iff_iff, decide_eq_true_iff]
  exact h
theorem bit_one {x : Int} (hx : W x) (k : Nat) : bits .and .u64 (x / 2 ^ k) 1 = if tb x k = true then 1 else 0 := by
  have hs := w_shr hx k
  have ha := w_and hs.1 w_one
  apply ext ha.1
  · split
    · exact w_one
    · exact w_zero
  · intro t ht
    rw [ha.2, hs.2, tb_one]
    by_cases h0 : t = 0
    · subst h0
      by_cases hk : tb x k = true
      · rw [if_pos hk, tb_one, Nat.add_zero, hk]; rfl
      · rw [if_neg hk, tb_zero, Nat.add_zero]; simp at hk; rw [hk]; rfl
    · by_cases hk : tb x k = true
      · rw [if_pos hk, tb_one]; simp [h0]
      · rw [if_neg hk, tb_zero]; simp [h0]

/-- The 64 bits from bit i on. -/
def At (ws : List Int) (i x : Int) : Prop := W x ∧ ∀ t : Nat, t < 64 → tb x t = gb ws (i + t)
theorem at_of {ws : List Int} {i x : Int} (q : Int) (r : Nat) (hi : i = 64 * q + r) (hr : r < 64) (hx : W x)
    (h : ∀ t, t < 64 → tb x t = (tb (wd ws q) (r + t) || (decide (64 - r ≤ t) && tb (wd ws (q + 1)) (t - (64 - r))))) (hw : Ws ws) : At ws i x := by
  refine ⟨hx, fun t ht => ?_⟩
  rw [h t ht]
  unfold gb
  by_cases hc : r + t < 64
  · have e1 : (i + t) / 64 = q := by omega
    have e2 : ((i + t) % 64).toNat = r + t := by omega
    rw [e1, e2, decide_eq_false (by omega)]; simp
  · have e1 : (i + t) / 64 = q + 1 := by omega
    have e2 : ((i + t) % 64).toNat = t - (64 - r) := by omega
    rw [e1, e2, tb_high (w_wd hw q) (by omega), decide_eq_true (by omega)]; simp
theorem at_both {ws : List Int} {i : Int} (q : Int) (r : Nat) (hi : i = 64 * q + r) (hr : r < 64) (hw : Ws ws) :
    At ws i (bits .or .u64 (wd ws q / 2 ^ r) (IntKind.u64.wrap (wd ws (q + 1) * 2 ^ (64 - r)))) := by
  have h1 := w_shr (w_wd hw q) r
  have h2 := w_shl (w_wd hw (q + 1)) (64 - r)
  have h3 := w_or h1.1 h2.1
  refine at_of q r hi hr h3.1 (fun t ht => ?_) hw
  rw [h3.2, h1.2, h2.2]; simp [ht]
theorem at_low {ws : List Int} {i : Int} (q : Int) (r : Nat) (hi : i = 64 * q + r) (hr : r < 64) (hw : Ws ws) (h0 : r = 0 ∨ wd ws (q + 1) = 0) : At ws i (wd ws q / 2 ^ r) := by
  have h1 := w_shr (w_wd hw q) r
  refine at_of q r hi hr h1.1 (fun t ht => ?_) hw
  rw [h1.2]
  rcases h0 with h0 | h0
  · subst h0; simp; omega
  · rw [h0, tb_zero]; simp
theorem at_high {ws : List Int} {i : Int} (q : Int) (r : Nat) (hi : i = 64 * q + r) (hr : r < 64) (hw : Ws ws) (h0 : wd ws q = 0) :
    At ws i (bits .or .u64 0 (IntKind.u64.wrap (wd ws (q + 1) * 2 ^ (64 - r)))) := by
  have h := at_both q r hi hr hw
  rw [h0] at h
  simpa using h
theorem at_none {ws : List Int} {i : Int} (q : Int) (r : Nat) (hi : i = 64 * q + r) (hr : r < 64) (hw : Ws ws) (h0 : wd ws q = 0) (h1 : r = 0 ∨ wd ws (q + 1) = 0) : At ws i 0 := by
  have h := at_low q r hi hr hw h1
  rw [h0] at h
  simpa using h

/-- What a store of word y at place q does to the bits. -/
theorem gb_set (ws : List Int) (q : Nat) (y : Int) (hq : q < ws.length) (i : Nat) : gb (ws.set q y) (i : Int) = if i / 64 = q then tb y (i % 64) else gb ws i := by
  unfold gb
  have e1 : ((i : Int) / 64) = ((i / 64 : Nat) : Int) := by omega
  have e2 : ((i : Int) % 64).toNat = i % 64 := by omega
  rw [e1, e2, wd_nat, wd_nat]
  by_cases h : i / 64 = q
  · rw [if_pos h, h]
    simp [List.getD, hq]
  · rw [if_neg h]
    simp only [List.getD]
    rw [List.getElem?_set_ne (by omega)]

/-- The bit that 'putBits' lays at place i. -/
def nb (add : Bool) (ds src : List Int) (d s : Int) (i : Int) : Bool := if add = true then (gb ds i || gb src (s + (i - d))) else gb src (s + (i - d))
/-- The first m bits are laid. -/
def Done (add : Bool) (ds src : List Int) (d : Nat) (s : Int) (m : Nat) (cs : List Int) : Prop :=
  cs.length = ds.length ∧ Ws cs ∧ ∀ i : Nat, gb cs i = if d ≤ i ∧ i < d + m then nb add ds src d s i else gb ds i
theorem done_zero (add : Bool) {ds : List Int} (src : List Int) (d : Nat) (s : Int) (h : Ws ds) : Done add ds src d s 0 ds :=
  ⟨rfl, h, fun i => by rw [if_neg (by omega)]⟩
theorem done_step {add : Bool} {ds src : List Int} {d : Nat} {s : Int} {m k : Nat} {cs : List Int} (h : Done add ds src d s m cs) (q : Nat) (y : Int) (hq : q < cs.length) (hy : W y) (r : Nat) (hd : d + m = 64 * q + r) (hr : r + k ≤ 64)
    (hb : ∀ t, t < 64 → tb y t = if r ≤ t ∧ t < r + k then (if add = true then (tb (cs.getD q 0) t || gb src (s + (m : Int) + ((t : Int) - (r : Int)))) else gb src (s + (m : Int) + ((t : Int) - (r : Int)))) else tb (cs.getD q 0) t) :
    Done add ds src d s (m + k) (cs.set q y) := by
  obtain ⟨h1, h2, h3⟩ := h
  refine ⟨by rw [List.length_set]; exact h1, ?_, fun i => ?_⟩
  · intro x hx
    rcases List.mem_or_eq_of_mem_set hx with hx | hx
    · exact h2 x hx
    · subst hx; exact hy
  · rw [gb_set cs q y hq i]
    have hg : ∀ i : Nat, i / 64 = q → gb cs i = tb (cs.getD q 0) (i % 64) := by
      intro i hi
      unfold gb
      have e1 : ((i : Int) / 64) = ((i / 64 : Nat) : Int) := by omega
      have e2 : ((i : Int) % 64).toNat = i % 64 := by omega
      rw [e1, e2, wd_nat, hi]
    by_cases hi : i / 64 = q
    · rw [if_pos hi, hb (i % 64) (by omega), ← hg i hi, h3 i]
      by_cases hin : r ≤ i % 64 ∧ i % 64 < r + k
      · rw [if_pos hin]
        have hr1 : d ≤ i ∧ i < d + (m + k) := by omega
        have hr2 : ¬ (d ≤ i ∧ i < d + m) := by omega
        rw [if_pos hr1, if_neg hr2]
        unfold nb
        have e : s + (m : Int) + (((i % 64 : Nat) : Int) - (r : Int)) = s + ((i : Int) - (d : Int)) := by omega
        rw [e]
      · rw [if_neg hin]
        by_cases hr1 : d ≤ i ∧ i < d + m
        · rw [if_pos hr1, if_pos (by omega)]
        · rw [if_neg hr1, if_neg (by omega)]
    · rw [if_neg hi, h3 i]
      by_cases hr1 : d ≤ i ∧ i < d + m
      · rw [if_pos hr1, if_pos (by omega)]
      · rw [if_neg hr1, if_neg (by omega)]
/-- Two lists whose bits are laid alike are one. -/
theorem done_one {add : Bool} {ds src : List Int} {d : Nat} {s : Int} {m : Nat} {cs es : List Int} (h : Done add ds src d s m cs) (h' : Done add ds src d s m es) : cs = es := by
  obtain ⟨h1, h2, h3⟩ := h
  obtain ⟨g1, g2, g3⟩ := h'
  apply List.ext_getElem (by rw [h1, g1])
  intro q hq hq'
  have e1 : cs.getD q 0 = cs[q] := by simp [List.getD, hq]
  have e2 : es.getD q 0 = es[q] := by simp [List.getD, hq']
  rw [← e1, ← e2]
  apply ext (ws_get h2 q) (ws_get g2 q)
  intro t ht
  have hh := (h3 (64 * q + t)).trans (g3 (64 * q + t)).symm
  unfold gb at hh
  have a1 : (((64 * q + t : Nat) : Int) / 64) = (q : Int) := by omega
  have a2 : (((64 * q + t : Nat) : Int) % 64).toNat = t := by omega
  rw [a1, a2, wd_nat, wd_nat] at hh
  exact hh
end Go.Proofs.Qxb6000433a.BitPlain
