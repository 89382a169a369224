/-
  'cloneWords', 'sameWords', 'zzBytes_FnPutBitsSetsEachBitAsTheModelSays'.
-/
import Derived.Test.Qxb6000433aBitPut2
namespace Go.Proofs.Qxb6000433a
open Go.RowKit BitPlain

/-- A slice of words, read. -/
def Got (w : World) (ao : Option Addr) (n : Nat) (ws : List Int) : Prop :=
  0 < n → ∃ b off, ao = some ⟨b, off, none⟩ ∧ b < w.heap.size ∧ ∀ i, i < n → w.cell? ⟨b, off + i, none⟩ = some (.int .u64 (ws.getD i 0))

set_option maxHeartbeats 400000 in
theorem bytes19 (a0 a2 : Option Addr) (n c m c2 : Nat) (d s k : Int) (add : Bool) (hn : n ≤ maxLen) (hm : m ≤ maxLen) (w : World) :
    Calls Try.prog 19 #[.slice a0 n c, .int .i64 d, .slice a2 m c2, .int .i64 s, .int .i64 k, .bool add] w fun e w' => ∃ b : Bool, e = .returned (.bool b) ∧ w' = w := by
  unfold maxLen at hn hm
  go_enter Try.func19, Try.ntmps19
  go_wp2
  all_goals (go_ret; exact ⟨_, rfl, rfl⟩)

theorem Try.info36 : (Try.prog.info? 36).map (fun i => (i.zero, i.size, i.bytes)) = some (some (.int .u64 0), 1, 8) := by kernel_rfl

def laidW (zs : List Int) (n k : Nat) : List Value := (zs.take k).map (Value.int .u64) ++ List.replicate (n - k) (.int .u64 0)
theorem laidW_zero (zs : List Int) (n : Nat) : laidW zs n 0 = List.replicate n (.int .u64 0) := by simp [laidW]
theorem laidW_step (zs : List Int) (n k : Nat) (hz : n ≤ zs.length) (hk : k < n) : (laidW zs n k).set k (.int .u64 (zs.getD k 0)) = laidW zs n (k + 1) := by
  unfold laidW
  have hl : ((zs.take k).map (Value.int .u64)).length = k := by simp; omega
  rw [List.set_append, if_neg (by omega), hl, Nat.sub_self, List.take_succ_eq_append_getElem (by omega)]
  obtain ⟨m, hm⟩ : ∃ m, n - k = m + 1 := ⟨n - k - 1, by omega⟩
  have hm2 : n - (k + 1) = m := by omega
  rw [hm, hm2, List.replicate_succ, List.set_cons_zero]
  have hlt : k < zs.length := by omega
  rw [show zs.getD k 0 = zs[k] by simp [List.getD, hlt]]
  simp only [List.map_append, List.map_cons, List.map_nil, List.append_assoc, List.cons_append, List.nil_append]
theorem laidW_all (zs : List Int) (n : Nat) (hz : zs.length = n) : laidW zs n n = wl zs := by
  unfold laidW wl; rw [List.take_of_length_le (by omega)]; simp
theorem laidW_len (zs : List Int) (n k : Nat) (hz : n ≤ zs.length) (hk : k ≤ n) : (laidW zs n k).length = n := by
  unfold laidW; simp; omega

set_option maxHeartbeats 400000 in
theorem clone20_some (b off n c : Nat) (zs : List Int) (hz : zs.length = n) (hn : n ≤ 65536) (w : World) (hb : b < w.heap.size) (hc : ∀ i, i < n → w.cell? ⟨b, off + i, none⟩ = some (.int .u64 (zs.getD i 0))) :
    Calls Try.prog 20 #[.slice (some ⟨b, off, none⟩) n c] w fun e w' => e = .returned (.slice (some ⟨w.heap.size, 0, none⟩) n n) ∧ w'.ownsRow w.heap.size 36 1 (.slice (some ⟨w.heap.size, 0, none⟩) n n) n (wl zs) ∧ Below w.heap.size w w' := by
  have q42 : ∀ (w : World) (a : Option Addr) (n c n' c' : Nat), (binOp .eql 42 (.slice a n c) (.slice none n' c')).run Try.prog w = .ok (.bool a.isNone) w := fun w a n c n' c' => Lib.run_eql_slice_nil w _ _ a n c n' c' Try.underlying42
  obtain ⟨i0, hi, hz0, hz1, hz2⟩ := info_parts Try.info36
  go_enter Try.func20, Try.ntmps20
  go_wp2_with (at_make; refine wpList_make_full _ rfl _ _ 42 rfl w.heap.size 36 i0 (.int .u64 0) 1 Try.underlying42 hi hz0 hz1 .i64 .i64 _ _ n rfl rfl rfl rfl (by rw [hz2]; omega) (by unfold maxLen; omega) (by simp) ?_; intro w1 hown hgrow)
  have hmk : w1.ownsRow w.heap.size 36 1 (.slice (some ⟨w.heap.size, 0, none⟩) n n) n (laidW zs n 0) := by
    rw [laidW_zero]
    have e := toList_madeCells_one (.int .u64 0) n
    rw [Nat.mul_one] at hown
    exact e ▸ hown
  have hbl : Below w.heap.size w w1 := (Below.refl _ _).grown hgrow (Nat.le_refl _) (by simp)
  clear hown hgrow
  go_loopw [4] (fun i wr => ∃ k : Nat, k ≤ n ∧ i = .int .i64 k ∧ wr.ownsRow w.heap.size 36 1 (.slice (some ⟨w.heap.size, 0, none⟩) n n) n (laidW zs n k) ∧ Below w.heap.size w wr) (fun i _ => n - (intOf i).toNat)
  case atStart => exact ⟨0, Nat.zero_le _, rfl, hmk, hbl⟩
  case round =>
    obtain ⟨k, hk, rfl, hown, hbel⟩ := hrel
    by_cases hlt : k < n
    · have hcx : wr.cell? ⟨b, off + k, none⟩ = some (.int .u64 (zs.getD k 0)) := (hbel.cell hb).trans (hc k hlt)
      obtain ⟨z, hzz⟩ : ∃ z, zs.getD k 0 = z := ⟨_, rfl⟩
      have hfx := hown.frozenAt k
      have hcy := hown.cellAt k (by omega)
      have hst := (hown.stored k (.int .u64 (zs.getD k 0))).1
      rw [laidW_step zs n k (by omega) hlt, hzz] at hst
      rw [hzz] at hcx
      clear hzz
      have hbel2 := hbel.setCell (p := ⟨w.heap.size, k, none⟩) (by simp) (.int .u64 z)
      have hk9 : k < (laidW zs n k).length := by rw [laidW_len zs n k (by omega) hk]; exact hlt
      rw [List.getElem?_eq_getElem hk9] at hcy
      go_wp2
      go_roundw
      case rel => exact ⟨k + 1, by omega, by go_num, hst, hbel2⟩
      case measure => simp [intOf]; omega
    · have hkn : k = n := by omega
      subst hkn
      rw [laidW_all zs _ hz] at hown
      go_wp2
      go_ret
      exact ⟨rfl, hown, hbel⟩

set_option maxHeartbeats 400000 in
theorem clone20_empty (ao : Option Addr) (c : Nat) (w : World) : Calls Try.prog 20 #[.slice ao 0 c] w fun e w' => ∃ ao', e = .returned (.slice ao' 0 0) ∧ Below w.heap.size w w' := by
  have q42 : ∀ (w : World) (a : Option Addr) (n c n' c' : Nat), (binOp .eql 42 (.slice a n c) (.slice none n' c')).run Try.prog w = .ok (.bool a.isNone) w := fun w a n c n' c' => Lib.run_eql_slice_nil w _ _ a n c n' c' Try.underlying42
  obtain ⟨i0, hi, hz0, hz1, hz2⟩ := info_parts Try.info36
  cases ao with
  | none =>
    go_enter Try.func20, Try.ntmps20
    go_wp2
    go_ret
    exact ⟨_, rfl, Below.refl _ _⟩
  | some x =>
    go_enter Try.func20, Try.ntmps20
    go_wp2_with (at_make; refine wpList_make_full _ rfl _ _ 42 rfl w.heap.size 36 i0 (.int .u64 0) 1 Try.underlying42 hi hz0 hz1 .i64 .i64 _ _ 0 rfl rfl rfl rfl (by omega) (by unfold maxLen; omega) (by simp) ?_; intro w1 hown hgrow)
    have hbl : Below w.heap.size w w1 := (Below.refl _ _).grown hgrow (Nat.le_refl _) (by simp)
    clear hown hgrow
    refine wp_loop_rounds 1 ?_
    rw [rounds_succ]
    go_wp2
    go_ret
    exact ⟨_, rfl, hbl⟩

/-- 'cloneWords', whatever the slice. -/
theorem clone20 (ao : Option Addr) (n c : Nat) (zs : List Int) (hz : zs.length = n) (hn : n ≤ 65536) (w : World) (h : Got w ao n zs) :
    Calls Try.prog 20 #[.slice ao n c] w fun e w' => ∃ ao', e = .returned (.slice ao' n n) ∧ (0 < n → ao' = some ⟨w.heap.size, 0, none⟩ ∧ w'.ownsRow w.heap.size 36 1 (.slice (some ⟨w.heap.size, 0, none⟩) n n) n (wl zs)) ∧ Below w.heap.size w w' := by
  by_cases h0 : n = 0
  · subst h0
    refine (clone20_empty ao c w).mono ?_
    rintro e w' ⟨ao', rfl, hb⟩
    exact ⟨ao', rfl, fun h => absurd h (Nat.lt_irrefl _), hb⟩
  · obtain ⟨b, off, rfl, hb, hc⟩ := h (by omega)
    refine (clone20_some b off n c zs hz hn w hb hc).mono ?_
    rintro e w' ⟨rfl, hown, hbel⟩
    exact ⟨_, rfl, fun _ => ⟨rfl, hown⟩, hbel⟩

theorem cells_of_wl {w : World} {base g n cap : Nat} {zs : List Int} (hz : zs.length = n) (h : w.ownsRow base 36 1 (.slice (some ⟨g, 0, none⟩) n cap) n (wl zs)) (i : Nat) (hi : i < n) : w.cell? ⟨g, i, none⟩ = some (.int .u64 (zs.getD i 0)) :=
  (h.cellAt i (by omega)).trans (wl_get zs i (by omega))

set_option maxHeartbeats 400000 in
theorem same23 (g1 g2 n : Nat) (zs : List Int) (hn : n ≤ 65536) (w : World) (h1 : g1 < w.heap.size) (h2 : g2 < w.heap.size) (hc1 : ∀ i, i < n → w.cell? ⟨g1, i, none⟩ = some (.int .u64 (zs.getD i 0))) (hc2 : ∀ i, i < n → w.cell? ⟨g2, i, none⟩ = some (.int .u64 (zs.getD i 0))) :
    Calls Try.prog 23 #[.slice (some ⟨g1, 0, none⟩) n n, .slice (some ⟨g2, 0, none⟩) n n] w fun e w' => e = .returned (.bool true) ∧ Below w.heap.size w w' := by
  have H1 : Hid (∀ i, i < n → w.cell? ⟨g1, i, none⟩ = some (.int .u64 (zs.getD i 0))) := hc1
  have H2 : Hid (∀ i, i < n → w.cell? ⟨g2, i, none⟩ = some (.int .u64 (zs.getD i 0))) := hc2
  clear hc1 hc2
  go_enter Try.func23, Try.ntmps23
  go_wp2
  go_loopw [5] (fun i wr => ∃ k : Nat, k ≤ n ∧ i = .int .i64 k ∧ Below w.heap.size w wr) (fun i _ => n - (intOf i).toNat)
  case atStart => exact ⟨0, Nat.zero_le _, rfl, Below.refl _ _⟩
  case round =>
    obtain ⟨k, hk, rfl, hbel⟩ := hrel
    by_cases hlt : k < n
    · have c1 : wr.cell? ⟨g1, k, none⟩ = _ := (hbel.cell h1).trans (H1.out k hlt)
      have c2 : wr.cell? ⟨g2, k, none⟩ = _ := (hbel.cell h2).trans (H2.out k hlt)
      generalize zs.getD k 0 = z at c1 c2
      have hki : (k : Int) < (n : Int) := by omega
      go_wp2
      go_quiet (fail)
      go_wp2
      go_roundw
      case rel => exact ⟨k + 1, by omega, by go_num, below_drewN hbel _⟩
      case measure => simp [intOf]; omega
    · go_wp2
      go_ret
      exact ⟨rfl, hbel⟩

set_option maxHeartbeats 400000 in
theorem same23_empty (a b : Option Addr) (w : World) : Calls Try.prog 23 #[.slice a 0 0, .slice b 0 0] w fun e w' => e = .returned (.bool true) ∧ w' = w := by
  go_enter Try.func23, Try.ntmps23
  go_wp2
  refine wp_loop_rounds 1 ?_
  rw [rounds_succ]
  go_wp2
  go_ret
  exact ⟨rfl, rfl⟩
end Go.Proofs.Qxb6000433a
