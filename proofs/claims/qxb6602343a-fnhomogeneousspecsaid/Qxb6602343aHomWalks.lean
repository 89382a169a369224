/-
  THE WALKS of 'FnHomogeneousSpec' and her callees.
-/
import Derived.Test.Qxb6602343aRows
import Derived.Test.Qxb6602343aHomPlain
import Derived.WalkKit
import Derived.WalkSpells
import Derived.WalkLawsBesides
import Derived.Deep.QuietTactic
import Derived.BigQuiet
import Derived.Laws.ResultCell
namespace Go.Proofs.Qxb6602343a
open Go.RowKit

theorem bcell {W w1 : World} (hb : Below W.heap.size W w1) : (∀ b o, b < W.heap.size → w1.cell? ⟨b, o, none⟩ = W.cell? ⟨b, o, none⟩) ∧ (∀ b o, b < W.heap.size → w1.frozen? ⟨b, o, none⟩ = W.frozen? ⟨b, o, none⟩) :=
  ⟨fun b o h => hb.cell (p := ⟨b, o, none⟩) h, fun b o h => hb.frozen (p := ⟨b, o, none⟩) h⟩

set_option maxHeartbeats 400000 in
theorem bytes8 (a0 : Int) (a1 : ByteArray) (a2 : Int) (a3 : Option Addr) (n c : Nat) (h1 : a1.size ≤ maxLen) (hn : n ≤ maxLen) (w : World) :
    Calls Try.prog 8 #[.int .i64 a0, .string a1, .int .u64 a2, .slice a3 n c] w fun e w' => ∃ b : Bool, e = .returned (.bool b) ∧ w' = w := by
  unfold maxLen at h1 hn
  go_enter Try.func8, Try.ntmps8
  go_wp2
  all_goals (go_ret; exact ⟨_, rfl, rfl⟩)

/-- ZZValue. -/
abbrev val (k : Int) (s : ByteArray) (n : Int) (a : Option Addr) (l c : Nat) : Value := .agg #[.int .i64 k, .string s, .int .u64 n, .slice a l c, .slice none 0 0]
set_option maxHeartbeats 400000 in
theorem value27 (k : Int) (s : ByteArray) (n : Int) (a : Option Addr) (l c : Nat) (w : World) :
    Calls Try.prog 27 #[.int .i64 k, .string s, .int .u64 n, .slice a l c] w fun e w' => e = .returned (.agg #[.int .i64 k, .string s, .int .u64 n, .slice a l c, .slice none 0 0]) ∧ w' = w.alloc (.cells #[.int .i64 k, .string s, .int .u64 n, .slice a l c, .slice none 0 0] 31) := by
  go_enter Try.func27, Try.ntmps27
  go_wp2
  exact bodyPost_ret (v := val k s n a l c) (by simp [results, Try.results27, go_sem, val]) rfl ⟨rfl, rfl⟩

theorem Try.info3 : (Try.prog.info? 3).map (fun i => (i.zero, i.size, i.bytes)) = some (some (.int .i64 0), 1, 8) := by kernel_rfl
theorem Try.info31 : (Try.prog.info? 31).map (fun i => (i.zero, i.size, i.bytes)) = some (some (val 0 ByteArray.empty 0 none 0 0), 5, 80) := by kernel_rfl

/-- What 'copy' has laid after k rounds. -/
def laid (zs : List Int) (n k : Nat) : List Value := (zs.take k).map (Value.int .i64) ++ List.replicate (n - k) (.int .i64 0)
theorem laid_zero (zs : List Int) (n : Nat) : laid zs n 0 = List.replicate n (.int .i64 0) := by simp [laid]
theorem laid_step (zs : List Int) (n k : Nat) (hz : n ≤ zs.length) (hk : k < n) : (laid zs n k).set k (.int .i64 (zs.getD k 0)) = laid zs n (k + 1) := by
  unfold laid
  have hl : ((zs.take k).map (Value.int .i64)).length = k := by simp; omega
  rw [List.set_append, if_neg (by omega), hl, Nat.sub_self, List.take_succ_eq_append_getElem (by omega)]
  obtain ⟨m, hm⟩ : ∃ m, n - k = m + 1 := ⟨n - k - 1, by omega⟩
  have hm2 : n - (k + 1) = m := by omega
  rw [hm, hm2, List.replicate_succ, List.set_cons_zero]
  have hlt : k < zs.length := by omega
  rw [show zs.getD k 0 = zs[k] by simp [List.getD, hlt]]
  simp only [List.map_append, List.map_cons, List.map_nil, List.append_assoc, List.cons_append, List.nil_append]
theorem laid_all (zs : List Int) (n : Nat) (hz : zs.length = n) : laid zs n n = zs.map (Value.int .i64) := by
  unfold laid; rw [List.take_of_length_le (by omega)]; simp
theorem laid_len (zs : List Int) (n k : Nat) (hz : n ≤ zs.length) (hk : k ≤ n) : (laid zs n k).length = n := by
  unfold laid; simp; omega

set_option maxHeartbeats 400000 in
theorem copy9 (b off n c : Nat) (zs : List Int) (hz : zs.length = n) (hn : n ≤ 4096) (w : World) (hb : 0 < n → b < w.heap.size) (hc : ∀ i, i < n → w.cell? ⟨b, off + i, none⟩ = some (.int .i64 (zs.getD i 0))) :
    Calls Try.prog 9 #[.slice (some ⟨b, off, none⟩) n c] w fun e w' => e = .returned (.slice (some ⟨w.heap.size, 0, none⟩) n n) ∧ w'.ownsRow w.heap.size 3 1 (.slice (some ⟨w.heap.size, 0, none⟩) n n) n (zs.map (Value.int .i64)) ∧ Below w.heap.size w w' := by
  have q23 : ∀ (w : World) (a : Option Addr) (n c n' c' : Nat), (binOp .eql 23 (.slice a n c) (.slice none n' c')).run Try.prog w = .ok (.bool a.isNone) w := fun w a n c n' c' => Lib.run_eql_slice_nil w _ _ a n c n' c' Try.underlying23
  obtain ⟨i0, hi, hz0, hz1, hz2⟩ := info_parts Try.info3
  go_enter Try.func9, Try.ntmps9
  go_wp2_with (at_make; refine wpList_make_full _ rfl _ _ 23 rfl w.heap.size 3 i0 (.int .i64 0) 1 Try.underlying23 hi hz0 hz1 .i64 .i64 _ _ n rfl rfl rfl rfl (by rw [hz2]; omega) (by unfold maxLen; omega) (by simp) ?_; intro w1 hown hgrow)
  have hmk : w1.ownsRow w.heap.size 3 1 (.slice (some ⟨w.heap.size, 0, none⟩) n n) n (laid zs n 0) := by
    rw [laid_zero]
    have e := toList_madeCells_one (.int .i64 0) n
    rw [Nat.mul_one] at hown
    exact e ▸ hown
  have hbl : Below w.heap.size w w1 := (Below.refl _ _).grown hgrow (Nat.le_refl _) (by simp)
  clear hown hgrow
  go_loopw [4] (fun i wr => ∃ k : Nat, k ≤ n ∧ i = .int .i64 k ∧ wr.ownsRow w.heap.size 3 1 (.slice (some ⟨w.heap.size, 0, none⟩) n n) n (laid zs n k) ∧ Below w.heap.size w wr) (fun i _ => n - (intOf i).toNat)
  case atStart => exact ⟨0, Nat.zero_le _, rfl, hmk, hbl⟩
  case round =>
    obtain ⟨k, hk, rfl, hown, hbel⟩ := hrel
    by_cases hlt : k < n
    · have hcx : wr.cell? ⟨b, off + k, none⟩ = some (.int .i64 (zs.getD k 0)) := (hbel.cell (by exact hb (by omega))).trans (hc k hlt)
      obtain ⟨z, hzz⟩ : ∃ z, zs.getD k 0 = z := ⟨_, rfl⟩
      have hfx := hown.frozenAt k
      have hcy := hown.cellAt k (by omega)
      have hst := (hown.stored k (.int .i64 (zs.getD k 0))).1
      rw [laid_step zs n k (by omega) hlt, hzz] at hst
      rw [hzz] at hcx
      clear hzz
      have hbel2 := hbel.setCell (p := ⟨w.heap.size, k, none⟩) (by simp) (.int .i64 z)
      have hk9 : k < (laid zs n k).length := by rw [laid_len zs n k (by omega) hk]; exact hlt
      rw [List.getElem?_eq_getElem hk9] at hcy
      go_wp2
      go_roundw
      case rel => exact ⟨k + 1, by omega, by go_num, hst, hbel2⟩
      case measure => simp [intOf]; omega
    · have hkn : k = n := by omega
      subst hkn
      rw [laid_all zs _ hz] at hown
      go_wp2
      go_ret
      exact ⟨rfl, hown, hbel⟩

set_option maxHeartbeats 400000 in
theorem copy9_nil (w : World) : Calls Try.prog 9 #[.slice none 0 0] w fun e w' => e = .returned (.slice none 0 0) ∧ w' = w := by
  have q23 : ∀ (w : World) (a : Option Addr) (n c n' c' : Nat), (binOp .eql 23 (.slice a n c) (.slice none n' c')).run Try.prog w = .ok (.bool a.isNone) w := fun w a n c n' c' => Lib.run_eql_slice_nil w _ _ a n c n' c' Try.underlying23
  go_enter Try.func9, Try.ntmps9
  go_wp2
  go_ret
  exact ⟨rfl, rfl⟩

/-- An empty slice that is not nil, wherever it points. -/
theorem copy9_empty (x : Addr) (c : Nat) (w : World) : Calls Try.prog 9 #[.slice (some x) 0 c] w fun e w' => e = .returned (.slice (some ⟨w.heap.size, 0, none⟩) 0 0) ∧ w'.ownsRow w.heap.size 3 1 (.slice (some ⟨w.heap.size, 0, none⟩) 0 0) 0 [] ∧ Below w.heap.size w w' := by
  have q23 : ∀ (w : World) (a : Option Addr) (n c n' c' : Nat), (binOp .eql 23 (.slice a n c) (.slice none n' c')).run Try.prog w = .ok (.bool a.isNone) w := fun w a n c n' c' => Lib.run_eql_slice_nil w _ _ a n c n' c' Try.underlying23
  obtain ⟨i0, hi, hz0, hz1, hz2⟩ := info_parts Try.info3
  go_enter Try.func9, Try.ntmps9
  go_wp2_with (at_make; refine wpList_make_full _ rfl _ _ 23 rfl w.heap.size 3 i0 (.int .i64 0) 1 Try.underlying23 hi hz0 hz1 .i64 .i64 _ _ 0 rfl rfl rfl rfl (by omega) (by unfold maxLen; omega) (by simp) ?_; intro w1 hown hgrow)
  have hbl : Below w.heap.size w w1 := (Below.refl _ _).grown hgrow (Nat.le_refl _) (by simp)
  have hown2 : w1.ownsRow w.heap.size 3 1 (.slice (some ⟨w.heap.size, 0, none⟩) 0 0) 0 [] := by
    have e := List.eq_nil_of_length_eq_zero (hown.1.trans (Nat.zero_mul _))
    rw [e] at hown
    exact hown
  clear hown hgrow
  refine wp_loop_rounds 1 ?_
  rw [rounds_succ]
  go_wp2
  go_ret
  exact ⟨rfl, hown2, hbl⟩
end Go.Proofs.Qxb6602343a
