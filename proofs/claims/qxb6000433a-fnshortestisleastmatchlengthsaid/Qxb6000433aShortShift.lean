/-
  'lshift'.
-/
import Derived.Test.Qxb6000433aShortSets
namespace Go.Proofs.Qxb6000433a
open Go.RowKit Go.Proofs.Qxb6000433a.BitPlain

set_option maxHeartbeats 1000000 in
theorem lshift_00 (a0 a1 a2 a3 : Int) (k r : Nat) (hk : (k : Int) / 64 = 0) (hb : bits .and .i64 (k : Int) 63 = (r : Int)) (hw : IntKind.u64.wrap (r : Int) = (r : Int)) (hr : r < 64) (hr0 : r = 0) (w : World) : Calls Try.prog 44 #[ag a0 a1 a2 a3, .int .i64 (k : Int)] w fun e w' => e = .returned (ag (IntKind.u64.wrap a0) (IntKind.u64.wrap a1) (IntKind.u64.wrap a2) (IntKind.u64.wrap a3)) ∧ Below w.heap.size w w' := by
  unfold ag
  subst hr0
  go_enter Try.func44, Try.ntmps44
  go_wp2
  refine wp_loop_rounds 5 ?_
  rw [rounds_succ]
  go_wp2
  rw [rounds_succ]
  go_wp2
  rw [rounds_succ]
  go_wp2
  rw [rounds_succ]
  go_wp2
  rw [rounds_succ]
  go_wp2
  refine bodyPost_ret (v := ag (IntKind.u64.wrap a0) (IntKind.u64.wrap a1) (IntKind.u64.wrap a2) (IntKind.u64.wrap a3)) (by simp [results, Try.results44, go_sem, ag]) rfl ⟨rfl, ?_⟩
  exact (((Below.refl _ _).alloc (Nat.le_refl _) _).alloc (by simp) _).alloc (by simp; omega) _

set_option maxHeartbeats 1000000 in
theorem lshift_01 (a0 a1 a2 a3 : Int) (k r : Nat) (hk : (k : Int) / 64 = 0) (hb : bits .and .i64 (k : Int) 63 = (r : Int)) (hw : IntKind.u64.wrap (r : Int) = (r : Int)) (hr : r < 64) (hr0 : ¬ (r : Int) = 0) (w : World) : Calls Try.prog 44 #[ag a0 a1 a2 a3, .int .i64 (k : Int)] w fun e w' => e = .returned (ag (IntKind.u64.wrap (a0 * 2 ^ r)) (bits .or .u64 (IntKind.u64.wrap (a1 * 2 ^ r)) (a0 / 2 ^ (64 - r))) (bits .or .u64 (IntKind.u64.wrap (a2 * 2 ^ r)) (a1 / 2 ^ (64 - r))) (bits .or .u64 (IntKind.u64.wrap (a3 * 2 ^ r)) (a2 / 2 ^ (64 - r)))) ∧ Below w.heap.size w w' := by
  unfold ag
  have hr1 : (0 : Int) < (r : Int) := by omega
  go_enter Try.func44, Try.ntmps44
  go_wp2
  refine wp_loop_rounds 5 ?_
  rw [rounds_succ]
  go_wp2
  rw [rounds_succ]
  go_wp2
  rw [rounds_succ]
  go_wp2
  rw [rounds_succ]
  go_wp2
  rw [rounds_succ]
  go_wp2
  refine bodyPost_ret (v := ag (IntKind.u64.wrap (a0 * 2 ^ r)) (bits .or .u64 (IntKind.u64.wrap (a1 * 2 ^ r)) (a0 / 2 ^ (64 - r))) (bits .or .u64 (IntKind.u64.wrap (a2 * 2 ^ r)) (a1 / 2 ^ (64 - r))) (bits .or .u64 (IntKind.u64.wrap (a3 * 2 ^ r)) (a2 / 2 ^ (64 - r)))) (by simp [results, Try.results44, go_sem, ag]) rfl ⟨rfl, ?_⟩
  exact (((Below.refl _ _).alloc (Nat.le_refl _) _).alloc (by simp) _).alloc (by simp; omega) _

set_option maxHeartbeats 1000000 in
theorem lshift_10 (a0 a1 a2 a3 : Int) (k r : Nat) (hk : (k : Int) / 64 = 1) (hb : bits .and .i64 (k : Int) 63 = (r : Int)) (hw : IntKind.u64.wrap (r : Int) = (r : Int)) (hr : r < 64) (hr0 : r = 0) (w : World) : Calls Try.prog 44 #[ag a0 a1 a2 a3, .int .i64 (k : Int)] w fun e w' => e = .returned (ag 0 (IntKind.u64.wrap a0) (IntKind.u64.wrap a1) (IntKind.u64.wrap a2)) ∧ Below w.heap.size w w' := by
  unfold ag
  subst hr0
  go_enter Try.func44, Try.ntmps44
  go_wp2
  refine wp_loop_rounds 4 ?_
  rw [rounds_succ]
  go_wp2
  rw [rounds_succ]
  go_wp2
  rw [rounds_succ]
  go_wp2
  rw [rounds_succ]
  go_wp2
  refine bodyPost_ret (v := ag 0 (IntKind.u64.wrap a0) (IntKind.u64.wrap a1) (IntKind.u64.wrap a2)) (by simp [results, Try.results44, go_sem, ag]) rfl ⟨rfl, ?_⟩
  exact (((Below.refl _ _).alloc (Nat.le_refl _) _).alloc (by simp) _).alloc (by simp; omega) _

set_option maxHeartbeats 1000000 in
theorem lshift_11 (a0 a1 a2 a3 : Int) (k r : Nat) (hk : (k : Int) / 64 = 1) (hb : bits .and .i64 (k : Int) 63 = (r : Int)) (hw : IntKind.u64.wrap (r : Int) = (r : Int)) (hr : r < 64) (hr0 : ¬ (r : Int) = 0) (w : World) : Calls Try.prog 44 #[ag a0 a1 a2 a3, .int .i64 (k : Int)] w fun e w' => e = .returned (ag 0 (IntKind.u64.wrap (a0 * 2 ^ r)) (bits .or .u64 (IntKind.u64.wrap (a1 * 2 ^ r)) (a0 / 2 ^ (64 - r))) (bits .or .u64 (IntKind.u64.wrap (a2 * 2 ^ r)) (a1 / 2 ^ (64 - r)))) ∧ Below w.heap.size w w' := by
  unfold ag
  have hr1 : (0 : Int) < (r : Int) := by omega
  go_enter Try.func44, Try.ntmps44
  go_wp2
  refine wp_loop_rounds 4 ?_
  rw [rounds_succ]
  go_wp2
  rw [rounds_succ]
  go_wp2
  rw [rounds_succ]
  go_wp2
  rw [rounds_succ]
  go_wp2
  refine bodyPost_ret (v := ag 0 (IntKind.u64.wrap (a0 * 2 ^ r)) (bits .or .u64 (IntKind.u64.wrap (a1 * 2 ^ r)) (a0 / 2 ^ (64 - r))) (bits .or .u64 (IntKind.u64.wrap (a2 * 2 ^ r)) (a1 / 2 ^ (64 - r)))) (by simp [results, Try.results44, go_sem, ag]) rfl ⟨rfl, ?_⟩
  exact (((Below.refl _ _).alloc (Nat.le_refl _) _).alloc (by simp) _).alloc (by simp; omega) _

set_option maxHeartbeats 1000000 in
theorem lshift_20 (a0 a1 a2 a3 : Int) (k r : Nat) (hk : (k : Int) / 64 = 2) (hb : bits .and .i64 (k : Int) 63 = (r : Int)) (hw : IntKind.u64.wrap (r : Int) = (r : Int)) (hr : r < 64) (hr0 : r = 0) (w : World) : Calls Try.prog 44 #[ag a0 a1 a2 a3, .int .i64 (k : Int)] w fun e w' => e = .returned (ag 0 0 (IntKind.u64.wrap a0) (IntKind.u64.wrap a1)) ∧ Below w.heap.size w w' := by
  unfold ag
  subst hr0
  go_enter Try.func44, Try.ntmps44
  go_wp2
  refine wp_loop_rounds 3 ?_
  rw [rounds_succ]
  go_wp2
  rw [rounds_succ]
  go_wp2
  rw [rounds_succ]
  go_wp2
  refine bodyPost_ret (v := ag 0 0 (IntKind.u64.wrap a0) (IntKind.u64.wrap a1)) (by simp [results, Try.results44, go_sem, ag]) rfl ⟨rfl, ?_⟩
  exact (((Below.refl _ _).alloc (Nat.le_refl _) _).alloc (by simp) _).alloc (by simp; omega) _

set_option maxHeartbeats 1000000 in
theorem lshift_21 (a0 a1 a2 a3 : Int) (k r : Nat) (hk : (k : Int) / 64 = 2) (hb : bits .and .i64 (k : Int) 63 = (r : Int)) (hw : IntKind.u64.wrap (r : Int) = (r : Int)) (hr : r < 64) (hr0 : ¬ (r : Int) = 0) (w : World) : Calls Try.prog 44 #[ag a0 a1 a2 a3, .int .i64 (k : Int)] w fun e w' => e = .returned (ag 0 0 (IntKind.u64.wrap (a0 * 2 ^ r)) (bits .or .u64 (IntKind.u64.wrap (a1 * 2 ^ r)) (a0 / 2 ^ (64 - r)))) ∧ Below w.heap.size w w' := by
  unfold ag
  have hr1 : (0 : Int) < (r : Int) := by omega
  go_enter Try.func44, Try.ntmps44
  go_wp2
  refine wp_loop_rounds 3 ?_
  rw [rounds_succ]
  go_wp2
  rw [rounds_succ]
  go_wp2
  rw [rounds_succ]
  go_wp2
  refine bodyPost_ret (v := ag 0 0 (IntKind.u64.wrap (a0 * 2 ^ r)) (bits .or .u64 (IntKind.u64.wrap (a1 * 2 ^ r)) (a0 / 2 ^ (64 - r)))) (by simp [results, Try.results44, go_sem, ag]) rfl ⟨rfl, ?_⟩
  exact (((Below.refl _ _).alloc (Nat.le_refl _) _).alloc (by simp) _).alloc (by simp; omega) _

set_option maxHeartbeats 1000000 in
theorem lshift_30 (a0 a1 a2 a3 : Int) (k r : Nat) (hk : (k : Int) / 64 = 3) (hb : bits .and .i64 (k : Int) 63 = (r : Int)) (hw : IntKind.u64.wrap (r : Int) = (r : Int)) (hr : r < 64) (hr0 : r = 0) (w : World) : Calls Try.prog 44 #[ag a0 a1 a2 a3, .int .i64 (k : Int)] w fun e w' => e = .returned (ag 0 0 0 (IntKind.u64.wrap a0)) ∧ Below w.heap.size w w' := by
  unfold ag
  subst hr0
  go_enter Try.func44, Try.ntmps44
  go_wp2
  refine wp_loop_rounds 2 ?_
  rw [rounds_succ]
  go_wp2
  rw [rounds_succ]
  go_wp2
  refine bodyPost_ret (v := ag 0 0 0 (IntKind.u64.wrap a0)) (by simp [results, Try.results44, go_sem, ag]) rfl ⟨rfl, ?_⟩
  exact (((Below.refl _ _).alloc (Nat.le_refl _) _).alloc (by simp) _).alloc (by simp; omega) _

set_option maxHeartbeats 1000000 in
theorem lshift_31 (a0 a1 a2 a3 : Int) (k r : Nat) (hk : (k : Int) / 64 = 3) (hb : bits .and .i64 (k : Int) 63 = (r : Int)) (hw : IntKind.u64.wrap (r : Int) = (r : Int)) (hr : r < 64) (hr0 : ¬ (r : Int) = 0) (w : World) : Calls Try.prog 44 #[ag a0 a1 a2 a3, .int .i64 (k : Int)] w fun e w' => e = .returned (ag 0 0 0 (IntKind.u64.wrap (a0 * 2 ^ r))) ∧ Below w.heap.size w w' := by
  unfold ag
  have hr1 : (0 : Int) < (r : Int) := by omega
  go_enter Try.func44, Try.ntmps44
  go_wp2
  refine wp_loop_rounds 2 ?_
  rw [rounds_succ]
  go_wp2
  rw [rounds_succ]
  go_wp2
  refine bodyPost_ret (v := ag 0 0 0 (IntKind.u64.wrap (a0 * 2 ^ r))) (by simp [results, Try.results44, go_sem, ag]) rfl ⟨rfl, ?_⟩
  exact (((Below.refl _ _).alloc (Nat.le_refl _) _).alloc (by simp) _).alloc (by simp; omega) _
end Go.Proofs.Qxb6000433a
