/-
  Sets of lengths: lunit, lor, lshift, lsum, lleast.
-/
import Derived.Test.Qxb6000433aShortPlain
import Derived.StillTailTactics
import Derived.RegionTactic
import Derived.BigRegion
namespace Go.Proofs.Qxb6000433a
open Go.RowKit Go.Proofs.Qxb6000433a.BitPlain

theorem Try.mixed' : Try.prog.follows .mixedOrders = true := by kernel_rfl
theorem Try.info38 : (Try.prog.info? 38).map (fun i => (i.zero, i.size)) = some (some (.agg #[.int .u64 0, .int .u64 0, .int .u64 0, .int .u64 0]), 4) := by kernel_rfl
/-- The value of four words. -/
def ag (a b c d : Int) : Value := .agg #[.int .u64 a, .int .u64 b, .int .u64 c, .int .u64 d]

set_option maxHeartbeats 400000 in
theorem lunit36 (w : World) : Calls Try.prog 36 #[] w fun e w' => e = .returned (ag 1 0 0 0) ∧ Below w.heap.size w w' := by
  go_enter Try.func36, Try.ntmps36
  go_wp2
  refine bodyPost_ret (v := ag 1 0 0 0) (by simp [results, Try.results36, go_sem, ag]) rfl ⟨rfl, ?_⟩
  exact ((Below.refl _ _).alloc (Nat.le_refl _) _).alloc (by simp) _

set_option maxHeartbeats 1000000 in
theorem lor38 (a0 a1 a2 a3 b0 b1 b2 b3 : Int) (w : World) : Calls Try.prog 38 #[ag a0 a1 a2 a3, ag b0 b1 b2 b3] w fun e w' => e = .returned (ag (bits .or .u64 a0 b0) (bits .or .u64 a1 b1) (bits .or .u64 a2 b2) (bits .or .u64 a3 b3)) ∧ Below w.heap.size w w' := by
  unfold ag
  go_enter Try.func38, Try.ntmps38
  go_wp2
  refine wp_loop_rounds 5 ?_
  rw [rounds_succ]
  go_wp2
  go_region
  go_wp2
  rw [rounds_succ]
  go_wp2
  go_region
  go_wp2
  rw [rounds_succ]
  go_wp2
  go_region
  go_wp2
  rw [rounds_succ]
  go_wp2
  go_region
  go_wp2
  rw [rounds_succ]
  go_wp2
  refine bodyPost_ret (v := ag (bits .or .u64 a0 b0) (bits .or .u64 a1 b1) (bits .or .u64 a2 b2) (bits .or .u64 a3 b3)) (by simp [results, Try.results38, go_sem, ag]) rfl ⟨rfl, ?_⟩
  exact (((((Below.refl _ _).alloc (Nat.le_refl _) _).alloc (by simp) _).alloc (by simp; omega) _).alloc (by simp; omega) _).drew.drew.drew.drew

end Go.Proofs.Qxb6000433a
