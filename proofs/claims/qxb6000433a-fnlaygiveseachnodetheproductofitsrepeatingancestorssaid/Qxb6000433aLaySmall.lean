/-
  'ZZSizes', 'ZZNodeLayout'.
-/
import Derived.Test.Qxb6000433aLayStep
namespace Go.Proofs.Qxb6000433a
open Go.RowKit

set_option maxHeartbeats 400000 in
theorem sizes31 (pb gn n : Nat) (bits vw : Int) (w : World) (h : PB w pb gn n bits vw) :
    Calls Try.prog 31 #[.pointer (some ⟨pb, 0, none⟩)] w fun e w' => e = .returned (.tuple #[.int .i64 bits, .int .i64 vw]) ∧ ∃ q, w' = w.drewN q := by
  have c3 := h.c3
  have c4 := h.c4
  clear h
  go_enter Try.func31, Try.ntmps31
  go_wp2
  go_quiet (fail)
  go_wp2
  exact bodyPost_ret (v := .tuple #[.int .i64 bits, .int .i64 vw]) (by simp [results, Try.results31, go_sem]) rfl ⟨rfl, _, rfl⟩
set_option maxHeartbeats 400000 in
theorem layout32 (pb gn n i : Nat) (bits vw a b c d : Int) (hi : i < n) (w : World) (h : PB w pb gn n bits vw) (c10 : w.cell? ⟨gn, i * 14 + 10, none⟩ = some (.int .i32 a)) (c11 : w.cell? ⟨gn, i * 14 + 11, none⟩ = some (.int .i32 b)) (c12 : w.cell? ⟨gn, i * 14 + 12, none⟩ = some (.int .i32 c)) (c13 : w.cell? ⟨gn, i * 14 + 13, none⟩ = some (.int .i32 d)) :
    Calls Try.prog 32 #[.pointer (some ⟨pb, 0, none⟩), .int .i64 i] w fun e w' => e = .returned (.tuple #[.int .i32 a, .int .i32 b, .int .i32 c, .int .i32 d]) ∧ ∃ q, w' = w.drewN q := by
  have c0 := h.c0
  have hii : (i : Int) < (n : Int) := by omega
  clear h
  go_enter Try.func32, Try.ntmps32
  go_wp2
  go_quiet (fail)
  go_wp2
  exact bodyPost_ret (v := .tuple #[.int .i32 a, .int .i32 b, .int .i32 c, .int .i32 d]) (by simp [results, Try.results32, go_sem]) rfl ⟨rfl, _, rfl⟩
end Go.Proofs.Qxb6000433a
