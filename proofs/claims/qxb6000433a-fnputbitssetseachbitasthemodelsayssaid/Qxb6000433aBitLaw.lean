/-
  'FnPutBitsSetsEachBitAsTheModelSays' out of her callees' contracts.
-/
import Derived.Test.Qxb6000433aBitSmall
namespace Go.Proofs.Qxb6000433a
open Go.RowKit BitPlain

/-- The conditions under which the law goes on. -/
def Fits (n : Nat) (d k : Int) : Prop := 0 ≤ d ∧ 0 ≤ k ∧ k ≤ 65536 ∧ d ≤ 64 * (n : Int) ∧ k ≤ 64 * (n : Int) - d

set_option maxHeartbeats 2000000 in
theorem law5_out (a0 a2 : Option Addr) (n c m c2 : Nat) (d s k : Int) (add : Bool) (hn : n ≤ maxLen) (hm : m ≤ maxLen) (hd1 : -9223372036854775808 ≤ d) (hd2 : d ≤ 9223372036854775807) (w : World) (h : 65536 < n ∨ 65536 < m ∨ (n ≤ 65536 ∧ m ≤ 65536 ∧ ¬ Fits n d k) ∨ (n ≤ 65536 ∧ m ≤ 65536 ∧ Fits n d k ∧ (s < -1073741824 ∨ 1073741824 < s))) :
    Calls Try.prog 5 #[.slice a0 n c, .int .i64 d, .slice a2 m c2, .int .i64 s, .int .i64 k, .bool add] w fun e w' => e = .returned (.bool true) ∧ Below w.heap.size w w' := by
  have hb := bytes19 a0 a2 n c m c2 d s k add hn hm w
  have HB : Hid (Calls Try.prog 19 #[.slice a0 n c, .int .i64 d, .slice a2 m c2, .int .i64 s, .int .i64 k, .bool add] w fun e w' => ∃ b : Bool, e = .returned (.bool b) ∧ w' = w) := hb
  clear hb
  unfold maxLen at hn hm
  unfold Fits at h
  have h9 : 65536 < n ∨ (n ≤ 65536 ∧ 65536 < m) ∨ (n ≤ 65536 ∧ m ≤ 65536 ∧ d < 0) ∨ (n ≤ 65536 ∧ m ≤ 65536 ∧ 0 ≤ d ∧ k < 0) ∨ (n ≤ 65536 ∧ m ≤ 65536 ∧ 0 ≤ d ∧ 0 ≤ k ∧ 65536 < k) ∨ (n ≤ 65536 ∧ m ≤ 65536 ∧ 0 ≤ d ∧ 0 ≤ k ∧ k ≤ 65536 ∧ 64 * (n : Int) < d) ∨ (n ≤ 65536 ∧ m ≤ 65536 ∧ 0 ≤ d ∧ 0 ≤ k ∧ k ≤ 65536 ∧ d ≤ 64 * (n : Int) ∧ 64 * (n : Int) - d < k) ∨ (n ≤ 65536 ∧ m ≤ 65536 ∧ 0 ≤ d ∧ 0 ≤ k ∧ k ≤ 65536 ∧ d ≤ 64 * (n : Int) ∧ k ≤ 64 * (n : Int) - d ∧ s < -1073741824) ∨ (n ≤ 65536 ∧ m ≤ 65536 ∧ 0 ≤ d ∧ 0 ≤ k ∧ k ≤ 65536 ∧ d ≤ 64 * (n : Int) ∧ k ≤ 64 * (n : Int) - d ∧ -1073741824 ≤ s ∧ 1073741824 < s) := by omega
  clear h
  rcases h9 with h1 | ⟨h1, h2⟩ | ⟨h1, h2, h3⟩ | ⟨h1, h2, h3, h4⟩ | ⟨h1, h2, h3, h4, h5⟩ | ⟨h1, h2, h3, h4, h5, h6⟩ | ⟨h1, h2, h3, h4, h5, h6, h7⟩ | ⟨h1, h2, h3, h4, h5, h6, h7, h8⟩ | ⟨h1, h2, h3, h4, h5, h6, h7, h8, h10⟩
  all_goals
    go_enter Try.func5, Try.ntmps5
    go_wp2_with fail
    refine HB.out.mono ?_
    rintro e w' ⟨b, rfl, rfl⟩
    cases b
    all_goals
      go_wp2
      go_ret
      exact ⟨rfl, Below.refl _ _⟩
end Go.Proofs.Qxb6000433a
