/-
  'FnPutBitsSetsEachBitAsTheModelSays' at an empty destination; all ways together.
-/
import Derived.Test.Qxb6000433aBitLaw
import Derived.Test.Qxb6000433aBitLaw2
namespace Go.Proofs.Qxb6000433a
open Go.RowKit BitPlain

set_option maxHeartbeats 1000000 in
theorem law5_empty (a0 a2 : Option Addr) (c m c2 : Nat) (src : List Int) (s : Int) (add : Bool) (hm : m ≤ 65536) (hs1 : -1073741824 ≤ s) (hs2 : s ≤ 1073741824) (hsl : src.length = m) (w : World) (hs : Got w a2 m src) :
    Calls Try.prog 5 #[.slice a0 0 c, .int .i64 0, .slice a2 m c2, .int .i64 s, .int .i64 0, .bool add] w fun e w' => e = .returned (.bool true) ∧ Below w.heap.size w w' := by
  have hb := bytes19 a0 a2 0 c m c2 0 s 0 add (by unfold maxLen; omega) (by unfold maxLen; omega) w
  have HB : Hid (Calls Try.prog 19 #[.slice a0 0 c, .int .i64 0, .slice a2 m c2, .int .i64 s, .int .i64 0, .bool add] w fun e w' => ∃ b : Bool, e = .returned (.bool b) ∧ w' = w) := hb
  have HS : Hid (Got w a2 m src) := hs
  have HSL : Hid (src.length = m) := hsl
  clear hb hs hsl
  go_enter Try.func5, Try.ntmps5
  go_wp2_with fail
  refine HB.out.mono ?_
  rintro e w' ⟨b, rfl, hw⟩
  subst hw
  cases b
  · go_wp2
    go_ret
    exact ⟨rfl, Below.refl _ _⟩
  · go_wp2_with fail
    refine (clone20_empty a0 c w').mono ?_
    rintro e w1 ⟨ao1, rfl, hb1⟩
    have hz1 := hb1.size
    have hgs1 : Got w1 a2 m src := by
      intro hm0
      obtain ⟨b, off, e1, e2, e3⟩ := HS.out hm0
      exact ⟨b, off, e1, by omega, fun i hi => (hb1.cell e2).trans (e3 i hi)⟩
    go_wp2_with fail
    refine (clone20 a2 m c2 src HSL.out hm w1 hgs1).mono ?_
    rintro e w2 ⟨ao2, rfl, _, hb2⟩
    have hz2 := hb2.size
    clear hgs1
    go_wp2_with fail
    refine (clone20_empty ao1 0 w2).mono ?_
    rintro e w3 ⟨ao3, rfl, hb3⟩
    have hz3 := hb3.size
    go_wp2
    refine wp_loop_rounds 1 ?_
    rw [rounds_succ]
    go_wp2_with fail
    refine (put22 (put41_none add ao1 ao2 0 m 0 s w3)).mono ?_
    rintro e w4 ⟨rfl, hw4⟩
    subst hw4
    go_wp2_with fail
    refine (same23_empty ao1 ao3 _).mono ?_
    rintro e w5 ⟨rfl, hw5⟩
    subst hw5
    go_wp2
    go_ret
    exact ⟨rfl, (hb1.trans (hb2.mono hz1)).trans (hb3.mono (by omega))⟩

/-- The law, whatever the input. -/
theorem law5 (a0 a2 : Option Addr) (n c m c2 : Nat) (ds src : List Int) (d s k : Int) (add : Bool) (hn : n ≤ maxLen) (hm : m ≤ maxLen) (hd1 : -9223372036854775808 ≤ d) (hd2 : d ≤ 9223372036854775807)
    (hdl : ds.length = n) (hsl : src.length = m) (hdw : Ws ds) (hsw : Ws src) (w : World) (hd : Got w a0 n ds) (hs : Got w a2 m src) :
    Calls Try.prog 5 #[.slice a0 n c, .int .i64 d, .slice a2 m c2, .int .i64 s, .int .i64 k, .bool add] w fun e w' => e = .returned (.bool true) ∧ Below w.heap.size w w' := by
  by_cases h : n ≤ 65536 ∧ m ≤ 65536 ∧ Fits n d k ∧ -1073741824 ≤ s ∧ s ≤ 1073741824
  · obtain ⟨h1, h2, ⟨f1, f2, f3, f4, f5⟩, h4, h5⟩ := h
    obtain ⟨D, rfl⟩ : ∃ D : Nat, d = (D : Int) := ⟨d.toNat, by omega⟩
    obtain ⟨K, rfl⟩ : ∃ K : Nat, k = (K : Int) := ⟨k.toNat, by omega⟩
    by_cases h0 : n = 0
    · subst h0
      obtain rfl : D = 0 := by omega
      obtain rfl : K = 0 := by omega
      exact law5_empty a0 a2 c m c2 src s add h2 h4 h5 hsl w hs
    · exact law5_in a0 a2 n c m c2 ds src D K s add h1 h2 (by omega) (by omega) h4 h5 (by omega) hdl hsl hdw hsw w hd hs
  · refine law5_out a0 a2 n c m c2 d s k add hn hm hd1 hd2 w ?_
    by_cases h1 : n ≤ 65536
    · by_cases h2 : m ≤ 65536
      · by_cases h3 : Fits n d k
        · exact .inr (.inr (.inr ⟨h1, h2, h3, by
            by_cases h6 : s < -1073741824
            · exact .inl h6
            · by_cases h7 : s ≤ 1073741824
              · exact absurd ⟨h1, h2, h3, by omega, h7⟩ h
              · exact .inr (by omega)⟩))
        · exact .inr (.inr (.inl ⟨h1, h2, h3⟩))
      · exact .inr (.inl (by omega))
    · exact .inl (by omega)
end Go.Proofs.Qxb6000433a
