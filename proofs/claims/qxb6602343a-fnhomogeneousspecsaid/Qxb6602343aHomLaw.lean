/-
  'FnHomogeneousSpec' out of her callees' contracts.
-/
import Derived.Test.Qxb6602343aHomAllow
namespace Go.Proofs.Qxb6602343a
open Go.RowKit HomPlain

theorem cells_of_row {w : World} {base g n cap : Nat} {zs : List Int} (hz : zs.length = n) (h : w.ownsRow base 3 1 (.slice (some ⟨g, 0, none⟩) n cap) n (zs.map (Value.int .i64))) (i : Nat) (hi : i < n) : w.cell? ⟨g, i, none⟩ = some (.int .i64 (zs.getD i 0)) := by
  rw [h.cellAt i (by omega), List.getElem?_map, List.getElem?_eq_getElem (by omega)]
  simp [List.getD, hz, hi]

theorem own_below {w w' : World} {base : Nat} {e : TypeId} {size : Nat} {v : Value} {n : Nat} {xs : List Value} (h : w.ownsRow base e size v n xs) (hb : Below w.heap.size w w') : w'.ownsRow base e size v n xs := by
  have hl := h.lt
  obtain ⟨h1, h2⟩ := h
  refine ⟨h1, ?_⟩
  rcases h2 with h2 | ⟨g, cap, cur, hv, hg, hh, r⟩
  · exact Or.inl h2
  · refine Or.inr ⟨g, cap, cur, hv, hg, ?_, r⟩
    rw [hb.block g (hl g (by rw [hv]; rfl)).2]; exact hh

set_option maxHeartbeats 1000000 in
theorem law3_some (a0 : Int) (a1 : ByteArray) (a2 : Int) (x : Addr) (n c : Nat) (zs : List Int) (w : World) (w1 : a1.size ≤ maxLen) (hm : n ≤ maxLen) (hz : zs.length = n)
    (hcopy : n ≤ 4096 → Calls Try.prog 9 #[.slice (some x) n c] w fun e w' => e = .returned (.slice (some ⟨w.heap.size, 0, none⟩) n n) ∧ w'.ownsRow w.heap.size 3 1 (.slice (some ⟨w.heap.size, 0, none⟩) n n) n (zs.map (Value.int .i64)) ∧ Below w.heap.size w w') :
    Calls Try.prog 3 #[.int .i64 a0, .string a1, .int .u64 a2, .slice (some x) n c] w fun e w' => e = .returned (.bool true) ∧ Below w.heap.size w w' := by
  have HC : Hid (n ≤ 4096 → Calls Try.prog 9 #[.slice (some x) n c] w fun e w' => e = .returned (.slice (some ⟨w.heap.size, 0, none⟩) n n) ∧ w'.ownsRow w.heap.size 3 1 (.slice (some ⟨w.heap.size, 0, none⟩) n n) n (zs.map (Value.int .i64)) ∧ Below w.heap.size w w') := hcopy
  clear hcopy
  have hb8 := bytes8 a0 a1 a2 (some x) n c w1 hm w
  unfold maxLen at w1 hm
  have HB : Hid (Calls Try.prog 8 #[.int .i64 a0, .string a1, .int .u64 a2, .slice (some x) n c] w fun e w' => ∃ b : Bool, e = .returned (.bool b) ∧ w' = w) := hb8
  clear hb8
  have HZ : Hid (zs.length = n) := hz
  clear hz
  by_cases h1 : n ≤ 4096
  · by_cases h2 : a1.size + 8 * n ≤ 1048576
    · go_enter Try.func3, Try.ntmps3
      go_wp2_with fail
      refine HB.out.mono ?_
      rintro e w' ⟨b, rfl, rfl⟩
      cases b
      · go_wp2
        go_ret
        exact ⟨rfl, Below.refl _ _⟩
      · go_wp2_with fail
        refine (HC.out h1).mono ?_
        rintro e w2 ⟨rfl, hown, hbel⟩
        have hlt := (hown.lt _ rfl).2
        go_wp2_with fail
        refine (array11 a0 a1 a2 _ n zs HZ.out h1 w2 hlt (cells_of_row HZ.out hown)).mono ?_
        rintro e w3 ⟨xs, rfl, hown3, hel, hbel3⟩
        go_wp2_with fail
        refine (hom10 a0 a1 a2 _ n zs HZ.out h1 w3 _ xs hown3 hel).mono ?_
        rintro e w4 ⟨rfl, hbel4⟩
        go_wp2_with fail
        have hs3 := hbel3.size
        have hown4 : w4.ownsRow w'.heap.size 3 1 (.slice (some ⟨w'.heap.size, 0, none⟩) n n) n (zs.map (Value.int .i64)) := own_below (own_below hown hbel3) hbel4
        refine (allowB a0 _ n zs HZ.out h1 w4 (hown4.lt _ rfl).2 (cells_of_row HZ.out hown4)).mono ?_
        rintro e w5 ⟨rfl, hbel5⟩
        go_wp2
        go_ret
        have s4 := hbel4.size
        exact ⟨ret_bool (a := homB a0 zs == allB a0 zs) (by rw [same]; simp), hbel.trans ((hbel3.mono (by omega)).trans ((hbel4.mono (by omega)).trans (hbel5.mono (by omega))))⟩
    · go_enter Try.func3, Try.ntmps3
      go_wp2_with fail
      refine HB.out.mono ?_
      rintro e w' ⟨b, rfl, rfl⟩
      cases b
      all_goals
        go_wp2
        all_goals
          go_ret
          exact ⟨rfl, Below.refl _ _⟩
  · go_enter Try.func3, Try.ntmps3
    go_wp2_with fail
    refine HB.out.mono ?_
    rintro e w' ⟨b, rfl, rfl⟩
    cases b
    all_goals
      go_wp2
      all_goals
        go_ret
        exact ⟨rfl, Below.refl _ _⟩

set_option maxHeartbeats 1000000 in
theorem law3_nil (a0 : Int) (a1 : ByteArray) (a2 : Int) (w : World) (w1 : a1.size ≤ maxLen) :
    Calls Try.prog 3 #[.int .i64 a0, .string a1, .int .u64 a2, .slice none 0 0] w fun e w' => e = .returned (.bool true) ∧ Below w.heap.size w w' := by
  have hb8 := bytes8 a0 a1 a2 none 0 0 w1 (Nat.zero_le _) w
  unfold maxLen at w1
  have HB : Hid (Calls Try.prog 8 #[.int .i64 a0, .string a1, .int .u64 a2, .slice none 0 0] w fun e w' => ∃ b : Bool, e = .returned (.bool b) ∧ w' = w) := hb8
  clear hb8
  by_cases h2 : a1.size ≤ 1048576
  · go_enter Try.func3, Try.ntmps3
    go_wp2_with fail
    refine HB.out.mono ?_
    rintro e w' ⟨b, rfl, rfl⟩
    cases b
    · go_wp2
      go_ret
      exact ⟨rfl, Below.refl _ _⟩
    · go_wp2_with fail
      refine (copy9_nil _).mono ?_
      rintro e w2 ⟨rfl, rfl⟩
      go_wp2_with fail
      refine (array11_nil a0 a1 a2 _).mono ?_
      rintro e w3 ⟨xs, rfl, hown3, hbel3⟩
      go_wp2_with fail
      refine (hom10 a0 a1 a2 _ 0 [] rfl (by omega) w3 _ xs hown3 (fun i hi => absurd hi (Nat.not_lt_zero _))).mono ?_
      rintro e w4 ⟨rfl, hbel4⟩
      go_wp2_with fail
      refine (allow12_nil a0 none 0 w4).mono ?_
      rintro e w5 ⟨rfl, hbel5⟩
      go_wp2
      go_ret
      have s3 := hbel3.size
      have s4 := hbel4.size
      exact ⟨ret_bool (a := homB a0 []) (b := true) (by simp [homB, hom]), hbel3.trans ((hbel4.mono (by omega)).trans (hbel5.mono (by omega)))⟩
  · go_enter Try.func3, Try.ntmps3
    go_wp2_with fail
    refine HB.out.mono ?_
    rintro e w' ⟨b, rfl, rfl⟩
    cases b
    all_goals
      go_wp2
      all_goals
        go_ret
        exact ⟨rfl, Below.refl _ _⟩
end Go.Proofs.Qxb6602343a
