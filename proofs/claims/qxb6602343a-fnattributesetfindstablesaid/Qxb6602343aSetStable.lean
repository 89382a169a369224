/-
  'FnAttributeSetFindStable' out of her callees' contracts.
-/
import Derived.Test.Qxb6602343aSetKeys
namespace Go.Proofs.Qxb6602343a
open Go.RowKit Go.Maps SetPlain

/-- A new set. -/
theorem inv_new (w : World) : Inv (w.alloc (.cells #[.slice none 0 0, .map none, .int .i64 0] 44)) w.heap.size [] (.slice none 0 0) none :=
  ⟨heap_alloc_new w _, World.ownsRow_nil _ _ _ _, dist_nil, (fun p hp => by cases hp), .inl ⟨rfl, by simp⟩⟩

/-- 'Find', the answer under a name. -/
theorem find_x {w : World} {sb : Nat} {ps : List (ByteArray × Nat)} {v : Value} {m : Option Nat} (h : Inv w sb ps v m) (hm : ps.length ≤ 1048576) (q : ByteArray) (hq : q.size ≤ maxLen) (x : Int) (hx : ix q 0 (ps.map Prod.fst) = x) :
    Calls Try.prog 18 #[.pointer (some ⟨sb, 0, none⟩), .string q] w fun e w' => e = .returned (.int .i64 x) ∧ Below w.heap.size w w' := by
  subst hx; exact find18 h hm q hq

theorem inv_shape {w : World} {sb : Nat} {ps : List (ByteArray × Nat)} {v : Value} {m : Option Nat} (h : Inv w sb ps v m) : ∃ ao c, v = .slice ao ps.length c := by
  rcases own_shape h.own with ⟨rfl, h0⟩ | ⟨g, cap, rfl, _⟩
  · exact ⟨none, 0, by rw [h0]⟩
  · exact ⟨_, _, rfl⟩

set_option maxHeartbeats 2000000 in
theorem stable6 (ao : Option Addr) (n c : Nat) (ss : List ByteArray) (q : ByteArray) (hz : ss.length = n) (hn : n ≤ maxLen) (hq : q.size ≤ maxLen) (hss : ∀ s ∈ ss, s.size ≤ maxLen) (w : World) (h : Strs w ao n ss) :
    Calls Try.prog 6 #[.slice ao n c, .string q] w fun e w' => e = .returned (.bool true) ∧ Below w.heap.size w w' := by
  have hB := bytes20 ao n c ss q hn hq w h
  have hF := fit15 ao n c ss q hn hq w h
  have HB : Hid (Calls Try.prog 20 #[.slice ao n c, .string q] w fun e w' => ∃ b : Bool, e = .returned (.bool b) ∧ w' = w) := hB
  have HF : Hid (Calls Try.prog 15 #[.slice ao n c, .string q] w fun e w' => ∃ b : Bool, e = .returned (.bool b) ∧ w' = w) := hF
  have HS : Hid (Strs w ao n ss) := h
  have HZ : Hid (ss.length = n) := hz
  have HQ : Hid (q.size ≤ maxLen) := hq
  have HSS : Hid (∀ s ∈ ss, s.size ≤ maxLen) := hss
  clear hB hF h hz hq hss
  unfold maxLen at hn
  by_cases h1 : n ≤ 65536
  · go_enter Try.func6, Try.ntmps6
    go_wp2_with fail
    refine HB.out.mono ?_
    rintro e w' ⟨b, rfl, hw⟩
    subst hw
    cases b
    · go_wp2
      go_ret
      exact ⟨rfl, Below.refl _ _⟩
    · go_wp2_with fail
      refine HF.out.mono ?_
      rintro e w' ⟨b, rfl, hw⟩
      subst hw
      cases b
      · go_wp2
        go_ret
        exact ⟨rfl, Below.refl _ _⟩
      · go_wp2_with fail
        refine (copy16 ao n c ss HZ.out (by omega) _ HS.out).mono ?_
        rintro e w1 ⟨ao', rfl, hkeys, hbel1⟩
        by_cases h0 : n = 0
        · subst h0
          go_wp2_with fail
          have hinv := inv_new w1
          refine (find_x hinv (by simp) q HQ.out (-1) rfl).mono ?_
          rintro e w2 ⟨rfl, hbel2⟩
          go_wp2
          refine wp_loop_rounds 1 ?_
          rw [rounds_succ]
          go_wp2
          go_ret
          exact ⟨rfl, (hbel1.alloc hbel1.size _).trans (hbel2.mono (by have := hbel1.size; simp; omega))⟩
        · obtain ⟨rfl, hB1, hcells⟩ := hkeys (by omega)
          have HC : Hid (∀ i, i < n → w1.cell? ⟨w'.heap.size, i, none⟩ = some (.string (ss.getD i ByteArray.empty))) := hcells
          clear hcells
          go_wp2_with fail
          have hinv := inv_new w1
          refine (find_x hinv (by simp) q HQ.out (-1) rfl).mono ?_
          rintro e w2 ⟨rfl, hbel2⟩
          have hi2 := hinv.below hbel2
          have hb2 : Below w1.heap.size w1 w2 := ((Below.refl _ _).alloc (Nat.le_refl _) _).trans (hbel2.mono (by simp))
          have hs1 := hbel1.size
          clear hinv hbel2
          go_wp2
          go_loopw [6, 7] (fun pl jj wr => ∃ (k : Nat) (x : Int) (v : Value) (m : Option Nat), k ≤ n ∧ jj = .int .i64 k ∧ pl = .int .i64 x ∧ Hid (ix q 0 ((built ss k).map Prod.fst) = x) ∧ Inv wr w1.heap.size (built ss k) v m ∧ Below w1.heap.size w1 wr) (fun _ jj _ => n - (intOf jj).toNat)
          case atStart => exact ⟨0, -1, _, _, Nat.zero_le _, rfl, rfl, rfl, hi2, hb2⟩
          case round =>
            obtain ⟨k, x, v, m, hk, rfl, rfl, HX, hinv, hbel⟩ := hrel
            by_cases hlt : k < n
            · have hbl := built_len ss k
              obtain ⟨s, hs⟩ : ∃ s, ss.getD k ByteArray.empty = s := ⟨_, rfl⟩
              have c0 : wr.cell? ⟨w'.heap.size, k, none⟩ = some (.string s) := by rw [← hs]; exact (hbel.cell hB1).trans (HC.out k hlt)
              have hsm : s.size ≤ maxLen := HSS.out s (by rw [← hs]; simp [List.getD, HZ.out, hlt])
              have HG : Hid (built ss (k + 1) = grow (built ss k) s k) := by show _ = _; rw [built_succ, hs]
              clear hs
              by_cases hnew : ix s 0 ((built ss k).map Prod.fst) = -1
              · have HN : Hid (ix s 0 ((built ss k).map Prod.fst) = -1) := hnew
                clear hnew
                go_wp2_with fail
                refine (find_x hinv (by omega) s hsm (-1) HN.out).mono ?_
                rintro e wa ⟨rfl, ha⟩
                have hia := hinv.below ha
                have ca : wa.cell? ⟨w'.heap.size, k, none⟩ = some (.string s) := (ha.cell (by exact block_lt_of_cell c0)).trans c0
                go_wp2_with fail
                refine (attr22 s k (by omega) wa).mono ?_
                rintro e wb ⟨rfl, hb⟩
                have hib := hia.below hb
                go_wp2_with fail
                refine (add21 hib (by omega) s hsm k HN.out).mono ?_
                rintro e wx ⟨rfl, hbx, v2, m2, hix⟩
                rw [← grow_new (j := k) HN.out, ← HG.out] at hix
                have hbxx : Below w1.heap.size w1 wx := (hbel.trans (ha.mono (by have := hbel.size; omega))).trans ((hb.mono (by have := hbel.size; have := ha.size; omega)).trans hbx)
                have hbl2 := built_len ss (k + 1)
                have HKp : Hid (ix q 0 ((built ss k).map Prod.fst) ≠ -1 → ix q 0 ((built ss (k + 1)).map Prod.fst) = ix q 0 ((built ss k).map Prod.fst)) := by
                  intro hne; rw [HG.out]; exact grow_keeps q _ s k hne
                obtain ⟨y, hy⟩ : ∃ y, ix q 0 ((built ss (k + 1)).map Prod.fst) = y := ⟨_, rfl⟩
                have HY : Hid (ix q 0 ((built ss (k + 1)).map Prod.fst) = y) := hy
                have hbd := ix_bounds q ((built ss (k + 1)).map Prod.fst) 0
                rw [hy, List.length_map] at hbd
                clear hy
                obtain ⟨ao2, c2, hv2⟩ := inv_shape hix
                rw [hv2] at hix
                clear hv2
                have hg := find_x hix (by omega) q HQ.out y HY.out
                obtain ⟨L, hL⟩ : ∃ L, (built ss (k + 1)).length = L := ⟨_, rfl⟩
                rw [hL] at hbd hbl2 hix
                have HL : Hid ((built ss (k + 1)).length = L) := hL
                clear hL
                have hy1 : -1 ≤ y := by omega
                have hy2 : y < (L : Int) := by omega
                clear hbd
                have HXB : Hid (x = -1 ∨ 0 ≤ x) := by
                  have h3 := ix_bounds q ((built ss k).map Prod.fst) 0
                  rw [HX.out] at h3
                  have h4 : x = -1 ∨ 0 ≤ x := by omega
                  exact h4
                have HGC : Hid (Calls Try.prog 18 #[.pointer (some ⟨w1.heap.size, 0, none⟩), .string q] wx fun e w' => e = .returned (.int .i64 y) ∧ Below wx.heap.size wx w') := hg
                clear hg
                go_wp2_with fail
                refine HGC.out.mono ?_
                rintro e wy ⟨rfl, hby⟩
                have hiy := hix.below hby
                have cy := hiy.c0
                have hbz : Below w1.heap.size w1 wy := hbxx.trans (hby.mono (by have := hbxx.size; omega))
                rcases HXB.out with hx | hx
                · subst hx
                  go_wp2_with (go_at_call 23; refine (list23 _ _ _ cy).mono ?_; rintro e w' ⟨rfl, rfl⟩)
                  go_roundw
                  case rel => exact ⟨k + 1, y, _, _, by omega, by go_num, rfl, HY, hiy, hbz⟩
                  case measure => simp [intOf]; omega
                · have hyx : y = x := by rw [← HY.out, HKp.out (by rw [HX.out]; omega), HX.out]
                  subst hyx
                  go_wp2_with (go_at_call 23; refine (list23 _ _ _ cy).mono ?_; rintro e w' ⟨rfl, rfl⟩)
                  go_roundw
                  case rel => exact ⟨k + 1, y, _, _, by omega, by go_num, rfl, HY, hiy, hbz⟩
                  case measure => simp [intOf]; omega
              · have HN : Hid (ix s 0 ((built ss k).map Prod.fst) ≠ -1) := hnew
                obtain ⟨z, hz⟩ : ∃ z, ix s 0 ((built ss k).map Prod.fst) = z := ⟨_, rfl⟩
                rw [hz] at hnew
                have HZZ : Hid (ix s 0 ((built ss k).map Prod.fst) = z) := hz
                clear hz
                have hz1 : (z == -1) = false := by simpa using hnew
                clear hnew
                go_wp2_with fail
                refine (find_x hinv (by omega) s hsm z HZZ.out).mono ?_
                rintro e wx ⟨rfl, ha⟩
                have hix := hinv.below ha
                rw [← grow_old (j := k) HN.out, ← HG.out] at hix
                have hbxx : Below w1.heap.size w1 wx := hbel.trans (ha.mono (by have := hbel.size; omega))
                have hbl2 := built_len ss (k + 1)
                have HKp : Hid (ix q 0 ((built ss k).map Prod.fst) ≠ -1 → ix q 0 ((built ss (k + 1)).map Prod.fst) = ix q 0 ((built ss k).map Prod.fst)) := by
                  intro hne; rw [HG.out]; exact grow_keeps q _ s k hne
                obtain ⟨y, hy⟩ : ∃ y, ix q 0 ((built ss (k + 1)).map Prod.fst) = y := ⟨_, rfl⟩
                have HY : Hid (ix q 0 ((built ss (k + 1)).map Prod.fst) = y) := hy
                have hbd := ix_bounds q ((built ss (k + 1)).map Prod.fst) 0
                rw [hy, List.length_map] at hbd
                clear hy
                obtain ⟨ao2, c2, hv2⟩ := inv_shape hix
                rw [hv2] at hix
                clear hv2
                have hg := find_x hix (by omega) q HQ.out y HY.out
                obtain ⟨L, hL⟩ : ∃ L, (built ss (k + 1)).length = L := ⟨_, rfl⟩
                rw [hL] at hbd hbl2 hix
                have HL : Hid ((built ss (k + 1)).length = L) := hL
                clear hL
                have hy1 : -1 ≤ y := by omega
                have hy2 : y < (L : Int) := by omega
                clear hbd
                have HXB : Hid (x = -1 ∨ 0 ≤ x) := by
                  have h3 := ix_bounds q ((built ss k).map Prod.fst) 0
                  rw [HX.out] at h3
                  have h4 : x = -1 ∨ 0 ≤ x := by omega
                  exact h4
                have HGC : Hid (Calls Try.prog 18 #[.pointer (some ⟨w1.heap.size, 0, none⟩), .string q] wx fun e w' => e = .returned (.int .i64 y) ∧ Below wx.heap.size wx w') := hg
                clear hg
                go_wp2_with fail
                refine HGC.out.mono ?_
                rintro e wy ⟨rfl, hby⟩
                have hiy := hix.below hby
                have cy := hiy.c0
                have hbz : Below w1.heap.size w1 wy := hbxx.trans (hby.mono (by have := hbxx.size; omega))
                rcases HXB.out with hx | hx
                · subst hx
                  go_wp2_with (go_at_call 23; refine (list23 _ _ _ cy).mono ?_; rintro e w' ⟨rfl, rfl⟩)
                  go_roundw
                  case rel => exact ⟨k + 1, y, _, _, by omega, by go_num, rfl, HY, hiy, hbz⟩
                  case measure => simp [intOf]; omega
                · have hyx : y = x := by rw [← HY.out, HKp.out (by rw [HX.out]; omega), HX.out]
                  subst hyx
                  go_wp2_with (go_at_call 23; refine (list23 _ _ _ cy).mono ?_; rintro e w' ⟨rfl, rfl⟩)
                  go_roundw
                  case rel => exact ⟨k + 1, y, _, _, by omega, by go_num, rfl, HY, hiy, hbz⟩
                  case measure => simp [intOf]; omega
            · go_wp2
              go_ret
              exact ⟨rfl, hbel1.trans (hbel.mono (by omega))⟩
  · go_enter Try.func6, Try.ntmps6
    go_wp2_with fail
    refine HB.out.mono ?_
    rintro e w' ⟨b, rfl, hw⟩
    subst hw
    cases b
    all_goals
      go_wp2
      go_ret
      exact ⟨rfl, Below.refl _ _⟩
end Go.Proofs.Qxb6602343a
