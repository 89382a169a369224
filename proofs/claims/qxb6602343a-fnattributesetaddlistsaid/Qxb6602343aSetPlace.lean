/-
  'FnAttributeSetFindPlace' out of her callees' contracts.
-/
import Derived.Test.Qxb6602343aSetBuild
import Derived.Test.Qxb6602343aSetPlain2
namespace Go.Proofs.Qxb6602343a
open Go.RowKit Go.Maps SetPlain

/-- 'zzFirst', the answer under a name. -/
theorem first_x (ao : Option Addr) (n B u : Nat) (ss : List ByteArray) (hz : ss.length = n) (hu : u ≤ n) (hn : n ≤ 1048576) (q : ByteArray) (w : World) (h : Keys w ao n ss B) (x : Int) (hx : ix q 0 (ss.take u) = x) :
    Calls Try.prog 19 #[.slice ao n n, .int .i64 u, .string q] w fun e w' => e = .returned (.int .i64 x) ∧ w' = w := by
  subst hx; exact first19 ao n B u ss hz hu hn q w h

set_option maxHeartbeats 2000000 in
theorem place5 (ao : Option Addr) (n c : Nat) (ss : List ByteArray) (q : ByteArray) (hz : ss.length = n) (hn : n ≤ maxLen) (hq : q.size ≤ maxLen) (hss : ∀ s ∈ ss, s.size ≤ maxLen) (w : World) (h : Strs w ao n ss) :
    Calls Try.prog 5 #[.slice ao n c, .string q] w fun e w' => e = .returned (.bool true) ∧ Below w.heap.size w w' := by
  have hB := bytes14 ao n c ss q hn hq w h
  have hF := fit15 ao n c ss q hn hq w h
  have HB : Hid (Calls Try.prog 14 #[.slice ao n c, .string q] w fun e w' => ∃ b : Bool, e = .returned (.bool b) ∧ w' = w) := hB
  have HF : Hid (Calls Try.prog 15 #[.slice ao n c, .string q] w fun e w' => ∃ b : Bool, e = .returned (.bool b) ∧ w' = w) := hF
  have HS : Hid (Strs w ao n ss) := h
  have HZ : Hid (ss.length = n) := hz
  have HQ : Hid (q.size ≤ maxLen) := hq
  have HSS : Hid (∀ s ∈ ss, s.size ≤ maxLen) := hss
  clear hB hF h hz hq hss
  unfold maxLen at hn
  by_cases h1 : n ≤ 4096
  · go_enter Try.func5, Try.ntmps5
    go_wp2_with fail
    refine HB.out.mono ?_
    rintro e w' ⟨b, rfl, hw⟩
    subst hw
    cases b
    · go_wp2
      go_ret
      exact ⟨rfl, Below.refl _ _⟩
    · go_wp2_with fail
      refine HF.out.mono ?_
      rintro e w' ⟨b, rfl, hw⟩
      subst hw
      cases b
      · go_wp2
        go_ret
        exact ⟨rfl, Below.refl _ _⟩
      · go_wp2_with fail
        refine (copy16 ao n c ss HZ.out (by omega) _ HS.out).mono ?_
        rintro e w1 ⟨ao', rfl, hkeys, hbel1⟩
        have HK : Hid (Keys w1 ao' n ss w'.heap.size) := hkeys
        clear hkeys
        go_wp2_with fail
        refine (build17 ao' n w'.heap.size ss HZ.out (by omega) HSS.out w1 HK.out).mono ?_
        rintro e w2 ⟨v, m, rfl, hinv, hbel2⟩
        have hbl := built_len ss n
        have hs1 := hbel1.size
        obtain ⟨x, hx⟩ : ∃ x, ix q 0 ((built ss n).map Prod.fst) = x := ⟨_, rfl⟩
        have HX : Hid (ix q 0 ((built ss n).map Prod.fst) = x) := hx
        clear hx
        go_wp2_with fail
        refine (find_y hinv (by omega) q HQ.out x HX.out).mono ?_
        rintro e w3 ⟨rfl, hbel3⟩
        have hs2 := hbel2.size
        have hb3 : Below w1.heap.size w1 w3 := hbel2.trans (hbel3.mono hs2)
        have HK3 : Hid (Keys w3 ao' n ss w'.heap.size) := HK.out.below hb3 (fun hp => (HK.out hp).2.1)
        obtain ⟨y, hy⟩ : ∃ y, ix q 0 (ss.take n) = y := ⟨_, rfl⟩
        have HY : Hid (ix q 0 (ss.take n) = y) := hy
        have HT : Hid (ss.take n = ss) := List.take_of_length_le (by rw [HZ.out]; exact Nat.le_refl _)
        go_wp2_with fail
        refine (first_x ao' n w'.heap.size n ss HZ.out (Nat.le_refl _) (by omega) q w3 HK3.out y HY.out).mono ?_
        rintro e w4 ⟨rfl, rfl⟩
        have hend : Below w'.heap.size w' w4 := hbel1.trans (hb3.mono hs1)
        by_cases hneg : y = -1
        · have hxx : x = -1 := by
            rw [← HX.out, built_has q ss n (by rw [HZ.out]; exact Nat.le_refl _)]
            rw [HY.out]; exact hneg
          subst hneg
          subst hxx
          clear hy
          go_wp2
          go_ret
          exact ⟨rfl, hend⟩
        · obtain ⟨P, hP1, hP2, hP3, hP4⟩ := ix_first q ss 0 (by rw [← HT.out, HY.out]; exact hneg)
          have hyP : y = (P : Int) := by rw [← HY.out, HT.out, hP1]; simp
          have hPn : P < n := by rw [← HZ.out]; exact hP2
          have HXP : Hid (x = ((built ss P).length : Int)) := by
            show _ = _
            rw [← HX.out]
            have := built_place q ss P hP2 hP3 hP4
            rw [HZ.out] at this; exact this
          clear hy hneg hP1 hP2 hP3 hP4
          subst hyP
          obtain ⟨hao, hB1, hcells⟩ := HK3.out (by omega)
          subst hao
          have HC : Hid (∀ i, i < n → w4.cell? ⟨w'.heap.size, i, none⟩ = some (.string (ss.getD i ByteArray.empty))) := hcells
          clear hcells
          go_wp2
          go_loop [8, 9] (fun wt jj => ∃ k : Nat, k ≤ P ∧ jj = .int .i64 k ∧ wt = .int .i64 ((built ss k).length : Int)) (fun _ jj => P - (intOf jj).toNat)
          case atStart => exact ⟨0, Nat.zero_le _, rfl, rfl⟩
          case round =>
            obtain ⟨k, hk, rfl, rfl⟩ := hrel
            by_cases hlt : k < P
            · obtain ⟨s, hs⟩ : ∃ s, ss.getD k ByteArray.empty = s := ⟨_, rfl⟩
              have c0 : w4.cell? ⟨w'.heap.size, k, none⟩ = some (.string s) := by rw [← hs]; exact HC.out k (by omega)
              have hbk := built_len ss k
              obtain ⟨z, hz⟩ : ∃ z, ix s 0 (ss.take k) = z := ⟨_, rfl⟩
              have HZ2 : Hid (ix s 0 (ss.take k) = z) := hz
              by_cases hzz : z = -1
              · have HL : Hid (((built ss (k + 1)).length : Int) = ((built ss k).length : Int) + 1) := by
                  show _ = _
                  rw [built_step_new ss k (by rw [HZ.out]; omega) (by rw [hs, hz]; exact hzz)]; simp
                subst hzz
                clear hs hz
                obtain ⟨L, hL⟩ : ∃ L, (built ss k).length = L := ⟨_, rfl⟩
                rw [hL] at hbk ⊢
                have HL2 : Hid ((built ss k).length = L) := hL
                clear hL
                go_wp2_with fail
                refine (first_x _ n w'.heap.size k ss HZ.out (by omega) (by omega) s w4 HK3.out (-1) HZ2.out).mono ?_
                rintro e w5 ⟨rfl, rfl⟩
                go_wp2
                go_round
                case rel => exact ⟨k + 1, by omega, by go_num, by rw [HL.out, HL2.out]⟩
                case measure => simp [intOf]; omega
              · have HL : Hid ((built ss (k + 1)).length = (built ss k).length) := by
                  show _ = _
                  rw [built_step_old ss k (by rw [HZ.out]; omega) (by rw [hs, hz]; exact hzz)]
                have hz1 : (z == -1) = false := by simpa using hzz
                clear hs hz hzz
                go_wp2_with fail
                refine (first_x _ n w'.heap.size k ss HZ.out (by omega) (by omega) s w4 HK3.out z HZ2.out).mono ?_
                rintro e w5 ⟨rfl, rfl⟩
                go_wp2
                go_round
                case rel => exact ⟨k + 1, by omega, by go_num, by rw [HL.out]⟩
                case measure => simp [intOf]; omega
            · have hkP : k = P := by omega
              subst hkP
              have hx2 := HXP.out
              go_wp2
              go_ret
              exact ⟨rfl, hend⟩
  · go_enter Try.func5, Try.ntmps5
    go_wp2_with fail
    refine HB.out.mono ?_
    rintro e w' ⟨b, rfl, hw⟩
    subst hw
    cases b
    all_goals
      go_wp2
      go_ret
      exact ⟨rfl, Below.refl _ _⟩
end Go.Proofs.Qxb6602343a
