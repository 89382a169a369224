/-
  'FnAttributeSetAddList' out of her callees' contracts.
-/
import Derived.Test.Qxb6602343aSetPlace
namespace Go.Proofs.Qxb6602343a
open Go.RowKit Go.Maps SetPlain

set_option maxHeartbeats 1000000 in
/-- 'ZZValueParts' at a value that the script made. -/
theorem parts25 (k : Nat) (w : World) :
    Calls Try.prog 25 #[.agg #[.int .i64 3, .string ByteArray.empty, .int .u64 k, .slice none 0 0, .slice none 0 0]] w fun e w' => e = .returned (.tuple #[.int .i64 3, .string ByteArray.empty, .int .u64 k, .bool true]) ∧ Below w.heap.size w w' := by
  have q28 : ∀ (w : World) (a : Option Addr) (n c n' c' : Nat), (binOp .eql 28 (.slice a n c) (.slice none n' c')).run Try.prog w = .ok (.bool a.isNone) w := fun w a n c n' c' => Lib.run_eql_slice_nil w _ _ a n c n' c' Try.underlying28
  have q29 : ∀ (w : World) (a : Option Addr) (n c n' c' : Nat), (binOp .eql 29 (.slice a n c) (.slice none n' c')).run Try.prog w = .ok (.bool a.isNone) w := fun w a n c n' c' => Lib.run_eql_slice_nil w _ _ a n c n' c' Try.underlying29
  go_enter Try.func25, Try.ntmps25
  go_wp2
  go_quiet (fail)
  go_wp2
  exact bodyPost_ret (v := .tuple #[.int .i64 3, .string ByteArray.empty, .int .u64 k, .bool true]) (by simp [results, Try.results25, go_sem]) rfl ⟨rfl, below_drewN ((Below.refl _ _).alloc (Nat.le_refl _) _) _⟩

set_option maxHeartbeats 2000000 in
theorem list7 (ao : Option Addr) (n c : Nat) (ss : List ByteArray) (hz : ss.length = n) (hn : n ≤ maxLen) (hss : ∀ s ∈ ss, s.size ≤ maxLen) (w : World) (h : Strs w ao n ss) :
    Calls Try.prog 7 #[.slice ao n c] w fun e w' => e = .returned (.bool true) ∧ Below w.heap.size w w' := by
  have hB := bytes24 ao n c ss hn w h
  have hF := fit15 ao n c ss ByteArray.empty hn (by simp) w h
  have HB : Hid (Calls Try.prog 24 #[.slice ao n c] w fun e w' => ∃ b : Bool, e = .returned (.bool b) ∧ w' = w) := hB
  have HF : Hid (Calls Try.prog 15 #[.slice ao n c, .string ByteArray.empty] w fun e w' => ∃ b : Bool, e = .returned (.bool b) ∧ w' = w) := hF
  have HS : Hid (Strs w ao n ss) := h
  have HZ : Hid (ss.length = n) := hz
  have HSS : Hid (∀ s ∈ ss, s.size ≤ maxLen) := hss
  clear hB hF h hz hss
  unfold maxLen at hn
  by_cases h1 : n ≤ 4096
  · go_enter Try.func7, Try.ntmps7
    go_wp2_with fail
    refine HB.out.mono ?_
    rintro e w' ⟨b, rfl, hw⟩
    subst hw
    cases b
    · go_wp2
      go_ret
      exact ⟨rfl, Below.refl _ _⟩
    · go_wp2_with fail
      refine HF.out.mono ?_
      rintro e w' ⟨b, rfl, hw⟩
      subst hw
      cases b
      · go_wp2
        go_ret
        exact ⟨rfl, Below.refl _ _⟩
      · go_wp2_with fail
        refine (copy16 ao n c ss HZ.out (by omega) _ HS.out).mono ?_
        rintro e w1 ⟨ao', rfl, hkeys, hbel1⟩
        have HK : Hid (Keys w1 ao' n ss w'.heap.size) := hkeys
        clear hkeys
        go_wp2_with fail
        refine (build17 ao' n w'.heap.size ss HZ.out (by omega) HSS.out w1 HK.out).mono ?_
        rintro e w2 ⟨v, m, rfl, hinv, hbel2⟩
        have hbl := built_len ss n
        have hs1 := hbel1.size
        have hs2 := hbel2.size
        have hend : Below w'.heap.size w' w2 := hbel1.trans (hbel2.mono hs1)
        have HK2 : Hid (Keys w2 ao' n ss w'.heap.size) := HK.out.below hbel2 (fun hp => (HK.out hp).2.1)
        obtain ⟨L, hL⟩ : ∃ L, (built ss n).length = L := ⟨_, rfl⟩
        have HL : Hid ((built ss n).length = L) := hL
        have hshape := own_shape hinv.own
        rw [hL] at hbl hshape
        clear hL
        have cl := hinv.c0
        by_cases h0 : n = 0
        · subst h0
          have hL0 : L = 0 := by omega
          subst hL0
          obtain ⟨ao2, c2, hv⟩ : ∃ ao2 c2, v = .slice ao2 0 c2 := by
            rcases hshape with ⟨rfl, _⟩ | ⟨g, cap, rfl, _⟩
            · exact ⟨_, _, rfl⟩
            · exact ⟨_, _, rfl⟩
          subst hv
          clear hshape
          go_wp2_with fail
          refine (list23 _ _ _ cl).mono ?_
          rintro e w3 ⟨rfl, rfl⟩
          go_wp2
          refine wp_loop_rounds 1 ?_
          rw [rounds_succ]
          go_wp2
          refine wp_loop_rounds 1 ?_
          rw [rounds_succ]
          go_wp2
          go_ret
          exact ⟨rfl, hend⟩
        · obtain ⟨hao, hB1, hcells⟩ := HK2.out (by omega)
          subst hao
          have HC : Hid (∀ i, i < n → w2.cell? ⟨w'.heap.size, i, none⟩ = some (.string (ss.getD i ByteArray.empty))) := hcells
          clear hcells
          have hLp : 0 < L := by
            have h3 := built_at ss 0 n (by omega) (by rw [HZ.out]; exact Nat.le_refl _) rfl
            rw [← HL.out]
            rcases Nat.eq_zero_or_pos (built ss n).length with e | e
            · rw [List.eq_nil_of_length_eq_zero e] at h3; simp at h3
            · exact e
          obtain ⟨g, cap, hv, hgb, hgs⟩ : ∃ g cap, v = .slice (some ⟨g, 0, none⟩) L cap ∧ w1.heap.size + 1 ≤ g ∧ g < w2.heap.size := by
            rcases hshape with ⟨_, h9⟩ | ⟨g, cap, h9, h8, h7, _⟩
            · omega
            · exact ⟨g, cap, h9, h8, h7⟩
          subst hv
          clear hshape
          have ho := hinv.own
          have HO : Hid (w2.ownsRow (w1.heap.size + 1) 47 6 (.slice (some ⟨g, 0, none⟩) L cap) L ((built ss n).flatMap attr)) := by
            rw [HL.out] at ho; exact ho
          have HI : Hid (Inv w2 w1.heap.size (built ss n) (.slice (some ⟨g, 0, none⟩) L cap) m) := hinv
          clear ho hinv
          go_wp2_with fail
          refine (list23 _ _ _ cl).mono ?_
          rintro e w3 ⟨rfl, rfl⟩
          go_wp2
          go_loopw [5, 6] (fun cn jj wr => ∃ (k : Nat) (cc : Nat), k ≤ n ∧ jj = .int .i64 k ∧ cn = .int .i64 cc ∧ Hid ((built ss k).length = cc) ∧ Below w3.heap.size w3 wr) (fun _ jj _ => n - (intOf jj).toNat)
          case atStart => exact ⟨0, 0, Nat.zero_le _, rfl, rfl, rfl, Below.refl _ _⟩
          case round =>
            obtain ⟨k, cc, hk, rfl, rfl, HCC, hbel⟩ := hrel
            have hsr := hbel.size
            by_cases hlt : k < n
            · obtain ⟨s, hs⟩ : ∃ s, ss.getD k ByteArray.empty = s := ⟨_, rfl⟩
              have c0 : wr.cell? ⟨w'.heap.size, k, none⟩ = some (.string s) := by rw [← hs]; exact (hbel.cell hB1).trans (HC.out k hlt)
              have HKr : Hid (Keys wr (some ⟨w'.heap.size, 0, none⟩) n ss w'.heap.size) := HK2.out.below hbel (fun _ => hB1)
              obtain ⟨z, hz⟩ : ∃ z, ix s 0 (ss.take k) = z := ⟨_, rfl⟩
              have HZ2 : Hid (ix s 0 (ss.take k) = z) := hz
              have hkz : k < ss.length := by rw [HZ.out]; exact hlt
              by_cases hzz : z = -1
              · have hnewk : ix (ss.getD k ByteArray.empty) 0 (ss.take k) = -1 := by rw [hs, hz]; exact hzz
                have hat := built_at ss k n hlt (by rw [HZ.out]; exact Nat.le_refl _) hnewk
                rw [HCC.out, hs] at hat
                have hcL : cc < L := by
                  rcases Nat.lt_or_ge cc L with h5 | h5
                  · exact h5
                  · rw [List.getElem?_eq_none (by rw [HL.out]; exact h5)] at hat; cases hat
                have HC1 : Hid ((built ss (k + 1)).length = cc + 1) := by
                  show _ = _
                  rw [built_step_new ss k hkz hnewk, List.length_append, HCC.out]; rfl
                obtain ⟨a0, a1, a2, a3, a4, a5⟩ := cells6 HO.out hat hcL
                have e0 : wr.cell? ⟨g, cc * 6, none⟩ = some (.string s) := (hbel.cell hgs).trans a0
                have e1 : wr.cell? ⟨g, cc * 6 + 1, none⟩ = _ := (hbel.cell hgs).trans a1
                have e2 : wr.cell? ⟨g, cc * 6 + 2, none⟩ = _ := (hbel.cell hgs).trans a2
                have e3 : wr.cell? ⟨g, cc * 6 + 3, none⟩ = some (.int .u64 k) := (hbel.cell hgs).trans a3
                have e4 : wr.cell? ⟨g, cc * 6 + 4, none⟩ = _ := (hbel.cell hgs).trans a4
                have e5 : wr.cell? ⟨g, cc * 6 + 5, none⟩ = _ := (hbel.cell hgs).trans a5
                clear a0 a1 a2 a3 a4 a5 hat hnewk hz hs
                subst hzz
                have i1 : (cc : Int) < (L : Int) := by omega
                have i2 : (k : Int) < (n : Int) := by omega
                go_wp2_with fail
                refine (first_x _ n w'.heap.size k ss HZ.out (by omega) (by omega) s wr HKr.out (-1) HZ2.out).mono ?_
                rintro e w5 ⟨rfl, rfl⟩
                go_wp2
                go_quiet (fail)
                go_wp2_with fail
                refine (parts25 k _).mono ?_
                rintro e w6 ⟨rfl, hb6⟩
                have hb7 : Below w3.heap.size w3 w6 := hbel.trans ((below_drewN (Below.refl _ _) _).trans (hb6.mono hsr))
                go_wp2
                go_roundw
                case rel => exact ⟨k + 1, cc + 1, by omega, by go_num, by go_num, HC1, hb7⟩
                case measure => simp [intOf]; omega
              · have HC1 : Hid ((built ss (k + 1)).length = cc) := by
                  show _ = _
                  rw [built_step_old ss k hkz (by rw [hs, hz]; exact hzz), HCC.out]
                have hz0 : 0 ≤ z := by have h9 := ix_bounds s (ss.take k) 0; rw [hz] at h9; omega
                have hz1 : (z == -1) = false := by simpa using hzz
                clear hs hz hzz hkz cl hLp hgb
                go_wp2_with fail
                refine (first_x _ n w'.heap.size k ss HZ.out (by omega) (by omega) s wr HKr.out z HZ2.out).mono ?_
                rintro e w5 ⟨rfl, rfl⟩
                set_option maxRecDepth 20000 in go_wp2
                go_roundw
                case rel => exact ⟨k + 1, cc, by omega, by go_num, rfl, HC1, hbel⟩
                case measure => simp [intOf]; omega
            · have hkn : k = n := by omega
              subst hkn
              have hcc : cc = L := by rw [← HCC.out, HL.out]
              subst hcc
              go_wp2
              go_loopw [11] (fun ii wr => ∃ i : Nat, i ≤ cc ∧ ii = .int .i64 i ∧ Below w3.heap.size w3 wr) (fun ii _ => cc - (intOf ii).toNat)
              case atStart => exact ⟨0, Nat.zero_le _, rfl, hbel⟩
              case round =>
                obtain ⟨i, hi, rfl, hbi⟩ := hrel
                have hsi := hbi.size
                by_cases hli : i < cc
                · obtain ⟨p, hp⟩ : ∃ p, (built ss k)[i]? = some p := ⟨_, List.getElem?_eq_getElem (by rw [HCC.out]; exact hli)⟩
                  obtain ⟨a0, _⟩ := cells6 HO.out hp hli
                  have e0 : wr.cell? ⟨g, i * 6, none⟩ = some (.string p.1) := (hbi.cell hgs).trans a0
                  have HX : Hid (ix p.1 0 ((built ss k).map Prod.fst) = (i : Int)) := dist_ix HI.out.dist i p hp
                  have hps : p.1.size ≤ maxLen := HI.out.small p (List.mem_of_getElem? hp)
                  have HI2 : Hid (Inv wr w1.heap.size (built ss k) (.slice (some ⟨g, 0, none⟩) cc cap) m) := HI.out.below hbi
                  clear a0 hp
                  obtain ⟨pk, pj⟩ := p
                  dsimp only at e0 hps HX
                  go_wp2_with fail
                  refine (find_y HI2.out (by rw [HCC.out]; omega) pk hps i HX.out).mono ?_
                  rintro e w7 ⟨rfl, hb7⟩
                  have hb8 : Below w3.heap.size w3 w7 := hbi.trans (hb7.mono hsi)
                  go_wp2
                  go_roundw
                  case rel => exact ⟨i + 1, by omega, by go_num, hb8⟩
                  case measure => simp [intOf]; omega
                · go_wp2
                  go_ret
                  exact ⟨rfl, hend.trans (hbi.mono (by omega))⟩
  · go_enter Try.func7, Try.ntmps7
    go_wp2_with fail
    refine HB.out.mono ?_
    rintro e w' ⟨b, rfl, hw⟩
    subst hw
    cases b
    all_goals
      go_wp2
      go_ret
      exact ⟨rfl, Below.refl _ _⟩
end Go.Proofs.Qxb6602343a
