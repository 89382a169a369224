/-
  'zzAllowed'.
-/
import Derived.Test.Qxb6602343aHomHom
namespace Go.Proofs.Qxb6602343a
open Go.RowKit HomPlain

set_option maxHeartbeats 400000 in
theorem allow12_not (kind : Int) (hk : kind ≠ 6) (a : Option Addr) (n c : Nat) (w : World) :
    Calls Try.prog 12 #[.int .i64 kind, .slice a n c] w fun e w' => e = .returned (.bool true) ∧ Below w.heap.size w w' := by
  go_enter Try.func12, Try.ntmps12
  go_wp2
  go_ret
  exact ⟨rfl, Below.refl _ _⟩

set_option maxHeartbeats 400000 in
theorem allow12_nil (kind : Int) (a : Option Addr) (c : Nat) (w : World) :
    Calls Try.prog 12 #[.int .i64 kind, .slice a 0 c] w fun e w' => e = .returned (.bool true) ∧ Below w.heap.size w w' := by
  by_cases hk : kind = 6
  · subst hk
    go_enter Try.func12, Try.ntmps12
    go_wp2
    refine wp_loop_rounds 1 ?_
    rw [rounds_succ]
    go_wp2
    refine wp_loop_rounds 1 ?_
    rw [rounds_succ]
    go_wp2
    go_ret
    exact ⟨rfl, Below.refl _ _⟩
  · exact allow12_not kind hk a 0 c w

set_option maxHeartbeats 1000000 in
theorem allow12 (b n : Nat) (zs : List Int) (hz : zs.length = n) (hn : n ≤ 4096) (w : World) (hb : b < w.heap.size) (hc : ∀ i, i < n → w.cell? ⟨b, i, none⟩ = some (.int .i64 (zs.getD i 0))) :
    Calls Try.prog 12 #[.int .i64 6, .slice (some ⟨b, 0, none⟩) n n] w fun e w' => e = .returned (.bool (flat zs && pairs zs)) ∧ Below w.heap.size w w' := by
  have HC : Hid (∀ i, i < n → w.cell? ⟨b, i, none⟩ = some (.int .i64 (zs.getD i 0))) := hc
  clear hc
  go_enter Try.func12, Try.ntmps12
  go_wp2
  go_loop [5] (fun i => ∃ k : Nat, k ≤ n ∧ i = .int .i64 k ∧ Hid (flat zs = flat (zs.drop k))) (fun i => n - (intOf i).toNat)
  case atStart => exact ⟨0, Nat.zero_le _, rfl, rfl⟩
  case round =>
    obtain ⟨k, hk, rfl, HE⟩ := hrel
    by_cases hlt : k < n
    · obtain ⟨z, hzz⟩ : ∃ z, zs.getD k 0 = z := ⟨_, rfl⟩
      have c0 := HC.out k hlt
      have hd : Hid (zs.drop k = z :: zs.drop (k + 1)) := by rw [drop_cons zs k (by omega), hzz]; exact rfl
      rw [hzz] at c0
      clear hzz
      by_cases h6 : z = 6 ∨ z = 7
      · have hret : Hid (false = (flat zs && pairs zs)) := by show _ = _; rw [HE.out, hd.out, flat_bad h6]; rfl
        rcases h6 with h6 | h6
        · subst h6
          go_wp2
          go_ret
          exact ⟨ret_bool (a := false) hret.out, Below.refl _ _⟩
        · subst h6
          go_wp2
          go_ret
          exact ⟨ret_bool (a := false) hret.out, Below.refl _ _⟩
      · have h7 : z ≠ 7 := fun h => h6 (.inr h)
        have h66 : z ≠ 6 := fun h => h6 (.inl h)
        have b6 : (z == 6) = false := by simpa using h66
        have b7 : (z == 7) = false := by simpa using h7
        have HN : Hid (flat zs = flat (zs.drop (k + 1))) := by show _ = _; rw [HE.out, hd.out, flat_go h66 h7]
        clear h6 h7 h66
        go_wp2
        go_round
        case rel => exact ⟨k + 1, by omega, by go_num, HN⟩
        case measure => simp [intOf]; omega
    · have hf : flat zs = true := by rw [HE.out, List.drop_eq_nil_of_le (by omega)]; rfl
      have HF : Hid (∀ b : Bool, pairs zs = b → b = (flat zs && pairs zs)) := by intro b hb; rw [hf, hb]; rfl
      clear hf HE
      go_wp2
      go_loopw [6] (fun i wr => ∃ k : Nat, k ≤ n ∧ i = .int .i64 k ∧ Hid (pairs zs = pairs (zs.drop k)) ∧ Below w.heap.size w wr) (fun i _ => n - (intOf i).toNat)
      case atStart => exact ⟨0, Nat.zero_le _, rfl, rfl, Below.refl _ _⟩
      case round =>
        obtain ⟨m, hm, rfl, HE, hbel⟩ := hrel
        by_cases hlt2 : m < n
        · obtain ⟨z, hzz⟩ : ∃ z, zs.getD m 0 = z := ⟨_, rfl⟩
          have c0 : wr.cell? ⟨b, m, none⟩ = _ := (hbel.cell hb).trans (HC.out m hlt2)
          have hd : Hid (zs.drop m = z :: zs.drop (m + 1)) := by rw [drop_cons zs m (by omega), hzz]; exact rfl
          rw [hzz] at c0
          clear hzz
          by_cases h0 : z = 0
          · have HN : Hid (pairs zs = pairs (zs.drop (m + 1))) := by show _ = _; rw [HE.out, hd.out, pairs_zero h0]
            subst h0
            go_wp2
            go_roundw
            case rel => exact ⟨m + 1, by omega, by go_num, HN, hbel⟩
            case measure => simp [intOf]; omega
          · have b0 : (z == 0) = false := by simpa using h0
            have H0 : Hid (z ≠ 0) := h0
            clear h0
            go_wp2
            go_loopw [7] (fun i wr => ∃ j : Nat, m + 1 ≤ j ∧ j ≤ n ∧ i = .int .i64 j ∧ Hid (near z (zs.drop (m + 1)) = near z (zs.drop j)) ∧ Below w.heap.size w wr) (fun i _ => n - (intOf i).toNat)
            case atStart => exact ⟨m + 1, Nat.le_refl _, by omega, by go_num, rfl, hbel⟩
            case round =>
              obtain ⟨j, hj1, hj2, rfl, HI, hbel2⟩ := hrel
              by_cases hlt3 : j < n
              · obtain ⟨y, hyy⟩ : ∃ y, zs.getD j 0 = y := ⟨_, rfl⟩
                have c1 : wr.cell? ⟨b, j, none⟩ = _ := (hbel2.cell hb).trans (HC.out j hlt3)
                have c2 : wr.cell? ⟨b, m, none⟩ = some (.int .i64 z) := (hbel2.cell hb).trans ((hbel.cell hb).symm.trans c0)
                have hd2 : Hid (zs.drop j = y :: zs.drop (j + 1)) := by rw [drop_cons zs j (by omega), hyy]; exact rfl
                rw [hyy] at c1
                clear hyy
                have i1 : (j : Int) < (n : Int) := by omega
                have i2 : (m : Int) < (n : Int) := by omega
                by_cases hy0 : y = 0
                · have HN : Hid (near z (zs.drop (m + 1)) = near z (zs.drop (j + 1))) := by show _ = _; rw [HI.out, hd2.out, near_go (.inl hy0)]
                  subst hy0
                  go_wp2
                  go_quiet (fail)
                  go_wp2
                  go_roundw
                  case rel => exact ⟨j + 1, by omega, by omega, by go_num, HN, below_drewN hbel2 _⟩
                  case measure => simp [intOf]; omega
                · have by0 : (y != 0) = true := by simpa using hy0
                  by_cases hyz : y = z
                  · have HN : Hid (near z (zs.drop (m + 1)) = near z (zs.drop (j + 1))) := by show _ = _; rw [HI.out, hd2.out, near_go (.inr hyz)]
                    subst hyz
                    clear hy0
                    go_wp2
                    go_quiet (fail)
                    go_wp2
                    go_roundw
                    case rel => exact ⟨j + 1, by omega, by omega, by go_num, HN, below_drewN hbel2 _⟩
                    case measure => simp [intOf]; omega
                  · have byz : (y != z) = true := by simpa using hyz
                    have HR : Hid (false = (flat zs && pairs zs)) := HF.out false (by rw [HE.out, hd.out, pairs_bad H0.out]; rw [HI.out, hd2.out, near_bad hy0 hyz])
                    clear hy0 hyz
                    go_wp2
                    go_quiet (fail)
                    go_wp2
                    go_ret
                    exact ⟨ret_bool (a := false) HR.out, below_drewN hbel2 _⟩
              · have HN : Hid (pairs zs = pairs (zs.drop (m + 1))) := by show _ = _; rw [HE.out, hd.out, pairs_go H0.out (by rw [HI.out, List.drop_eq_nil_of_le (by omega)]; rfl)]
                go_wp2
                go_roundw
                case rel => exact ⟨m + 1, by omega, by go_num, HN, hbel2⟩
                case measure => simp [intOf]; omega
        · have HR : Hid (true = (flat zs && pairs zs)) := HF.out true (by rw [HE.out, List.drop_eq_nil_of_le (by omega)]; rfl)
          go_wp2
          go_ret
          exact ⟨ret_bool (a := true) HR.out, hbel⟩

theorem allowB (kind : Int) (b n : Nat) (zs : List Int) (hz : zs.length = n) (hn : n ≤ 4096) (w : World) (hb : b < w.heap.size) (hc : ∀ i, i < n → w.cell? ⟨b, i, none⟩ = some (.int .i64 (zs.getD i 0))) :
    Calls Try.prog 12 #[.int .i64 kind, .slice (some ⟨b, 0, none⟩) n n] w fun e w' => e = .returned (.bool (allB kind zs)) ∧ Below w.heap.size w w' := by
  by_cases hk : kind = 6
  · subst hk; exact allow12 b n zs hz hn w hb hc
  · have e : allB kind zs = true := by simp [allB, hk]
    rw [e]; exact allow12_not kind hk _ n n w
end Go.Proofs.Qxb6602343a
