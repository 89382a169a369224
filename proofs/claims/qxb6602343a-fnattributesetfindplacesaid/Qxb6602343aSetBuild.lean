/-
  'zzBuildSet'.
-/
import Derived.Test.Qxb6602343aSetKeys
namespace Go.Proofs.Qxb6602343a
open Go.RowKit Go.Maps SetPlain

theorem inv_new2 (w : World) : Inv (w.alloc (.cells #[.slice none 0 0, .map none, .int .i64 0] 44)) w.heap.size [] (.slice none 0 0) none :=
  ⟨heap_alloc_new w _, World.ownsRow_nil _ _ _ _, dist_nil, (fun p hp => by cases hp), .inl ⟨rfl, by simp⟩⟩

/-- 'Find', the answer under a name. -/
theorem find_y {w : World} {sb : Nat} {ps : List (ByteArray × Nat)} {v : Value} {m : Option Nat} (h : Inv w sb ps v m) (hm : ps.length ≤ 1048576) (q : ByteArray) (hq : q.size ≤ maxLen) (x : Int) (hx : ix q 0 (ps.map Prod.fst) = x) :
    Calls Try.prog 18 #[.pointer (some ⟨sb, 0, none⟩), .string q] w fun e w' => e = .returned (.int .i64 x) ∧ Below w.heap.size w w' := by
  subst hx; exact find18 h hm q hq

theorem inv_slice {w : World} {sb : Nat} {ps : List (ByteArray × Nat)} {v : Value} {m : Option Nat} (h : Inv w sb ps v m) : ∃ ao c, v = .slice ao ps.length c := by
  rcases own_shape h.own with ⟨rfl, h0⟩ | ⟨g, cap, rfl, _⟩
  · exact ⟨none, 0, by rw [h0]⟩
  · exact ⟨_, _, rfl⟩

set_option maxHeartbeats 1000000 in
theorem build17 (ao : Option Addr) (n B : Nat) (ss : List ByteArray) (hz : ss.length = n) (hn : n ≤ 65536) (hss : ∀ s ∈ ss, s.size ≤ maxLen) (w : World) (h : Keys w ao n ss B) :
    Calls Try.prog 17 #[.slice ao n n] w fun e w' => ∃ v m, e = .returned (.pointer (some ⟨w.heap.size, 0, none⟩)) ∧ Inv w' w.heap.size (built ss n) v m ∧ Below w.heap.size w w' := by
  have hinv := inv_new2 w
  have hb0 : Below w.heap.size w (w.alloc (.cells #[.slice none 0 0, .map none, .int .i64 0] 44)) := (Below.refl _ _).alloc (Nat.le_refl _) _
  have HZ : Hid (ss.length = n) := hz
  have HSS : Hid (∀ s ∈ ss, s.size ≤ maxLen) := hss
  clear hz hss
  by_cases h0 : n = 0
  · subst h0
    go_enter Try.func17, Try.ntmps17
    go_wp2
    refine wp_loop_rounds 1 ?_
    rw [rounds_succ]
    go_wp2
    go_ret
    exact ⟨_, _, rfl, hinv, hb0⟩
  · obtain ⟨rfl, hB1, hcells⟩ := h (by omega)
    have HC : Hid (∀ i, i < n → w.cell? ⟨B, i, none⟩ = some (.string (ss.getD i ByteArray.empty))) := hcells
    clear hcells
    go_enter Try.func17, Try.ntmps17
    go_wp2
    go_loopw [4] (fun jj wr => ∃ (k : Nat) (v : Value) (m : Option Nat), k ≤ n ∧ jj = .int .i64 k ∧ Inv wr w.heap.size (built ss k) v m ∧ Below w.heap.size w wr) (fun jj _ => n - (intOf jj).toNat)
    case atStart => exact ⟨0, _, _, Nat.zero_le _, rfl, hinv, hb0⟩
    case round =>
      clear hinv
      obtain ⟨k, v, m, hk, rfl, hinv, hbel⟩ := hrel
      by_cases hlt : k < n
      · have hbl := built_len ss k
        obtain ⟨s, hs⟩ : ∃ s, ss.getD k ByteArray.empty = s := ⟨_, rfl⟩
        have c0 : wr.cell? ⟨B, k, none⟩ = some (.string s) := by rw [← hs]; exact (hbel.cell hB1).trans (HC.out k hlt)
        have hsm : s.size ≤ maxLen := HSS.out s (by rw [← hs]; simp [List.getD, HZ.out, hlt])
        have HG : Hid (built ss (k + 1) = grow (built ss k) s k) := by show _ = _; rw [built_succ, hs]
        clear hs
        by_cases hnew : ix s 0 ((built ss k).map Prod.fst) = -1
        · have HN : Hid (ix s 0 ((built ss k).map Prod.fst) = -1) := hnew
          clear hnew
          go_wp2_with fail
          refine (find_y hinv (by omega) s hsm (-1) HN.out).mono ?_
          rintro e wa ⟨rfl, ha⟩
          have hia := hinv.below ha
          have ca : wa.cell? ⟨B, k, none⟩ = some (.string s) := (ha.cell (by exact block_lt_of_cell c0)).trans c0
          go_wp2_with fail
          refine (attr22 s k (by omega) wa).mono ?_
          rintro e wb ⟨rfl, hb⟩
          have hib := hia.below hb
          go_wp2_with fail
          refine (add21 hib (by omega) s hsm k HN.out).mono ?_
          rintro e wx ⟨rfl, hbx, v2, m2, hix⟩
          rw [← grow_new (j := k) HN.out, ← HG.out] at hix
          have hbxx : Below w.heap.size w wx := (hbel.trans (ha.mono (by have := hbel.size; omega))).trans ((hb.mono (by have := hbel.size; have := ha.size; omega)).trans hbx)
          go_wp2
          go_roundw
          case rel => exact ⟨k + 1, _, _, by omega, by go_num, hix, hbxx⟩
          case measure => simp [intOf]; omega
        · have HN : Hid (ix s 0 ((built ss k).map Prod.fst) ≠ -1) := hnew
          obtain ⟨z, hz⟩ : ∃ z, ix s 0 ((built ss k).map Prod.fst) = z := ⟨_, rfl⟩
          rw [hz] at hnew
          have HZZ : Hid (ix s 0 ((built ss k).map Prod.fst) = z) := hz
          clear hz
          have hz1 : (z == -1) = false := by simpa using hnew
          clear hnew
          go_wp2_with fail
          refine (find_y hinv (by omega) s hsm z HZZ.out).mono ?_
          rintro e wx ⟨rfl, ha⟩
          have hix := hinv.below ha
          rw [← grow_old (j := k) HN.out, ← HG.out] at hix
          have hbxx : Below w.heap.size w wx := hbel.trans (ha.mono (by have := hbel.size; omega))
          go_wp2
          go_roundw
          case rel => exact ⟨k + 1, _, _, by omega, by go_num, hix, hbxx⟩
          case measure => simp [intOf]; omega
      · have hkn : k = n := by omega
        subst hkn
        go_wp2
        go_ret
        exact ⟨v, m, rfl, hinv, hbel⟩
end Go.Proofs.Qxb6602343a
