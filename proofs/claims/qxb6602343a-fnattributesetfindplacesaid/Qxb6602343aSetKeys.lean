/-
  'zzCopyStrings', 'zzFirst'.
-/
import Derived.Test.Qxb6602343aSetSmall
namespace Go.Proofs.Qxb6602343a
open Go.RowKit Go.Maps SetPlain

/-- The copy of the keys: in block B. -/
def Keys (w : World) (ao : Option Addr) (n : Nat) (ss : List ByteArray) (B : Nat) : Prop :=
  0 < n → ao = some ⟨B, 0, none⟩ ∧ B < w.heap.size ∧ ∀ i, i < n → w.cell? ⟨B, i, none⟩ = some (.string (ss.getD i ByteArray.empty))
theorem Keys.below {w w' : World} {ao : Option Addr} {n B C : Nat} {ss : List ByteArray} (h : Keys w ao n ss B) (hb : Below C w w') (hC : 0 < n → B < C) : Keys w' ao n ss B := by
  intro hn
  obtain ⟨h1, h2, h3⟩ := h hn
  exact ⟨h1, Nat.lt_of_lt_of_le h2 hb.size, fun i hi => (hb.cell (hC hn)).trans (h3 i hi)⟩

theorem Try.info9 : (Try.prog.info? 9).map (fun i => (i.zero, i.size, i.bytes)) = some (some (.string ByteArray.empty), 1, 16) := by kernel_rfl

def laidS (zs : List ByteArray) (n k : Nat) : List Value := (zs.take k).map Value.string ++ List.replicate (n - k) (.string ByteArray.empty)
theorem laidS_zero (zs : List ByteArray) (n : Nat) : laidS zs n 0 = List.replicate n (.string ByteArray.empty) := by simp [laidS]
theorem laidS_step (zs : List ByteArray) (n k : Nat) (hz : n ≤ zs.length) (hk : k < n) : (laidS zs n k).set k (.string (zs.getD k ByteArray.empty)) = laidS zs n (k + 1) := by
  unfold laidS
  have hl : ((zs.take k).map Value.string).length = k := by simp; omega
  rw [List.set_append, if_neg (by omega), hl, Nat.sub_self, List.take_succ_eq_append_getElem (by omega)]
  obtain ⟨m, hm⟩ : ∃ m, n - k = m + 1 := ⟨n - k - 1, by omega⟩
  have hm2 : n - (k + 1) = m := by omega
  rw [hm, hm2, List.replicate_succ, List.set_cons_zero]
  have hlt : k < zs.length := by omega
  rw [show zs.getD k ByteArray.empty = zs[k] by simp [List.getD, hlt]]
  simp only [List.map_append, List.map_cons, List.map_nil, List.append_assoc, List.cons_append, List.nil_append]
theorem laidS_all (zs : List ByteArray) (n : Nat) (hz : zs.length = n) : laidS zs n n = zs.map Value.string := by
  unfold laidS; rw [List.take_of_length_le (by omega)]; simp
theorem laidS_len (zs : List ByteArray) (n k : Nat) (hz : n ≤ zs.length) (hk : k ≤ n) : (laidS zs n k).length = n := by
  unfold laidS; simp; omega

set_option maxHeartbeats 400000 in
theorem copy16_some (b off n c : Nat) (zs : List ByteArray) (hz : zs.length = n) (hn : n ≤ 1048576) (w : World) (hb : b < w.heap.size) (hc : ∀ i, i < n → w.cell? ⟨b, off + i, none⟩ = some (.string (zs.getD i ByteArray.empty))) :
    Calls Try.prog 16 #[.slice (some ⟨b, off, none⟩) n c] w fun e w' => e = .returned (.slice (some ⟨w.heap.size, 0, none⟩) n n) ∧ w'.ownsRow w.heap.size 9 1 (.slice (some ⟨w.heap.size, 0, none⟩) n n) n (zs.map Value.string) ∧ Below w.heap.size w w' := by
  have q35 : ∀ (w : World) (a : Option Addr) (n c n' c' : Nat), (binOp .eql 35 (.slice a n c) (.slice none n' c')).run Try.prog w = .ok (.bool a.isNone) w := fun w a n c n' c' => Lib.run_eql_slice_nil w _ _ a n c n' c' Try.underlying35
  obtain ⟨i0, hi, hz0, hz1, hz2⟩ := info_parts Try.info9
  go_enter Try.func16, Try.ntmps16
  go_wp2_with (at_make; refine wpList_make_full _ rfl _ _ 35 rfl w.heap.size 9 i0 (.string ByteArray.empty) 1 Try.underlying35 hi hz0 hz1 .i64 .i64 _ _ n rfl rfl rfl rfl (by rw [hz2]; omega) (by unfold maxLen; omega) (by simp) ?_; intro w1 hown hgrow)
  have hmk : w1.ownsRow w.heap.size 9 1 (.slice (some ⟨w.heap.size, 0, none⟩) n n) n (laidS zs n 0) := by
    rw [laidS_zero]
    have e := toList_madeCells_one (.string ByteArray.empty) n
    rw [Nat.mul_one] at hown
    exact e ▸ hown
  have hbl : Below w.heap.size w w1 := (Below.refl _ _).grown hgrow (Nat.le_refl _) (by simp)
  clear hown hgrow
  go_loopw [4] (fun i wr => ∃ k : Nat, k ≤ n ∧ i = .int .i64 k ∧ wr.ownsRow w.heap.size 9 1 (.slice (some ⟨w.heap.size, 0, none⟩) n n) n (laidS zs n k) ∧ Below w.heap.size w wr) (fun i _ => n - (intOf i).toNat)
  case atStart => exact ⟨0, Nat.zero_le _, rfl, hmk, hbl⟩
  case round =>
    obtain ⟨k, hk, rfl, hown, hbel⟩ := hrel
    by_cases hlt : k < n
    · have hcx : wr.cell? ⟨b, off + k, none⟩ = some (.string (zs.getD k ByteArray.empty)) := (hbel.cell hb).trans (hc k hlt)
      obtain ⟨z, hzz⟩ : ∃ z, zs.getD k ByteArray.empty = z := ⟨_, rfl⟩
      have hfx := hown.frozenAt k
      have hcy := hown.cellAt k (by omega)
      have hst := (hown.stored k (.string (zs.getD k ByteArray.empty))).1
      rw [laidS_step zs n k (by omega) hlt, hzz] at hst
      rw [hzz] at hcx
      clear hzz
      have hbel2 := hbel.setCell (p := ⟨w.heap.size, k, none⟩) (by simp) (.string z)
      have hk9 : k < (laidS zs n k).length := by rw [laidS_len zs n k (by omega) hk]; exact hlt
      rw [List.getElem?_eq_getElem hk9] at hcy
      go_wp2
      go_roundw
      case rel => exact ⟨k + 1, by omega, by go_num, hst, hbel2⟩
      case measure => simp [intOf]; omega
    · have hkn : k = n := by omega
      subst hkn
      rw [laidS_all zs _ hz] at hown
      go_wp2
      go_ret
      exact ⟨rfl, hown, hbel⟩

set_option maxHeartbeats 400000 in
theorem copy16_empty (ao : Option Addr) (c : Nat) (w : World) : Calls Try.prog 16 #[.slice ao 0 c] w fun e w' => ∃ ao', e = .returned (.slice ao' 0 0) ∧ Below w.heap.size w w' := by
  have q35 : ∀ (w : World) (a : Option Addr) (n c n' c' : Nat), (binOp .eql 35 (.slice a n c) (.slice none n' c')).run Try.prog w = .ok (.bool a.isNone) w := fun w a n c n' c' => Lib.run_eql_slice_nil w _ _ a n c n' c' Try.underlying35
  obtain ⟨i0, hi, hz0, hz1, hz2⟩ := info_parts Try.info9
  cases ao with
  | none =>
    go_enter Try.func16, Try.ntmps16
    go_wp2
    go_ret
    exact ⟨_, rfl, Below.refl _ _⟩
  | some x =>
    go_enter Try.func16, Try.ntmps16
    go_wp2_with (at_make; refine wpList_make_full _ rfl _ _ 35 rfl w.heap.size 9 i0 (.string ByteArray.empty) 1 Try.underlying35 hi hz0 hz1 .i64 .i64 _ _ 0 rfl rfl rfl rfl (by omega) (by unfold maxLen; omega) (by simp) ?_; intro w1 hown hgrow)
    have hbl : Below w.heap.size w w1 := (Below.refl _ _).grown hgrow (Nat.le_refl _) (by simp)
    clear hown hgrow
    refine wp_loop_rounds 1 ?_
    rw [rounds_succ]
    go_wp2
    go_ret
    exact ⟨_, rfl, hbl⟩

/-- 'zzCopyStrings', whatever the slice. -/
theorem copy16 (ao : Option Addr) (n c : Nat) (zs : List ByteArray) (hz : zs.length = n) (hn : n ≤ 1048576) (w : World) (h : Strs w ao n zs) :
    Calls Try.prog 16 #[.slice ao n c] w fun e w' => ∃ ao', e = .returned (.slice ao' n n) ∧ Keys w' ao' n zs w.heap.size ∧ Below w.heap.size w w' := by
  by_cases h0 : n = 0
  · subst h0
    refine (copy16_empty ao c w).mono ?_
    rintro e w' ⟨ao', rfl, hb⟩
    exact ⟨ao', rfl, fun h => absurd h (Nat.lt_irrefl _), hb⟩
  · obtain ⟨b, off, rfl, hb, hc⟩ := h (by omega)
    refine (copy16_some b off n c zs hz hn w hb hc).mono ?_
    rintro e w' ⟨rfl, hown, hbel⟩
    refine ⟨_, rfl, fun _ => ⟨rfl, (hown.lt _ rfl).2, fun i hi => ?_⟩, hbel⟩
    rw [hown.cellAt i (by omega), List.getElem?_map, List.getElem?_eq_getElem (by omega)]
    simp [List.getD, hz, hi]

theorem drop_take_cons (ss : List ByteArray) (u k : Nat) (hk : k < u) (hu : u ≤ ss.length) : (ss.take u).drop k = ss.getD k ByteArray.empty :: (ss.take u).drop (k + 1) := by
  rw [List.drop_eq_getElem_cons (by simp; omega)]; simp [List.getD, show k < ss.length by omega]

set_option maxHeartbeats 400000 in
/-- 'zzFirst'. -/
theorem first19 (ao : Option Addr) (n B u : Nat) (ss : List ByteArray) (hz : ss.length = n) (hu : u ≤ n) (hn : n ≤ 1048576) (q : ByteArray) (w : World) (h : Keys w ao n ss B) :
    Calls Try.prog 19 #[.slice ao n n, .int .i64 u, .string q] w fun e w' => e = .returned (.int .i64 (ix q 0 (ss.take u))) ∧ w' = w := by
  by_cases h0 : u = 0
  · subst h0
    go_enter Try.func19, Try.ntmps19
    go_wp2
    refine wp_loop_rounds 1 ?_
    rw [rounds_succ]
    go_wp2
    go_ret
    exact ⟨rfl, rfl⟩
  · obtain ⟨rfl, _, hc⟩ := h (by omega)
    have HC : Hid (∀ i, i < n → w.cell? ⟨B, i, none⟩ = some (.string (ss.getD i ByteArray.empty))) := hc
    have HZ : Hid (ss.length = n) := hz
    clear hc hz
    go_enter Try.func19, Try.ntmps19
    go_wp2
    go_loop [7] (fun i => ∃ k : Nat, k ≤ u ∧ i = .int .i64 k ∧ Hid (ix q 0 (ss.take u) = ix q k ((ss.take u).drop k))) (fun i => u - (intOf i).toNat)
    case atStart => exact ⟨0, Nat.zero_le _, rfl, rfl⟩
    case round =>
      obtain ⟨k, hk, rfl, HE⟩ := hrel
      by_cases hlt : k < u
      · have c0 := HC.out k (by omega)
        obtain ⟨s, hs⟩ : ∃ s, ss.getD k ByteArray.empty = s := ⟨_, rfl⟩
        have hd : Hid ((ss.take u).drop k = s :: (ss.take u).drop (k + 1)) := by
          show _ = _
          rw [drop_take_cons ss u k hlt (by rw [HZ.out]; exact hu), hs]
        rw [hs] at c0
        clear hs
        by_cases he : (s.toList == q.toList) = true
        · go_wp2
          go_ret
          exact ⟨ret_i64 (a := (k : Int)) (by rw [HE.out, hd.out, ix_hit he]), rfl⟩
        · have he : (s.toList == q.toList) = false := by simpa using he
          go_wp2
          go_round
          case rel => exact ⟨k + 1, by omega, by go_num, by show _ = _; rw [HE.out, hd.out, ix_miss he]⟩
          case measure => simp [intOf]; omega
      · go_wp2
        go_ret
        exact ⟨ret_i64 (a := -1) (by rw [HE.out, List.drop_eq_nil_of_le (by simp; omega)]; rfl), rfl⟩
end Go.Proofs.Qxb6602343a
