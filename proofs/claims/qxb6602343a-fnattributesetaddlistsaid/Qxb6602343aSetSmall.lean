/-
  THE SMALL FUNCTIONS on the roads of the laws on 'AttributeSet'.
-/
import Derived.Test.Qxb6602343aSetAddC
import Derived.Test.Qxb6602343aSetAddA
namespace Go.Proofs.Qxb6602343a
open Go.RowKit Go.Maps SetPlain

/-- 'Add', whatever the set's size. -/
theorem add21 {w : World} {sb : Nat} {ps : List (ByteArray × Nat)} {v : Value} {m : Option Nat} (h : Inv w sb ps v m) (hn : ps.length ≤ 65536) (key : ByteArray) (hkl : key.size ≤ maxLen) (j : Nat) (hnew : ix key 0 (ps.map Prod.fst) = -1) :
    Calls Try.prog 21 #[.pointer (some ⟨sb, 0, none⟩), .agg #[.string key, .int .i64 3, .string ByteArray.empty, .int .u64 j, .slice none 0 0, .slice none 0 0]] w fun e w' => e = .returned (.tuple #[]) ∧ Below sb w w' ∧ ∃ v' m', Inv w' sb (ps ++ [(key, j)]) v' m' := by
  rcases h.idx with ⟨rfl, hl⟩ | ⟨hl, mb, D, rfl, _⟩
  · by_cases e : ps.length = 32
    · exact add21_make h e key hkl j hnew
    · exact add21_plain h (by omega) key hkl j hnew
  · exact add21_index h hn key hkl j hnew

/-- A slice of strings, read. -/
def Strs (w : World) (ao : Option Addr) (n : Nat) (ss : List ByteArray) : Prop :=
  0 < n → ∃ b off, ao = some ⟨b, off, none⟩ ∧ b < w.heap.size ∧ ∀ i, i < n → w.cell? ⟨b, off + i, none⟩ = some (.string (ss.getD i ByteArray.empty))

set_option maxHeartbeats 400000 in
theorem bytes20 (ao : Option Addr) (n c : Nat) (ss : List ByteArray) (q : ByteArray) (hn : n ≤ maxLen) (hq : q.size ≤ maxLen) (w : World) (h : Strs w ao n ss) :
    Calls Try.prog 20 #[.slice ao n c, .string q] w fun e w' => ∃ b : Bool, e = .returned (.bool b) ∧ w' = w := by
  unfold maxLen at hn hq
  by_cases h0 : n = 0
  · subst h0
    go_enter Try.func20, Try.ntmps20
    go_wp2
    all_goals try (refine wp_loop_rounds 1 ?_; rw [rounds_succ]; go_wp2)
    all_goals (go_ret; first | exact ⟨_, rfl, rfl⟩ | exact ⟨.inl rfl, rfl⟩ | exact ⟨.inr rfl, rfl⟩)
  · obtain ⟨b, off, rfl, _, hc⟩ := h (by omega)
    have HC : Hid (∀ i, i < n → w.cell? ⟨b, off + i, none⟩ = some (.string (ss.getD i ByteArray.empty))) := hc
    clear hc
    go_enter Try.func20, Try.ntmps20
    go_wp2
    · go_ret; exact ⟨_, rfl, rfl⟩
    · go_loop [5, 6] (fun z i => ∃ (k : Nat) (y : Int), k ≤ n ∧ 0 ≤ y ∧ y ≤ 1048576 ∧ i = .int .i64 k ∧ z = .int .i64 y) (fun _ i => n - (intOf i).toNat)
      case atStart => exact ⟨0, n, Nat.zero_le _, by omega, by omega, rfl, rfl⟩
      case round =>
        obtain ⟨k, y, hk, hy0, hy1, rfl, rfl⟩ := hrel
        by_cases hlt : k < n
        · have c0 := HC.out k hlt
          generalize ss.getD k ByteArray.empty = s at c0
          go_wp2
          · go_ret; first | exact ⟨.inl rfl, rfl⟩ | exact ⟨.inr rfl, rfl⟩
          · go_ret; first | exact ⟨.inl rfl, rfl⟩ | exact ⟨.inr rfl, rfl⟩
          · go_round
            case rel => exact ⟨k + 1, _, by omega, by omega, by omega, by go_num, rfl⟩
            case measure => simp [intOf]; omega
        · go_wp2
          all_goals (go_ret; first | exact ⟨.inl rfl, rfl⟩ | exact ⟨.inr rfl, rfl⟩)

set_option maxHeartbeats 400000 in
theorem bytes14 (ao : Option Addr) (n c : Nat) (ss : List ByteArray) (q : ByteArray) (hn : n ≤ maxLen) (hq : q.size ≤ maxLen) (w : World) (h : Strs w ao n ss) :
    Calls Try.prog 14 #[.slice ao n c, .string q] w fun e w' => ∃ b : Bool, e = .returned (.bool b) ∧ w' = w := by
  unfold maxLen at hn hq
  by_cases h0 : n = 0
  · subst h0
    go_enter Try.func14, Try.ntmps14
    go_wp2
    all_goals try (refine wp_loop_rounds 1 ?_; rw [rounds_succ]; go_wp2)
    all_goals (go_ret; first | exact ⟨_, rfl, rfl⟩ | exact ⟨.inl rfl, rfl⟩ | exact ⟨.inr rfl, rfl⟩)
  · obtain ⟨b, off, rfl, _, hc⟩ := h (by omega)
    have HC : Hid (∀ i, i < n → w.cell? ⟨b, off + i, none⟩ = some (.string (ss.getD i ByteArray.empty))) := hc
    clear hc
    go_enter Try.func14, Try.ntmps14
    go_wp2
    · go_ret; exact ⟨_, rfl, rfl⟩
    · go_loop [5, 6] (fun z i => ∃ (k : Nat) (y : Int), k ≤ n ∧ 0 ≤ y ∧ y ≤ 1048576 ∧ i = .int .i64 k ∧ z = .int .i64 y) (fun _ i => n - (intOf i).toNat)
      case atStart => exact ⟨0, n, Nat.zero_le _, by omega, by omega, rfl, rfl⟩
      case round =>
        obtain ⟨k, y, hk, hy0, hy1, rfl, rfl⟩ := hrel
        by_cases hlt : k < n
        · have c0 := HC.out k hlt
          generalize ss.getD k ByteArray.empty = s at c0
          go_wp2
          · go_ret; first | exact ⟨.inl rfl, rfl⟩ | exact ⟨.inr rfl, rfl⟩
          · go_ret; first | exact ⟨.inl rfl, rfl⟩ | exact ⟨.inr rfl, rfl⟩
          · go_round
            case rel => exact ⟨k + 1, _, by omega, by omega, by omega, by go_num, rfl⟩
            case measure => simp [intOf]; omega
        · go_wp2
          all_goals (go_ret; first | exact ⟨.inl rfl, rfl⟩ | exact ⟨.inr rfl, rfl⟩)

set_option maxHeartbeats 400000 in
theorem bytes24 (ao : Option Addr) (n c : Nat) (ss : List ByteArray) (hn : n ≤ maxLen) (w : World) (h : Strs w ao n ss) :
    Calls Try.prog 24 #[.slice ao n c] w fun e w' => ∃ b : Bool, e = .returned (.bool b) ∧ w' = w := by
  unfold maxLen at hn
  by_cases h0 : n = 0
  · subst h0
    go_enter Try.func24, Try.ntmps24
    go_wp2
    all_goals try (refine wp_loop_rounds 1 ?_; rw [rounds_succ]; go_wp2)
    all_goals (go_ret; first | exact ⟨_, rfl, rfl⟩ | exact ⟨.inl rfl, rfl⟩ | exact ⟨.inr rfl, rfl⟩)
  · obtain ⟨b, off, rfl, _, hc⟩ := h (by omega)
    have HC : Hid (∀ i, i < n → w.cell? ⟨b, off + i, none⟩ = some (.string (ss.getD i ByteArray.empty))) := hc
    clear hc
    go_enter Try.func24, Try.ntmps24
    go_wp2
    · go_ret; exact ⟨_, rfl, rfl⟩
    · go_loop [3, 4] (fun z i => ∃ (k : Nat) (y : Int), k ≤ n ∧ 0 ≤ y ∧ y ≤ 1048576 ∧ i = .int .i64 k ∧ z = .int .i64 y) (fun _ i => n - (intOf i).toNat)
      case atStart => exact ⟨0, n, Nat.zero_le _, by omega, by omega, rfl, rfl⟩
      case round =>
        obtain ⟨k, y, hk, hy0, hy1, rfl, rfl⟩ := hrel
        by_cases hlt : k < n
        · have c0 := HC.out k hlt
          generalize ss.getD k ByteArray.empty = s at c0
          go_wp2
          · go_ret; first | exact ⟨.inl rfl, rfl⟩ | exact ⟨.inr rfl, rfl⟩
          · go_ret; first | exact ⟨.inl rfl, rfl⟩ | exact ⟨.inr rfl, rfl⟩
          · go_round
            case rel => exact ⟨k + 1, _, by omega, by omega, by omega, by go_num, rfl⟩
            case measure => simp [intOf]; omega
        · go_wp2
          all_goals (go_ret; first | exact ⟨.inl rfl, rfl⟩ | exact ⟨.inr rfl, rfl⟩)

set_option maxHeartbeats 400000 in
theorem fit15 (ao : Option Addr) (n c : Nat) (ss : List ByteArray) (q : ByteArray) (hn : n ≤ maxLen) (hq : q.size ≤ maxLen) (w : World) (h : Strs w ao n ss) :
    Calls Try.prog 15 #[.slice ao n c, .string q] w fun e w' => ∃ b : Bool, e = .returned (.bool b) ∧ w' = w := by
  unfold maxLen at hn hq
  by_cases h0 : n = 0
  · subst h0
    go_enter Try.func15, Try.ntmps15
    go_wp2
    all_goals try (refine wp_loop_rounds 1 ?_; rw [rounds_succ]; go_wp2)
    all_goals (go_ret; first | exact ⟨_, rfl, rfl⟩ | exact ⟨.inl rfl, rfl⟩ | exact ⟨.inr rfl, rfl⟩)
  · obtain ⟨b, off, rfl, _, hc⟩ := h (by omega)
    have HC : Hid (∀ i, i < n → w.cell? ⟨b, off + i, none⟩ = some (.string (ss.getD i ByteArray.empty))) := hc
    clear hc
    go_enter Try.func15, Try.ntmps15
    go_wp2
    · go_ret; exact ⟨_, rfl, rfl⟩
    · go_loop [5, 6] (fun z i => ∃ (k : Nat) (y : Int), k ≤ n ∧ 0 ≤ y ∧ y ≤ 1048576 ∧ i = .int .i64 k ∧ z = .int .i64 y) (fun _ i => n - (intOf i).toNat)
      case atStart => exact ⟨0, q.size, Nat.zero_le _, by omega, by omega, rfl, rfl⟩
      case round =>
        obtain ⟨k, y, hk, hy0, hy1, rfl, rfl⟩ := hrel
        by_cases hlt : k < n
        · have c0 := HC.out k hlt
          generalize ss.getD k ByteArray.empty = s at c0
          go_wp2
          · go_ret; first | exact ⟨.inl rfl, rfl⟩ | exact ⟨.inr rfl, rfl⟩
          · go_ret; first | exact ⟨.inl rfl, rfl⟩ | exact ⟨.inr rfl, rfl⟩
          · go_round
            case rel => exact ⟨k + 1, _, by omega, by omega, by omega, by go_num, rfl⟩
            case measure => simp [intOf]; omega
        · go_wp2
          all_goals (go_ret; first | exact ⟨.inl rfl, rfl⟩ | exact ⟨.inr rfl, rfl⟩)


/-- 'ZZValue'. -/
theorem value27 (k : Int) (s : ByteArray) (n : Int) (a : Option Addr) (l c : Nat) (w : World) :
    Calls Try.prog 27 #[.int .i64 k, .string s, .int .u64 n, .slice a l c] w fun e w' => e = .returned (.agg #[.int .i64 k, .string s, .int .u64 n, .slice a l c, .slice none 0 0]) ∧ w' = w.alloc (.cells #[.int .i64 k, .string s, .int .u64 n, .slice a l c, .slice none 0 0] 31) := by
  go_enter Try.func27, Try.ntmps27
  go_wp2
  exact bodyPost_ret (v := .agg #[.int .i64 k, .string s, .int .u64 n, .slice a l c, .slice none 0 0]) (by simp [results, Try.results27, go_sem]) rfl ⟨rfl, rfl⟩

/-- 'zzAttr'. -/
theorem attr22 (key : ByteArray) (j : Nat) (hj : j ≤ 1048576) (w : World) :
    Calls Try.prog 22 #[.string key, .int .i64 j] w fun e w' => e = .returned (.agg #[.string key, .int .i64 3, .string ByteArray.empty, .int .u64 j, .slice none 0 0, .slice none 0 0]) ∧ Below w.heap.size w w' := by
  go_enter Try.func22, Try.ntmps22
  go_wp2_with (go_at_call 27; refine (value27 _ _ _ _ _ _ _).mono ?_; rintro e w' ⟨rfl, rfl⟩)
  exact bodyPost_ret (v := .agg #[.string key, .int .i64 3, .string ByteArray.empty, .int .u64 j, .slice none 0 0, .slice none 0 0]) (by simp [results, Try.results22, go_sem]; rfl) rfl ⟨rfl, ((Below.refl _ _).alloc (Nat.le_refl _) _).alloc (by simp) _⟩

/-- 'ZZList'. -/
theorem list23 (sb : Nat) (v : Value) (w : World) (c0 : w.cell? ⟨sb, 0, none⟩ = some v) : Calls Try.prog 23 #[.pointer (some ⟨sb, 0, none⟩)] w fun e w' => e = .returned v ∧ w' = w := by
  go_enter Try.func23, Try.ntmps23
  go_wp2
  go_ret
  exact ⟨rfl, rfl⟩
end Go.Proofs.Qxb6602343a
