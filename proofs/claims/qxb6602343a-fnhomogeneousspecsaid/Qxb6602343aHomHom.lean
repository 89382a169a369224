/-
  'homogeneous', 'ZZHomogeneous'.
-/
import Derived.Test.Qxb6602343aHomArray
namespace Go.Proofs.Qxb6602343a
open Go.RowKit HomPlain

theorem ret_bool {a b : Bool} (h : a = b) : Ending.returned (.bool a) = .returned (.bool b) := by rw [h]

set_option maxHeartbeats 400000 in
theorem hom26_not (kind : Int) (hk : kind ≠ 6) (str : ByteArray) (num : Int) (a : Option Addr) (n c : Nat) (w : World) :
    Calls Try.prog 26 #[.agg #[.int .i64 kind, .string str, .int .u64 num, .slice a n c, .slice none 0 0]] w fun e w' => e = .returned (.bool true) ∧ Below w.heap.size w w' := by
  go_enter Try.func26, Try.ntmps26
  go_wp2
  go_ret
  exact ⟨rfl, (Below.refl _ _).alloc (Nat.le_refl _) _⟩

set_option maxHeartbeats 400000 in
theorem hom26 (str : ByteArray) (num : Int) (g n : Nat) (zs : List Int) (hz : zs.length = n) (hn : n ≤ 4096) (w : World) (base : Nat) (xs : List Value) (hown : w.ownsRow base 31 5 (.slice (some ⟨g, 0, none⟩) n n) n xs) (hel : ∀ i, i < n → El xs i (zs.getD i 0)) :
    Calls Try.prog 26 #[.agg #[.int .i64 6, .string str, .int .u64 num, .slice (some ⟨g, 0, none⟩) n n, .slice none 0 0]] w fun e w' => e = .returned (.bool (hom 0 zs)) ∧ Below w.heap.size w w' := by
  have hg := (hown.lt g rfl).2
  go_enter Try.func26, Try.ntmps26
  go_wp2
  have hbl : Below w.heap.size w (w.alloc (.cells #[.int .i64 6, .string str, .int .u64 num, .slice (some ⟨g, 0, none⟩) n n, .slice none 0 0] 31)) := (Below.refl _ _).alloc (Nat.le_refl _) _
  go_loopw [3, 12] (fun t i wr => ∃ (k : Nat) (e : Int), k ≤ n ∧ i = .int .i64 k ∧ t = .int .i64 e ∧ hom 0 zs = hom e (zs.drop k) ∧ Below w.heap.size w wr) (fun _ i _ => n - (intOf i).toNat)
  case atStart => exact ⟨0, 0, Nat.zero_le _, rfl, rfl, rfl, hbl⟩
  case round =>
    obtain ⟨k, e, hk, rfl, rfl, heq, hbel⟩ := hrel
    have HE : Hid (hom 0 zs = hom e (zs.drop k)) := heq
    clear heq
    by_cases hlt : k < n
    · obtain ⟨z, hzz⟩ : ∃ z, zs.getD k 0 = z := ⟨_, rfl⟩
      obtain ⟨e0, e1, e2, e3, e4⟩ := hel k hlt
      rw [hzz] at e0
      have hd : Hid (zs.drop k = z :: zs.drop (k + 1)) := by rw [drop_cons zs k (by omega), hzz]; exact rfl
      have c0 : wr.cell? ⟨g, k * 5, none⟩ = _ := (hbel.cell hg).trans ((hown.cellAt _ (by omega)).trans e0)
      have c1 : wr.cell? ⟨g, k * 5 + 1, none⟩ = _ := (hbel.cell hg).trans ((hown.cellAt _ (by omega)).trans e1)
      have c2 : wr.cell? ⟨g, k * 5 + 2, none⟩ = _ := (hbel.cell hg).trans ((hown.cellAt _ (by omega)).trans e2)
      have c3 : wr.cell? ⟨g, k * 5 + 3, none⟩ = _ := (hbel.cell hg).trans ((hown.cellAt _ (by omega)).trans e3)
      have c4 : wr.cell? ⟨g, k * 5 + 4, none⟩ = _ := (hbel.cell hg).trans ((hown.cellAt _ (by omega)).trans e4)
      have hsz := hbel.size
      clear hzz e0 e1 e2 e3 e4 hel hown
      go_wp2
      · go_roundw
        case rel => exact ⟨k + 1, e, by omega, by go_num, rfl, by rw [HE.out, hd.out]; exact hom_zero (eq_of_beq ‹(z == 0) = true›), hbel.alloc hsz _⟩
        case measure => simp [intOf]; omega
      · go_ret
        exact ⟨ret_bool (a := false) (by rw [HE.out, hd.out, hom_bad (ne_of_beq_false ‹(z == 0) = false›) (.inl ‹z = 6›)]), hbel.alloc hsz _⟩
      · go_ret
        have hor : z = 6 ∨ z = 7 := by
          rcases ‹(z == 6) = true ∨ (z == 7) = true› with h | h
          · exact .inl (eq_of_beq h)
          · exact .inr (eq_of_beq h)
        exact ⟨ret_bool (a := false) (by rw [HE.out, hd.out, hom_bad (ne_of_beq_false ‹(z == 0) = false›) hor]), hbel.alloc hsz _⟩
      · have h67 := ‹(z == 6) = false ∧ (z == 7) = false›
        go_roundw
        case rel => exact ⟨k + 1, z, by omega, by go_num, rfl, by rw [HE.out, hd.out]; exact hom_first (ne_of_beq_false ‹(z == 0) = false›) (ne_of_beq_false h67.1) (ne_of_beq_false h67.2) (eq_of_beq ‹(e == 0) = true›), hbel.alloc hsz _⟩
        case measure => simp [intOf]; omega
      · have h67 := ‹(z == 6) = false ∧ (z == 7) = false›
        go_ret
        exact ⟨ret_bool (a := false) (by rw [HE.out, hd.out, hom_other (ne_of_beq_false ‹(z == 0) = false›) (ne_of_beq_false h67.1) (ne_of_beq_false h67.2) (ne_of_beq_false ‹(e == 0) = false›) (by simpa using ‹(z != e) = true›)]), hbel.alloc hsz _⟩
      · have h67 := ‹(z == 6) = false ∧ (z == 7) = false›
        go_roundw
        case rel => exact ⟨k + 1, e, by omega, by go_num, rfl, by rw [HE.out, hd.out]; exact hom_same (ne_of_beq_false ‹(z == 0) = false›) (ne_of_beq_false h67.1) (ne_of_beq_false h67.2) (ne_of_beq_false ‹(e == 0) = false›) (by simpa using ‹(z != e) = false›), hbel.alloc hsz _⟩
        case measure => simp [intOf]; omega
    · go_wp2
      go_ret
      exact ⟨ret_bool (a := true) (by rw [HE.out, List.drop_eq_nil_of_le (by omega)]; rfl), hbel⟩

set_option maxHeartbeats 400000 in
theorem hom10 (kind : Int) (str : ByteArray) (num : Int) (g n : Nat) (zs : List Int) (hz : zs.length = n) (hn : n ≤ 4096) (w : World) (base : Nat) (xs : List Value) (hown : w.ownsRow base 31 5 (.slice (some ⟨g, 0, none⟩) n n) n xs) (hel : ∀ i, i < n → El xs i (zs.getD i 0)) :
    Calls Try.prog 10 #[.agg #[.int .i64 kind, .string str, .int .u64 num, .slice (some ⟨g, 0, none⟩) n n, .slice none 0 0]] w fun e w' => e = .returned (.bool (homB kind zs)) ∧ Below w.heap.size w w' := by
  by_cases hk : kind = 6
  · subst hk
    go_enter Try.func10, Try.ntmps10
    go_wp2_with (go_at_call 26; refine (hom26 str num g n zs hz hn _ base xs (hown.alloc _) hel).mono ?_; rintro e w' ⟨rfl, hb⟩)
    go_ret
    exact ⟨by simp [homB], ((Below.refl _ _).alloc (Nat.le_refl _) _).trans (hb.mono (by simp))⟩
  · go_enter Try.func10, Try.ntmps10
    go_wp2_with (go_at_call 26; refine (hom26_not kind hk str num _ n n _).mono ?_; rintro e w' ⟨rfl, hb⟩)
    go_ret
    exact ⟨by simp [homB, hk], ((Below.refl _ _).alloc (Nat.le_refl _) _).trans (hb.mono (by simp))⟩
end Go.Proofs.Qxb6602343a
