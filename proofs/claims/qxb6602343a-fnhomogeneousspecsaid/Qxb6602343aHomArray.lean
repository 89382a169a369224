/-
  'zzArray'.
-/
import Derived.Test.Qxb6602343aHomWalks
namespace Go.Proofs.Qxb6602343a
open Go.RowKit

/-- The five cells of the element of kind z stand at place i. -/
def El (xs : List Value) (i : Nat) (z : Int) : Prop :=
  xs[i * 5]? = some (.int .i64 z) ∧ xs[i * 5 + 1]? = some (.string ByteArray.empty) ∧ xs[i * 5 + 2]? = some (.int .u64 0) ∧ xs[i * 5 + 3]? = some (.slice none 0 0) ∧ xs[i * 5 + 4]? = some (.slice none 0 0)

def put5 (xs : List Value) (k : Nat) (z : Int) : List Value :=
  ((((xs.set (k * 5) (.int .i64 z)).set (k * 5 + 1) (.string ByteArray.empty)).set (k * 5 + 2) (.int .u64 0)).set (k * 5 + 3) (.slice none 0 0)).set (k * 5 + 4) (.slice none 0 0)
theorem put5_new (xs : List Value) (k n : Nat) (z : Int) (hl : xs.length = n * 5) (hk : k < n) : El (put5 xs k z) k z := by
  unfold El put5
  refine ⟨?_, ?_, ?_, ?_, ?_⟩ <;> simp only [List.getElem?_set, List.length_set] <;> simp <;> omega
theorem put5_old (xs : List Value) (k i : Nat) (z y : Int) (hi : i < k) (h : El xs i y) : El (put5 xs k z) i y := by
  obtain ⟨h0, h1, h2, h3, h4⟩ := h
  unfold El put5
  refine ⟨?_, ?_, ?_, ?_, ?_⟩
  all_goals
    repeat rw [List.getElem?_set_ne (by omega)]
    assumption
theorem stored5 {w : World} {base g n cap : Nat} {xs : List Value} (h : w.ownsRow base 31 5 (.slice (some ⟨g, 0, none⟩) n cap) n xs) (k : Nat) (z : Int) :
    (((((w.setCell ⟨g, k * 5, none⟩ (.int .i64 z)).setCell ⟨g, k * 5 + 1, none⟩ (.string ByteArray.empty)).setCell ⟨g, k * 5 + 2, none⟩ (.int .u64 0)).setCell ⟨g, k * 5 + 3, none⟩ (.slice none 0 0)).setCell ⟨g, k * 5 + 4, none⟩ (.slice none 0 0)).ownsRow base 31 5 (.slice (some ⟨g, 0, none⟩) n cap) n (put5 xs k z) :=
  ((((((h.stored _ _).1.stored _ _).1.stored _ _).1).stored _ _).1.stored _ _).1

set_option maxHeartbeats 400000 in
theorem array11 (kind : Int) (str : ByteArray) (num : Int) (b n : Nat) (zs : List Int) (hz : zs.length = n) (hn : n ≤ 4096) (w : World) (hb : b < w.heap.size) (hc : ∀ i, i < n → w.cell? ⟨b, i, none⟩ = some (.int .i64 (zs.getD i 0))) :
    Calls Try.prog 11 #[.int .i64 kind, .string str, .int .u64 num, .slice (some ⟨b, 0, none⟩) n n] w fun e w' => ∃ xs, e = .returned (val kind str num (some ⟨w.heap.size + 1, 0, none⟩) n n) ∧ w'.ownsRow (w.heap.size + 1) 31 5 (.slice (some ⟨w.heap.size + 1, 0, none⟩) n n) n xs ∧ (∀ i, i < n → El xs i (zs.getD i 0)) ∧ Below w.heap.size w w' := by
  obtain ⟨i0, hi, hz0, hz1, hz2⟩ := info_parts Try.info31
  go_enter Try.func11, Try.ntmps11
  go_wp2_with (at_make; refine wpList_make_full _ rfl _ _ 28 rfl (w.heap.size + 1) 31 i0 (val 0 ByteArray.empty 0 none 0 0) 5 Try.underlying28 hi hz0 hz1 .i64 .i64 _ _ n rfl rfl rfl rfl (by rw [hz2]; omega) (by unfold maxLen; omega) (by simp) ?_; intro w1 hown hgrow)
  simp only [World.size_alloc] at hown
  have hbl : Below (w.heap.size + 1) (w.alloc (Obj.cells #[.int .i64 0, .string ByteArray.empty, .int .u64 0, .slice none 0 0, .slice none 0 0] 31)) w1 := (Below.refl _ _).grown hgrow (by simp) (by simp)
  obtain ⟨w0, hw0⟩ : ∃ w0, w0 = w.alloc (Obj.cells #[.int .i64 0, .string ByteArray.empty, .int .u64 0, .slice none 0 0, .slice none 0 0] 31) := ⟨_, rfl⟩
  rw [← hw0] at hbl
  clear hgrow
  go_loopw [10] (fun i wr => ∃ (k : Nat) (xs : List Value), k ≤ n ∧ i = .int .i64 k ∧ wr.ownsRow (w.heap.size + 1) 31 5 (.slice (some ⟨w.heap.size + 1, 0, none⟩) n n) n xs ∧ (∀ i, i < k → El xs i (zs.getD i 0)) ∧ Below (w.heap.size + 1) w0 wr) (fun i _ => n - (intOf i).toNat)
  case atStart => exact ⟨0, _, Nat.zero_le _, rfl, hown, fun i hi => absurd hi (Nat.not_lt_zero _), hbl⟩
  case round =>
    obtain ⟨k, xs, hk, rfl, hown, hel, hbel⟩ := hrel
    by_cases hlt : k < n
    · have hcx : wr.cell? ⟨b, k, none⟩ = some (.int .i64 (zs.getD k 0)) := by
        rw [hbel.cell (by show b < _; omega), hw0, World.cell?_alloc_past _ _ _ hb]; exact hc k hlt
      obtain ⟨z, hzz⟩ : ∃ z, zs.getD k 0 = z := ⟨_, rfl⟩
      rw [hzz] at hcx
      have HZ : Hid (zs.getD k 0 = z) := hzz
      clear hzz hw0
      have hsz := (hown.lt (w.heap.size + 1) rfl).2
      have hf0 := hown.frozenAt (k * 5)
      have hf1 := hown.frozenAt (k * 5 + 1)
      have hf2 := hown.frozenAt (k * 5 + 2)
      have hf3 := hown.frozenAt (k * 5 + 3)
      have hf4 := hown.frozenAt (k * 5 + 4)
      have hxl := hown.1
      have hcs : ∀ j, j < n * 5 → ∃ v, wr.cell? ⟨w.heap.size + 1, j, none⟩ = some v := fun j hj => ⟨xs[j]'(by omega), by rw [hown.cellAt j hj, List.getElem?_eq_getElem]⟩
      obtain ⟨v0, hv0⟩ := hcs (k * 5) (by omega)
      obtain ⟨v1, hv1⟩ := hcs (k * 5 + 1) (by omega)
      obtain ⟨v2, hv2⟩ := hcs (k * 5 + 2) (by omega)
      obtain ⟨v3, hv3⟩ := hcs (k * 5 + 3) (by omega)
      obtain ⟨v4, hv4⟩ := hcs (k * 5 + 4) (by omega)
      clear hcs
      have HX : Hid (xs.length = n * 5) := hxl
      clear hxl
      go_wp2_with (go_at_call 27; refine (value27 _ _ _ _ _ _ _).mono ?_; rintro e w' ⟨rfl, rfl⟩)
      go_roundw
      case rel =>
        refine ⟨k + 1, put5 xs k z, by omega, by go_num, (stored5 hown k z).alloc _, fun i hi => ?_, ?_⟩
        · by_cases e : i = k
          · subst e; rw [HZ.out]; exact put5_new xs i n z HX.out hlt
          · exact put5_old xs k i z _ (by omega) (hel i (by omega))
        · exact (((((hbel.setCell (by simp) _).setCell (by simp) _).setCell (by simp) _).setCell (by simp) _).setCell (by simp) _).alloc (by simp [World.setCell]; omega) _
      case measure => simp [intOf]; omega
    · have hkn : k = n := by omega
      subst hkn
      have hsz := (hown.lt (w.heap.size + 1) rfl).2
      have hbw : Below w.heap.size w wr := ((Below.refl _ _).alloc (Nat.le_refl _) (Obj.cells #[.int .i64 0, .string ByteArray.empty, .int .u64 0, .slice none 0 0, .slice none 0 0] 31)).trans (hw0 ▸ hbel.mono (by omega))
      have hcl : ∀ j, wr.cell? ⟨w.heap.size, j, none⟩ = w0.cell? ⟨w.heap.size, j, none⟩ := fun j => hbel.cell (by show w.heap.size < _; omega)
      have hfl : ∀ j, wr.frozen? ⟨w.heap.size, j, none⟩ = w0.frozen? ⟨w.heap.size, j, none⟩ := fun j => hbel.frozen (by show w.heap.size < _; omega)
      subst hw0
      have c0 := hcl 0
      have c1 := hcl 1
      have c2 := hcl 2
      have c3 := hcl 3
      have c4 := hcl 4
      have f0 := hfl 0
      have f1 := hfl 1
      have f2 := hfl 2
      have f3 := hfl 3
      have f4 := hfl 4
      simp [go_sem] at c0 c1 c2 c3 c4 f0 f1 f2 f3 f4
      clear hcl hfl
      have hsz0 : w.heap.size < wr.heap.size := by omega
      go_wp2_with (go_at_call 27; refine (value27 _ _ _ _ _ _ _).mono ?_; rintro e w' ⟨rfl, rfl⟩)
      refine bodyPost_ret (v := val kind str num (some ⟨w.heap.size + 1, 0, none⟩) k k) (by simp [results, Try.results11, go_sem, c0, c1, c2, c3, c4, hsz0]) rfl ⟨xs, rfl, ?_, hel, ?_⟩
      · exact (ownsRow_setCell_below (ownsRow_setCell_below (ownsRow_setCell_below (ownsRow_setCell_below (ownsRow_setCell_below hown (by simp) _) (by simp) _) (by simp) _) (by simp) _) (by simp) _).alloc _
      · exact (((((hbw.setCell (by simp) _).setCell (by simp) _).setCell (by simp) _).setCell (by simp) _).setCell (by simp) _).alloc (by simp [World.setCell]; omega) _

/-- At a nil slice. -/
theorem array11_nil (kind : Int) (str : ByteArray) (num : Int) (w : World) :
    Calls Try.prog 11 #[.int .i64 kind, .string str, .int .u64 num, .slice none 0 0] w fun e w' => ∃ xs, e = .returned (val kind str num (some ⟨w.heap.size + 1, 0, none⟩) 0 0) ∧ w'.ownsRow (w.heap.size + 1) 31 5 (.slice (some ⟨w.heap.size + 1, 0, none⟩) 0 0) 0 xs ∧ Below w.heap.size w w' := by
  obtain ⟨i0, hi, hz0, hz1, hz2⟩ := info_parts Try.info31
  go_enter Try.func11, Try.ntmps11
  go_wp2_with (at_make; refine wpList_make_full _ rfl _ _ 28 rfl (w.heap.size + 1) 31 i0 (val 0 ByteArray.empty 0 none 0 0) 5 Try.underlying28 hi hz0 hz1 .i64 .i64 _ _ 0 rfl rfl rfl rfl (by omega) (by unfold maxLen; omega) (by simp) ?_; intro w1 hown hgrow)
  simp only [World.size_alloc] at hown
  have hbl : Below (w.heap.size + 1) (w.alloc (Obj.cells #[.int .i64 0, .string ByteArray.empty, .int .u64 0, .slice none 0 0, .slice none 0 0] 31)) w1 := (Below.refl _ _).grown hgrow (by simp) (by simp)
  clear hgrow
  obtain ⟨ys, hown⟩ : ∃ ys, w1.ownsRow (w.heap.size + 1) 31 5 (.slice (some ⟨w.heap.size + 1, 0, none⟩) 0 0) 0 ys := ⟨_, hown⟩
  have hbw : Below w.heap.size w w1 := ((Below.refl _ _).alloc (Nat.le_refl _) _).trans (hbl.mono (by omega))
  have hsz0 : w.heap.size < w1.heap.size := by have := (hown.lt (w.heap.size + 1) rfl).2; omega
  have hcl : ∀ j, w1.cell? ⟨w.heap.size, j, none⟩ = (w.alloc _).cell? ⟨w.heap.size, j, none⟩ := fun j => hbl.cell (by show w.heap.size < _; omega)
  have hfl : ∀ j, w1.frozen? ⟨w.heap.size, j, none⟩ = (w.alloc _).frozen? ⟨w.heap.size, j, none⟩ := fun j => hbl.frozen (by show w.heap.size < _; omega)
  have c0 := hcl 0
  have c1 := hcl 1
  have c2 := hcl 2
  have c3 := hcl 3
  have c4 := hcl 4
  have f0 := hfl 0
  have f1 := hfl 1
  have f2 := hfl 2
  have f3 := hfl 3
  have f4 := hfl 4
  simp [go_sem] at c0 c1 c2 c3 c4 f0 f1 f2 f3 f4
  clear hcl hfl
  refine wp_loop_rounds 1 ?_
  rw [rounds_succ]
  go_wp2_with (go_at_call 27; refine (value27 _ _ _ _ _ _ _).mono ?_; rintro e w' ⟨rfl, rfl⟩)
  refine bodyPost_ret (v := val kind str num (some ⟨w.heap.size + 1, 0, none⟩) 0 0) (by simp [results, Try.results11, go_sem, c0, c1, c2, c3, c4, hsz0]) rfl ⟨ys, rfl, ?_, ?_⟩
  · exact (ownsRow_setCell_below (ownsRow_setCell_below (ownsRow_setCell_below (ownsRow_setCell_below (ownsRow_setCell_below hown (by simp) _) (by simp) _) (by simp) _) (by simp) _) (by simp) _).alloc _
  · exact (((((hbw.setCell (by simp) _).setCell (by simp) _).setCell (by simp) _).setCell (by simp) _).setCell (by simp) _).alloc (by simp [World.setCell]; omega) _
end Go.Proofs.Qxb6602343a
