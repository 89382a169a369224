/-
  'cloneOps'.
-/
import Derived.Test.Qxb6000433aTreeGroup
namespace Go.Proofs.Qxb6000433a
open Go.RowKit

/-- One step of the script. -/
structure OpD where
  kind : Int
  a : Int
  b : Int
def oz : OpD := ⟨0, 0, 0⟩
/-- The steps, in cells ⟨B, i * 3 + j⟩. -/
def OpsAt (w : World) (b off n : Nat) (os : List OpD) : Prop :=
  ∀ i, i < n → w.cell? ⟨b, off + i * 3, none⟩ = some (.int .u8 (os.getD i oz).kind) ∧ w.cell? ⟨b, off + i * 3 + 1, none⟩ = some (.int .i32 (os.getD i oz).a) ∧ w.cell? ⟨b, off + i * 3 + 2, none⟩ = some (.int .i32 (os.getD i oz).b)
theorem OpsAt.block {w w' : World} {b off n : Nat} {os : List OpD} (h : OpsAt w b off n os) (hb : w'.heap[b]? = w.heap[b]?) : OpsAt w' b off n os := fun i hi =>
  ⟨(World.cell?_of_block (w := w) (a := ⟨b, off + i * 3, none⟩) hb).trans (h i hi).1, (World.cell?_of_block (w := w) (a := ⟨b, off + i * 3 + 1, none⟩) hb).trans (h i hi).2.1, (World.cell?_of_block (w := w) (a := ⟨b, off + i * 3 + 2, none⟩) hb).trans (h i hi).2.2⟩

theorem Try.info63 : (Try.prog.info? 63).map (fun i => (i.zero, i.size, i.bytes)) = some (some (.agg #[.int .u8 0, .int .i32 0, .int .i32 0]), 3, 12) := by kernel_rfl

/-- The three cells of step i stand in the list. -/
def El3 (xs : List Value) (i : Nat) (o : OpD) : Prop := xs[i * 3]? = some (.int .u8 o.kind) ∧ xs[i * 3 + 1]? = some (.int .i32 o.a) ∧ xs[i * 3 + 2]? = some (.int .i32 o.b)
def put3 (xs : List Value) (k : Nat) (o : OpD) : List Value := ((xs.set (k * 3) (.int .u8 o.kind)).set (k * 3 + 1) (.int .i32 o.a)).set (k * 3 + 2) (.int .i32 o.b)
theorem put3_new (xs : List Value) (k n : Nat) (o : OpD) (hl : xs.length = n * 3) (hk : k < n) : El3 (put3 xs k o) k o := by
  unfold El3 put3
  refine ⟨?_, ?_, ?_⟩ <;> simp only [List.getElem?_set, List.length_set] <;> simp <;> omega
theorem put3_old (xs : List Value) (k i : Nat) (o q : OpD) (hi : i < k) (h : El3 xs i q) : El3 (put3 xs k o) i q := by
  obtain ⟨h0, h1, h2⟩ := h
  unfold El3 put3
  refine ⟨?_, ?_, ?_⟩
  all_goals
    repeat rw [List.getElem?_set_ne (by omega)]
    assumption

set_option maxHeartbeats 400000 in
theorem clone11_some (b off n c : Nat) (os : List OpD) (hn : n ≤ 4096) (w : World) (hb : b < w.heap.size) (hc : OpsAt w b off n os) :
    Calls Try.prog 11 #[.slice (some ⟨b, off, none⟩) n c] w fun e w' => e = .returned (.slice (some ⟨w.heap.size, 0, none⟩) n n) ∧ OpsAt w' w.heap.size 0 n os ∧ w.heap.size < w'.heap.size ∧ Below w.heap.size w w' := by
  have q22 : ∀ (w : World) (a : Option Addr) (n c n' c' : Nat), (binOp .eql 22 (.slice a n c) (.slice none n' c')).run Try.prog w = .ok (.bool a.isNone) w := fun w a n c n' c' => Lib.run_eql_slice_nil w _ _ a n c n' c' Try.underlying22
  obtain ⟨i0, hi, hz0, hz1, hz2⟩ := info_parts Try.info63
  have HC : Hid (OpsAt w b off n os) := hc
  clear hc
  go_enter Try.func11, Try.ntmps11
  go_wp2_with (at_make; refine wpList_make_full _ rfl _ _ 22 rfl w.heap.size 63 i0 (.agg #[.int .u8 0, .int .i32 0, .int .i32 0]) 3 Try.underlying22 hi hz0 hz1 .i64 .i64 _ _ n rfl rfl rfl rfl (by rw [hz2]; omega) (by unfold maxLen; omega) (by simp) ?_; intro w1 hown hgrow)
  have hbl : Below w.heap.size w w1 := (Below.refl _ _).grown hgrow (Nat.le_refl _) (by simp)
  clear hgrow
  go_loopw [4] (fun i wr => ∃ (k : Nat) (xs : List Value), k ≤ n ∧ i = .int .i64 k ∧ wr.ownsRow w.heap.size 63 3 (.slice (some ⟨w.heap.size, 0, none⟩) n n) n xs ∧ (∀ i, i < k → El3 xs i (os.getD i oz)) ∧ Below w.heap.size w wr) (fun i _ => n - (intOf i).toNat)
  case atStart => exact ⟨0, _, Nat.zero_le _, rfl, hown, fun i hi => absurd hi (Nat.not_lt_zero _), hbl⟩
  case round =>
    clear hown hbl
    obtain ⟨k, xs, hk, rfl, hown, hel, hbel⟩ := hrel
    by_cases hlt : k < n
    · obtain ⟨a0, a1, a2⟩ := HC.out k hlt
      obtain ⟨o, ho⟩ : ∃ o, os.getD k oz = o := ⟨_, rfl⟩
      rw [ho] at a0 a1 a2
      have HO : Hid (os.getD k oz = o) := ho
      clear ho
      have c0 : wr.cell? ⟨b, off + k * 3, none⟩ = _ := (hbel.cell hb).trans a0
      have c1 : wr.cell? ⟨b, off + k * 3 + 1, none⟩ = _ := (hbel.cell hb).trans a1
      have c2 : wr.cell? ⟨b, off + k * 3 + 2, none⟩ = _ := (hbel.cell hb).trans a2
      have hxl := hown.1
      have hf0 := hown.frozenAt (k * 3)
      have hf1 := hown.frozenAt (k * 3 + 1)
      have hf2 := hown.frozenAt (k * 3 + 2)
      have hcs : ∀ j, j < n * 3 → ∃ v, wr.cell? ⟨w.heap.size, j, none⟩ = some v := fun j hj => ⟨xs[j]'(by omega), by rw [hown.cellAt j hj, List.getElem?_eq_getElem]⟩
      obtain ⟨v0, hv0⟩ := hcs (k * 3) (by omega)
      obtain ⟨v1, hv1⟩ := hcs (k * 3 + 1) (by omega)
      obtain ⟨v2, hv2⟩ := hcs (k * 3 + 2) (by omega)
      have HX : Hid (xs.length = n * 3) := hxl
      clear hcs hxl a0 a1 a2
      obtain ⟨ok, oa, ob⟩ := o
      dsimp only at c0 c1 c2
      go_wp2
      go_roundw
      case rel =>
        refine ⟨k + 1, put3 xs k ⟨ok, oa, ob⟩, by omega, by go_num, ((((hown.stored _ _).1.stored _ _).1).stored _ _).1, fun i hi => ?_, ?_⟩
        · by_cases e : i = k
          · subst e; rw [HO.out]; exact put3_new xs i n _ HX.out hlt
          · exact put3_old xs k i _ _ (by omega) (hel i (by omega))
        · exact ((hbel.setCell (by simp) _).setCell (by simp) _).setCell (by simp) _
      case measure => simp [intOf]; omega
    · have hkn : k = n := by omega
      subst hkn
      go_wp2
      go_ret
      refine ⟨rfl, fun i hi => ?_, (hown.lt _ rfl).2, hbel⟩
      obtain ⟨e0, e1, e2⟩ := hel i hi
      simp only [Nat.zero_add]
      exact ⟨(hown.cellAt _ (by omega)).trans e0, (hown.cellAt _ (by omega)).trans e1, (hown.cellAt _ (by omega)).trans e2⟩

set_option maxHeartbeats 400000 in
theorem clone11_empty (ao : Option Addr) (c : Nat) (w : World) : Calls Try.prog 11 #[.slice ao 0 c] w fun e w' => ∃ ao', e = .returned (.slice ao' 0 0) ∧ Below w.heap.size w w' := by
  have q22 : ∀ (w : World) (a : Option Addr) (n c n' c' : Nat), (binOp .eql 22 (.slice a n c) (.slice none n' c')).run Try.prog w = .ok (.bool a.isNone) w := fun w a n c n' c' => Lib.run_eql_slice_nil w _ _ a n c n' c' Try.underlying22
  obtain ⟨i0, hi, hz0, hz1, hz2⟩ := info_parts Try.info63
  cases ao with
  | none =>
    go_enter Try.func11, Try.ntmps11
    go_wp2
    go_ret
    exact ⟨_, rfl, Below.refl _ _⟩
  | some x =>
    go_enter Try.func11, Try.ntmps11
    go_wp2_with (at_make; refine wpList_make_full _ rfl _ _ 22 rfl w.heap.size 63 i0 (.agg #[.int .u8 0, .int .i32 0, .int .i32 0]) 3 Try.underlying22 hi hz0 hz1 .i64 .i64 _ _ 0 rfl rfl rfl rfl (by omega) (by unfold maxLen; omega) (by simp) ?_; intro w1 hown hgrow)
    have hbl : Below w.heap.size w w1 := (Below.refl _ _).grown hgrow (Nat.le_refl _) (by simp)
    clear hown hgrow
    refine wp_loop_rounds 1 ?_
    rw [rounds_succ]
    go_wp2
    go_ret
    exact ⟨_, rfl, hbl⟩

set_option maxHeartbeats 400000 in
theorem bytes10 (ao : Option Addr) (n c : Nat) (hn : n ≤ maxLen) (w : World) : Calls Try.prog 10 #[.slice ao n c] w fun e w' => ∃ b : Bool, e = .returned (.bool b) ∧ w' = w := by
  unfold maxLen at hn
  go_enter Try.func10, Try.ntmps10
  go_wp2
  all_goals (go_ret; exact ⟨_, rfl, rfl⟩)
set_option maxHeartbeats 400000 in
theorem bytes26 (ao : Option Addr) (n c : Nat) (hn : n ≤ maxLen) (w : World) : Calls Try.prog 26 #[.slice ao n c] w fun e w' => ∃ b : Bool, e = .returned (.bool b) ∧ w' = w := by
  unfold maxLen at hn
  go_enter Try.func26, Try.ntmps26
  go_wp2
  all_goals (go_ret; exact ⟨_, rfl, rfl⟩)
end Go.Proofs.Qxb6000433a
