/-
  'Find'.
-/
import Derived.Test.Qxb6602343aSetInv
namespace Go.Proofs.Qxb6602343a
open Go.RowKit Go.Maps SetPlain

theorem lit_inj {a b : Int} (h : DataW.lit (H := Unit) (.int .i64 a) = .lit (.int .i64 b)) : a = b := by simpa using h

/-- With an index. -/
theorem find18_map (sb mb : Nat) (q : ByteArray) (hq : q.size ≤ maxLen) (n : Nat) (D : DataW Unit) (ks : List ByteArray) (w : World) (c1 : w.cell? ⟨sb, 1, none⟩ = some (.map (some mb)))
    (hown : w.ownsMap Try.prog 9 (plainElem Try.prog 3) mb n D) (hD : Idx D ks) :
    Calls Try.prog 18 #[.pointer (some ⟨sb, 0, none⟩), .string q] w fun e w' => e = .returned (.int .i64 (ix q 0 ks)) ∧ w' = w := by
  have qn : ∀ (w : World) (r : Option Nat), (binOp .neq 42 (.map r) (.map none)).run Try.prog w = .ok (.bool !r.isNone) w := fun w r => run_neq_map_nil w _ _ _ r Try.underlying42
  have HD : Hid (Idx D ks) := hD
  clear hD
  have hk := WideMaps.keyOf_string_mk (P := Try.prog) Try.underlying9 hq
  have HK : Hid (keyOf Try.prog 9 (.string q) = some (.string q.data.toList)) := hk
  clear hk
  by_cases hi : ix q 0 ks = -1
  · have hh : Maps.has D (.string q.data.toList) = false := (HD.out.2 q).1 hi
    have HI : Hid (ix q 0 ks = -1) := hi
    clear hi
    go_enter Try.func18, Try.ntmps18
    go_wp2_with (at_lookup; refine wpList_lookup_own_ok_int _ rfl _ _ 42 rfl 9 3 .i64 law9 Try.underlying42 Try.underlying3 (zero3 _) mb n D rfl hown _ _ rfl HK.out ?_; intro c hat hwc)
    go_ret
    exact ⟨ret_i64 HI.out.symm, rfl⟩
  · obtain ⟨hh, hall⟩ := (HD.out.2 q).2 hi
    have HA : Hid (∀ z, D.atKey (.string q.data.toList) z = .lit (.int .i64 (ix q 0 ks))) := hall
    clear hi hall
    go_enter Try.func18, Try.ntmps18
    go_wp2_with (at_lookup; refine wpList_lookup_own_ok_int _ rfl _ _ 42 rfl 9 3 .i64 law9 Try.underlying42 Try.underlying3 (zero3 _) mb n D rfl hown _ _ rfl HK.out ?_; intro c hat hwc; have HC : Hid (c = ix q 0 ks) := lit_inj (hat.symm.trans (HA.out _)); clear hat)
    go_ret
    exact ⟨ret_i64 HC.out, rfl⟩

/-- Without one: along the list. -/
theorem find18_list (sb g n cap : Nat) (ps : List (ByteArray × Nat)) (hn : ps.length = n) (hm : n ≤ 1048576) (q : ByteArray) (w : World) (base : Nat) (c0 : w.cell? ⟨sb, 0, none⟩ = some (.slice (some ⟨g, 0, none⟩) n cap)) (c1 : w.cell? ⟨sb, 1, none⟩ = some (.map none))
    (hown : w.ownsRow base 47 6 (.slice (some ⟨g, 0, none⟩) n cap) n (ps.flatMap attr)) :
    Calls Try.prog 18 #[.pointer (some ⟨sb, 0, none⟩), .string q] w fun e w' => e = .returned (.int .i64 (ix q 0 (ps.map Prod.fst))) ∧ Below w.heap.size w w' := by
  have qn : ∀ (w : World) (r : Option Nat), (binOp .neq 42 (.map r) (.map none)).run Try.prog w = .ok (.bool !r.isNone) w := fun w r => run_neq_map_nil w _ _ _ r Try.underlying42
  have hg := (hown.lt g rfl).2
  have HN : Hid (ps.length = n) := hn
  clear hn
  go_enter Try.func18, Try.ntmps18
  go_wp2
  go_loopw [30] (fun i wr => ∃ k : Nat, k ≤ n ∧ i = .int .i64 k ∧ Hid (ix q 0 (ps.map Prod.fst) = ix q k ((ps.map Prod.fst).drop k)) ∧ Below w.heap.size w wr) (fun i _ => n - (intOf i).toNat)
  case atStart => exact ⟨0, Nat.zero_le _, rfl, rfl, Below.refl _ _⟩
  case round =>
    obtain ⟨k, hk, rfl, HE, hbel⟩ := hrel
    by_cases hlt : k < n
    · have hk2 : k < ps.length := by have := HN.out; omega
      obtain ⟨p, hp⟩ : ∃ p, ps[k]? = some p := ⟨ps[k], by rw [List.getElem?_eq_getElem hk2]⟩
      obtain ⟨a0, a1, a2, a3, a4, a5⟩ := cells6 hown hp hlt
      have e0 : wr.cell? ⟨g, k * 6, none⟩ = _ := (hbel.cell hg).trans a0
      have e1 : wr.cell? ⟨g, k * 6 + 1, none⟩ = _ := (hbel.cell hg).trans a1
      have e2 : wr.cell? ⟨g, k * 6 + 2, none⟩ = _ := (hbel.cell hg).trans a2
      have e3 : wr.cell? ⟨g, k * 6 + 3, none⟩ = _ := (hbel.cell hg).trans a3
      have e4 : wr.cell? ⟨g, k * 6 + 4, none⟩ = _ := (hbel.cell hg).trans a4
      have e5 : wr.cell? ⟨g, k * 6 + 5, none⟩ = _ := (hbel.cell hg).trans a5
      have hd : Hid ((ps.map Prod.fst).drop k = p.1 :: (ps.map Prod.fst).drop (k + 1)) := by
        show _ = _
        rw [List.drop_eq_getElem_cons (by simpa using hk2)]
        have : ps[k] = p := by rw [List.getElem?_eq_getElem hk2] at hp; simpa using hp
        simp [this]
      have hsz := hbel.size
      clear a0 a1 a2 a3 a4 a5 hp hk2
      obtain ⟨key, j⟩ := p
      dsimp only at e0 e3 hd
      by_cases he : (key.toList == q.toList) = true
      · go_wp2
        go_ret
        exact ⟨ret_i64 (a := (k : Int)) (by rw [HE.out, hd.out, ix_hit he]), hbel.alloc hsz _⟩
      · have he : (key.toList == q.toList) = false := by simpa using he
        go_wp2
        go_roundw
        case rel => exact ⟨k + 1, by omega, by go_num, by show _ = _; rw [HE.out, hd.out, ix_miss he], hbel.alloc hsz _⟩
        case measure => simp [intOf]; omega
    · go_wp2
      go_ret
      exact ⟨ret_i64 (a := -1) (by rw [HE.out, List.drop_eq_nil_of_le (by have := HN.out; simp; omega)]; rfl), hbel⟩

/-- An empty set. -/
theorem find18_nil (sb : Nat) (q : ByteArray) (w : World) (c0 : w.cell? ⟨sb, 0, none⟩ = some (.slice none 0 0)) (c1 : w.cell? ⟨sb, 1, none⟩ = some (.map none)) :
    Calls Try.prog 18 #[.pointer (some ⟨sb, 0, none⟩), .string q] w fun e w' => e = .returned (.int .i64 (-1)) ∧ w' = w := by
  have qn : ∀ (w : World) (r : Option Nat), (binOp .neq 42 (.map r) (.map none)).run Try.prog w = .ok (.bool !r.isNone) w := fun w r => run_neq_map_nil w _ _ _ r Try.underlying42
  go_enter Try.func18, Try.ntmps18
  go_wp2
  refine wp_loop_rounds 1 ?_
  rw [rounds_succ]
  go_wp2
  go_ret
  exact ⟨rfl, rfl⟩

/-- 'Find' tells the key's place. -/
theorem find18 {w : World} {sb : Nat} {ps : List (ByteArray × Nat)} {v : Value} {m : Option Nat} (h : Inv w sb ps v m) (hm : ps.length ≤ 1048576) (q : ByteArray) (hq : q.size ≤ maxLen) :
    Calls Try.prog 18 #[.pointer (some ⟨sb, 0, none⟩), .string q] w fun e w' => e = .returned (.int .i64 (ix q 0 (ps.map Prod.fst))) ∧ Below w.heap.size w w' := by
  rcases h.idx with ⟨rfl, _⟩ | ⟨_, mb, D, rfl, _, hown, hD⟩
  · rcases own_shape h.own with ⟨rfl, h0⟩ | ⟨g, cap, rfl, _, _, _⟩
    · have : ps = [] := List.eq_nil_of_length_eq_zero h0
      subst this
      refine (find18_nil sb q w h.c0 h.c1).mono ?_
      rintro e w' ⟨rfl, rfl⟩
      exact ⟨rfl, Below.refl _ _⟩
    · exact find18_list sb g _ cap ps rfl hm q w _ h.c0 h.c1 h.own
  · refine (find18_map sb mb q hq _ D _ w h.c1 hown hD).mono ?_
    rintro e w' ⟨rfl, rfl⟩
    exact ⟨rfl, Below.refl _ _⟩
end Go.Proofs.Qxb6602343a
