/-
  'hex4' at a text that begins with a backslash, a u and four digits.
-/
import Derived.Test.Qxb6601608aRows
import Derived.Test.Qxb6601608aHexPlain
import Derived.WalkKit
import Derived.WalkSpells
import Derived.WalkLawsBesides
import Derived.Deep.QuietTactic
import Derived.BigQuiet
import Derived.Lib.ConvBytes
import Derived.Lib.AppendStr
import Derived.Laws.BytesArg
namespace Go.Proofs.Qxb6601608a
open Go.RowKit HexPlain

set_option maxHeartbeats 400000 in
theorem bytes14 (a0 a1 : Int) (a2 : ByteArray) (h : a2.size ≤ maxLen) (w : World) :
    Calls Try.prog 14 #[.int .u16 a0, .int .u8 a1, .string a2] w fun e w' => ∃ b : Bool, e = .returned (.bool b) ∧ w' = w := by
  unfold maxLen at h
  go_enter Try.func14, Try.ntmps14
  go_wp2
  all_goals (go_ret; exact ⟨_, rfl, rfl⟩)

set_option maxHeartbeats 1000000 in
theorem hex28 (s : ByteArray) (code : Nat) (up : Nat → Bool) (hc : code < 65536) (h6 : 6 ≤ s.size) (hm : s.size ≤ maxLen) (hp0 : 0 < s.size) (hp1 : 1 < s.size) (h0 : (((s[0]'hp0).toNat : Nat) : Int) = 92) (h1 : (((s[1]'hp1).toNat : Nat) : Int) = 117) (hd : ∀ t, t < 4 → (((s.extract 2 6).data.toList.getD t 0).toNat : Int) = enc (dig code (3 - t)) (up (3 - t))) (w : World) :
    Calls Try.prog 28 #[.string s] w fun e w' => e = .returned (.tuple #[.int .i32 (code : Int), .bool true]) ∧ Below w.heap.size w w' := by
  have kc := fun (w : World) (s : ByteArray) => Lib.run_convert_string_bytes (P := Try.prog) w 9 28 5 s Try.underlying9 Try.underlying28 Try.underlying5
  have HD : Hid (∀ t, t < 4 → (((s.extract 2 6).data.toList.getD t 0).toNat : Int) = enc (dig code (3 - t)) (up (3 - t))) := hd
  clear hd
  unfold maxLen at hm
  go_enter Try.func28, Try.ntmps28
  go_wp2
  have hbw : Below w.heap.size w (Lib.bytesWorld w 5 (s.extract 2 6)) := ⟨by unfold Lib.bytesWorld World.freeze; rw [if_neg (by decide)]; rfl, by unfold Lib.bytesWorld World.freeze; rw [if_neg (by decide)]; rfl, by unfold Lib.bytesWorld World.freeze; rw [if_neg (by decide)]; rfl, by rw [Lib.bytesWorld_size]; omega, fun k hk => Lib.bytesWorld_at_old w 5 _ k hk⟩
  have hex4 : (s.extract 2 6).size = 4 := by simp; omega
  have HCE : Hid (∀ t, t < 4 → (Lib.bytesWorld w 5 (s.extract 2 6)).cell? ⟨w.heap.size, t, none⟩ = some (.int .u8 (enc (dig code (3 - t)) (up (3 - t))))) := by
    intro t ht
    rw [Lib.bytesWorld_cell w 5 _ t (by omega), HD.out t ht]
  obtain ⟨wb, hwb⟩ : ∃ wb, Lib.bytesWorld w 5 (s.extract 2 6) = wb := ⟨_, rfl⟩
  rw [hwb] at hbw HCE ⊢
  clear hwb kc hex4
  go_loop [4, 25] (fun r i => ∃ t : Nat, t ≤ 4 ∧ i = .int .i64 t ∧ r = .int .i32 ((acc code t : Nat) : Int)) (fun _ i => 4 - (intOf i).toNat)
  case atStart => exact ⟨0, Nat.zero_le _, rfl, rfl⟩
  case round =>
    obtain ⟨t, ht, rfl, rfl⟩ := hrel
    by_cases hlt : t < 4
    · have hdl := dig_lt code (3 - t)
      have hal : acc code t < 65536 := Nat.lt_of_lt_of_le (acc_lt code t ht) (by
        have : t = 0 ∨ t = 1 ∨ t = 2 ∨ t = 3 := by omega
        rcases this with rfl | rfl | rfl | rfl <;> decide)
      have HN : Hid (acc code (t + 1) = acc code t * 16 + dig code (3 - t)) := rfl
      have c0 := HCE.out t hlt
      obtain ⟨R, hR⟩ : ∃ R, acc code t = R := ⟨_, rfl⟩
      obtain ⟨d, hd⟩ : ∃ d, dig code (3 - t) = d := ⟨_, rfl⟩
      rw [hR] at hal HN ⊢
      rw [hd] at hdl HN c0
      clear hR hd
      obtain ⟨x, hx⟩ : ∃ x, enc (d : Int) (up (3 - t)) = x := ⟨_, rfl⟩
      rw [hx] at c0
      have HO : Hid (bits .or .i32 ((R : Int) * 16) (d : Int) = (R : Int) * 16 + d) := or_shift R d hal hdl
      have hti : (t : Int) < 4 := by omega
      unfold enc at hx
      by_cases h10 : (d : Int) < 10
      · rw [if_pos h10] at hx
        have hx1 : 48 ≤ x := by omega
        have hx2 : x ≤ 57 := by omega
        have HX : Hid (x - 48 = (d : Int)) := by show _ = _; omega
        clear hx
        go_wp2
        go_round
        case rel => exact ⟨t + 1, by omega, by go_num, by rw [HN.out, HX.out, HO.out]; go_num⟩
        case measure => simp [intOf]; omega
      · rw [if_neg h10] at hx
        by_cases hu : up (3 - t) = true
        · rw [if_pos hu] at hx
          have hx1 : 65 ≤ x := by omega
          have hx2 : x ≤ 70 := by omega
          have HX : Hid (x - 65 + 10 = (d : Int)) := by show _ = _; omega
          clear hx
          go_wp2
          go_round
          case rel => exact ⟨t + 1, by omega, by go_num, by rw [HN.out, HX.out, HO.out]; go_num⟩
          case measure => simp [intOf]; omega
        · rw [if_neg hu] at hx
          have hx1 : 97 ≤ x := by omega
          have hx2 : x ≤ 102 := by omega
          have HX : Hid (x - 97 + 10 = (d : Int)) := by show _ = _; omega
          clear hx
          go_wp2
          go_round
          case rel => exact ⟨t + 1, by omega, by go_num, by rw [HN.out, HX.out, HO.out]; go_num⟩
          case measure => simp [intOf]; omega
    · have ht4 : t = 4 := by omega
      subst ht4
      rw [acc_four code hc]
      go_wp2
      go_ret2
      exact ⟨rfl, hbw⟩

/-- 'ZZHex4'. -/
theorem hex12 {s : ByteArray} {r : Int} {b : Bool} {w : World} (h : Calls Try.prog 28 #[.string s] w fun e w' => e = .returned (.tuple #[.int .i32 r, .bool b]) ∧ Below w.heap.size w w') :
    Calls Try.prog 12 #[.string s] w fun e w' => e = .returned (.tuple #[.int .i32 r, .bool b]) ∧ Below w.heap.size w w' := by
  have H : Hid (Calls Try.prog 28 #[.string s] w fun e w' => e = .returned (.tuple #[.int .i32 r, .bool b]) ∧ Below w.heap.size w w') := h
  clear h
  go_enter Try.func12, Try.ntmps12
  go_wp2_with (go_at_call 28; refine H.out.mono ?_; rintro e w' ⟨rfl, hb⟩)
  go_ret2
  exact ⟨rfl, hb⟩
end Go.Proofs.Qxb6601608a
