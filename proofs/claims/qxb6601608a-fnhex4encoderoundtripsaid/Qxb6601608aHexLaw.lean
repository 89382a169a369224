/-
  'FnHex4EncodeRoundTrip' out of her callees' contracts.
-/
import Derived.Test.Qxb6601608aHexWalks
import Derived.Lib.Strings
namespace Go.Proofs.Qxb6601608a
open Go.RowKit HexPlain

theorem Try.info5 : (Try.prog.info? 5).map (fun i => (i.zero, i.size, i.bytes)) = some (some (.int .u8 0), 1, 1) := by kernel_rfl

def ul (xs : List Int) : List Value := xs.map (Value.int .u8)
/-- What is written after t digits. -/
def wrote (code : Nat) (up : Nat → Bool) : Nat → List Int
  | 0 => [92, 117]
  | t + 1 => wrote code up t ++ [enc (dig code (3 - t)) (up (3 - t))]
theorem wrote_len (code : Nat) (up : Nat → Bool) (t : Nat) : (wrote code up t).length = 2 + t := by
  induction t with
  | zero => rfl
  | succ t ih => simp [wrote, ih]; omega

def tbs (tail : ByteArray) : List Int := tail.data.toList.map fun b => (b.toNat : Int)
theorem tbs_len (tail : ByteArray) : (tbs tail).length = tail.size := by
  unfold tbs; rw [List.length_map]; rfl
theorem tail_conv {w6 : World} {base : Nat} {v6 : Value} {code : Nat} {up : Nat → Bool} {tail : ByteArray} (h : w6.ownsRow base 5 1 v6 (2 + 4 + tail.size) (ul (wrote code up 4) ++ Lib.strCells tail)) :
    ∃ g cap, v6 = .slice (some ⟨g, 0, none⟩) (2 + 4 + tail.size) cap ∧ (convert 28 9 (.slice (some ⟨g, 0, none⟩) (2 + 4 + tail.size) cap)).run Try.prog w6 = .ok (.string (strOfNums (wrote code up 4 ++ tbs tail))) w6 := by
  have he : ul (wrote code up 4) ++ Lib.strCells tail = ul (wrote code up 4 ++ tbs tail) := by
    unfold ul tbs Lib.strCells
    rw [List.map_append, List.map_map]; rfl
  have hl : (wrote code up 4 ++ tbs tail).length = 2 + 4 + tail.size := by rw [List.length_append, wrote_len, tbs_len]
  rw [he] at h
  have h' := h
  rcases h.2 with ⟨_, h0⟩ | ⟨g, cap, cur, rfl, _⟩
  · omega
  · refine ⟨g, cap, rfl, run_convert_bytes_arg w6 28 5 Try.underlying28 Try.underlying5 g 0 _ cap _ hl (fun i hi => ?_) 9 Try.underlying9⟩
    rw [Nat.zero_add, h'.cellAt i (by omega)]
    unfold ul
    rw [List.getElem?_map, List.getElem?_eq_getElem (by omega)]
    simp [List.getD, hl, hi]

theorem ret_bo {a b : Bool} (h : a = b) : Ending.returned (.bool a) = .returned (.bool b) := by rw [h]
theorem enc_bd (d : Nat) (hd : d < 16) (u : Bool) : 0 ≤ enc (d : Int) u ∧ enc (d : Int) u < 256 := by
  unfold enc; split
  · omega
  · split <;> omega
theorem byte_at (xs : List Int) (i : Nat) (hi : i < xs.length) (h0 : 0 ≤ xs.getD i 0) (h1 : xs.getD i 0 < 256) : (((strOfNums xs).data.toList.getD i 0).toNat : Int) = xs.getD i 0 := by
  rw [strOfNums_data]
  have e : (xs.map fun n => UInt8.ofNat n.toNat).getD i 0 = UInt8.ofNat (xs.getD i 0).toNat := by
    simp [List.getD, hi]
  rw [e, UInt8.toNat_ofNat']
  omega
theorem hexS (code : Nat) (up : Nat → Bool) (hc : code < 65536) (tail : ByteArray) (ht : tail.size ≤ 1048576) (w : World) :
    Calls Try.prog 12 #[.string (strOfNums (wrote code up 4 ++ tbs tail))] w fun e w' => e = .returned (.tuple #[.int .i32 (code : Int), .bool true]) ∧ Below w.heap.size w w' := by
  have hl : (wrote code up 4 ++ tbs tail).length = 2 + 4 + tail.size := by rw [List.length_append, wrote_len, tbs_len]
  have hS : (strOfNums (wrote code up 4 ++ tbs tail)).size = 6 + tail.size := by rw [strOfNums_size, hl]
  have hg : ∀ i, i < 6 → (wrote code up 4 ++ tbs tail).getD i 0 = (wrote code up 4).getD i 0 := by
    intro i hi
    simp only [List.getD]
    rw [List.getElem?_append_left (by rw [wrote_len]; exact hi)]
  have hw : wrote code up 4 = [92, 117, enc (dig code 3) (up 3), enc (dig code 2) (up 2), enc (dig code 1) (up 1), enc (dig code 0) (up 0)] := rfl
  have hby : ∀ i, i < 6 → (((strOfNums (wrote code up 4 ++ tbs tail)).data.toList.getD i 0).toNat : Int) = (wrote code up 4).getD i 0 := by
    intro i hi
    have hb : 0 ≤ (wrote code up 4).getD i 0 ∧ (wrote code up 4).getD i 0 < 256 := by
      rw [hw]
      have : i = 0 ∨ i = 1 ∨ i = 2 ∨ i = 3 ∨ i = 4 ∨ i = 5 := by omega
      rcases this with rfl | rfl | rfl | rfl | rfl | rfl
      · exact (by decide : (0 : Int) ≤ 92 ∧ (92 : Int) < 256)
      · exact (by decide : (0 : Int) ≤ 117 ∧ (117 : Int) < 256)
      · exact enc_bd _ (dig_lt _ _) _
      · exact enc_bd _ (dig_lt _ _) _
      · exact enc_bd _ (dig_lt _ _) _
      · exact enc_bd _ (dig_lt _ _) _
    rw [byte_at _ i (by omega) (by rw [hg i hi]; exact hb.1) (by rw [hg i hi]; exact hb.2), hg i hi]
  generalize strOfNums (wrote code up 4 ++ tbs tail) = S at hS hby
  have hget : ∀ i (h : i < S.size), S[i] = S.data.toList.getD i 0 := by
    intro i h
    have h' : i < S.data.toList.length := by simpa using h
    rw [List.getD, List.getElem?_eq_getElem h']
    rfl
  refine hex12 (hex28 S code up hc (by omega) (by unfold maxLen; omega) (by omega) (by omega) ?_ ?_ (fun t ht => ?_) w)
  · rw [hget 0, hby 0 (by omega), hw]; rfl
  · rw [hget 1, hby 1 (by omega), hw]; rfl
  · have e : (S.extract 2 6).data.toList.getD t 0 = S.data.toList.getD (2 + t) 0 := by
      rw [Lib.extract_data]
      simp only [List.getD]
      rw [List.getElem?_take_of_lt (by omega), List.getElem?_drop]
    rw [e, hby (2 + t) (by omega), hw]
    have : t = 0 ∨ t = 1 ∨ t = 2 ∨ t = 3 := by omega
    rcases this with rfl | rfl | rfl | rfl <;> rfl

set_option maxHeartbeats 1000000 in
theorem law4 (code mask : Nat) (hc : code < 65536) (tail : ByteArray) (hm : tail.size ≤ maxLen) (w : World) :
    Calls Try.prog 4 #[.int .u16 code, .int .u8 mask, .string tail] w fun e w' => e = .returned (.bool true) ∧ Below w.heap.size w w' := by
  have hb := bytes14 code mask tail hm w
  have HB : Hid (Calls Try.prog 14 #[.int .u16 code, .int .u8 mask, .string tail] w fun e w' => ∃ b : Bool, e = .returned (.bool b) ∧ w' = w) := hb
  clear hb
  unfold maxLen at hm
  obtain ⟨i0, hi, hz0, hz1, hz2⟩ := info_parts Try.info5
  by_cases h1 : tail.size ≤ 1048576
  · go_enter Try.func4, Try.ntmps4
    go_wp2_with fail
    refine HB.out.mono ?_
    rintro e w' ⟨b, rfl, hw⟩
    subst hw
    cases b
    · go_wp2
      go_ret
      exact ⟨rfl, Below.refl _ _⟩
    · go_wp2_with (first | (at_make; refine wpList_make_own _ rfl _ _ 28 rfl w'.heap.size 5 i0 (.int .u8 0) 1 Try.underlying28 hi hz0 hz1 .i64 .i64 _ (6 + tail.size) rfl rfl (by omega) (by rw [hz2]; omega) (by unfold maxLen; omega) (by simp) ?_; intro w1 hown1 hgrow1) | (at_builtin; refine wpList_append_fits _ rfl (.tmp 25) (.tmp 26) 28 rfl w'.heap.size 5 i0 1 Try.underlying28 hi hz1 w'.heap.size 0 (6 + tail.size) [] rfl (hown1.alloc _) ⟨w1.heap.size, 0, none⟩ 2 2 [.int .u8 92, .int .u8 117] rfl rfl (cell_two_new _ _ _ _) (ints_oneCell .u8 [92, 117]) (by omega) ?_; intro w2 hown2 hgrow2))
      have hbl : Below w'.heap.size w' w2 := (((Below.refl _ _).grown hgrow1 (Nat.le_refl _) (by simp)).alloc hgrow1.size _).grown hgrow2 (by have := hgrow1.size; simp; omega) (fun k hk => by cases hk; exact Nat.le_refl _)
      obtain ⟨up, hup⟩ : ∃ up : Nat → Bool, up = fun k => (bits .and .u8 ((mask : Int) / 2 ^ k) 1 == 1) := ⟨_, rfl⟩
      have HUP : Hid (up = fun k => (bits .and .u8 ((mask : Int) / 2 ^ k) 1 == 1)) := hup
      have hown0 : w2.ownsRow w'.heap.size 5 1 (.slice (some ⟨w'.heap.size, 0, none⟩) (2 + 0) (6 + tail.size)) (2 + 0) (ul (wrote code up 0)) := hown2
      clear hown1 hgrow1 hown2 hgrow2 hup
      go_loopw [7, 8] (fun bv kv wr => ∃ t : Nat, t ≤ 4 ∧ kv = .int .i64 (3 - (t : Int)) ∧ bv = .slice (some ⟨w'.heap.size, 0, none⟩) (2 + t) (6 + tail.size) ∧ wr.ownsRow w'.heap.size 5 1 (.slice (some ⟨w'.heap.size, 0, none⟩) (2 + t) (6 + tail.size)) (2 + t) (ul (wrote code up t)) ∧ Below w'.heap.size w' wr) (fun _ kv _ => (intOf kv + 1).toNat)
      case atStart => exact ⟨0, Nat.zero_le _, rfl, rfl, hown0, hbl⟩
      case round =>
        clear hown0 hbl
        obtain ⟨t, ht, rfl, rfl, hown, hbel⟩ := hrel
        have hsz := hbel.size
        by_cases hlt : t < 4
        · obtain ⟨kk, hkk⟩ : ∃ kk : Nat, 3 - t = kk := ⟨_, rfl⟩
          have hkv : (3 : Int) - (t : Int) = (kk : Int) := by omega
          have hk3 : kk ≤ 3 := by omega
          rw [hkv]
          obtain ⟨d, hd⟩ : ∃ d, dig code kk = d := ⟨_, rfl⟩
          have hdl : d < 16 := by rw [← hd]; exact dig_lt code kk
          obtain ⟨qc, hqc⟩ : ∃ qc : Int, (code : Int) / 2 ^ (4 * kk) = qc := ⟨_, rfl⟩
          have hqn : qc = ((code / 2 ^ (4 * kk) : Nat) : Int) := by rw [← hqc]; simp
          have hql : code / 2 ^ (4 * kk) < 65536 := Nat.lt_of_le_of_lt (Nat.div_le_self _ _) hc
          have hand : bits .and .i64 qc 15 = (d : Int) := by
            rw [hqn, and15 _ hql, ← hd]; rfl
          have hq0 : 0 ≤ qc := by rw [hqn]; exact Int.natCast_nonneg _
          have hq1 : qc ≤ 65535 := by rw [hqn]; exact Int.ofNat_le.2 (Nat.le_of_lt_succ hql)
          have HKV : Hid ((3 : Int) - (t : Int) = (kk : Int)) := hkv
          have HW : Hid (wrote code up (t + 1) = wrote code up t ++ [enc (d : Int) (up kk)]) := by
            show _ = _
            rw [wrote, hkk, hd]
          clear hd hqn hql hkk hkv
          by_cases h10 : (d : Int) < 10
          · have HE : Hid (enc (d : Int) (up kk) = 48 + (d : Int)) := by show _ = _; unfold enc; rw [if_pos h10]
            go_wp2_with (at_builtin; refine wpList_append_fits _ rfl (.tmp 58) (.tmp 60) 28 rfl w'.heap.size 5 i0 1 Try.underlying28 hi hz1 w'.heap.size (2 + t) (6 + tail.size) (ul (wrote code up t)) rfl (hown.alloc _) ⟨wr.heap.size, 0, none⟩ 1 1 [.int .u8 (48 + (d : Int))] rfl rfl (cell_one_new _ _ _) (ints_oneCell .u8 [48 + (d : Int)]) (by omega) ?_; intro w5 hown5 hgrow5)
            have hw5 : w5.ownsRow w'.heap.size 5 1 (.slice (some ⟨w'.heap.size, 0, none⟩) (2 + (t + 1)) (6 + tail.size)) (2 + (t + 1)) (ul (wrote code up (t + 1))) := by
              rw [HW.out]
              unfold ul
              rw [List.map_append, HE.out]
              exact hown5
            have hb5 : Below w'.heap.size w' w5 := (hbel.alloc hsz _).grown hgrow5 (by simp; omega) (fun k hk => by cases hk; exact Nat.le_refl _)
            clear hown5 hgrow5
            go_wp2
            go_roundw
            case rel => exact ⟨t + 1, by omega, by have := HKV.out; go_num, rfl, hw5, hb5⟩
            case measure => simp [intOf]
          · have h11 : 10 ≤ (d : Int) := by omega
            clear h10
            by_cases hu : (bits .and .u8 ((mask : Int) / 2 ^ kk) 1 == 1) = true
            · have HE : Hid (enc (d : Int) (up kk) = 65 + (d : Int) - 10) := by
                show _ = _
                unfold enc
                rw [if_neg (by omega), HUP.out, if_pos hu]; omega
              go_wp2_with (at_builtin; refine wpList_append_fits _ rfl (.tmp 58) (.tmp 60) 28 rfl w'.heap.size 5 i0 1 Try.underlying28 hi hz1 w'.heap.size (2 + t) (6 + tail.size) (ul (wrote code up t)) rfl (hown.alloc _) ⟨wr.heap.size, 0, none⟩ 1 1 [.int .u8 (65 + (d : Int) - 10)] rfl rfl (cell_one_new _ _ _) (ints_oneCell .u8 [65 + (d : Int) - 10]) (by omega) ?_; intro w5 hown5 hgrow5)
              have hw5 : w5.ownsRow w'.heap.size 5 1 (.slice (some ⟨w'.heap.size, 0, none⟩) (2 + (t + 1)) (6 + tail.size)) (2 + (t + 1)) (ul (wrote code up (t + 1))) := by
                rw [HW.out]
                unfold ul
                rw [List.map_append, HE.out]
                exact hown5
              have hb5 : Below w'.heap.size w' w5 := (hbel.alloc hsz _).grown hgrow5 (by simp; omega) (fun k hk => by cases hk; exact Nat.le_refl _)
              clear hown5 hgrow5
              go_wp2
              go_roundw
              case rel => exact ⟨t + 1, by omega, by have := HKV.out; go_num, rfl, hw5, hb5⟩
              case measure => simp [intOf]
            · have hu2 : (bits .and .u8 ((mask : Int) / 2 ^ kk) 1 == 1) = false := by simpa using hu
              have HE : Hid (enc (d : Int) (up kk) = 97 + (d : Int) - 10) := by
                show _ = _
                unfold enc
                rw [if_neg (by omega), HUP.out, if_neg hu]; omega
              clear hu
              go_wp2_with (at_builtin; refine wpList_append_fits _ rfl (.tmp 58) (.tmp 60) 28 rfl w'.heap.size 5 i0 1 Try.underlying28 hi hz1 w'.heap.size (2 + t) (6 + tail.size) (ul (wrote code up t)) rfl (hown.alloc _) ⟨wr.heap.size, 0, none⟩ 1 1 [.int .u8 (97 + (d : Int) - 10)] rfl rfl (cell_one_new _ _ _) (ints_oneCell .u8 [97 + (d : Int) - 10]) (by omega) ?_; intro w5 hown5 hgrow5)
              have hw5 : w5.ownsRow w'.heap.size 5 1 (.slice (some ⟨w'.heap.size, 0, none⟩) (2 + (t + 1)) (6 + tail.size)) (2 + (t + 1)) (ul (wrote code up (t + 1))) := by
                rw [HW.out]
                unfold ul
                rw [List.map_append, HE.out]
                exact hown5
              have hb5 : Below w'.heap.size w' w5 := (hbel.alloc hsz _).grown hgrow5 (by simp; omega) (fun k hk => by cases hk; exact Nat.le_refl _)
              clear hown5 hgrow5
              go_wp2
              go_roundw
              case rel => exact ⟨t + 1, by omega, by have := HKV.out; go_num, rfl, hw5, hb5⟩
              case measure => simp [intOf]
        · have ht4 : t = 4 := by omega
          subst ht4
          have h3 : (3 : Int) - ((4 : Nat) : Int) = -1 := by omega
          rw [h3]
          go_wp2_with (at_builtin; refine Lib.wpList_append_own_string _ rfl (.tmp 62) (.tmp 63) 28 9 rfl w'.heap.size 5 i0 Try.underlying28 Try.underlying9 hi hz0 hz1 hz2 _ (2 + 4) _ rfl hown tail rfl (by unfold maxLen; omega) (by omega) hsz ?_; intro v6 w6 hown6 hgrow6 hnil6; obtain ⟨g6, cap6, hv6, kc6⟩ := tail_conv hown6; rw [hv6])
          refine (hexS code up hc tail h1 w6).mono ?_
          rintro e w7 ⟨rfl, hb7⟩
          have hb8 : Below w'.heap.size w' w7 := (hbel.grown hgrow6 hsz (fun k hk => by cases hk; exact Nat.le_refl _)).trans (hb7.mono (by have := hgrow6.size; omega))
          clear kc6 hown6 hgrow6 hnil6
          have hci : (code : Int) ≤ 65535 := by omega
          go_wp2
          go_ret
          exact ⟨ret_bo (by simp), hb8⟩
  · go_enter Try.func4, Try.ntmps4
    go_wp2_with fail
    refine HB.out.mono ?_
    rintro e w' ⟨b, rfl, hw⟩
    subst hw
    cases b
    all_goals
      go_wp2
      go_ret
      exact ⟨rfl, Below.refl _ _⟩
end Go.Proofs.Qxb6601608a
