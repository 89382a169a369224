/-
  'putBits', 'ZZPutBits'.
-/
import Derived.Test.Qxb6000433aBitPut
namespace Go.Proofs.Qxb6000433a
open Go.RowKit BitPlain

def wl (cs : List Int) : List Value := cs.map (Value.int .u64)
theorem wl_get (cs : List Int) (q : Nat) (h : q < cs.length) : (wl cs)[q]? = some (.int .u64 (cs.getD q 0)) := by
  unfold wl
  rw [List.getElem?_map, List.getElem?_eq_getElem h]
  simp [List.getD, h]
theorem wl_set (cs : List Int) (q : Nat) (y : Int) : (wl cs).set q (.int .u64 y) = wl (cs.set q y) := by
  unfold wl; rw [List.map_set]
theorem Wrds.grown {w w' : World} {ao : Option Addr} {n B : Nat} {ws : List Int} {row : Option Nat} (h : Wrds w ao n ws B) (hg : w.grownBy w' row) (hne : 0 < n → some B ≠ row) : Wrds w' ao n ws B := by
  intro hn
  obtain ⟨h1, h2, h3⟩ := h hn
  exact ⟨h1, Nat.lt_of_lt_of_le h2 hg.size, fun i hi => hg.cell (h3 i hi) (hne hn)⟩

/-- One step laid. -/
theorem put_next {add : Bool} {g n base : Nat} {ds src cs : List Int} {D M q r k : Nat} {s sn x y dd : Int} {w wr : World}
    (hown : wr.ownsRow base 36 1 (.slice (some ⟨g, 0, none⟩) n n) n (wl cs)) (hdone : Done add ds src D s M cs) (hg : w.grownBy wr (some g)) (hcl : cs.length = n) (hqn : q < n) (hD : ((D + M : Nat) : Int) = dd) (hq : dd / 64 = (q : Int)) (hr : dd % 64 = (r : Int)) (hs : s + M = sn) (hx : At src sn x) (hk : r + k ≤ 64) (E : Nat) (hE : E = 64 - k)
    (hy : y = if add = true then bits .or .u64 (cs.getD q 0) (bits .and .u64 (IntKind.u64.wrap (x * 2 ^ r)) (IntKind.u64.wrap (18446744073709551615 / 2 ^ E * 2 ^ r))) else bits .or .u64 (bits .andNot .u64 (cs.getD q 0) (IntKind.u64.wrap (18446744073709551615 / 2 ^ E * 2 ^ r))) (bits .and .u64 (IntKind.u64.wrap (x * 2 ^ r)) (IntKind.u64.wrap (18446744073709551615 / 2 ^ E * 2 ^ r)))) :
    (wr.setCell ⟨g, q, none⟩ (.int .u64 y)).ownsRow base 36 1 (.slice (some ⟨g, 0, none⟩) n n) n (wl (cs.set q y)) ∧ Done add ds src D s (M + k) (cs.set q y) ∧ w.grownBy (wr.setCell ⟨g, q, none⟩ (.int .u64 y)) (some g) := by
  subst hE
  have hst := hown.stored q (.int .u64 y)
  rw [wl_set] at hst
  have hp := put_word hx (ws_get hdone.2.1 q) r k hk
  refine ⟨hst.1, ?_, ?_⟩
  · cases add
    · rw [if_neg (by decide)] at hy
      subst hy
      refine done_step hdone q _ (by omega) hp.2.1 r (by omega) hk (fun t ht => ?_)
      rw [hp.2.2 t ht, hs]
      simp
    · rw [if_pos rfl] at hy
      subst hy
      refine done_step hdone q _ (by omega) hp.1.1 r (by omega) hk (fun t ht => ?_)
      rw [hp.1.2 t ht, hs]
      simp
  · exact ⟨hst.2.os.trans hg.os, hst.2.tape.trans hg.tape, hst.2.output.trans hg.output, Nat.le_trans hg.size hst.2.size, fun k hk hne => (hst.2.block k (Nat.lt_of_lt_of_le hk hg.size) hne).trans (hg.block k hk hne)⟩

set_option maxHeartbeats 1000000 in
theorem put41 (add : Bool) (g n : Nat) (ds : List Int) (hl : ds.length = n) (hn : n ≤ 65536) (D : Nat) (ao : Option Addr) (m B : Nat) (src : List Int) (hsl : src.length = m) (hm : m ≤ 65536) (hsw : Ws src) (s : Int) (hs1 : -1073741824 ≤ s) (hs2 : s ≤ 1073741824) (N : Nat) (hN : N ≤ 65536) (hDN : D + N ≤ 64 * n) (hdw : Ws ds)
    (w : World) (base : Nat) (hown : w.ownsRow base 36 1 (.slice (some ⟨g, 0, none⟩) n n) n (wl ds)) (hsrc : Wrds w ao m src B) (hne : 0 < m → B ≠ g) :
    Calls Try.prog 41 #[.slice (some ⟨g, 0, none⟩) n n, .int .i64 D, .slice ao m m, .int .i64 s, .int .i64 N, .bool add] w fun e w' => e = .returned (.tuple #[]) ∧ ∃ cs, w'.ownsRow base 36 1 (.slice (some ⟨g, 0, none⟩) n n) n (wl cs) ∧ Done add ds src D s N cs ∧ w.grownBy w' (some g) := by
  have HW : Hid (Ws src) := hsw
  have HSL : Hid (src.length = m) := hsl
  have HL : Hid (ds.length = n) := hl
  have HSR : Hid (Wrds w ao m src B) := hsrc
  have h00 := done_zero add src D s hdw
  have HNE : Hid (0 < m → some B ≠ some g) := fun h e => hne h (by simpa using e)
  clear hsw hsl hl hsrc hdw hne
  go_enter Try.func41, Try.ntmps41
  go_wp2
  go_loopw [1, 3, 4] (fun dv sv nv wr => ∃ (M : Nat) (cs : List Int), M ≤ N ∧ dv = .int .i64 ((D + M : Nat) : Int) ∧ sv = .int .i64 (s + M) ∧ nv = .int .i64 ((N - M : Nat) : Int) ∧ wr.ownsRow base 36 1 (.slice (some ⟨g, 0, none⟩) n n) n (wl cs) ∧ Done add ds src D s M cs ∧ w.grownBy wr (some g)) (fun _ _ nv _ => (intOf nv).toNat)
  case atStart => exact ⟨0, ds, Nat.zero_le _, rfl, by simp, rfl, hown, h00, World.grownBy.refl _ _⟩
  case round =>
    clear hown h00
    obtain ⟨M, cs, hM, rfl, rfl, rfl, hown, hdone, hg⟩ := hrel
    by_cases hlt : M < N
    · obtain ⟨dd, hdd⟩ : ∃ dd : Int, ((D + M : Nat) : Int) = dd := ⟨_, rfl⟩
      obtain ⟨sn, hsn⟩ : ∃ sn : Int, s + M = sn := ⟨_, rfl⟩
      obtain ⟨R, hR⟩ : ∃ R : Nat, N - M = R := ⟨_, rfl⟩
      rw [hdd, hsn, hR]
      obtain ⟨q, hq⟩ : ∃ q : Nat, dd / 64 = (q : Int) := ⟨(dd / 64).toNat, by omega⟩
      obtain ⟨r, hr⟩ : ∃ r : Nat, dd % 64 = (r : Int) := ⟨(dd % 64).toNat, by omega⟩
      have hb : bits .and .i64 dd 63 = (r : Int) := by rw [and63]; exact hr
      have hr64 : r < 64 := by omega
      have hqn : q < n := by omega
      have hd0 : 0 ≤ dd := by omega
      have hd1 : dd ≤ 5000000 := by omega
      have hsn1 : -2147483648 ≤ sn := by omega
      have hsn2 : sn ≤ 1147483648 := by omega
      have hR0 : 0 < R := by omega
      have hR1 : R ≤ 65536 := by omega
      have hcl : cs.length = n := by rw [hdone.1, HL.out]
      have hcq : wr.cell? ⟨g, q, none⟩ = some (.int .u64 (cs.getD q 0)) := (hown.cellAt q (by omega)).trans (wl_get cs q (by omega))
      have hfq := hown.frozenAt q
      have hqi : (q : Int) < (n : Int) := by omega
      have hsrc := HSR.out.grown hg HNE.out
      have hcall := bitsAt45 ao m B src sn hm (by omega) (by omega) HSL.out HW.out wr hsrc
      have HCALL : Hid (Calls Try.prog 45 #[.slice ao m m, .int .i64 sn] wr fun e w' => ∃ x, e = .returned (.int .u64 x) ∧ At src sn x ∧ w' = wr) := hcall
      have HDD : Hid (((D + M : Nat) : Int) = dd) := hdd
      have HSN : Hid (s + M = sn) := hsn
      have HRR : Hid (N - M = R) := hR
      have HRQ : Hid (dd % 64 = (r : Int)) := hr
      have HCW : Hid (W (cs.getD q 0)) := ws_get hdone.2.1 q
      clear hdd hsn hR hsrc hcall hr
      obtain ⟨cq, hcqe⟩ : ∃ cq, cs.getD q 0 = cq := ⟨_, rfl⟩
      rw [hcqe] at hcq
      have HCQ : Hid (cs.getD q 0 = cq) := hcqe
      clear hcqe
      by_cases hk : 64 - r ≤ R
      · have hki : (64 : Int) - (r : Int) ≤ (R : Int) := by omega
        go_wp2_with fail
        refine HCALL.out.mono ?_
        rintro e w' ⟨x, rfl, hx, rfl⟩
        cases add
        · go_wp2
          have hnx := put_next hown hdone hg hcl hqn HDD.out hq HRQ.out HSN.out hx (k := 64 - r) (by omega) (64 - (64 - r)) (by omega) rfl
          rw [if_neg (by decide), HCQ.out] at hnx
          go_roundw
          case rel => exact ⟨M + (64 - r), _, by have := HRR.out; omega, by have := HDD.out; go_num, by have := HSN.out; go_num, by have := HRR.out; go_num, hnx.1, hnx.2.1, hnx.2.2⟩
          case measure => simp [intOf]; omega
        · go_wp2
          have hnx := put_next hown hdone hg hcl hqn HDD.out hq HRQ.out HSN.out hx (k := 64 - r) (by omega) (64 - (64 - r)) (by omega) rfl
          rw [if_pos rfl, HCQ.out] at hnx
          go_roundw
          case rel => exact ⟨M + (64 - r), _, by have := HRR.out; omega, by have := HDD.out; go_num, by have := HSN.out; go_num, by have := HRR.out; go_num, hnx.1, hnx.2.1, hnx.2.2⟩
          case measure => simp [intOf]; omega
      · have hki : (R : Int) < (64 : Int) - (r : Int) := by omega
        go_wp2_with fail
        refine HCALL.out.mono ?_
        rintro e w' ⟨x, rfl, hx, rfl⟩
        cases add
        · go_wp2
          have hnx := put_next hown hdone hg hcl hqn HDD.out hq HRQ.out HSN.out hx (k := R) (by omega) (64 - R) (by omega) rfl
          rw [if_neg (by decide), HCQ.out] at hnx
          go_roundw
          case rel => exact ⟨M + R, _, by have := HRR.out; omega, by have := HDD.out; go_num, by have := HSN.out; go_num, by have := HRR.out; go_num, hnx.1, hnx.2.1, hnx.2.2⟩
          case measure => simp [intOf]; omega
        · go_wp2
          have hnx := put_next hown hdone hg hcl hqn HDD.out hq HRQ.out HSN.out hx (k := R) (by omega) (64 - R) (by omega) rfl
          rw [if_pos rfl, HCQ.out] at hnx
          go_roundw
          case rel => exact ⟨M + R, _, by have := HRR.out; omega, by have := HDD.out; go_num, by have := HSN.out; go_num, by have := HRR.out; go_num, hnx.1, hnx.2.1, hnx.2.2⟩
          case measure => simp [intOf]; omega
    · have hMN : M = N := by omega
      subst hMN
      have h0 : ((M - M : Nat) : Int) = 0 := by omega
      rw [h0]
      go_wp2
      go_end0
      exact ⟨rfl, cs, hown, hdone, hg⟩

/-- Nothing to lay. -/
theorem put41_none (add : Bool) (ao ao2 : Option Addr) (n m : Nat) (d s : Int) (w : World) :
    Calls Try.prog 41 #[.slice ao n n, .int .i64 d, .slice ao2 m m, .int .i64 s, .int .i64 0, .bool add] w fun e w' => e = .returned (.tuple #[]) ∧ w' = w := by
  go_enter Try.func41, Try.ntmps41
  go_wp2
  refine wp_loop_rounds 1 ?_
  rw [rounds_succ]
  go_wp2
  go_end0
  exact ⟨rfl, rfl⟩

/-- 'ZZPutBits'. -/
theorem put22 {add : Bool} {ao ao2 : Option Addr} {n m : Nat} {d s N : Int} {w : World} {Q : World → Prop}
    (h : Calls Try.prog 41 #[.slice ao n n, .int .i64 d, .slice ao2 m m, .int .i64 s, .int .i64 N, .bool add] w fun e w' => e = .returned (.tuple #[]) ∧ Q w') :
    Calls Try.prog 22 #[.slice ao n n, .int .i64 d, .slice ao2 m m, .int .i64 s, .int .i64 N, .bool add] w fun e w' => e = .returned (.tuple #[]) ∧ Q w' := by
  have H : Hid (Calls Try.prog 41 #[.slice ao n n, .int .i64 d, .slice ao2 m m, .int .i64 s, .int .i64 N, .bool add] w fun e w' => e = .returned (.tuple #[]) ∧ Q w') := h
  clear h
  go_enter Try.func22, Try.ntmps22
  go_wp2_with (go_at_call 41; refine H.out.mono ?_; rintro e w' ⟨rfl, hq⟩)
  go_end0
  exact ⟨rfl, hq⟩
end Go.Proofs.Qxb6000433a
