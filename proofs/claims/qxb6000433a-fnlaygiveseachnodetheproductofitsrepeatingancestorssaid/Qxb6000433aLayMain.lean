/-
  'FnLayGivesEachNodeTheProductOfItsRepeatingAncestors'.
-/
import Derived.Test.Qxb6000433aTreeBuildA
import Derived.Test.Qxb6000433aTreeBuildN
import Derived.Test.Qxb6000433aTreeRow
import Derived.Test.Qxb6000433aLayWalk
import Derived.Test.Qxb6000433aLaySmall
namespace Go.Proofs.Qxb6000433a
open Go.RowKit

theorem wS_congr {M N : Nat → Int} : ∀ k, (∀ j, j < k → M j = N j) → wS M k = wS N k
  | 0, _ => rfl
  | k + 1, h => by rw [wS, wS, wS_congr k (fun j hj => h j (by omega)), h k (by omega)]
theorem bS_congr {ns : List Nd} {M N : Nat → Int} : ∀ k, (∀ j, j < k → M j = N j) → bS ns M k = bS ns N k
  | 0, _ => rfl
  | k + 1, h => by rw [bS, bS, bS_congr k (fun j hj => h j (by omega)), h k (by omega)]

/-- The tree's struct, laid into a new block. -/
theorem Built.rows9 {w : World} {B n : Nat} {v : Nat → Value} {ns : List Nd} {kids : Nat → List Nat} {pos : Nat} (h : Built w B n v ns kids pos) : Rows9 (w.alloc (.cells #[v 0, v 1, v 2, v 3, v 4, v 5, v 6, v 7, v 8] 28)) w.heap.size ns := by
  have each : ∀ i, i < 9 → ∃ q : Nat × Nat, v i = .slice (some ⟨q.1, 0, none⟩) ns.length q.2 ∧ q.1 < w.heap.size := by
    intro i hi
    have ho := h.rows i hi
    rcases ho.2 with ⟨_, h0⟩ | ⟨g, cap, cur, hv, _⟩
    · have := h.ne; omega
    · exact ⟨(g, cap), hv, (ho.lt g (by rw [hv]; rfl)).2⟩
  obtain ⟨q, hq⟩ := Go.Deep.choose_lt each
  have hnew := heap_alloc_new w (.cells #[v 0, v 1, v 2, v 3, v 4, v 5, v 6, v 7, v 8] 28)
  refine ⟨⟨fun i => (q i).1, fun i => (q i).2, fun i hi => ?_, fun i hi => ?_, fun i j hi hj => ?_⟩, by simp⟩
  · rw [← (hq i hi).1]
    unfold World.cell?
    dsimp only
    rw [hnew]
    dsimp only
    rw [get9 v i hi]; rfl
  · have := (hq i hi).2; simp; omega
  · have ho := h.rows i hi
    rw [(hq i hi).1] at ho
    have hc := ho.cellAt j (by omega)
    have hb := World.cell?_of_block (w := w) (w' := w.alloc (.cells #[v 0, v 1, v 2, v 3, v 4, v 5, v 6, v 7, v 8] 28)) (a := ⟨(q i).1, j, none⟩) (Below.heap_alloc _ _ _ (hq i hi).2)
    rw [hb, hc, List.getElem?_map]
    unfold nodeAt
    simp [List.getD, hj]

theorem lay30 (pb gn pos : Nat) (ns : List Nd) (kids : Nat → List Nat) (hn0 : 0 < ns.length) (hn : ns.length ≤ 65536) (hp : pos ≤ 524288) (hfo : Forest ns [ns.length - 1] kids pos) (hT : ∀ v, v < ns.length → prodT ns (parOf kids ns.length) v ≤ 1048576) (w : World) (hgp : gn < pb) (hno : NodesAt w gn ns.length ns (fun _ => y0)) (hpb : PB w pb gn ns.length 0 0) :
    Calls Try.prog 30 #[.pointer (some ⟨pb, 0, none⟩)] w fun e w' => e = .returned (.tuple #[]) ∧ ∃ Y, NodesAt w' gn ns.length ns Y ∧ (∀ u, u < ns.length → (Y u).mult = prodT ns (parOf kids ns.length) u ∧ (Y u).words = (prodT ns (parOf kids ns.length) u + 63) / 64) ∧ PB w' pb gn ns.length (bS ns (prodT ns (parOf kids ns.length)) ns.length) (wS (prodT ns (parOf kids ns.length)) ns.length) ∧ Below gn w w' := by
  have hcall := lay43 pb gn pos ns kids hn0 hn hp hfo hT w hgp hno hpb
  clear hno hpb hT hfo
  go_enter Try.func30, Try.ntmps30
  go_wp2_with fail
  refine hcall.mono ?_
  rintro e w' ⟨rfl, h⟩
  go_wp2
  go_end0
  exact ⟨rfl, h⟩

set_option maxHeartbeats 8000000 in
theorem law8 (ao : Option Addr) (n c : Nat) (os : List OpD) (hn : n ≤ maxLen) (w : World) (hops : 0 < n → ∃ b off, ao = some ⟨b, off, none⟩ ∧ b < w.heap.size ∧ OpsAt w b off n os) (hr : ∀ i, i < n → OpR (os.getD i oz)) :
    Calls Try.prog 8 #[.slice ao n c] w fun e w' => e = .returned (.bool true) ∧ Below w.heap.size w w' := by
  have HOPS : Hid (0 < n → ∃ b off, ao = some ⟨b, off, none⟩ ∧ b < w.heap.size ∧ OpsAt w b off n os) := hops
  have HR : Hid (∀ i, i < n → OpR (os.getD i oz)) := hr
  have HN : Hid (n ≤ maxLen) := hn
  unfold maxLen at hn
  clear hops hr
  go_enter Try.func8, Try.ntmps8
  go_wp2_with fail
  refine (bytes26 ao n c HN.out w).mono ?_
  rintro e w1 ⟨b, rfl, hw1⟩
  subst hw1
  cases b with
  | false =>
    go_wp2
    go_ret
    exact ⟨rfl, Below.refl _ _⟩
  | true =>
    by_cases h4 : (4096 : Int) < (n : Int)
    · go_wp2
      go_ret
      exact ⟨rfl, Below.refl _ _⟩
    · by_cases h0 : n = 0
      · subst h0
        go_wp2_with fail
        refine (clone11_empty ao c w1).mono ?_
        rintro e w2 ⟨ao', rfl, hb2⟩
        go_wp2_with fail
        refine (build12_nil ao' 0 w2).mono ?_
        rintro e w3 ⟨rfl, hb3⟩
        have hb4 : Below w1.heap.size w1 w3 := hb2.trans (hb3.mono hb2.size)
        go_wp2
        go_ret
        exact ⟨rfl, hb4.alloc hb4.size _⟩
      · obtain ⟨b, off, rfl, hb, hat⟩ := HOPS.out (by omega)
        have hcl := clone11_some b off n c os (by omega) w1 hb hat
        clear HOPS hat
        go_wp2_with fail
        refine hcl.mono ?_
        rintro e w2 ⟨rfl, hat2, hsz2, hb2⟩
        have hbu := build12 w1.heap.size n os (by omega) w2 hsz2 hat2 HR.out
        clear hcl hat2
        go_wp2_with fail
        refine hbu.mono ?_
        rintro e w3 ⟨ok, v, rfl, hsl, hb3, hok⟩
        clear hbu
        obtain ⟨p0, l0, c0, E0⟩ := hsl 0 (by omega)
        obtain ⟨p1, l1, c1, E1⟩ := hsl 1 (by omega)
        obtain ⟨p2, l2, c2, E2⟩ := hsl 2 (by omega)
        obtain ⟨p3, l3, c3, E3⟩ := hsl 3 (by omega)
        obtain ⟨p4, l4, c4, E4⟩ := hsl 4 (by omega)
        obtain ⟨p5, l5, c5, E5⟩ := hsl 5 (by omega)
        obtain ⟨p6, l6, c6, E6⟩ := hsl 6 (by omega)
        obtain ⟨p7, l7, c7, E7⟩ := hsl 7 (by omega)
        obtain ⟨p8, l8, c8, E8⟩ := hsl 8 (by omega)
        have HOK : Hid (ok = true → ∃ ns kids pos, Built w3 (w2.heap.size + 2) n v ns kids pos) := hok
        clear hok hsl
        have hb4 : Below w1.heap.size w1 w3 := hb2.trans (hb3.mono hb2.size)
        rw [E0, E1, E2, E3, E4, E5, E6, E7, E8]
        cases ok with
        | false =>
          go_wp2
          go_ret
          exact ⟨rfl, hb4.alloc hb4.size _⟩
        | true =>
          obtain ⟨ns, kids, pos, hbt⟩ := HOK.out rfl
          have hr9 := hbt.rows9
          rw [E0, E1, E2, E3, E4, E5, E6, E7, E8] at hr9
          have HR9 : Hid _ := hr9
          clear HOK hr9 E0 E1 E2 E3 E4 E5 E6 E7 E8
          have hfo := hbt.fo
          have hne := hbt.ne
          have hnl : ns.length ≤ 65536 := by have := hbt.nl; omega
          have hpos : pos ≤ 524288 := by have := hbt.pl; omega
          have HFO : Hid (Forest ns [ns.length - 1] kids pos) := hfo
          have hb5 : Below w1.heap.size w1 (w3.alloc (.cells #[.slice p0 l0 c0, .slice p1 l1 c1, .slice p2 l2 c2, .slice p3 l3 c3, .slice p4 l4 c4, .slice p5 l5 c5, .slice p6 l6 c6, .slice p7 l7 c7, .slice p8 l8 c8] 28)) := hb4.alloc hb4.size _
          have HB5 : Hid _ := hb5
          clear hfo hb5 hbt hb4
          go_wp2_with fail
          have hr9 := HR9.out
          have hb5 := HB5.out
          clear HR9 HB5
          generalize w3.alloc (.cells #[.slice p0 l0 c0, .slice p1 l1 c1, .slice p2 l2 c2, .slice p3 l3 c3, .slice p4 l4 c4, .slice p5 l5 c5, .slice p6 l6 c6, .slice p7 l7 c7, .slice p8 l8 c8] 28) = w4 at hr9 hb5 ⊢
          generalize w3.heap.size = tb at hr9 ⊢
          refine (mult27 tb pos ns kids hne hnl HFO.out w4 hr9).mono ?_
          rintro e w5 ⟨gm, rfl, hmr, hb45⟩
          have hr95 := hr9.below hb45 (Nat.le_refl _)
          have hb15 : Below w1.heap.size w1 w5 := hb5.trans (hb45.mono hb5.size)
          obtain ⟨M, hM⟩ : ∃ M, multM ns (parOf kids ns.length) = M := ⟨_, rfl⟩
          rw [hM] at hmr
          have HM : Hid (multM ns (parOf kids ns.length) = M) := hM
          clear hM
          have HMB : Hid (∀ j, j < ns.length → 0 ≤ M j ∧ M j ≤ satur) := fun j hj => by rw [← HM.out]; exact multM_bd HFO.out j hj
          go_wp2_with fail
          refine (cap29 w5).mono ?_
          rintro e w5' ⟨rfl, hw5⟩
          subst hw5
          go_wp2_with fail
          refine (tot28 tb pos gm w4.heap.size ns kids M hnl hpos HFO.out.ok HMB.out w5' hr95 hmr).mono ?_
          rintro e w6 ⟨bt, wt, ok2, rfl, hb56, hok2⟩
          have hb16 : Below w1.heap.size w1 w6 := hb15.trans (hb56.mono hb15.size)
          have hr96 := hr95.below hb56 (Nat.le_refl _)
          have hmr6 : RowZ w6 w4.heap.size 2 gm ns.length M := hmr.block (hb56.block gm hmr.lt.2)
          cases ok2 with
          | false =>
            clear hok2
            go_wp2
            go_ret
            exact ⟨rfl, hb16⟩
          | true =>
            obtain ⟨hsm, rfl, rfl⟩ := hok2 rfl
            clear hok2
            have hTM : ∀ j, j < ns.length → prodT ns (parOf kids ns.length) j = M j := fun j hj => by rw [← HM.out]; exact multM_small HFO.out j hj (by rw [HM.out]; exact hsm j hj)
            have HTM : Hid (∀ j, j < ns.length → prodT ns (parOf kids ns.length) j = M j) := hTM
            have HSM : Hid (∀ j, j < ns.length → M j ≤ 1048576) := hsm
            clear hTM hsm
            obtain ⟨bt, hbt⟩ : ∃ bt, bS ns M ns.length = bt := ⟨_, rfl⟩
            obtain ⟨wt, hwt⟩ : ∃ wt, wS M ns.length = wt := ⟨_, rfl⟩
            rw [hbt, hwt]
            have HBT : Hid (bS ns M ns.length = bt) := hbt
            have HWT : Hid (wS M ns.length = wt) := hwt
            clear hbt hwt
            have hpr := program17 tb ns hnl w6 hr96
            go_wp2_with fail
            refine hpr.mono ?_
            rintro e w7 ⟨pb, xs, rfl, hpa, hnd, hb67⟩
            clear hpr
            have hno : NodesAt w7 w6.heap.size ns.length ns (fun _ => y0) := ⟨xs, hpa.own, hnd⟩
            have hpb : PB w7 pb w6.heap.size ns.length 0 0 := hpa.blk
            have hly := lay30 pb w6.heap.size pos ns kids hne hnl hpos HFO.out (fun v hv => by rw [HTM.out v hv]; exact HSM.out v hv) w7 hpa.lt hno hpb
            clear hpa hnd hno hpb
            go_wp2_with fail
            refine hly.mono ?_
            rintro e w8 ⟨rfl, Y, hno, hY, hpb, hb78⟩
            clear hly
            rw [bS_congr ns.length HTM.out, wS_congr ns.length HTM.out, HBT.out, HWT.out] at hpb
            have HY : Hid (∀ u, u < ns.length → (Y u).mult = M u ∧ (Y u).words = (M u + 63) / 64) := fun u hu => by rw [← HTM.out u hu]; exact hY u hu
            have hb68 : Below w6.heap.size w6 w8 := hb67.trans hb78
            clear hY hb67 hb78
            have hsz := sizes31 pb w6.heap.size ns.length bt wt w8 hpb
            go_wp2_with fail
            refine hsz.mono ?_
            rintro e w9 ⟨rfl, q9, hw9⟩
            clear hsz
            have hno9 : NodesAt w9 w6.heap.size ns.length ns Y := hno.block (by rw [hw9]; rfl)
            have hpb9 : PB w9 pb w6.heap.size ns.length bt wt := hpb.block (by rw [hw9]; rfl)
            have hb69 : Below w6.heap.size w6 w9 := by rw [hw9]; exact below_drewN hb68 _
            clear hw9 hno hpb hb68
            obtain ⟨g, cap, k1, k2, k3⟩ := hr96.cells
            have T0 : w6.cell? ⟨tb, 0, none⟩ = some (.slice (some ⟨g 0, 0, none⟩) ns.length (cap 0)) := k1 0 (by omega)
            have HTB : Hid (tb < w6.heap.size) := hr96.lt
            have HT0 : Hid (w6.cell? ⟨tb, 0, none⟩ = some (.slice (some ⟨g 0, 0, none⟩) ns.length (cap 0))) := T0
            have HMC : Hid (∀ j, j < ns.length → w6.cell? ⟨gm, j, none⟩ = some (.int .i64 (M j))) := fun j hj => hmr6.cell j hj
            have HGM : Hid (gm < w6.heap.size) := hmr6.lt.2
            clear k1 k2 k3 T0 hr9 hr95 hr96 hmr hmr6
            go_wp2_with fail
            go_loopw [12, 13, 14, 15, 16] (fun iv _ _ _ _ wz => ∃ k : Nat, k ≤ ns.length ∧ iv = .int .i64 k ∧ NodesAt wz w6.heap.size ns.length ns Y ∧ PB wz pb w6.heap.size ns.length bt wt ∧ Below w6.heap.size w6 wz) (fun iv _ _ _ _ _ => ns.length - (intOf iv).toNat)
            case atStart => exact ⟨0, Nat.zero_le _, rfl, hno9, hpb9, hb69⟩
            case round =>
              clear hno9 hpb9 hb69
              obtain ⟨k, hk, rfl, hno, hpb, hbel⟩ := hrel
              have t0 : wr.cell? ⟨tb, 0, none⟩ = _ := (hbel.cell HTB.out).trans HT0.out
              by_cases hlt : k < ns.length
              · have hki : (k : Int) < (ns.length : Int) := by omega
                obtain ⟨hy1, hy2⟩ := HY.out k hlt
                have c10 : wr.cell? ⟨w6.heap.size, k * 14 + 10, none⟩ = some (.int .i32 (Y k).mult) := hno.cell k 10 hlt (by omega)
                have c11 : wr.cell? ⟨w6.heap.size, k * 14 + 11, none⟩ = some (.int .i32 (Y k).base) := hno.cell k 11 hlt (by omega)
                have c12 : wr.cell? ⟨w6.heap.size, k * 14 + 12, none⟩ = some (.int .i32 (Y k).vec) := hno.cell k 12 hlt (by omega)
                have c13 : wr.cell? ⟨w6.heap.size, k * 14 + 13, none⟩ = some (.int .i32 (Y k).words) := hno.cell k 13 hlt (by omega)
                rw [hy1] at c10
                rw [hy2] at c13
                have hcall := layout32 pb w6.heap.size ns.length k bt wt (M k) (Y k).base (Y k).vec ((M k + 63) / 64) hlt wr hpb c10 c11 c12 c13
                have hmb := HMB.out k hlt
                have hms := HSM.out k hlt
                have MC := HMC.out k hlt
                clear hy1 hy2 c10 c11 c12 c13
                obtain ⟨mk, hmk⟩ : ∃ mk, M k = mk := ⟨_, rfl⟩
                rw [hmk] at hcall hmb hms MC
                clear hmk
                go_wp2_with fail
                refine hcall.mono ?_
                rintro e wx ⟨rfl, qx, hwx⟩
                clear hcall
                have hnox : NodesAt wx w6.heap.size ns.length ns Y := hno.block (by rw [hwx]; rfl)
                have hpbx : PB wx pb w6.heap.size ns.length bt wt := hpb.block (by rw [hwx]; rfl)
                have hbx : Below w6.heap.size w6 wx := by rw [hwx]; exact below_drewN hbel _
                have mc : wx.cell? ⟨gm, k, none⟩ = some (.int .i64 mk) := (hbx.cell HGM.out).trans MC
                clear hwx hno hpb hbel t0 MC
                go_wp2
                go_roundw
                case rel => exact ⟨k + 1, by omega, by go_num, hnox, hpbx, hbx⟩
                case measure => simp [intOf]; omega
              · have hkn : k = ns.length := by omega
                subst hkn
                go_wp2
                go_ret
                exact ⟨rfl, hb16.trans (hbel.mono hb16.size)⟩
end Go.Proofs.Qxb6000433a
