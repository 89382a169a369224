/-
  'FnShortestIsLeastMatchLength'.
-/
import Derived.Test.Qxb6000433aTreeBuildA
import Derived.Test.Qxb6000433aTreeBuildN
import Derived.Test.Qxb6000433aTreeRow
import Derived.Test.Qxb6000433aShortWalk
import Derived.Test.Qxb6000433aShortLeast
import Derived.Test.Qxb6000433aShortLen
namespace Go.Proofs.Qxb6000433a
open Go.RowKit

/-- The tree's struct, laid into a new block. -/
theorem Built.rows9s {w : World} {B n : Nat} {v : Nat → Value} {ns : List Nd} {kids : Nat → List Nat} {pos : Nat} (h : Built w B n v ns kids pos) : Rows9 (w.alloc (.cells #[v 0, v 1, v 2, v 3, v 4, v 5, v 6, v 7, v 8] 28)) w.heap.size ns := by
  have each : ∀ i, i < 9 → ∃ q : Nat × Nat, v i = .slice (some ⟨q.1, 0, none⟩) ns.length q.2 ∧ q.1 < w.heap.size := by
    intro i hi
    have ho := h.rows i hi
    rcases ho.2 with ⟨_, h0⟩ | ⟨g, cap, cur, hv, _⟩
    · have := h.ne; omega
    · exact ⟨(g, cap), hv, (ho.lt g (by rw [hv]; rfl)).2⟩
  obtain ⟨q, hq⟩ := Go.Deep.choose_lt each
  have hnew := heap_alloc_new w (.cells #[v 0, v 1, v 2, v 3, v 4, v 5, v 6, v 7, v 8] 28)
  refine ⟨⟨fun i => (q i).1, fun i => (q i).2, fun i hi => ?_, fun i hi => ?_, fun i j hi hj => ?_⟩, by simp⟩
  · rw [← (hq i hi).1]
    unfold World.cell?
    dsimp only
    rw [hnew]
    dsimp only
    rw [get9 v i hi]; rfl
  · have := (hq i hi).2; simp; omega
  · have ho := h.rows i hi
    rw [(hq i hi).1] at ho
    have hc := ho.cellAt j (by omega)
    have hb := World.cell?_of_block (w := w) (w' := w.alloc (.cells #[v 0, v 1, v 2, v 3, v 4, v 5, v 6, v 7, v 8] 28)) (a := ⟨(q i).1, j, none⟩) (Below.heap_alloc _ _ _ (hq i hi).2)
    rw [hb, hc, List.getElem?_map]
    unfold nodeAt
    simp [List.getD, hj]

theorem zzshortest16 (pb gn pos : Nat) (bb vv : Int) (ns : List Nd) (kids : Nat → List Nat) (Y : Nat → Ly) (hn0 : 0 < ns.length) (hn : ns.length ≤ 65536) (hfo : Forest ns [ns.length - 1] kids pos) (hBD : ∀ v, v < ns.length → U ns kids v ≤ 1073741824) (w : World) (hno : NodesAt w gn ns.length ns Y) (hpb : PB w pb gn ns.length bb vv) :
    Calls Try.prog 16 #[.pointer (some ⟨pb, 0, none⟩)] w fun e w' => e = .returned (.int .i64 (U ns kids (ns.length - 1) : Nat)) ∧ Below w.heap.size w w' := by
  have hcall := shortest39 pb gn pos bb vv ns kids Y hn0 hn hfo hBD w hno hpb
  clear hno hpb hBD hfo
  go_enter Try.func16, Try.ntmps16
  go_wp2_with fail
  refine hcall.mono ?_
  rintro e w' ⟨rfl, h⟩
  go_wp2
  go_ret
  exact ⟨rfl, h⟩

set_option maxRecDepth 20000 in
set_option maxHeartbeats 8000000 in
theorem law3 (ao : Option Addr) (n c : Nat) (os : List OpD) (hn : n ≤ maxLen) (w : World) (hops : 0 < n → ∃ b off, ao = some ⟨b, off, none⟩ ∧ b < w.heap.size ∧ OpsAt w b off n os) (hr : ∀ i, i < n → OpR (os.getD i oz)) :
    Calls Try.prog 3 #[.slice ao n c] w fun e w' => e = .returned (.bool true) ∧ Below w.heap.size w w' := by
  have HOPS : Hid (0 < n → ∃ b off, ao = some ⟨b, off, none⟩ ∧ b < w.heap.size ∧ OpsAt w b off n os) := hops
  have HR : Hid (∀ i, i < n → OpR (os.getD i oz)) := hr
  have HN : Hid (n ≤ maxLen) := hn
  unfold maxLen at hn
  clear hops hr
  go_enter Try.func3, Try.ntmps3
  go_wp2_with fail
  refine (bytes10 ao n c HN.out w).mono ?_
  rintro e w1 ⟨b, rfl, hw1⟩
  subst hw1
  cases b with
  | false =>
    go_wp2
    go_ret
    exact ⟨rfl, Below.refl _ _⟩
  | true =>
    by_cases h4 : (4096 : Int) < (n : Int)
    · go_wp2
      go_ret
      exact ⟨rfl, Below.refl _ _⟩
    · by_cases h0 : n = 0
      · subst h0
        go_wp2_with fail
        refine (clone11_empty ao c w1).mono ?_
        rintro e w2 ⟨ao', rfl, hb2⟩
        go_wp2_with fail
        refine (build12_nil ao' 0 w2).mono ?_
        rintro e w3 ⟨rfl, hb3⟩
        have hb4 : Below w1.heap.size w1 w3 := hb2.trans (hb3.mono hb2.size)
        go_wp2
        go_ret
        exact ⟨rfl, hb4.alloc hb4.size _⟩
      · obtain ⟨b, off, rfl, hb, hat⟩ := HOPS.out (by omega)
        have hcl := clone11_some b off n c os (by omega) w1 hb hat
        clear HOPS hat
        go_wp2_with fail
        refine hcl.mono ?_
        rintro e w2 ⟨rfl, hat2, hsz2, hb2⟩
        have hbu := build12 w1.heap.size n os (by omega) w2 hsz2 hat2 HR.out
        clear hcl hat2
        go_wp2_with fail
        refine hbu.mono ?_
        rintro e w3 ⟨ok, v, rfl, hsl, hb3, hok⟩
        clear hbu
        obtain ⟨p0, l0, c0, E0⟩ := hsl 0 (by omega)
        obtain ⟨p1, l1, c1, E1⟩ := hsl 1 (by omega)
        obtain ⟨p2, l2, c2, E2⟩ := hsl 2 (by omega)
        obtain ⟨p3, l3, c3, E3⟩ := hsl 3 (by omega)
        obtain ⟨p4, l4, c4, E4⟩ := hsl 4 (by omega)
        obtain ⟨p5, l5, c5, E5⟩ := hsl 5 (by omega)
        obtain ⟨p6, l6, c6, E6⟩ := hsl 6 (by omega)
        obtain ⟨p7, l7, c7, E7⟩ := hsl 7 (by omega)
        obtain ⟨p8, l8, c8, E8⟩ := hsl 8 (by omega)
        have HOK : Hid (ok = true → ∃ ns kids pos, Built w3 (w2.heap.size + 2) n v ns kids pos) := hok
        clear hok hsl
        have hb4 : Below w1.heap.size w1 w3 := hb2.trans (hb3.mono hb2.size)
        rw [E0, E1, E2, E3, E4, E5, E6, E7, E8]
        cases ok with
        | false =>
          go_wp2
          go_ret
          exact ⟨rfl, hb4.alloc hb4.size _⟩
        | true =>
          obtain ⟨ns, kids, pos, hbt⟩ := HOK.out rfl
          have hr9 := hbt.rows9s
          rw [E0, E1, E2, E3, E4, E5, E6, E7, E8] at hr9
          have HR9 : Hid _ := hr9
          clear HOK hr9 E0 E1 E2 E3 E4 E5 E6 E7 E8
          have hfo := hbt.fo
          have hne := hbt.ne
          have hnl : ns.length ≤ 65536 := by have := hbt.nl; omega
          have HFO : Hid (Forest ns [ns.length - 1] kids pos) := hfo
          have hb5 : Below w1.heap.size w1 (w3.alloc (.cells #[.slice p0 l0 c0, .slice p1 l1 c1, .slice p2 l2 c2, .slice p3 l3 c3, .slice p4 l4 c4, .slice p5 l5 c5, .slice p6 l6 c6, .slice p7 l7 c7, .slice p8 l8 c8] 28)) := hb4.alloc hb4.size _
          have HB5 : Hid _ := hb5
          clear hfo hb5 hbt hb4
          go_wp2_with fail
          have hr9 := HR9.out
          have hb5 := HB5.out
          clear HR9 HB5
          generalize w3.alloc (.cells #[.slice p0 l0 c0, .slice p1 l1 c1, .slice p2 l2 c2, .slice p3 l3 c3, .slice p4 l4 c4, .slice p5 l5 c5, .slice p6 l6 c6, .slice p7 l7 c7, .slice p8 l8 c8] 28) = w4 at hr9 hb5 ⊢
          generalize w3.heap.size = tb at hr9 ⊢
          refine (bounded13 tb pos ns kids hne hnl HFO.out w4 hr9).mono ?_
          rintro e w5 ⟨ok2, rfl, hbd, hb45⟩
          have HBD : Hid (ok2 = true → ∀ v, v < ns.length → U ns kids v ≤ 1073741824) := hbd
          have hr95 := hr9.below hb45 (Nat.le_refl _)
          have hb15 : Below w1.heap.size w1 w5 := hb5.trans (hb45.mono hb5.size)
          clear hbd hb45 hr9 hb5
          cases ok2 with
          | false =>
            go_wp2
            go_ret
            exact ⟨rfl, hb15⟩
          | true =>
            have hbd := HBD.out rfl
            have HBU : Hid (∀ v, v < ns.length → U ns kids v ≤ 1073741824) := hbd
            clear hbd HBD
            go_wp2_with fail
            refine (sets14 tb pos ns kids hne hnl HFO.out w5 hr95).mono ?_
            rintro e w6 ⟨F, rfl, hrow, hset, hb56⟩
            obtain ⟨m, hm⟩ : ∃ m : Nat, (ns.length : Int) - 1 = m := ⟨ns.length - 1, by omega⟩
            have hmn : m < ns.length := by omega
            have hm2 : (m : Int) < (ns.length : Int) := by omega
            have hm0 : (0 : Int) ≤ (m : Int) := by omega
            have HME : Hid (ns.length - 1 = m) := by show _ = _; omega
            have hso : SetOk [F m 0, F m 1, F m 2, F m 3] (U ns kids m) := hset m hmn
            have r0 : w6.cell? ⟨w5.heap.size, m * 4, none⟩ = some (.int .u64 (F m 0)) := hrow.cell m 0 hmn (by omega)
            have r1 := hrow.cell m 1 hmn (by omega)
            have r2 := hrow.cell m 2 hmn (by omega)
            have r3 := hrow.cell m 3 hmn (by omega)
            have hr96 := hr95.below hb56 (Nat.le_refl _)
            have hb16 : Below w1.heap.size w1 w6 := hb15.trans (hb56.mono hb15.size)
            obtain ⟨g, cap, k1, k2, k3⟩ := hr96.cells
            have T0 : w6.cell? ⟨tb, 0, none⟩ = some (.slice (some ⟨g 0, 0, none⟩) ns.length (cap 0)) := k1 0 (by omega)
            clear k1 k2 k3 hset hrow hr95 hb15 hb56
            generalize F m 0 = s0 at r0 hso
            generalize F m 1 = s1 at r1 hso
            generalize F m 2 = s2 at r2 hso
            generalize F m 3 = s3 at r3 hso
            have HSO : Hid (SetOk [s0, s1, s2, s3] (U ns kids m)) := hso
            have HR96 : Hid (Rows9 w6 tb ns) := hr96
            clear hso hr96
            go_wp2_with fail
            refine (lleast15 s0 s1 s2 s3 HSO.out.1 w6).mono ?_
            rintro e w7 ⟨r, rfl, hrx, hb67⟩
            have hrv := hrx (U ns kids m) HSO.out.2
            have HRV : Hid (r = if U ns kids m < 256 then ((U ns kids m : Nat) : Int) else -1) := hrv
            have hr97 := HR96.out.below hb67 (Nat.le_refl _)
            have hb17 : Below w1.heap.size w1 w7 := hb16.trans (hb67.mono hb16.size)
            clear hrx hrv r0 r1 r2 r3 T0 HR96 hb67 hb16 HSO
            have hpr := program17 tb ns hnl w7 hr97
            go_wp2_with fail
            refine hpr.mono ?_
            rintro e w8 ⟨pb, xs, rfl, hpa, hnd, hb78⟩
            clear hpr hr97
            have hno : NodesAt w8 w7.heap.size ns.length ns (fun _ => y0) := ⟨xs, hpa.own, hnd⟩
            have hpb : PB w8 pb w7.heap.size ns.length 0 0 := hpa.blk
            have hsh := zzshortest16 pb w7.heap.size pos 0 0 ns kids (fun _ => y0) hne hnl HFO.out HBU.out w8 hno hpb
            rw [HME.out] at hsh
            have hb18 : Below w1.heap.size w1 w8 := hb17.trans (hb78.mono hb17.size)
            clear hpa hnd hno hpb hb78 hb17
            generalize U ns kids m = um at hsh HRV
            go_wp2_with fail
            refine hsh.mono ?_
            rintro e w9 ⟨rfl, hb89⟩
            clear hsh
            have hb19 : Below w1.heap.size w1 w9 := hb18.trans (hb89.mono hb18.size)
            clear hb18 hb89
            by_cases hu : um < 256
            · have hrr : r = (um : Int) := by rw [HRV.out, if_pos hu]
              subst hrr
              have hu0 : ¬ (um : Int) < 0 := by omega
              go_wp2
              go_ret
              exact ⟨by simp, hb19⟩
            · have hrr : r = -1 := by rw [HRV.out, if_neg hu]
              subst hrr
              have hu0 : (256 : Int) ≤ (um : Int) := by omega
              go_wp2
              go_ret
              exact ⟨by simp, hb19⟩
end Go.Proofs.Qxb6000433a
