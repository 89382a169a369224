/-
  'leastBounded'.
-/
import Derived.Test.Qxb6000433aShortPlain
import Derived.Test.Qxb6000433aLayStep
import Derived.StillTailTactics
import Derived.RegionTactic
import Derived.BigRegion
import Derived.BigQuiet
import Derived.WalkSmall
namespace Go.Proofs.Qxb6000433a
open Go.RowKit

theorem nodup_len : ∀ (n : Nat) (l : List Nat), l.Nodup → (∀ c ∈ l, c < n) → l.length ≤ n
  | 0, [], _, _ => Nat.le_refl _
  | 0, c :: r, _, h => absurd (h c (List.mem_cons_self ..)) (Nat.not_lt_zero _)
  | n + 1, l, hn, h => by
    by_cases e : n ∈ l
    · have h1 := nodup_len n (l.erase n) (hn.erase n) (fun c hc => by
        have h2 := (hn.mem_erase_iff).1 hc
        have h3 := h c h2.2
        have h4 := h2.1
        omega)
      rw [List.length_erase_of_mem e] at h1
      omega
    · have h1 := nodup_len n l hn (fun c hc => by
        have h3 := h c hc
        have h4 : c ≠ n := fun q => e (q ▸ hc)
        omega)
      omega
theorem sumU_le (u : Nat → Nat) (B : Nat) : ∀ l : List Nat, (∀ c ∈ l, u c ≤ B) → sumU u l ≤ l.length * B
  | [], _ => Nat.zero_le _
  | c :: r, h => by
    have h1 := h c (List.mem_cons_self ..)
    have h2 := sumU_le u B r (fun x hx => h x (List.mem_cons_of_mem _ hx))
    rw [sumU, List.length_cons, Nat.succ_mul]; omega
theorem sumU_snoc (u : Nat → Nat) (l : List Nat) (c : Nat) : sumU u (l ++ [c]) = sumU u l + u c := by rw [sumU_app]; simp [sumU]
theorem minU_snoc (u : Nat → Nat) (l : List Nat) (c : Nat) (h : u c ≤ 1073741824) : minU u (l ++ [c]) = min (minU u l) (u c) := by rw [minU_app]; simp only [minU]; omega
theorem minU_one (u : Nat → Nat) (c : Nat) (h : u c ≤ 1073741824) : minU u [c] = u c := by simp only [minU]; omega
theorem sumU_mem (u : Nat → Nat) : ∀ (l : List Nat) (c : Nat), c ∈ l → u c ≤ sumU u l
  | c :: r, d, h => by
    rw [sumU]
    rcases List.mem_cons.1 h with e | e
    · rw [e]; omega
    · have := sumU_mem u r d e; omega

/-- The row, v nodes done and node v at x. -/
def midU (u : Nat → Nat) (v : Nat) (x : Int) (j : Nat) : Int := if j < v then (u j : Int) else if j = v then x else 0
theorem midU_lt {u : Nat → Nat} {v : Nat} {x : Int} {j : Nat} (h : j < v) : midU u v x j = (u j : Int) := if_pos h
theorem midU_at (u : Nat → Nat) (v : Nat) (x : Int) : midU u v x v = x := by unfold midU; rw [if_neg (Nat.lt_irrefl _), if_pos rfl]
theorem midU_set (u : Nat → Nat) (v : Nat) (x y : Int) (j : Nat) : midU u v y j = if j = v then y else midU u v x j := by
  unfold midU
  by_cases e : j = v
  · subst e; rw [if_neg (Nat.lt_irrefl _), if_pos rfl, if_pos rfl]
  · rw [if_neg e, if_neg e, if_neg e]
theorem midU_next (u : Nat → Nat) (v : Nat) (j : Nat) : midU u (v + 1) 0 j = midU u v (u v) j := by
  unfold midU
  by_cases e : j = v
  · subst e; rw [if_pos (by omega), if_neg (by omega), if_pos rfl]
  · by_cases h : j < v
    · rw [if_pos (by omega), if_pos h]
    · rw [if_neg (by omega), if_neg h, if_neg e]
      split <;> rfl

set_option maxRecDepth 20000 in
set_option maxHeartbeats 8000000 in
theorem bounded13 (tb pos : Nat) (ns : List Nd) (kids : Nat → List Nat) (hn0 : 0 < ns.length) (hn : ns.length ≤ 65536) (hfo : Forest ns [ns.length - 1] kids pos) (w : World) (hr : Rows9 w tb ns) :
    Calls Try.prog 13 #[.pointer (some ⟨tb, 0, none⟩)] w fun e w' => ∃ ok : Bool, e = .returned (.bool ok) ∧ (ok = true → ∀ v, v < ns.length → U ns kids v ≤ 1073741824) ∧ Below w.heap.size w w' := by
  obtain ⟨g, cap, h1, h2, h3⟩ := hr.cells
  have htb := hr.lt
  have HFO : Hid (Forest ns [ns.length - 1] kids pos) := hfo
  have H1 : Hid (∀ i, i < 9 → w.cell? ⟨tb, i, none⟩ = some (.slice (some ⟨g i, 0, none⟩) ns.length (cap i))) := h1
  have H2 : Hid (∀ i, i < 9 → g i < w.heap.size) := h2
  have H3 : Hid (∀ i j, i < 9 → j < ns.length → w.cell? ⟨g i, j, none⟩ = some (fld i (nodeAt ns j))) := h3
  have HU : Hid (∀ v, v < ns.length → U ns kids v = nval (nodeAt ns v) (kids v) (U ns kids)) := fun v hv => U_eq hfo.low v hv
  have t0 := h1 0 (by omega)
  clear h1 h2 h3 hr hfo
  generalize U ns kids = u at HU ⊢
  obtain ⟨n, hnn⟩ : ∃ n, n = ns.length := ⟨_, rfl⟩
  rw [← hnn] at hn0 hn H1 H3 t0 HU ⊢
  have HNN : Hid (n = ns.length) := hnn
  clear hnn
  obtain ⟨i2, hi2, hz20, hz21, hz22⟩ := info_parts Try.info2
  go_enter Try.func13, Try.ntmps13
  go_wp2_with (at_make; refine wpList_make_full _ rfl _ _ 51 rfl w.heap.size 2 i2 (.int .i64 0) 1 Try.underlying51 hi2 hz20 hz21 .i64 .i64 _ _ n rfl rfl rfl rfl (by rw [hz22]; omega) (by unfold maxLen; omega) (by simp) ?_; intro w1 hown hgrow)
  have hbl : Below w.heap.size w w1 := (Below.refl _ _).grown hgrow (Nat.le_refl _) (by simp)
  have hrz : RowZ w1 w.heap.size 2 w.heap.size n (midU u 0 0) := (RowZ.made hown).congr (fun j _ => by unfold midU; rw [if_neg (Nat.not_lt_zero _)]; split <;> rfl)
  clear hgrow hown
  go_loopw [5, 6, 7] (fun i _ _ wr => ∃ (v : Nat), v ≤ n ∧ i = .int .i64 v ∧ RowZ wr w.heap.size 2 w.heap.size n (midU u v 0) ∧ Hid (∀ j, j < v → u j ≤ 1073741824) ∧ Below w.heap.size w wr) (fun i _ _ _ => n - (intOf i).toNat)
  case atStart => exact ⟨0, Nat.zero_le _, rfl, hrz, fun j hj => absurd hj (Nat.not_lt_zero _), hbl⟩
  case round =>
    clear hrz hbl
    obtain ⟨v, hv, rfl, hrow, HB, hbel⟩ := hrel
    by_cases hlt : v < n
    · have hvl : v < ns.length := by rw [← HNN.out]; exact hlt
      have hki : (v : Int) < (n : Int) := by omega
      have hv0 : (0 : Int) ≤ (v : Int) := by omega
      have t0 : wr.cell? ⟨tb, 0, none⟩ = _ := (hbel.cell htb).trans (H1.out 0 (by omega))
      have c0 : wr.cell? ⟨g 0, v, none⟩ = some (.int .u8 (nodeAt ns v).kind) := (hbel.cell (H2.out 0 (by omega))).trans (H3.out 0 v (by omega) hlt)
      have hok := HFO.out.ok v hvl
      have hval := HU.out v hlt
      have hch := HFO.out.chain v hvl
      have hlow := HFO.out.low v hvl
      have hnod := HFO.out.nod v hvl
      obtain ⟨x, hx⟩ : ∃ x, u v = x := ⟨_, rfl⟩
      have HX : Hid (u v = x) := hx
      rw [hx] at hval
      clear hx
      have HB2 : Hid (x ≤ 1073741824 → ∀ j, j < v + 1 → u j ≤ 1073741824) := fun h j hj => by
        by_cases e : j = v
        · rw [e, HX.out]; exact h
        · exact HB.out j (by omega)
      have HNX : Hid (∀ wz : World, RowZ wz w.heap.size 2 w.heap.size n (midU u v x) → RowZ wz w.heap.size 2 w.heap.size n (midU u (v + 1) 0)) := fun wz h => h.congr (fun j _ => by rw [midU_next, HX.out])
      have q0 := hrow.cell v hlt
      rw [midU_at] at q0
      have qf := hrow.free v
      by_cases hbig : (x : Int) > 1073741824
      · rcases hok with ⟨hk, hks, he0, hl0, hl1, hl2, hl3, hl4⟩ | ⟨hk, hks⟩ | ⟨hk | hk, hks⟩ | ⟨hk, ⟨c, hks⟩, hm0, hm1, hmx⟩
        · rw [hk] at c0
          have hval2 : (nodeAt ns v).exitLo - (nodeAt ns v).lo + 1 = (x : Int) := by
            unfold nval at hval; rw [if_pos hk] at hval; omega
          have t4 : wr.cell? ⟨tb, 4, none⟩ = _ := (hbel.cell htb).trans (H1.out 4 (by omega))
          have c4 : wr.cell? ⟨g 4, v, none⟩ = some (.int .i32 (nodeAt ns v).lo) := (hbel.cell (H2.out 4 (by omega))).trans (H3.out 4 v (by omega) hlt)
          have t6 : wr.cell? ⟨tb, 6, none⟩ = _ := (hbel.cell htb).trans (H1.out 6 (by omega))
          have c6 : wr.cell? ⟨g 6, v, none⟩ = some (.int .i32 (nodeAt ns v).exitLo) := (hbel.cell (H2.out 6 (by omega))).trans (H3.out 6 v (by omega) hlt)
          clear hval hch hlow hnod hks hk he0
          generalize (nodeAt ns v).lo = lo at *
          generalize (nodeAt ns v).exitLo = el at *
          generalize (nodeAt ns v).hi = hi at *
          omega
        · rw [hk] at c0
          have hx0 : x = 0 := by
            unfold nval at hval; rw [if_neg (by omega), if_neg (by omega), if_neg (by omega), if_neg (by omega)] at hval; exact hval
          subst hx0
          clear hval hch hlow hnod hks hk
          omega
        · rw [hk] at c0
          have hval2 : x = sumU u (kids v) := by
            unfold nval at hval; rw [if_neg (by omega), if_pos hk] at hval; exact hval
          have t2 : wr.cell? ⟨tb, 2, none⟩ = _ := (hbel.cell htb).trans (H1.out 2 (by omega))
          have c2 : wr.cell? ⟨g 2, v, none⟩ = some (.int .i32 (nodeAt ns v).first) := (hbel.cell (H2.out 2 (by omega))).trans (H3.out 2 v (by omega) hlt)
          have HV : Hid (x = sumU u (kids v)) := hval2
          have HLOW : Hid (∀ c ∈ kids v, c < v) := hlow
          have HNOD : Hid ((kids v).Nodup) := hnod
          have HK0 : Hid (kids v = [] ++ kids v) := rfl
          clear hval hval2 hlow hnod hks hk
          go_wp2
          go_loopw [6] (fun cv wz => ∃ (done rest : List Nat) (f : Int), Hid (kids v = done ++ rest) ∧ cv = .int .i32 f ∧ Chain ns f rest ∧ RowZ wz w.heap.size 2 w.heap.size n (midU u v (sumU u done : Nat)) ∧ Below w.heap.size w wz) (fun cv _ => clen ns (intOf cv))
          case atStart => exact ⟨[], kids v, _, HK0, rfl, hch, hrow, hbel⟩
          case round =>
            clear hrow hbel hch t0 c0 t2 c2 HK0 q0 qf
            obtain ⟨done, rest, f, hkd, rfl, hch, hrow, hbel⟩ := hrel
            cases rest with
            | nil =>
              have hf1 : f = -1 := hch
              subst hf1
              have hkd2 : sumU u done = x := by have h9 := hkd.out; rw [List.append_nil] at h9; rw [HV.out, h9]
              rw [hkd2] at hrow
              have q0 := hrow.cell v hlt
              rw [midU_at] at q0
              clear hch hkd hkd2
              go_wp2
              go_ret
              exact ⟨false, rfl, fun h => absurd h (by simp), hbel⟩
            | cons c r =>
              obtain ⟨hf, hcl, hch2⟩ := hch
              have HM : Hid (clen ns f = r.length + 1) := clen_eq (ks := c :: r) ⟨hf, hcl, hch2⟩
              have HM2 : Hid (clen ns (nodeAt ns c).next = r.length) := clen_eq hch2
              rw [← HNN.out] at hcl
              subst hf
              have hcv : c < v := HLOW.out c (by rw [hkd.out]; simp)
              have hcu := HB.out c hcv
              have hsl : sumU u done ≤ 65536 * 1073741824 := by
                have h8 : ∀ d ∈ done, d < v := fun d hd => HLOW.out d (by rw [hkd.out]; simp [hd])
                have h9 := nodup_len v done ((hkd.out ▸ HNOD.out : (done ++ c :: r).Nodup).sublist (List.sublist_append_left _ _)) h8
                have h7 := sumU_le u 1073741824 done (fun d hd => HB.out d (h8 d hd))
                have h6 : done.length * 1073741824 ≤ 65536 * 1073741824 := Nat.mul_le_mul_right _ (by omega)
                exact Nat.le_trans h7 h6
              have hkd2 : Hid (kids v = (done ++ [c]) ++ r) := by show _ = _; rw [hkd.out]; simp
              have hci : (c : Int) < (n : Int) := by omega
              have hc0 : (0 : Int) ≤ (c : Int) := by omega
              have p0 := hrow.cell c (by omega)
              rw [midU_lt hcv] at p0
              have q0 := hrow.cell v hlt
              rw [midU_at] at q0
              have qf := hrow.free v
              have t3 : wr.cell? ⟨tb, 3, none⟩ = _ := (hbel.cell htb).trans (H1.out 3 (by omega))
              have c3 : wr.cell? ⟨g 3, c, none⟩ = some (.int .i32 (nodeAt ns c).next) := (hbel.cell (H2.out 3 (by omega))).trans (H3.out 3 c (by omega) hcl)
              have hn3 : ¬ g 3 = w.heap.size := by have := H2.out 3 (by omega); omega
              have hn4 : ¬ w.heap.size = g 3 := fun h => hn3 h.symm
              have hn5 : ¬ tb = w.heap.size := by omega
              have hn6 : ¬ w.heap.size = tb := by omega
              have hrow2 := ((hrow.block (w' := wr.drew) rfl).set v ((sumU u (done ++ [c]) : Nat) : Int) hlt).congr (fun j _ => midU_set u v (sumU u done : Nat) (sumU u (done ++ [c]) : Nat) j)
              have hss := sumU_snoc u done c
              obtain ⟨y, hy⟩ : ∃ y, u c = y := ⟨_, rfl⟩
              obtain ⟨s, hs⟩ : ∃ s, sumU u done = s := ⟨_, rfl⟩
              obtain ⟨s2, hs2⟩ : ∃ s2, sumU u (done ++ [c]) = s2 := ⟨_, rfl⟩
              have HS2 : Hid (sumU u (done ++ [c]) = s2) := hs2
              rw [hy] at hcu hss p0
              rw [hs] at hss hsl q0
              rw [hs2] at hss hrow2
              have w1 := wrap_i64 (x := (s : Int) + (y : Int)) (by omega)
              have w2 : (s : Int) + (y : Int) = (s2 : Int) := by omega
              rw [w2] at w1
              have HROW2 : Hid _ := hrow2
              clear hrow hrow2 hkd hy hs hs2 hss
              go_wp2
              go_still_tail 10, Try.mixed
              rw [show ({ wr with drawn := wr.drawn + 1 } : World) = wr.drew from rfl]
              go_wp2
              go_roundw
              case rel => exact ⟨done ++ [c], r, _, hkd2, rfl, hch2, (by rw [HS2.out]; exact HROW2.out), hbel.drew.setCell (p := ⟨w.heap.size, v, none⟩) (Nat.le_refl _) _⟩
              case measure => simp only [intOf]; rw [HM.out, HM2.out]; omega
        · rw [hk] at c0
          have hval2 : x = minU u (kids v) := by
            unfold nval at hval; rw [if_neg (by omega), if_neg (by omega), if_pos hk] at hval; exact hval
          have t2 : wr.cell? ⟨tb, 2, none⟩ = _ := (hbel.cell htb).trans (H1.out 2 (by omega))
          have c2 : wr.cell? ⟨g 2, v, none⟩ = some (.int .i32 (nodeAt ns v).first) := (hbel.cell (H2.out 2 (by omega))).trans (H3.out 2 v (by omega) hlt)
          have t3 : wr.cell? ⟨tb, 3, none⟩ = _ := (hbel.cell htb).trans (H1.out 3 (by omega))
          have HV : Hid (x = minU u (kids v)) := hval2
          have HLOW : Hid (∀ c ∈ kids v, c < v) := hlow
          obtain ⟨a, r0, hkr⟩ : ∃ a r0, kids v = a :: r0 := by
            cases hc : kids v with
            | nil => exact absurd hc hks
            | cons a r0 => exact ⟨a, r0, rfl⟩
          rw [hkr] at hch
          obtain ⟨hf0, hal, hch0⟩ := hch
          rw [hf0] at c2
          have hav : a < v := HLOW.out a (by rw [hkr]; simp)
          have hau := HB.out a hav
          have ha0 : (0 : Int) ≤ (a : Int) := by omega
          have hai : (a : Int) < (n : Int) := by omega
          have c3 : wr.cell? ⟨g 3, a, none⟩ = some (.int .i32 (nodeAt ns a).next) := (hbel.cell (H2.out 3 (by omega))).trans (H3.out 3 a (by omega) (by omega))
          have p0 := hrow.cell a (by omega)
          rw [midU_lt hav] at p0
          have hn3 : ¬ g 3 = w.heap.size := by have := H2.out 3 (by omega); omega
          have hn4 : ¬ w.heap.size = g 3 := fun h => hn3 h.symm
          have hn5 : ¬ tb = w.heap.size := by omega
          have hn6 : ¬ w.heap.size = tb := by omega
          have hrow0 := (hrow.set v ((minU u [a] : Nat) : Int) hlt).congr (fun j _ => midU_set u v 0 (minU u [a] : Nat) j)
          rw [minU_one u a hau] at hrow0
          have HROW0 : Hid _ := hrow0
          have HK0 : Hid (kids v = [a] ++ r0) := hkr
          have HMA : Hid (minU u [a] = u a) := minU_one u a hau
          clear hval hval2 hlow hnod hks hk hkr hf0 hrow0
          generalize u a = ua at p0 hau HROW0 HMA
          go_wp2
          go_loopw [7] (fun cv wz => ∃ (done rest : List Nat) (f : Int), Hid (kids v = done ++ rest) ∧ cv = .int .i32 f ∧ Chain ns f rest ∧ RowZ wz w.heap.size 2 w.heap.size n (midU u v (minU u done : Nat)) ∧ Below w.heap.size w wz) (fun cv _ => clen ns (intOf cv))
          case atStart => exact ⟨[a], r0, _, HK0, rfl, hch0, (by rw [HMA.out]; exact HROW0.out), hbel.setCell (p := ⟨w.heap.size, v, none⟩) (Nat.le_refl _) _⟩
          case round =>
            clear hrow hbel hch0 t0 c0 t2 c2 HK0 q0 qf p0 c3 t3 HROW0 HMA
            obtain ⟨done, rest, f, hkd, rfl, hch, hrow, hbel⟩ := hrel
            cases rest with
            | nil =>
              have hf1 : f = -1 := hch
              subst hf1
              have hkd2 : minU u done = x := by have h9 := hkd.out; rw [List.append_nil] at h9; rw [HV.out, h9]
              rw [hkd2] at hrow
              have q0 := hrow.cell v hlt
              rw [midU_at] at q0
              clear hch hkd hkd2
              go_wp2
              go_ret
              exact ⟨false, rfl, fun h => absurd h (by simp), hbel⟩
            | cons c r =>
              obtain ⟨hf, hcl, hch2⟩ := hch
              have HM : Hid (clen ns f = r.length + 1) := clen_eq (ks := c :: r) ⟨hf, hcl, hch2⟩
              have HM2 : Hid (clen ns (nodeAt ns c).next = r.length) := clen_eq hch2
              rw [← HNN.out] at hcl
              subst hf
              have hcv : c < v := HLOW.out c (by rw [hkd.out]; simp)
              have hcu := HB.out c hcv
              have hkd2 : Hid (kids v = (done ++ [c]) ++ r) := by show _ = _; rw [hkd.out]; simp
              have hci : (c : Int) < (n : Int) := by omega
              have hc0 : (0 : Int) ≤ (c : Int) := by omega
              have p0 := hrow.cell c (by omega)
              rw [midU_lt hcv] at p0
              have q0 := hrow.cell v hlt
              rw [midU_at] at q0
              have qf := hrow.free v
              have t3 : wr.cell? ⟨tb, 3, none⟩ = _ := (hbel.cell htb).trans (H1.out 3 (by omega))
              have c3 : wr.cell? ⟨g 3, c, none⟩ = some (.int .i32 (nodeAt ns c).next) := (hbel.cell (H2.out 3 (by omega))).trans (H3.out 3 c (by omega) hcl)
              have hss := minU_snoc u done c hcu
              obtain ⟨y, hy⟩ : ∃ y, u c = y := ⟨_, rfl⟩
              obtain ⟨s, hs⟩ : ∃ s, minU u done = s := ⟨_, rfl⟩
              rw [hy] at hcu hss p0
              rw [hs] at hss q0 hrow
              have HSS : Hid (minU u (done ++ [c]) = min s y) := hss
              have HROW : Hid (RowZ wr w.heap.size 2 w.heap.size n (midU u v (s : Nat))) := hrow
              clear hrow hkd hy hs hss
              by_cases hys : (y : Int) < (s : Int)
              · go_wp2
                go_quiet (fail)
                go_wp2
                go_roundw
                case rel =>
                  refine ⟨done ++ [c], r, _, hkd2, rfl, hch2, ?_, (below_drewN hbel nq).setCell (p := ⟨w.heap.size, v, none⟩) (Nat.le_refl _) _⟩
                  rw [HSS.out, show min s y = y by omega]
                  exact ((HROW.out.block (w' := wr.drewN nq) rfl).set v (y : Int) hlt).congr (fun j _ => midU_set u v (s : Nat) (y : Nat) j)
                case measure => simp only [intOf]; rw [HM.out, HM2.out]; omega
              · go_wp2
                go_quiet (fail)
                go_wp2
                go_roundw
                case rel =>
                  refine ⟨done ++ [c], r, _, hkd2, rfl, hch2, ?_, below_drewN hbel nq⟩
                  rw [HSS.out, show min s y = s by omega]
                  exact HROW.out.block (w' := wr.drewN nq) rfl
                case measure => simp only [intOf]; rw [HM.out, HM2.out]; omega
        · rw [hk] at c0
          have hcv : c < v := hlow c (by rw [hks]; simp)
          have hcu := HB.out c hcv
          have hval2 : x = (nodeAt ns v).mn.toNat * u c := by
            unfold nval at hval; rw [if_neg (by omega), if_neg (by omega), if_neg (by omega), if_pos hk, hks] at hval; simpa [sumU] using hval
          have t2 : wr.cell? ⟨tb, 2, none⟩ = _ := (hbel.cell htb).trans (H1.out 2 (by omega))
          have c2 : wr.cell? ⟨g 2, v, none⟩ = some (.int .i32 (nodeAt ns v).first) := (hbel.cell (H2.out 2 (by omega))).trans (H3.out 2 v (by omega) hlt)
          have t7 : wr.cell? ⟨tb, 7, none⟩ = _ := (hbel.cell htb).trans (H1.out 7 (by omega))
          have c7 : wr.cell? ⟨g 7, v, none⟩ = some (.int .i32 (nodeAt ns v).mn) := (hbel.cell (H2.out 7 (by omega))).trans (H3.out 7 v (by omega) hlt)
          rw [hks] at hch
          rw [hch.1] at c2
          have hci : (c : Int) < (n : Int) := by omega
          have hc0 : (0 : Int) ≤ (c : Int) := by omega
          have p0 := hrow.cell c (by omega)
          rw [midU_lt hcv] at p0
          clear hval hch hlow hnod hks hk hmx
          generalize u c = y at *
          generalize (nodeAt ns v).mn = mn at *
          obtain ⟨m, rfl⟩ : ∃ m : Nat, mn = m := ⟨mn.toNat, by omega⟩
          have hxm : (m : Int) * (y : Int) = (x : Int) := by rw [hval2]; simp
          have hxb : x ≤ 4 * 1073741824 := by rw [hval2]; exact Nat.mul_le_mul (by simp; omega) hcu
          clear hval2
          have w1 := wrap_i64 (x := (m : Int)) (by omega)
          have w2 := wrap_i64 (x := (x : Int)) (by omega)
          go_wp2
          go_still_tail 22, Try.mixed
          rw [show ({ wr with drawn := wr.drawn + 1 } : World) = wr.drew from rfl]
          try rw [hxm]
          go_wp2
          go_ret
          exact ⟨false, rfl, fun h => absurd h (by simp), (hbel.drew.setCell (p := ⟨w.heap.size, v, none⟩) (Nat.le_refl _) _)⟩
      · rcases hok with ⟨hk, hks, he0, hl0, hl1, hl2, hl3, hl4⟩ | ⟨hk, hks⟩ | ⟨hk | hk, hks⟩ | ⟨hk, ⟨c, hks⟩, hm0, hm1, hmx⟩
        · rw [hk] at c0
          have hval2 : (nodeAt ns v).exitLo - (nodeAt ns v).lo + 1 = (x : Int) := by
            unfold nval at hval; rw [if_pos hk] at hval; omega
          have t4 : wr.cell? ⟨tb, 4, none⟩ = _ := (hbel.cell htb).trans (H1.out 4 (by omega))
          have c4 : wr.cell? ⟨g 4, v, none⟩ = some (.int .i32 (nodeAt ns v).lo) := (hbel.cell (H2.out 4 (by omega))).trans (H3.out 4 v (by omega) hlt)
          have t6 : wr.cell? ⟨tb, 6, none⟩ = _ := (hbel.cell htb).trans (H1.out 6 (by omega))
          have c6 : wr.cell? ⟨g 6, v, none⟩ = some (.int .i32 (nodeAt ns v).exitLo) := (hbel.cell (H2.out 6 (by omega))).trans (H3.out 6 v (by omega) hlt)
          clear hval hch hlow hnod hks hk he0
          generalize (nodeAt ns v).lo = lo at *
          generalize (nodeAt ns v).exitLo = el at *
          generalize (nodeAt ns v).hi = hi at *
          have w1 := wrap_i32 (x := el - lo) (by omega)
          have w2 := wrap_i64 (x := el - lo) (by omega)
          have w3 := wrap_i64 (x := el - lo + 1) (by omega)
          go_wp2
          go_still_tail 20, Try.mixed
          rw [show ({ wr with drawn := wr.drawn + 1 } : World) = wr.drew from rfl]
          try rw [hval2]
          go_wp2
          go_roundw
          case rel => exact ⟨v + 1, by omega, by go_num, HNX.out _ (((hrow.block (w' := wr.drew) rfl).set v x hlt).congr (fun j _ => midU_set u v 0 x j)), HB2.out (by omega), (hbel.drew.setCell (p := ⟨w.heap.size, v, none⟩) (Nat.le_refl _) _)⟩
          case measure => simp [intOf]; omega
        · rw [hk] at c0
          have hx0 : x = 0 := by
            unfold nval at hval; rw [if_neg (by omega), if_neg (by omega), if_neg (by omega), if_neg (by omega)] at hval; exact hval
          subst hx0
          clear hval hch hlow hnod hks hk
          go_wp2
          go_roundw
          case rel => exact ⟨v + 1, by omega, by go_num, HNX.out _ (hrow), HB2.out (by omega), hbel⟩
          case measure => simp [intOf]; omega
        · rw [hk] at c0
          have hval2 : x = sumU u (kids v) := by
            unfold nval at hval; rw [if_neg (by omega), if_pos hk] at hval; exact hval
          have t2 : wr.cell? ⟨tb, 2, none⟩ = _ := (hbel.cell htb).trans (H1.out 2 (by omega))
          have c2 : wr.cell? ⟨g 2, v, none⟩ = some (.int .i32 (nodeAt ns v).first) := (hbel.cell (H2.out 2 (by omega))).trans (H3.out 2 v (by omega) hlt)
          have HV : Hid (x = sumU u (kids v)) := hval2
          have HLOW : Hid (∀ c ∈ kids v, c < v) := hlow
          have HNOD : Hid ((kids v).Nodup) := hnod
          have HK0 : Hid (kids v = [] ++ kids v) := rfl
          clear hval hval2 hlow hnod hks hk
          go_wp2
          go_loopw [6] (fun cv wz => ∃ (done rest : List Nat) (f : Int), Hid (kids v = done ++ rest) ∧ cv = .int .i32 f ∧ Chain ns f rest ∧ RowZ wz w.heap.size 2 w.heap.size n (midU u v (sumU u done : Nat)) ∧ Below w.heap.size w wz) (fun cv _ => clen ns (intOf cv))
          case atStart => exact ⟨[], kids v, _, HK0, rfl, hch, hrow, hbel⟩
          case round =>
            clear hrow hbel hch t0 c0 t2 c2 HK0 q0 qf
            obtain ⟨done, rest, f, hkd, rfl, hch, hrow, hbel⟩ := hrel
            cases rest with
            | nil =>
              have hf1 : f = -1 := hch
              subst hf1
              have hkd2 : sumU u done = x := by have h9 := hkd.out; rw [List.append_nil] at h9; rw [HV.out, h9]
              rw [hkd2] at hrow
              have q0 := hrow.cell v hlt
              rw [midU_at] at q0
              clear hch hkd hkd2
              go_wp2
              go_roundw
              case rel => exact ⟨v + 1, by omega, by go_num, HNX.out _ (hrow), HB2.out (by omega), hbel⟩
              case measure => simp [intOf]; omega
            | cons c r =>
              obtain ⟨hf, hcl, hch2⟩ := hch
              have HM : Hid (clen ns f = r.length + 1) := clen_eq (ks := c :: r) ⟨hf, hcl, hch2⟩
              have HM2 : Hid (clen ns (nodeAt ns c).next = r.length) := clen_eq hch2
              rw [← HNN.out] at hcl
              subst hf
              have hcv : c < v := HLOW.out c (by rw [hkd.out]; simp)
              have hcu := HB.out c hcv
              have hsl : sumU u done ≤ 65536 * 1073741824 := by
                have h8 : ∀ d ∈ done, d < v := fun d hd => HLOW.out d (by rw [hkd.out]; simp [hd])
                have h9 := nodup_len v done ((hkd.out ▸ HNOD.out : (done ++ c :: r).Nodup).sublist (List.sublist_append_left _ _)) h8
                have h7 := sumU_le u 1073741824 done (fun d hd => HB.out d (h8 d hd))
                have h6 : done.length * 1073741824 ≤ 65536 * 1073741824 := Nat.mul_le_mul_right _ (by omega)
                exact Nat.le_trans h7 h6
              have hkd2 : Hid (kids v = (done ++ [c]) ++ r) := by show _ = _; rw [hkd.out]; simp
              have hci : (c : Int) < (n : Int) := by omega
              have hc0 : (0 : Int) ≤ (c : Int) := by omega
              have p0 := hrow.cell c (by omega)
              rw [midU_lt hcv] at p0
              have q0 := hrow.cell v hlt
              rw [midU_at] at q0
              have qf := hrow.free v
              have t3 : wr.cell? ⟨tb, 3, none⟩ = _ := (hbel.cell htb).trans (H1.out 3 (by omega))
              have c3 : wr.cell? ⟨g 3, c, none⟩ = some (.int .i32 (nodeAt ns c).next) := (hbel.cell (H2.out 3 (by omega))).trans (H3.out 3 c (by omega) hcl)
              have hn3 : ¬ g 3 = w.heap.size := by have := H2.out 3 (by omega); omega
              have hn4 : ¬ w.heap.size = g 3 := fun h => hn3 h.symm
              have hn5 : ¬ tb = w.heap.size := by omega
              have hn6 : ¬ w.heap.size = tb := by omega
              have hrow2 := ((hrow.block (w' := wr.drew) rfl).set v ((sumU u (done ++ [c]) : Nat) : Int) hlt).congr (fun j _ => midU_set u v (sumU u done : Nat) (sumU u (done ++ [c]) : Nat) j)
              have hss := sumU_snoc u done c
              obtain ⟨y, hy⟩ : ∃ y, u c = y := ⟨_, rfl⟩
              obtain ⟨s, hs⟩ : ∃ s, sumU u done = s := ⟨_, rfl⟩
              obtain ⟨s2, hs2⟩ : ∃ s2, sumU u (done ++ [c]) = s2 := ⟨_, rfl⟩
              have HS2 : Hid (sumU u (done ++ [c]) = s2) := hs2
              rw [hy] at hcu hss p0
              rw [hs] at hss hsl q0
              rw [hs2] at hss hrow2
              have w1 := wrap_i64 (x := (s : Int) + (y : Int)) (by omega)
              have w2 : (s : Int) + (y : Int) = (s2 : Int) := by omega
              rw [w2] at w1
              have HROW2 : Hid _ := hrow2
              clear hrow hrow2 hkd hy hs hs2 hss
              go_wp2
              go_still_tail 10, Try.mixed
              rw [show ({ wr with drawn := wr.drawn + 1 } : World) = wr.drew from rfl]
              go_wp2
              go_roundw
              case rel => exact ⟨done ++ [c], r, _, hkd2, rfl, hch2, (by rw [HS2.out]; exact HROW2.out), hbel.drew.setCell (p := ⟨w.heap.size, v, none⟩) (Nat.le_refl _) _⟩
              case measure => simp only [intOf]; rw [HM.out, HM2.out]; omega
        · rw [hk] at c0
          have hval2 : x = minU u (kids v) := by
            unfold nval at hval; rw [if_neg (by omega), if_neg (by omega), if_pos hk] at hval; exact hval
          have t2 : wr.cell? ⟨tb, 2, none⟩ = _ := (hbel.cell htb).trans (H1.out 2 (by omega))
          have c2 : wr.cell? ⟨g 2, v, none⟩ = some (.int .i32 (nodeAt ns v).first) := (hbel.cell (H2.out 2 (by omega))).trans (H3.out 2 v (by omega) hlt)
          have t3 : wr.cell? ⟨tb, 3, none⟩ = _ := (hbel.cell htb).trans (H1.out 3 (by omega))
          have HV : Hid (x = minU u (kids v)) := hval2
          have HLOW : Hid (∀ c ∈ kids v, c < v) := hlow
          obtain ⟨a, r0, hkr⟩ : ∃ a r0, kids v = a :: r0 := by
            cases hc : kids v with
            | nil => exact absurd hc hks
            | cons a r0 => exact ⟨a, r0, rfl⟩
          rw [hkr] at hch
          obtain ⟨hf0, hal, hch0⟩ := hch
          rw [hf0] at c2
          have hav : a < v := HLOW.out a (by rw [hkr]; simp)
          have hau := HB.out a hav
          have ha0 : (0 : Int) ≤ (a : Int) := by omega
          have hai : (a : Int) < (n : Int) := by omega
          have c3 : wr.cell? ⟨g 3, a, none⟩ = some (.int .i32 (nodeAt ns a).next) := (hbel.cell (H2.out 3 (by omega))).trans (H3.out 3 a (by omega) (by omega))
          have p0 := hrow.cell a (by omega)
          rw [midU_lt hav] at p0
          have hn3 : ¬ g 3 = w.heap.size := by have := H2.out 3 (by omega); omega
          have hn4 : ¬ w.heap.size = g 3 := fun h => hn3 h.symm
          have hn5 : ¬ tb = w.heap.size := by omega
          have hn6 : ¬ w.heap.size = tb := by omega
          have hrow0 := (hrow.set v ((minU u [a] : Nat) : Int) hlt).congr (fun j _ => midU_set u v 0 (minU u [a] : Nat) j)
          rw [minU_one u a hau] at hrow0
          have HROW0 : Hid _ := hrow0
          have HK0 : Hid (kids v = [a] ++ r0) := hkr
          have HMA : Hid (minU u [a] = u a) := minU_one u a hau
          clear hval hval2 hlow hnod hks hk hkr hf0 hrow0
          generalize u a = ua at p0 hau HROW0 HMA
          go_wp2
          go_loopw [7] (fun cv wz => ∃ (done rest : List Nat) (f : Int), Hid (kids v = done ++ rest) ∧ cv = .int .i32 f ∧ Chain ns f rest ∧ RowZ wz w.heap.size 2 w.heap.size n (midU u v (minU u done : Nat)) ∧ Below w.heap.size w wz) (fun cv _ => clen ns (intOf cv))
          case atStart => exact ⟨[a], r0, _, HK0, rfl, hch0, (by rw [HMA.out]; exact HROW0.out), hbel.setCell (p := ⟨w.heap.size, v, none⟩) (Nat.le_refl _) _⟩
          case round =>
            clear hrow hbel hch0 t0 c0 t2 c2 HK0 q0 qf p0 c3 t3 HROW0 HMA
            obtain ⟨done, rest, f, hkd, rfl, hch, hrow, hbel⟩ := hrel
            cases rest with
            | nil =>
              have hf1 : f = -1 := hch
              subst hf1
              have hkd2 : minU u done = x := by have h9 := hkd.out; rw [List.append_nil] at h9; rw [HV.out, h9]
              rw [hkd2] at hrow
              have q0 := hrow.cell v hlt
              rw [midU_at] at q0
              clear hch hkd hkd2
              go_wp2
              go_roundw
              case rel => exact ⟨v + 1, by omega, by go_num, HNX.out _ (hrow), HB2.out (by omega), hbel⟩
              case measure => simp [intOf]; omega
            | cons c r =>
              obtain ⟨hf, hcl, hch2⟩ := hch
              have HM : Hid (clen ns f = r.length + 1) := clen_eq (ks := c :: r) ⟨hf, hcl, hch2⟩
              have HM2 : Hid (clen ns (nodeAt ns c).next = r.length) := clen_eq hch2
              rw [← HNN.out] at hcl
              subst hf
              have hcv : c < v := HLOW.out c (by rw [hkd.out]; simp)
              have hcu := HB.out c hcv
              have hkd2 : Hid (kids v = (done ++ [c]) ++ r) := by show _ = _; rw [hkd.out]; simp
              have hci : (c : Int) < (n : Int) := by omega
              have hc0 : (0 : Int) ≤ (c : Int) := by omega
              have p0 := hrow.cell c (by omega)
              rw [midU_lt hcv] at p0
              have q0 := hrow.cell v hlt
              rw [midU_at] at q0
              have qf := hrow.free v
              have t3 : wr.cell? ⟨tb, 3, none⟩ = _ := (hbel.cell htb).trans (H1.out 3 (by omega))
              have c3 : wr.cell? ⟨g 3, c, none⟩ = some (.int .i32 (nodeAt ns c).next) := (hbel.cell (H2.out 3 (by omega))).trans (H3.out 3 c (by omega) hcl)
              have hss := minU_snoc u done c hcu
              obtain ⟨y, hy⟩ : ∃ y, u c = y := ⟨_, rfl⟩
              obtain ⟨s, hs⟩ : ∃ s, minU u done = s := ⟨_, rfl⟩
              rw [hy] at hcu hss p0
              rw [hs] at hss q0 hrow
              have HSS : Hid (minU u (done ++ [c]) = min s y) := hss
              have HROW : Hid (RowZ wr w.heap.size 2 w.heap.size n (midU u v (s : Nat))) := hrow
              clear hrow hkd hy hs hss
              by_cases hys : (y : Int) < (s : Int)
              · go_wp2
                go_quiet (fail)
                go_wp2
                go_roundw
                case rel =>
                  refine ⟨done ++ [c], r, _, hkd2, rfl, hch2, ?_, (below_drewN hbel nq).setCell (p := ⟨w.heap.size, v, none⟩) (Nat.le_refl _) _⟩
                  rw [HSS.out, show min s y = y by omega]
                  exact ((HROW.out.block (w' := wr.drewN nq) rfl).set v (y : Int) hlt).congr (fun j _ => midU_set u v (s : Nat) (y : Nat) j)
                case measure => simp only [intOf]; rw [HM.out, HM2.out]; omega
              · go_wp2
                go_quiet (fail)
                go_wp2
                go_roundw
                case rel =>
                  refine ⟨done ++ [c], r, _, hkd2, rfl, hch2, ?_, below_drewN hbel nq⟩
                  rw [HSS.out, show min s y = s by omega]
                  exact HROW.out.block (w' := wr.drewN nq) rfl
                case measure => simp only [intOf]; rw [HM.out, HM2.out]; omega
        · rw [hk] at c0
          have hcv : c < v := hlow c (by rw [hks]; simp)
          have hcu := HB.out c hcv
          have hval2 : x = (nodeAt ns v).mn.toNat * u c := by
            unfold nval at hval; rw [if_neg (by omega), if_neg (by omega), if_neg (by omega), if_pos hk, hks] at hval; simpa [sumU] using hval
          have t2 : wr.cell? ⟨tb, 2, none⟩ = _ := (hbel.cell htb).trans (H1.out 2 (by omega))
          have c2 : wr.cell? ⟨g 2, v, none⟩ = some (.int .i32 (nodeAt ns v).first) := (hbel.cell (H2.out 2 (by omega))).trans (H3.out 2 v (by omega) hlt)
          have t7 : wr.cell? ⟨tb, 7, none⟩ = _ := (hbel.cell htb).trans (H1.out 7 (by omega))
          have c7 : wr.cell? ⟨g 7, v, none⟩ = some (.int .i32 (nodeAt ns v).mn) := (hbel.cell (H2.out 7 (by omega))).trans (H3.out 7 v (by omega) hlt)
          rw [hks] at hch
          rw [hch.1] at c2
          have hci : (c : Int) < (n : Int) := by omega
          have hc0 : (0 : Int) ≤ (c : Int) := by omega
          have p0 := hrow.cell c (by omega)
          rw [midU_lt hcv] at p0
          clear hval hch hlow hnod hks hk hmx
          generalize u c = y at *
          generalize (nodeAt ns v).mn = mn at *
          obtain ⟨m, rfl⟩ : ∃ m : Nat, mn = m := ⟨mn.toNat, by omega⟩
          have hxm : (m : Int) * (y : Int) = (x : Int) := by rw [hval2]; simp
          have hxb : x ≤ 4 * 1073741824 := by rw [hval2]; exact Nat.mul_le_mul (by simp; omega) hcu
          clear hval2
          have w1 := wrap_i64 (x := (m : Int)) (by omega)
          have w2 := wrap_i64 (x := (x : Int)) (by omega)
          go_wp2
          go_still_tail 22, Try.mixed
          rw [show ({ wr with drawn := wr.drawn + 1 } : World) = wr.drew from rfl]
          try rw [hxm]
          go_wp2
          go_roundw
          case rel => exact ⟨v + 1, by omega, by go_num, HNX.out _ (((hrow.block (w' := wr.drew) rfl).set v x hlt).congr (fun j _ => midU_set u v 0 x j)), HB2.out (by omega), (hbel.drew.setCell (p := ⟨w.heap.size, v, none⟩) (Nat.le_refl _) _)⟩
          case measure => simp [intOf]; omega
    · have hvn : v = n := by omega
      subst hvn
      clear hlt
      go_wp2
      go_ret
      exact ⟨true, rfl, fun _ => HB.out, hbel⟩
end Go.Proofs.Qxb6000433a
