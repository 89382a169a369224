/-
  'shortest'.
-/
import Derived.Test.Qxb6000433aShortBound
namespace Go.Proofs.Qxb6000433a
open Go.RowKit

/-- A row of whole numbers of 32 bits. -/
def RowY (w : World) (B e g n : Nat) (F : Nat → Int) : Prop := ∃ xs, w.ownsRow B e 1 (.slice (some ⟨g, 0, none⟩) n n) n xs ∧ ∀ j, j < n → xs[j]? = some (.int .i32 (F j))
theorem RowY.cell {w : World} {B e g n : Nat} {F : Nat → Int} (h : RowY w B e g n F) (j : Nat) (hj : j < n) : w.cell? ⟨g, j, none⟩ = some (.int .i32 (F j)) := by
  obtain ⟨xs, h1, h2⟩ := h
  exact (h1.cellAt j (by omega)).trans (h2 j hj)
theorem RowY.free {w : World} {B e g n : Nat} {F : Nat → Int} (h : RowY w B e g n F) (j : Nat) : w.frozen? ⟨g, j, none⟩ = false := by
  obtain ⟨xs, h1, h2⟩ := h
  exact h1.frozenAt j
theorem RowY.lt {w : World} {B e g n : Nat} {F : Nat → Int} (h : RowY w B e g n F) : B ≤ g ∧ g < w.heap.size := by
  obtain ⟨xs, h1, h2⟩ := h
  exact h1.lt g rfl
theorem RowY.set {w : World} {B e g n : Nat} {F : Nat → Int} (h : RowY w B e g n F) (k : Nat) (x : Int) (hk : k < n) : RowY (w.setCell ⟨g, k, none⟩ (.int .i32 x)) B e g n (fun j => if j = k then x else F j) := by
  obtain ⟨xs, h1, h2⟩ := h
  refine ⟨_, (h1.stored k (.int .i32 x)).1, fun j hj => ?_⟩
  have hl := h1.1
  rw [List.getElem?_set]
  by_cases e : k = j
  · subst e; simp; omega
  · have e2 : ¬ j = k := fun h => e h.symm
    simp only [if_neg e, if_neg e2]; exact h2 j hj
theorem RowY.congr {w : World} {B e g n : Nat} {F G : Nat → Int} (h : RowY w B e g n F) (hf : ∀ j, j < n → G j = F j) : RowY w B e g n G := by
  obtain ⟨xs, h1, h2⟩ := h
  exact ⟨xs, h1, fun j hj => by rw [hf j hj]; exact h2 j hj⟩
theorem RowY.block {w w' : World} {B e g n : Nat} {F : Nat → Int} (h : RowY w B e g n F) (hb : w'.heap[g]? = w.heap[g]?) : RowY w' B e g n F := by
  obtain ⟨xs, h1, h2⟩ := h
  exact ⟨xs, own_at h1 hb, h2⟩
theorem RowY.made {w : World} {B e g n : Nat} (h : w.ownsRow B e 1 (.slice (some ⟨g, 0, none⟩) n n) n (madeCells (Value.int .i32 0).cells (n * 1)).toList) : RowY w B e g n (fun _ => 0) := ⟨_, h, fun j hj => by
  have e := toList_madeCells_one (.int .i32 0) n
  have e2 : (madeCells (Value.int .i32 0).cells (n * 1)).toList = List.replicate n (.int .i32 0) := by rw [Nat.mul_one]; exact e
  rw [e2]; simp [hj]⟩

set_option maxRecDepth 20000 in
set_option maxHeartbeats 8000000 in
theorem shortest39 (pb gn pos : Nat) (bb vv : Int) (ns : List Nd) (kids : Nat → List Nat) (Y : Nat → Ly) (hn0 : 0 < ns.length) (hn : ns.length ≤ 65536) (hfo : Forest ns [ns.length - 1] kids pos) (hBD : ∀ v, v < ns.length → U ns kids v ≤ 1073741824) (w : World) (hno : NodesAt w gn ns.length ns Y) (hpb : PB w pb gn ns.length bb vv) :
    Calls Try.prog 39 #[.pointer (some ⟨pb, 0, none⟩)] w fun e w' => e = .returned (.int .i64 (U ns kids (ns.length - 1) : Nat)) ∧ Below w.heap.size w w' := by
  have hgl := hno.lt
  have HFO : Hid (Forest ns [ns.length - 1] kids pos) := hfo
  have HU : Hid (∀ v, v < ns.length → U ns kids v = nval (nodeAt ns v) (kids v) (U ns kids)) := fun v hv => U_eq hfo.low v hv
  have HB : Hid (∀ v, v < ns.length → U ns kids v ≤ 1073741824) := hBD
  have t0 := hpb.c0
  clear hfo hBD
  generalize U ns kids = u at HU HB ⊢
  obtain ⟨n, hnn⟩ : ∃ n, n = ns.length := ⟨_, rfl⟩
  rw [← hnn] at hn0 hn hno t0 HU HB ⊢
  have HNN : Hid (n = ns.length) := hnn
  have HNO : Hid (NodesAt w gn n ns Y) := hno
  clear hnn hno hpb
  obtain ⟨m, hm⟩ : ∃ m, n - 1 = m := ⟨_, rfl⟩
  rw [hm]
  have HNM : Hid (n = m + 1) := by show _ = _; omega
  clear hm
  obtain ⟨i2, hi2, hz20, hz21, hz22⟩ := info_parts Try.info21
  go_enter Try.func39, Try.ntmps39
  go_wp2_with (at_make; refine wpList_make_full _ rfl _ _ 26 rfl w.heap.size 21 i2 (.int .i32 0) 1 Try.underlying26 hi2 hz20 hz21 .i64 .i64 _ _ n rfl rfl rfl rfl (by rw [hz22]; omega) (by unfold maxLen; omega) (by simp) ?_; intro w1 hown hgrow)
  have hbl : Below w.heap.size w w1 := (Below.refl _ _).grown hgrow (Nat.le_refl _) (by simp)
  have hrz : RowY w1 w.heap.size 21 w.heap.size n (midU u 0 0) := (RowY.made hown).congr (fun j _ => by unfold midU; rw [if_neg (Nat.not_lt_zero _)]; split <;> rfl)
  clear hgrow hown
  go_loopw [5, 6, 7, 8, 18] (fun _ _ _ _ i wr => ∃ (v : Nat), v ≤ n ∧ i = .int .i64 v ∧ RowY wr w.heap.size 21 w.heap.size n (midU u v 0) ∧ Below w.heap.size w wr) (fun _ _ _ _ i _ => n - (intOf i).toNat)
  case atStart => exact ⟨0, Nat.zero_le _, rfl, hrz, hbl⟩
  case round =>
    clear hrz hbl
    obtain ⟨v, hv, rfl, hrow, hbel⟩ := hrel
    by_cases hlt : v < n
    · have hvl : v < ns.length := by rw [← HNN.out]; exact hlt
      have hki : (v : Int) < (n : Int) := by omega
      have hv0 : (0 : Int) ≤ (v : Int) := by omega
      have hno := HNO.out.block (hbel.block gn hgl)
      have c0 : wr.cell? ⟨gn, v * 14, none⟩ = some (.int .u8 (nodeAt ns v).kind) := hno.cell v 0 (by omega) (by omega)
      have hok := HFO.out.ok v hvl
      have hval := HU.out v hlt
      have hch := HFO.out.chain v hvl
      have hlow := HFO.out.low v hvl
      have hxb := HB.out v hlt
      obtain ⟨x, hx⟩ : ∃ x, u v = x := ⟨_, rfl⟩
      have HX : Hid (u v = x) := hx
      rw [hx] at hval hxb
      clear hx
      have HNX : Hid (∀ wz : World, RowY wz w.heap.size 21 w.heap.size n (midU u v x) → RowY wz w.heap.size 21 w.heap.size n (midU u (v + 1) 0)) := fun wz h => h.congr (fun j _ => by rw [midU_next, HX.out])
      have q0 := hrow.cell v hlt
      rw [midU_at] at q0
      have qf := hrow.free v
      have HNOR : Hid (NodesAt wr gn n ns Y) := hno
      clear hno
      have hn5 : ¬ gn = w.heap.size := by omega
      have hn6 : ¬ w.heap.size = gn := by omega
      rcases hok with ⟨hk, hks, he0, hl0, hl1, hl2, hl3, hl4⟩ | ⟨hk, hks⟩ | ⟨hk | hk, hks⟩ | ⟨hk, ⟨c, hks⟩, hm0, hm1, hmx⟩
      · rw [hk] at c0
        have hval2 : (nodeAt ns v).exitLo - (nodeAt ns v).lo + 1 = (x : Int) := by
          unfold nval at hval; rw [if_pos hk] at hval; omega
        have c1 : wr.cell? ⟨gn, v * 14 + 1, none⟩ = some (.int .u8 (nodeAt ns v).empty) := HNOR.out.cell v 1 (by omega) (by omega)
        have c4 : wr.cell? ⟨gn, v * 14 + 4, none⟩ = some (.int .i32 (nodeAt ns v).lo) := HNOR.out.cell v 4 (by omega) (by omega)
        have c6 : wr.cell? ⟨gn, v * 14 + 6, none⟩ = some (.int .i32 (nodeAt ns v).exitLo) := HNOR.out.cell v 6 (by omega) (by omega)
        rw [he0] at c1
        clear hval hch hlow hks hk he0
        generalize (nodeAt ns v).lo = lo at *
        generalize (nodeAt ns v).exitLo = el at *
        generalize (nodeAt ns v).hi = hi at *
        have w1 := wrap_i32 (x := el - lo) (by omega)
        have w3 := wrap_i32 (x := el - lo + 1) (by omega)
        go_wp2
        go_still_tail 13, Try.mixed
        rw [show ({ wr with drawn := wr.drawn + 1 } : World) = wr.drew from rfl]
        try rw [hval2]
        go_wp2
        go_roundw
        case rel => exact ⟨v + 1, by omega, by go_num, HNX.out _ (((hrow.block (w' := wr.drew) rfl).set v x hlt).congr (fun j _ => midU_set u v 0 x j)), (hbel.drew.setCell (p := ⟨w.heap.size, v, none⟩) (Nat.le_refl _) _)⟩
        case measure => simp [intOf]; omega
      · rw [hk] at c0
        have hx0 : x = 0 := by
          unfold nval at hval; rw [if_neg (by omega), if_neg (by omega), if_neg (by omega), if_neg (by omega)] at hval; exact hval
        subst hx0
        clear hval hch hlow hks hk
        go_wp2
        go_roundw
        case rel => exact ⟨v + 1, by omega, by go_num, HNX.out _ (hrow), hbel⟩
        case measure => simp [intOf]; omega
      · rw [hk] at c0
        have hval2 : x = sumU u (kids v) := by
          unfold nval at hval; rw [if_neg (by omega), if_pos hk] at hval; exact hval
        have c2 : wr.cell? ⟨gn, v * 14 + 2, none⟩ = some (.int .i32 (nodeAt ns v).first) := HNOR.out.cell v 2 (by omega) (by omega)
        have HV : Hid (x = sumU u (kids v)) := hval2
        have HLOW : Hid (∀ c ∈ kids v, c < v) := hlow
        have HK0 : Hid (kids v = [] ++ kids v) := rfl
        clear hval hval2 hlow hks hk
        go_wp2
        go_loopw [7] (fun cv wz => ∃ (done rest : List Nat) (f : Int), Hid (kids v = done ++ rest) ∧ cv = .int .i32 f ∧ Chain ns f rest ∧ RowY wz w.heap.size 21 w.heap.size n (midU u v (sumU u done : Nat)) ∧ Below w.heap.size w wz) (fun cv _ => clen ns (intOf cv))
        case atStart => exact ⟨[], kids v, _, HK0, rfl, hch, hrow, hbel⟩
        case round =>
          clear hrow hbel hch c0 c2 HK0 q0 qf HNOR
          obtain ⟨done, rest, f, hkd, rfl, hch, hrow, hbel⟩ := hrel
          cases rest with
          | nil =>
            have hf1 : f = -1 := hch
            subst hf1
            have hkd2 : sumU u done = x := by have h9 := hkd.out; rw [List.append_nil] at h9; rw [HV.out, h9]
            rw [hkd2] at hrow
            clear hch hkd hkd2
            go_wp2
            go_roundw
            case rel => exact ⟨v + 1, by omega, by go_num, HNX.out _ (hrow), hbel⟩
            case measure => simp [intOf]; omega
          | cons c r =>
            obtain ⟨hf, hcl, hch2⟩ := hch
            have HM : Hid (clen ns f = r.length + 1) := clen_eq (ks := c :: r) ⟨hf, hcl, hch2⟩
            have HM2 : Hid (clen ns (nodeAt ns c).next = r.length) := clen_eq hch2
            rw [← HNN.out] at hcl
            subst hf
            have hcv : c < v := HLOW.out c (by rw [hkd.out]; simp)
            have hss := sumU_snoc u done c
            have hsl : sumU u done + u c ≤ x := by
              rw [HV.out, hkd.out, sumU_app, sumU]; omega
            have hkd2 : Hid (kids v = (done ++ [c]) ++ r) := by show _ = _; rw [hkd.out]; simp
            have hci : (c : Int) < (n : Int) := by omega
            have hc0 : (0 : Int) ≤ (c : Int) := by omega
            have p0 := hrow.cell c (by omega)
            rw [midU_lt hcv] at p0
            have q0 := hrow.cell v hlt
            rw [midU_at] at q0
            have qf := hrow.free v
            have c3 : wr.cell? ⟨gn, c * 14 + 3, none⟩ = some (.int .i32 (nodeAt ns c).next) := (HNO.out.block (hbel.block gn hgl)).cell c 3 (by omega) (by omega)
            have hrow2 := ((hrow.block (w' := wr.drew) rfl).set v ((sumU u (done ++ [c]) : Nat) : Int) hlt).congr (fun j _ => midU_set u v (sumU u done : Nat) (sumU u (done ++ [c]) : Nat) j)
            obtain ⟨y, hy⟩ : ∃ y, u c = y := ⟨_, rfl⟩
            obtain ⟨s, hs⟩ : ∃ s, sumU u done = s := ⟨_, rfl⟩
            obtain ⟨s2, hs2⟩ : ∃ s2, sumU u (done ++ [c]) = s2 := ⟨_, rfl⟩
            have HS2 : Hid (sumU u (done ++ [c]) = s2) := hs2
            rw [hy] at hsl hss p0
            rw [hs] at hss hsl q0
            rw [hs2] at hss hrow2
            have w1 := wrap_i32 (x := (s : Int) + (y : Int)) (by omega)
            have w2 : (s : Int) + (y : Int) = (s2 : Int) := by omega
            rw [w2] at w1
            have HROW2 : Hid _ := hrow2
            clear hrow hrow2 hkd hy hs hs2 hss
            go_wp2
            go_still_tail 10, Try.mixed
            rw [show ({ wr with drawn := wr.drawn + 1 } : World) = wr.drew from rfl]
            go_wp2
            go_roundw
            case rel => exact ⟨done ++ [c], r, _, hkd2, rfl, hch2, (by rw [HS2.out]; exact HROW2.out), hbel.drew.setCell (p := ⟨w.heap.size, v, none⟩) (Nat.le_refl _) _⟩
            case measure => simp only [intOf]; rw [HM.out, HM2.out]; omega
      · rw [hk] at c0
        have hval2 : x = minU u (kids v) := by
          unfold nval at hval; rw [if_neg (by omega), if_neg (by omega), if_pos hk] at hval; exact hval
        have c2 : wr.cell? ⟨gn, v * 14 + 2, none⟩ = some (.int .i32 (nodeAt ns v).first) := HNOR.out.cell v 2 (by omega) (by omega)
        have HV : Hid (x = minU u (kids v)) := hval2
        have HLOW : Hid (∀ c ∈ kids v, c < v) := hlow
        obtain ⟨a, r0, hkr⟩ : ∃ a r0, kids v = a :: r0 := by
          cases hc : kids v with
          | nil => exact absurd hc hks
          | cons a r0 => exact ⟨a, r0, rfl⟩
        rw [hkr] at hch
        obtain ⟨hf0, hal, hch0⟩ := hch
        rw [hf0] at c2
        have hav : a < v := HLOW.out a (by rw [hkr]; simp)
        have hau := HB.out a (by omega)
        have ha0 : (0 : Int) ≤ (a : Int) := by omega
        have hai : (a : Int) < (n : Int) := by omega
        have c3 : wr.cell? ⟨gn, a * 14 + 3, none⟩ = some (.int .i32 (nodeAt ns a).next) := HNOR.out.cell a 3 (by omega) (by omega)
        have p0 := hrow.cell a (by omega)
        rw [midU_lt hav] at p0
        have hrow0 := (hrow.set v ((minU u [a] : Nat) : Int) hlt).congr (fun j _ => midU_set u v 0 (minU u [a] : Nat) j)
        rw [minU_one u a hau] at hrow0
        have HROW0 : Hid _ := hrow0
        have HK0 : Hid (kids v = [a] ++ r0) := hkr
        have HMA : Hid (minU u [a] = u a) := minU_one u a hau
        clear hval hval2 hlow hks hk hkr hf0 hrow0
        generalize u a = ua at p0 hau HROW0 HMA
        go_wp2
        go_loopw [8] (fun cv wz => ∃ (done rest : List Nat) (f : Int), Hid (kids v = done ++ rest) ∧ cv = .int .i32 f ∧ Chain ns f rest ∧ RowY wz w.heap.size 21 w.heap.size n (midU u v (minU u done : Nat)) ∧ Below w.heap.size w wz) (fun cv _ => clen ns (intOf cv))
        case atStart => exact ⟨[a], r0, _, HK0, rfl, hch0, (by rw [HMA.out]; exact HROW0.out), hbel.setCell (p := ⟨w.heap.size, v, none⟩) (Nat.le_refl _) _⟩
        case round =>
          clear hrow hbel hch0 c0 c2 HK0 q0 qf p0 c3 HROW0 HMA HNOR
          obtain ⟨done, rest, f, hkd, rfl, hch, hrow, hbel⟩ := hrel
          cases rest with
          | nil =>
            have hf1 : f = -1 := hch
            subst hf1
            have hkd2 : minU u done = x := by have h9 := hkd.out; rw [List.append_nil] at h9; rw [HV.out, h9]
            rw [hkd2] at hrow
            clear hch hkd hkd2
            go_wp2
            go_roundw
            case rel => exact ⟨v + 1, by omega, by go_num, HNX.out _ (hrow), hbel⟩
            case measure => simp [intOf]; omega
          | cons c r =>
            obtain ⟨hf, hcl, hch2⟩ := hch
            have HM : Hid (clen ns f = r.length + 1) := clen_eq (ks := c :: r) ⟨hf, hcl, hch2⟩
            have HM2 : Hid (clen ns (nodeAt ns c).next = r.length) := clen_eq hch2
            rw [← HNN.out] at hcl
            subst hf
            have hcv : c < v := HLOW.out c (by rw [hkd.out]; simp)
            have hcu := HB.out c (by omega)
            have hkd2 : Hid (kids v = (done ++ [c]) ++ r) := by show _ = _; rw [hkd.out]; simp
            have hci : (c : Int) < (n : Int) := by omega
            have hc0 : (0 : Int) ≤ (c : Int) := by omega
            have p0 := hrow.cell c (by omega)
            rw [midU_lt hcv] at p0
            have q0 := hrow.cell v hlt
            rw [midU_at] at q0
            have qf := hrow.free v
            have c3 : wr.cell? ⟨gn, c * 14 + 3, none⟩ = some (.int .i32 (nodeAt ns c).next) := (HNO.out.block (hbel.block gn hgl)).cell c 3 (by omega) (by omega)
            have hss := minU_snoc u done c hcu
            obtain ⟨y, hy⟩ : ∃ y, u c = y := ⟨_, rfl⟩
            obtain ⟨s, hs⟩ : ∃ s, minU u done = s := ⟨_, rfl⟩
            rw [hy] at hcu hss p0
            rw [hs] at hss q0 hrow
            have HSS : Hid (minU u (done ++ [c]) = min s y) := hss
            have HROW : Hid (RowY wr w.heap.size 21 w.heap.size n (midU u v (s : Nat))) := hrow
            clear hrow hkd hy hs hss
            by_cases hys : (y : Int) < (s : Int)
            · have hmin : min (s : Int) (y : Int) = y := by omega
              go_wp2
              go_still_tail 12, Try.mixed
              rw [show ({ wr with drawn := wr.drawn + 1 } : World) = wr.drew from rfl]
              try rw [hmin]
              go_wp2
              go_roundw
              case rel =>
                refine ⟨done ++ [c], r, _, hkd2, rfl, hch2, ?_, hbel.drew.setCell (p := ⟨w.heap.size, v, none⟩) (Nat.le_refl _) _⟩
                rw [HSS.out, show min s y = y by omega]
                exact ((HROW.out.block (w' := wr.drew) rfl).set v (y : Int) hlt).congr (fun j _ => midU_set u v (s : Nat) (y : Nat) j)
              case measure => simp only [intOf]; rw [HM.out, HM2.out]; omega
            · have hmin : min (s : Int) (y : Int) = s := by omega
              go_wp2
              go_still_tail 12, Try.mixed
              rw [show ({ wr with drawn := wr.drawn + 1 } : World) = wr.drew from rfl]
              try rw [hmin]
              go_wp2
              go_roundw
              case rel =>
                refine ⟨done ++ [c], r, _, hkd2, rfl, hch2, ?_, hbel.drew.setCell (p := ⟨w.heap.size, v, none⟩) (Nat.le_refl _) _⟩
                rw [HSS.out, show min s y = s by omega]
                exact ((HROW.out.block (w' := wr.drew) rfl).set v (s : Int) hlt).congr (fun j _ => midU_set u v (s : Nat) (s : Nat) j)
              case measure => simp only [intOf]; rw [HM.out, HM2.out]; omega
      · rw [hk] at c0
        have hcv : c < v := hlow c (by rw [hks]; simp)
        have hcu := HB.out c (by omega)
        have hval2 : x = (nodeAt ns v).mn.toNat * u c := by
          unfold nval at hval; rw [if_neg (by omega), if_neg (by omega), if_neg (by omega), if_pos hk, hks] at hval; simpa [sumU] using hval
        have c2 : wr.cell? ⟨gn, v * 14 + 2, none⟩ = some (.int .i32 (nodeAt ns v).first) := HNOR.out.cell v 2 (by omega) (by omega)
        have c7 : wr.cell? ⟨gn, v * 14 + 7, none⟩ = some (.int .i32 (nodeAt ns v).mn) := HNOR.out.cell v 7 (by omega) (by omega)
        rw [hks] at hch
        rw [hch.1] at c2
        have hci : (c : Int) < (n : Int) := by omega
        have hc0 : (0 : Int) ≤ (c : Int) := by omega
        have p0 := hrow.cell c (by omega)
        rw [midU_lt hcv] at p0
        clear hval hch hlow hks hk hmx
        generalize u c = y at *
        generalize (nodeAt ns v).mn = mn at *
        obtain ⟨m', rfl⟩ : ∃ m' : Nat, mn = m' := ⟨mn.toNat, by omega⟩
        have hxm : (m' : Int) * (y : Int) = (x : Int) := by rw [hval2]; simp
        clear hval2
        have w2 := wrap_i32 (x := (x : Int)) (by omega)
        go_wp2
        go_still_tail 15, Try.mixed
        rw [show ({ wr with drawn := wr.drawn + 1 } : World) = wr.drew from rfl]
        try rw [hxm]
        go_wp2
        go_roundw
        case rel => exact ⟨v + 1, by omega, by go_num, HNX.out _ (((hrow.block (w' := wr.drew) rfl).set v x hlt).congr (fun j _ => midU_set u v 0 x j)), (hbel.drew.setCell (p := ⟨w.heap.size, v, none⟩) (Nat.le_refl _) _)⟩
        case measure => simp [intOf]; omega
    · have hvn : v = n := by omega
      subst hvn
      clear hlt
      have hnm := HNM.out
      subst hnm
      have q0 := hrow.cell m (by omega)
      rw [midU_lt (by omega)] at q0
      have hub := HB.out m (by omega)
      obtain ⟨um, hum⟩ : ∃ um, u m = um := ⟨_, rfl⟩
      have HUM : Hid (u m = um) := hum
      rw [hum] at q0 hub
      clear hum
      have hm1 : (m : Int) + 1 - 1 = m := by omega
      have hm2 : (m : Int) < (m : Int) + 1 := by omega
      have w1 := wrap_i64 (x := (um : Int)) (by omega)
      go_wp2
      go_ret
      exact ⟨by rw [HUM.out]; rfl, hbel⟩
end Go.Proofs.Qxb6000433a
