/-
  'lay'.
-/
import Derived.Test.Qxb6000433aLayStep
import Derived.Test.Qxb6000433aLayMultA
import Derived.Deep.RegionWith
namespace Go.Proofs.Qxb6000433a
open Go.RowKit

theorem up_done {ns : List Nd} {kids : Nat → List Nat} {P : Nat → Int} (h : Par ns kids P) (s u : Nat) (hu : u < ns.length) (hp : P u = (s : Int)) : u ∈ kids s := by
  by_cases e : u + 1 < ns.length
  · obtain ⟨v, h1, _, _, h4⟩ := h.of u e
    have : v = s := by omega
    rw [← this]; exact h4
  · have : u = ns.length - 1 := by omega
    rw [this, h.root] at hp; omega

set_option maxHeartbeats 8000000 in
theorem lay43 (pb gn pos : Nat) (ns : List Nd) (kids : Nat → List Nat) (hn0 : 0 < ns.length) (hn : ns.length ≤ 65536) (hp : pos ≤ 524288) (hfo : Forest ns [ns.length - 1] kids pos) (hT : ∀ v, v < ns.length → prodT ns (parOf kids ns.length) v ≤ 1048576) (w : World) (hgp : gn < pb) (hno : NodesAt w gn ns.length ns (fun _ => y0)) (hpb : PB w pb gn ns.length 0 0) :
    Calls Try.prog 43 #[.pointer (some ⟨pb, 0, none⟩)] w fun e w' => e = .returned (.tuple #[]) ∧ ∃ Y, NodesAt w' gn ns.length ns Y ∧ (∀ u, u < ns.length → (Y u).mult = prodT ns (parOf kids ns.length) u ∧ (Y u).words = (prodT ns (parOf kids ns.length) u + 63) / 64) ∧ PB w' pb gn ns.length (bS ns (prodT ns (parOf kids ns.length)) ns.length) (wS (prodT ns (parOf kids ns.length)) ns.length) ∧ Below gn w w' := by
  have hpar := hfo.par
  have hTn := fun v (hv : v < ns.length) => prodT_nonneg hfo v hv
  have hTr := prodT_root hpar
  have hTk := fun v (hv : v < ns.length) c (hc : c ∈ kids v) => prodT_kid hpar v hv c hc
  obtain ⟨P, hP⟩ : ∃ P, parOf kids ns.length = P := ⟨_, rfl⟩
  rw [hP] at hpar hTn hTr hT ⊢
  simp only [hP] at hTk
  clear hP
  obtain ⟨T, hTT⟩ : ∃ T, prodT ns P = T := ⟨_, rfl⟩
  rw [hTT] at hTr ⊢
  simp only [hTT] at hTk hTn hT
  clear hTT
  have HPAR : Hid (Par ns kids P) := hpar
  have HFO : Hid (Forest ns [ns.length - 1] kids pos) := hfo
  have HTK : Hid (∀ v, v < ns.length → ∀ c, c ∈ kids v → T c = T v * cfn (nodeAt ns v)) := hTk
  have HTR : Hid (T (ns.length - 1) = 1) := hTr
  have HTB : Hid (∀ v, v < ns.length → 0 ≤ T v ∧ T v ≤ 1048576) := fun v hv => ⟨hTn v hv, hT v hv⟩
  clear hpar hfo hTk hTr hT hTn
  obtain ⟨m, hmm⟩ : ∃ m, ns.length = m + 1 := ⟨ns.length - 1, by omega⟩
  have HNN : Hid (ns.length = m + 1) := hmm
  rw [hmm] at hn hno hpb HTR ⊢
  clear hn0 hmm
  have q0 := hpb.c0
  have f0 := hno.free (m * 14 + 10)
  have x0 := hno.cell m 10 (by omega) (by omega)
  simp only [ncells, y0, List.getElem?_cons_succ, List.getElem?_cons_zero] at x0
  have hm1 : (m : Int) + 1 - 1 = m := by omega
  have hm2 : (m : Int) < (m : Int) + 1 := by omega
  have hno1 := hno.setMult m (by omega) 1
  have hpb1 := hpb.other (b := gn) (o := m * 14 + 10) (by omega) (.int .i32 1)
  go_enter Try.func43, Try.ntmps43
  go_wp2
  go_loopw [3, 4, 5, 6] (fun iv _ _ _ wr => ∃ (t : Nat) (Y : Nat → Ly), t ≤ m + 1 ∧ iv = .int .i64 ((t : Int) - 1) ∧ NodesAt wr gn (m + 1) ns Y ∧ Hid (∀ u, u < m + 1 → (u = m ∨ (t : Int) - 1 < P u) → (Y u).mult = T u) ∧ PB wr pb gn (m + 1) 0 0 ∧ Below gn w wr) (fun iv _ _ _ _ => (intOf iv + 1).toNat)
  case atStart =>
    refine ⟨m + 1, _, Nat.le_refl _, by go_num, hno1, fun u hu h => ?_, hpb1, (Below.refl gn w).setCell (p := ⟨gn, m * 14 + 10, none⟩) (Nat.le_refl _) _⟩
    rcases h with h | h
    · rw [if_pos h, h]; exact HTR.out.symm
    · have := HPAR.out.lt u (by rw [HNN.out]; exact hu)
      rw [HNN.out] at this
      omega
  case round =>
    clear hno1 hpb1 q0 f0 x0 hno hpb
    obtain ⟨t, Y, ht, rfl, hno, HY, hpb, hbel⟩ := hrel
    cases t with
    | succ s =>
      have hs1 : ((s + 1 : Nat) : Int) - 1 = s := by omega
      rw [hs1] at HY ⊢
      have hsl : s < ns.length := by rw [HNN.out]; omega
      have hpl := HPAR.out.bd1 s hsl
      rw [HNN.out] at hpl
      have hms : (Y s).mult = T s := HY.out s (by omega) (by
        by_cases e : s = m
        · exact .inl e
        · rcases hpl with h | h
          · have := HPAR.out.of s (by rw [HNN.out]; omega)
            obtain ⟨v, h1, h2, _⟩ := this
            right; omega
          · right; omega)
      have htb := HTB.out s hsl
      have hok := HFO.out.ok s hsl
      have hch := HFO.out.chain s hsl
      have c0 : wr.cell? ⟨gn, s * 14, none⟩ = some (.int .u8 (nodeAt ns s).kind) := hno.cell s 0 (by omega) (by omega)
      have c2 : wr.cell? ⟨gn, s * 14 + 2, none⟩ = some (.int .i32 (nodeAt ns s).first) := hno.cell s 2 (by omega) (by omega)
      have c7 : wr.cell? ⟨gn, s * 14 + 7, none⟩ = some (.int .i32 (nodeAt ns s).mn) := hno.cell s 7 (by omega) (by omega)
      have c8 : wr.cell? ⟨gn, s * 14 + 8, none⟩ = some (.int .i32 (nodeAt ns s).mx) := hno.cell s 8 (by omega) (by omega)
      have c10 : wr.cell? ⟨gn, s * 14 + 10, none⟩ = some (.int .i32 (Y s).mult) := hno.cell s 10 (by omega) (by omega)
      rw [hms] at c10
      have hkid := HTK.out s hsl
      have hsi : (s : Int) < (m : Int) + 1 := by omega
      have hs0 : (0 : Int) ≤ (s : Int) := by omega
      have HNO : Hid (NodesAt wr gn (m + 1) ns Y) := hno
      have HPB : Hid (PB wr pb gn (m + 1) 0 0) := hpb
      have HBEL : Hid (Below gn w wr) := hbel
      have HCH : Hid (Chain ns (nodeAt ns s).first (kids s)) := hch
      generalize T s = mt at htb c10 hkid
      by_cases h4 : (nodeAt ns s).kind = 4
      · rw [h4] at c0
        have hcall := copies46 gn (s * 14) (nodeAt ns s) (kids s) pos hok h4 wr c7 c8
        have hcb := cpn_bd hok h4
        have hcf : cfn (nodeAt ns s) = cpn (nodeAt ns s) := by unfold cfn; rw [if_pos h4]
        rw [hcf] at hkid
        generalize cpn (nodeAt ns s) = cp at hcall hcb hkid
        have hq1 := Int.mul_nonneg htb.1 hcb.1
        have hq2 : mt * cp ≤ mt * 7 := Int.mul_le_mul_of_nonneg_left hcb.2 htb.1
        obtain ⟨mu, hmu⟩ : ∃ mu, mt * cp = mu := ⟨_, rfl⟩
        rw [hmu] at hq1 hq2 hkid
        have HKID : Hid (∀ c, c ∈ kids s → T c = mu) := hkid
        clear hkid hok hcf h4 hch hno hpb hbel hms
        go_wp2_with fail
        refine hcall.mono ?_
        rintro e w5 ⟨rfl, rfl⟩
        clear hcall
        go_wp2
        have hmub : 0 ≤ mu ∧ mu ≤ 7340032 := by omega
        go_loopw [6] (fun cv wz => ∃ (done rest : List Nat) (f : Int) (Z : Nat → Ly), Hid (kids s = done ++ rest) ∧ cv = .int .i32 f ∧ Chain ns f rest ∧ NodesAt wz gn (m + 1) ns Z ∧ Hid (∀ u, u < m + 1 → (u = m ∨ (s : Int) < P u ∨ u ∈ done) → (Z u).mult = T u) ∧ PB wz pb gn (m + 1) 0 0 ∧ Below gn w wz) (fun cv _ => clen ns (intOf cv))
        case atStart =>
          refine ⟨[], kids s, _, Y, (show kids s = [] ++ kids s from rfl), rfl, HCH.out, HNO.out, fun u hu h => HY.out u hu ?_, HPB.out, HBEL.out⟩
          rcases h with h | h | h
          · exact .inl h
          · exact .inr h
          · simp at h
        case round =>
          clear c0 c2 c7 c8 c10 HNO HPB HBEL HY HCH
          obtain ⟨done, rest, f, Z, hkd, rfl, hch, hno, HZ, hpb, hbel⟩ := hrel
          cases rest with
          | nil =>
            have hf1 : f = -1 := hch
            subst hf1
            have hkd2 : kids s = done := by have := hkd.out; simpa using this
            have HKD : Hid (kids s = done) := hkd2
            clear hkd hkd2 hch
            go_wp2
            go_roundw
            case rel =>
              refine ⟨s, Z, by omega, by go_num, hno, fun u hu h => HZ.out u hu ?_, hpb, hbel⟩
              rcases h with h | h
              · exact .inl h
              · by_cases e : P u = (s : Int)
                · right; right; rw [← HKD.out]; exact up_done HPAR.out s u (by rw [HNN.out]; exact hu) e
                · right; left; omega
            case measure => simp [intOf]
          | cons c r =>
            obtain ⟨hf, hcl, hch2⟩ := hch
            have HM : Hid (clen ns f = r.length + 1) := clen_eq (ks := c :: r) ⟨hf, hcl, hch2⟩
            have HM2 : Hid (clen ns (nodeAt ns c).next = r.length) := clen_eq hch2
            rw [HNN.out] at hcl
            subst hf
            have hci : (c : Int) < (m : Int) + 1 := by omega
            have hc0 : (0 : Int) ≤ (c : Int) := by omega
            have p10 : wr.cell? ⟨gn, c * 14 + 10, none⟩ = some (.int .i32 (Z c).mult) := hno.cell c 10 (by omega) (by omega)
            have p3 : wr.cell? ⟨gn, c * 14 + 3, none⟩ = some (.int .i32 (nodeAt ns c).next) := hno.cell c 3 (by omega) (by omega)
            have f0 := hno.free (c * 14 + 10)
            generalize (Z c).mult = zc at p10
            have HKD : Hid (kids s = (done ++ [c]) ++ r) := by show _ = _; rw [hkd.out]; simp
            have HMU : Hid (T c = mu) := HKID.out c (by rw [hkd.out]; simp)
            clear hkd
            go_wp2
            go_roundw
            case rel =>
              refine ⟨done ++ [c], r, _, _, HKD, rfl, hch2, hno.setMult c hcl mu, fun u hu h => ?_, hpb.other (by omega) _, hbel.setCell (Nat.le_refl _) _⟩
              by_cases e : u = c
              · rw [if_pos e, e]; exact HMU.out.symm
              · rw [if_neg e]
                refine HZ.out u hu ?_
                rcases h with h | h | h
                · exact .inl h
                · exact .inr (.inl h)
                · right; right; simp at h; rcases h with h | h
                  · exact h
                  · exact absurd h e
            case measure => simp only [intOf]; rw [HM.out, HM2.out]; omega
      · have hcf : cfn (nodeAt ns s) = 1 := by unfold cfn; rw [if_neg h4]
        rw [hcf, Int.mul_one] at hkid
        have hkb : 0 ≤ (nodeAt ns s).kind ∧ (nodeAt ns s).kind ≤ 255 := by rcases hok with h | h | h | h <;> omega
        obtain ⟨mu, hmu⟩ : ∃ mu, mt = mu := ⟨_, rfl⟩
        subst hmu
        have HKID : Hid (∀ c, c ∈ kids s → T c = mt) := hkid
        generalize (nodeAt ns s).kind = kd at c0 h4 hkb
        clear hkid hok hcf hch hno hpb hbel hms
        go_wp2
        have hmub : 0 ≤ mt ∧ mt ≤ 7340032 := by omega
        go_loopw [6] (fun cv wz => ∃ (done rest : List Nat) (f : Int) (Z : Nat → Ly), Hid (kids s = done ++ rest) ∧ cv = .int .i32 f ∧ Chain ns f rest ∧ NodesAt wz gn (m + 1) ns Z ∧ Hid (∀ u, u < m + 1 → (u = m ∨ (s : Int) < P u ∨ u ∈ done) → (Z u).mult = T u) ∧ PB wz pb gn (m + 1) 0 0 ∧ Below gn w wz) (fun cv _ => clen ns (intOf cv))
        case atStart =>
          refine ⟨[], kids s, _, Y, (show kids s = [] ++ kids s from rfl), rfl, HCH.out, HNO.out, fun u hu h => HY.out u hu ?_, HPB.out, HBEL.out⟩
          rcases h with h | h | h
          · exact .inl h
          · exact .inr h
          · simp at h
        case round =>
          clear c0 c2 c7 c8 c10 HNO HPB HBEL HY HCH
          obtain ⟨done, rest, f, Z, hkd, rfl, hch, hno, HZ, hpb, hbel⟩ := hrel
          cases rest with
          | nil =>
            have hf1 : f = -1 := hch
            subst hf1
            have hkd2 : kids s = done := by have := hkd.out; simpa using this
            have HKD : Hid (kids s = done) := hkd2
            clear hkd hkd2 hch
            go_wp2
            go_roundw
            case rel =>
              refine ⟨s, Z, by omega, by go_num, hno, fun u hu h => HZ.out u hu ?_, hpb, hbel⟩
              rcases h with h | h
              · exact .inl h
              · by_cases e : P u = (s : Int)
                · right; right; rw [← HKD.out]; exact up_done HPAR.out s u (by rw [HNN.out]; exact hu) e
                · right; left; omega
            case measure => simp [intOf]
          | cons c r =>
            obtain ⟨hf, hcl, hch2⟩ := hch
            have HM : Hid (clen ns f = r.length + 1) := clen_eq (ks := c :: r) ⟨hf, hcl, hch2⟩
            have HM2 : Hid (clen ns (nodeAt ns c).next = r.length) := clen_eq hch2
            rw [HNN.out] at hcl
            subst hf
            have hci : (c : Int) < (m : Int) + 1 := by omega
            have hc0 : (0 : Int) ≤ (c : Int) := by omega
            have p10 : wr.cell? ⟨gn, c * 14 + 10, none⟩ = some (.int .i32 (Z c).mult) := hno.cell c 10 (by omega) (by omega)
            have p3 : wr.cell? ⟨gn, c * 14 + 3, none⟩ = some (.int .i32 (nodeAt ns c).next) := hno.cell c 3 (by omega) (by omega)
            have f0 := hno.free (c * 14 + 10)
            generalize (Z c).mult = zc at p10
            have HKD : Hid (kids s = (done ++ [c]) ++ r) := by show _ = _; rw [hkd.out]; simp
            have HMU : Hid (T c = mt) := HKID.out c (by rw [hkd.out]; simp)
            clear hkd
            go_wp2
            go_roundw
            case rel =>
              refine ⟨done ++ [c], r, _, _, HKD, rfl, hch2, hno.setMult c hcl mt, fun u hu h => ?_, hpb.other (by omega) _, hbel.setCell (Nat.le_refl _) _⟩
              by_cases e : u = c
              · rw [if_pos e, e]; exact HMU.out.symm
              · rw [if_neg e]
                refine HZ.out u hu ?_
                rcases h with h | h | h
                · exact .inl h
                · exact .inr (.inl h)
                · right; right; simp at h; rcases h with h | h
                  · exact h
                  · exact absurd h e
            case measure => simp only [intOf]; rw [HM.out, HM2.out]; omega
    | zero =>
      rw [show ((0 : Nat) : Int) - 1 = -1 by omega] at HY ⊢
      have hall : ∀ u, u < m + 1 → (Y u).mult = T u := fun u hu => HY.out u hu (by
        by_cases e : u = m
        · exact .inl e
        · obtain ⟨v, h1, _⟩ := HPAR.out.of u (by rw [HNN.out]; omega)
          right; omega)
      have HALL : Hid (∀ u, u < m + 1 → (Y u).mult = T u) := hall
      clear hall HY
      go_wp2
      go_loopw [7, 8, 61] (fun _ _ iv wz => ∃ (k : Nat) (Z : Nat → Ly), k ≤ m + 1 ∧ iv = .int .i64 k ∧ NodesAt wz gn (m + 1) ns Z ∧ Hid (∀ u, u < m + 1 → (Z u).mult = T u) ∧ Hid (∀ u, u < k → (Z u).words = (T u + 63) / 64) ∧ PB wz pb gn (m + 1) (bS ns T k) (wS T k) ∧ Below gn w wz) (fun _ _ iv _ => m + 1 - (intOf iv).toNat)
      case atStart => exact ⟨0, Y, by omega, rfl, hno, HALL, fun u hu => absurd hu (Nat.not_lt_zero _), hpb, hbel⟩
      case round =>
        clear hno hpb hbel HALL
        obtain ⟨k, Z, hk, rfl, hno, HZM, HZW, hpb, hbel⟩ := hrel
        by_cases hlt : k < m + 1
        · have hki : (k : Int) < (m : Int) + 1 := by omega
          have hkl : k < ns.length := by rw [HNN.out]; exact hlt
          have hwb := wS_bd T k (fun j hj => HTB.out j (by omega))
          have hbb := bS_bd ns T kids pos k (fun j hj => HTB.out j (by omega)) (fun j hj => HFO.out.ok j (by omega))
          have htb := HTB.out k hkl
          have hok := HFO.out.ok k hkl
          have HB1 : Hid (bS ns T (k + 1) = bS ns T k + (if (nodeAt ns k).kind = 0 then ((nodeAt ns k).hi - (nodeAt ns k).lo) * T k else 0)) := rfl
          have HW1 : Hid (wS T (k + 1) = wS T k + (T k + 63) / 64) := rfl
          have p3 := hpb.c3
          have p4 := hpb.c4
          have pf3 := hpb.free 3
          have pf4 := hpb.free 4
          have c0 : wr.cell? ⟨gn, k * 14, none⟩ = some (.int .u8 (nodeAt ns k).kind) := hno.cell k 0 (by omega) (by omega)
          have c4 : wr.cell? ⟨gn, k * 14 + 4, none⟩ = some (.int .i32 (nodeAt ns k).lo) := hno.cell k 4 (by omega) (by omega)
          have c5 : wr.cell? ⟨gn, k * 14 + 5, none⟩ = some (.int .i32 (nodeAt ns k).hi) := hno.cell k 5 (by omega) (by omega)
          have c10 : wr.cell? ⟨gn, k * 14 + 10, none⟩ = some (.int .i32 (Z k).mult) := hno.cell k 10 (by omega) (by omega)
          have c11 : wr.cell? ⟨gn, k * 14 + 11, none⟩ = some (.int .i32 (Z k).base) := hno.cell k 11 (by omega) (by omega)
          have c12 : wr.cell? ⟨gn, k * 14 + 12, none⟩ = some (.int .i32 (Z k).vec) := hno.cell k 12 (by omega) (by omega)
          have c13 : wr.cell? ⟨gn, k * 14 + 13, none⟩ = some (.int .i32 (Z k).words) := hno.cell k 13 (by omega) (by omega)
          rw [HZM.out k hlt] at c10
          have f11 := hno.free (k * 14 + 11)
          have f12 := hno.free (k * 14 + 12)
          have f13 := hno.free (k * 14 + 13)
          have hgn1 : ¬ gn = pb := by omega
          have hgn2 : ¬ pb = gn := by omega
          have HLR : Hid (LR w wr pb gn (m + 1) k ns T (bS ns T k) (wS T k) Z) := ⟨hno, HZM.out, HZW.out, hpb, hbel⟩
          have hcall := words47 (T k) htb.1 (by omega)
          obtain ⟨wd, hwd⟩ : ∃ wd, (T k + 63) / 64 = wd := ⟨_, rfl⟩
          have hwdb : 0 ≤ wd ∧ wd ≤ 16385 := by omega
          rw [hwd] at hcall HW1
          have HWD : Hid ((T k + 63) / 64 = wd) := hwd
          have HTKE : Hid (T k = T k) := rfl
          clear hno hpb hbel hwd
          generalize hbk : bS ns T k = bk at hbb p3 HB1 HLR
          generalize hwk : wS T k = wk at hwb p4 HW1 HLR
          generalize hmk : T k = mk at htb c10 hcall HB1
          have HMK : Hid (T k = mk) := hmk
          clear hbk hwk hmk HTKE
          have w1 := wrap_i64 (x := mk) (by omega)
          have w2 := wrap_i32 (x := wd) (by omega)
          have w3 := wrap_i32 (x := wk) (by omega)
          by_cases hkd : (nodeAt ns k).kind = 0
          · have hbd : 0 ≤ (nodeAt ns k).lo ∧ (nodeAt ns k).lo < (nodeAt ns k).hi ∧ (nodeAt ns k).hi ≤ (nodeAt ns k).lo + 8 ∧ (nodeAt ns k).hi ≤ 524288 := by
              rcases hok with h | h | h | h <;> omega
            have HHI : Hid (∀ wz Zz, NodesAt wz gn (m + 1) ns Zz → wz.cell? ⟨gn, k * 14 + 5, none⟩ = some (.int .i32 (nodeAt ns k).hi) ∧ wz.cell? ⟨gn, k * 14 + 4, none⟩ = some (.int .i32 (nodeAt ns k).lo) ∧ wz.cell? ⟨gn, k * 14 + 10, none⟩ = some (.int .i32 (Zz k).mult)) := fun wz Zz h => ⟨h.cell k 5 (by omega) (by omega), h.cell k 4 (by omega) (by omega), h.cell k 10 (by omega) (by omega)⟩
            have HB2 : Hid (bS ns T (k + 1) = bk + ((nodeAt ns k).hi - (nodeAt ns k).lo) * mk) := by have h9 := HB1.out; rw [if_pos hkd] at h9; exact h9
            rw [hkd] at c0
            have HKD : Hid ((nodeAt ns k).kind = 0) := hkd
            generalize (nodeAt ns k).hi = hi at hbd HHI HB2 c5
            generalize (nodeAt ns k).lo = lo at hbd HHI HB2 c4
            obtain ⟨sp, hsp⟩ : ∃ sp, hi - lo = sp := ⟨_, rfl⟩
            have hq1 := Int.mul_nonneg (show 0 ≤ sp by omega) htb.1
            have hq2 : sp * mk ≤ 8 * mk := Int.mul_le_mul_of_nonneg_right (by omega) htb.1
            rw [hsp] at HB2
            obtain ⟨q, hq⟩ : ∃ q, sp * mk = q := ⟨_, rfl⟩
            rw [hq] at hq1 hq2 HB2
            have w6 := wrap_i32 (x := sp) (by omega)
            have w7 := wrap_i64 (x := sp) (by omega)
            have w8 := wrap_i64 (x := q) (by omega)
            have w9 := wrap_i64 (x := bk + q) (by omega)
            clear hkd hok HB1
            go_wp2
            go_region_with (go_at_call 47; refine (hcall _).mono ?_; rintro _ _ ⟨rfl, rfl⟩)
            all_goals (
              obtain ⟨Z2, hlr, hz2⟩ := HLR.out.vecWords hlt hgp wk wd HWD.out
              clear c0 c4 c5 c10 c11 c12 c13 f11 f12 f13 p3 p4 pf3 pf4
              generalize ((wr.setCell ⟨gn, k * 14 + 12, none⟩ (.int .i32 wk)).setCell ⟨gn, k * 14 + 13, none⟩ (.int .i32 wd)).drew = wq at hlr ⊢
              have p4 := hlr.pb.c4
              have pf4 := hlr.pb.free 4
              have p3 := hlr.pb.c3
              have c13 : wq.cell? ⟨gn, k * 14 + 13, none⟩ = some (.int .i32 (Z2 k).words) := hlr.no.cell k 13 (by omega) (by omega)
              have c0 : wq.cell? ⟨gn, k * 14, none⟩ = some (.int .u8 0) := by rw [← HKD.out]; exact hlr.no.cell k 0 (by omega) (by omega)
              have c11 : wq.cell? ⟨gn, k * 14 + 11, none⟩ = some (.int .i32 (Z2 k).base) := hlr.no.cell k 11 (by omega) (by omega)
              have f11 := hlr.no.free (k * 14 + 11)
              generalize (Z2 k).base = zb at c11
              rw [hz2] at c13
              have w4 := wrap_i64 (x := wd) (by omega)
              have w5 := wrap_i64 (x := wk + wd) (by omega)
              have hlr2 := hlr.putVw hgp (wk + wd)
              have HLR2 : Hid (LR w (wq.setCell ⟨pb, 4, none⟩ (.int .i64 (wk + wd))).drew pb gn (m + 1) (k + 1) ns T bk (wk + wd) Z2) := hlr2
              clear hlr2 hz2 hlr
              go_wp2
              go_still_tail 12, Try.mixed
              rw [show ({ wq with drawn := wq.drawn + 1 } : World) = wq.drew from rfl]
              set_option maxRecDepth 20000 in
              go_wp2
              obtain ⟨Z3, hlr3⟩ := HLR2.out.base hgp k hlt (wrap32 bk)
              clear p3 p4 pf4 c13 c0 c11 f11 HLR2
              generalize hW : ((wq.setCell ⟨pb, 4, none⟩ (.int .i64 (wk + wd))).setCell ⟨gn, k * 14 + 11, none⟩ (.int .i32 (wrap32 bk))).drew = wy
              have hlr4 : LR w wy pb gn (m + 1) (k + 1) ns T bk (wk + wd) Z3 := by rw [← hW]; exact hlr3
              clear hlr3 hW
              have p3 := hlr4.pb.c3
              have pf3 := hlr4.pb.free 3
              obtain ⟨c5, c4, c10⟩ := HHI.out wy Z3 hlr4.no
              rw [hlr4.mu k hlt, HMK.out] at c10
              have HLR5 : Hid (LR w (wy.setCell ⟨pb, 3, none⟩ (.int .i64 (bk + q))).drew pb gn (m + 1) (k + 1) ns T (bk + q) (wk + wd) Z3) := hlr4.putBits hgp (bk + q)
              clear hlr4
              go_still_tail 23, Try.mixed
              rw [show ({ wy with drawn := wy.drawn + 1 } : World) = wy.drew from rfl]
              set_option maxRecDepth 20000 in
              go_wp2
              go_roundw
              case rel =>
                have h9 := HLR5.out
                exact ⟨k + 1, Z3, by omega, by go_num, h9.no, h9.mu, h9.wo, (by rw [HB2.out, HW1.out]; exact h9.pb), h9.bel⟩
              case measure => simp [intOf]; omega
            )
          · have hkb : 0 ≤ (nodeAt ns k).kind ∧ (nodeAt ns k).kind ≤ 255 := by rcases hok with h | h | h | h <;> omega
            have HB2 : Hid (bS ns T (k + 1) = bk) := by have h9 := HB1.out; rw [if_neg hkd, Int.add_zero] at h9; exact h9
            obtain ⟨kd, hkdd⟩ : ∃ kd, (nodeAt ns k).kind = kd := ⟨_, rfl⟩
            rw [hkdd] at hkd hkb c0
            have HKD : Hid ((nodeAt ns k).kind = kd) := hkdd
            clear hok HB1 hkdd
            go_wp2
            go_region_with (go_at_call 47; refine (hcall _).mono ?_; rintro _ _ ⟨rfl, rfl⟩)
            all_goals (
              obtain ⟨Z2, hlr, hz2⟩ := HLR.out.vecWords hlt hgp wk wd HWD.out
              clear c0 c4 c5 c10 c11 c12 c13 f11 f12 f13 p3 p4 pf3 pf4
              generalize ((wr.setCell ⟨gn, k * 14 + 12, none⟩ (.int .i32 wk)).setCell ⟨gn, k * 14 + 13, none⟩ (.int .i32 wd)).drew = wq at hlr ⊢
              have p4 := hlr.pb.c4
              have pf4 := hlr.pb.free 4
              have p3 := hlr.pb.c3
              have c13 : wq.cell? ⟨gn, k * 14 + 13, none⟩ = some (.int .i32 (Z2 k).words) := hlr.no.cell k 13 (by omega) (by omega)
              have c0 : wq.cell? ⟨gn, k * 14, none⟩ = some (.int .u8 kd) := by rw [← HKD.out]; exact hlr.no.cell k 0 (by omega) (by omega)
              have c11 : wq.cell? ⟨gn, k * 14 + 11, none⟩ = some (.int .i32 (Z2 k).base) := hlr.no.cell k 11 (by omega) (by omega)
              have f11 := hlr.no.free (k * 14 + 11)
              generalize (Z2 k).base = zb at c11
              rw [hz2] at c13
              have w4 := wrap_i64 (x := wd) (by omega)
              have w5 := wrap_i64 (x := wk + wd) (by omega)
              have hlr2 := hlr.putVw hgp (wk + wd)
              have HLR2 : Hid (LR w (wq.setCell ⟨pb, 4, none⟩ (.int .i64 (wk + wd))).drew pb gn (m + 1) (k + 1) ns T bk (wk + wd) Z2) := hlr2
              clear hlr2 hz2 hlr
              go_wp2
              go_still_tail 12, Try.mixed
              rw [show ({ wq with drawn := wq.drawn + 1 } : World) = wq.drew from rfl]
              set_option maxRecDepth 20000 in
              go_wp2
              go_roundw
              case rel =>
                have h9 := HLR2.out
                exact ⟨k + 1, Z2, by omega, by go_num, h9.no, h9.mu, h9.wo, (by rw [HB2.out, HW1.out]; exact h9.pb), h9.bel⟩
              case measure => simp [intOf]; omega
            )
        · have hkm : k = m + 1 := by omega
          subst hkm
          go_wp2
          go_end0
          exact ⟨rfl, Z, hno, fun u hu => ⟨HZM.out u hu, HZW.out u hu⟩, hpb, hbel⟩
end Go.Proofs.Qxb6000433a
