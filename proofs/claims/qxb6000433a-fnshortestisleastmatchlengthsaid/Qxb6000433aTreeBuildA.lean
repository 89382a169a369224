/-
  'build'.
-/
import Derived.Test.Qxb6000433aTreeBuildL
namespace Go.Proofs.Qxb6000433a
open Go.RowKit

set_option maxHeartbeats 1000000 in
theorem build12 (g n : Nat) (os : List OpD) (hn : n ≤ 4096) (w : World) (hg : g < w.heap.size) (hc : OpsAt w g 0 n os) (hr : ∀ i, i < n → 0 ≤ (os.getD i oz).kind ∧ (os.getD i oz).kind ≤ 255 ∧ -2147483648 ≤ (os.getD i oz).a ∧ (os.getD i oz).a ≤ 2147483647 ∧ -2147483648 ≤ (os.getD i oz).b ∧ (os.getD i oz).b ≤ 2147483647) :
    Calls Try.prog 12 #[.slice (some ⟨g, 0, none⟩) n n, .bool false] w fun e w' => ∃ ok v, e = .returned (.tuple #[.agg #[v 0, v 1, v 2, v 3, v 4, v 5, v 6, v 7, v 8], .bool ok]) ∧ (∀ i, i < 9 → ∃ p l c, v i = .slice p l c) ∧ Below w.heap.size w w' ∧ (ok = true → ∃ ns kids pos, Built w' (w.heap.size + 2) n v ns kids pos) := by
  have HC : Hid (OpsAt w g 0 n os) := hc
  have HR : Hid (∀ i, i < n → 0 ≤ (os.getD i oz).kind ∧ (os.getD i oz).kind ≤ 255 ∧ -2147483648 ≤ (os.getD i oz).a ∧ (os.getD i oz).a ≤ 2147483647 ∧ -2147483648 ≤ (os.getD i oz).b ∧ (os.getD i oz).b ≤ 2147483647) := hr
  clear hc hr
  obtain ⟨i21, hi21, hz210, hz211, hz212⟩ := info_parts Try.info21
  go_enter Try.func12, Try.ntmps12
  go_wp2
  obtain ⟨w0, hw0⟩ : ∃ w0, w0 = (w.alloc zO).alloc zO := ⟨_, rfl⟩
  have ht0 : Tree w0 (w.heap.size + 1) (w.heap.size + 2) (fun _ => .slice none 0 0) [] := by
    have := tree_new (w.alloc zO)
    rw [← hw0] at this
    simpa using this
  have hb0 : Below w.heap.size w w0 := by rw [hw0]; exact ((Below.refl _ _).alloc (Nat.le_refl _) _).alloc (by simp) _
  have hs0 : w0.heap.size = w.heap.size + 2 := by rw [hw0]; simp
  have hwx : (w.alloc zO).alloc zO = w0 := hw0.symm
  unfold zO at hwx
  rw [hwx]
  have hrd : Rd w0 w0 (w.heap.size + 1) (w.heap.size + 2) 0 (.slice none 0 0) 0 [] [] (fun _ => .slice none 0 0) (fun _ => []) := ⟨ht0, World.ownsRow_nil _ _ _ _, fun _ _ _ => rfl, Forest.nil, Nat.le_refl _, Nat.le_refl _, Nat.zero_le _, Below.refl _ _, by omega⟩
  have hob0 : w0.heap[w.heap.size]? = some zO := by rw [hw0, Below.heap_alloc _ _ _ (by simp)]; exact heap_alloc_new w _
  clear hwx hw0 ht0
  go_loopw [7, 8, 9] (fun stv pv iv wr => ∃ (k pos : Nat) (ns : List Nd) (st : List Nat) (v : Nat → Value) (kids : Nat → List Nat), k ≤ n ∧ iv = .int .i64 k ∧ pv = .int .i32 pos ∧ Rd w0 wr (w.heap.size + 1) (w.heap.size + 2) k stv pos ns st v kids) (fun _ _ iv _ => n - (intOf iv).toNat)
  case atStart => exact ⟨0, 0, [], [], _, _, Nat.zero_le _, rfl, rfl, hrd⟩
  case round =>
    clear hrd
    obtain ⟨k, pos, ns, st, v, kids, hk, rfl, rfl, hrd⟩ := hrel
    by_cases hlt : k < n
    · have hgb : g < w.heap.size + 1 := by omega
      have hblk : wr.heap[g]? = w.heap[g]? := (hrd.bel.block g hgb).trans (hb0.block g hg)
      obtain ⟨c0, c1, c2⟩ := (HC.out.block hblk) k hlt
      obtain ⟨r0, r1, r2, r3, r4, r5⟩ := HR.out k hlt
      generalize os.getD k oz = o at c0 c1 c2 r0 r1 r2 r3 r4 r5
      obtain ⟨x, a, b⟩ := o
      dsimp only at c0 c1 c2 r0 r1 r2 r3 r4 r5
      simp only [Nat.zero_add] at c0 c1 c2
      have hki : (k : Int) < (n : Int) := by omega
      have hnl := hrd.nl
      have hsl0 := hrd.sl
      have hpl := hrd.pl
      have hpb : pos ≤ 32768 := by omega
      have hx5 : x % 5 = 0 ∨ x % 5 = 1 ∨ x % 5 = 2 ∨ x % 5 = 3 ∨ x % 5 = 4 := by omega
      rcases hx5 with h5 | h5 | h5 | h5 | h5
      · obtain ⟨cn, hcn, hcn1, hcn8⟩ : ∃ cn : Nat, (1 + a % 8 : Int) = cn ∧ 1 ≤ cn ∧ cn ≤ 8 := ⟨(1 + a % 8).toNat, by omega, by omega, by omega⟩
        obtain ⟨ofs, hof, hofl⟩ : ∃ ofs : Nat, (b % 4294967296 % (cn : Int)) = ofs ∧ ofs < cn := by
          have q1 := Int.emod_nonneg (b % 4294967296) (show (cn : Int) ≠ 0 by omega)
          have q2 := Int.emod_lt_of_pos (b % 4294967296) (show (0 : Int) < cn by omega)
          exact ⟨(b % 4294967296 % (cn : Int)).toNat, by omega, by omega⟩
        go_wp2_with fail
        refine (add34 (w.heap.size + 1) (w.heap.size + 2) v ns 0 0 pos (pos + cn) (pos + ofs) 0 0 (by omega) wr hrd.hB hrd.tr).mono ?_
        rintro e w1 ⟨rfl, v1, ht1, hk1⟩
        obtain ⟨hso, hap⟩ := hk1.stack hrd.so hrd.ap hrd.tr.tB
        have hB1 : w.heap.size + 2 ≤ w1.heap.size := Nat.le_trans hrd.hB hk1.size
        have hsl : st.length ≤ 65536 := by omega
        set_option maxRecDepth 20000 in
        go_wp2_with (at_builtin; refine wpList_push (st := st) hso hsl hB1 rfl (.tmp 58) (.tmp 67) rfl rfl rfl ?_; intro sv' w2 P1 P2 P3)
        go_roundw
        case rel =>
          have hts : st.take st.length = st := List.take_length
          have hfo := hrd.fo.leaf (pos' := pos + cn) ⟨0, 0, -1, -1, pos, pos + cn, pos + ofs, 0, 0⟩ rfl rfl (by omega) (.inl ⟨rfl, rfl, rfl, by dsimp only; omega, by dsimp only; omega, by dsimp only; omega, by dsimp only; omega, by dsimp only; omega⟩)
          have hrn := hrd.push ht1 hk1 rfl st.length (Nat.le_refl _) (by rw [hts]; exact hso) (by rw [hts]; exact P1.out) P2.out P3.out (by rw [hts]; exact hfo) (by simp) (by omega)
          exact ⟨k + 1, pos + cn, _, _, v1, _, by omega, by go_num, by go_num, hrn⟩
        case measure => simp [intOf]; omega
      · go_wp2_with fail
        refine (add34 (w.heap.size + 1) (w.heap.size + 2) v ns 1 1 0 0 0 0 0 (by omega) wr hrd.hB hrd.tr).mono ?_
        rintro e w1 ⟨rfl, v1, ht1, hk1⟩
        obtain ⟨hso, hap⟩ := hk1.stack hrd.so hrd.ap hrd.tr.tB
        have hB1 : w.heap.size + 2 ≤ w1.heap.size := Nat.le_trans hrd.hB hk1.size
        have hsl : st.length ≤ 65536 := by omega
        set_option maxRecDepth 20000 in
        go_wp2_with (at_builtin; refine wpList_push (st := st) hso hsl hB1 rfl (.tmp 74) (.tmp 76) rfl rfl rfl ?_; intro sv' w2 P1 P2 P3)
        go_roundw
        case rel =>
          have hts : st.take st.length = st := List.take_length
          have hfo := hrd.fo.leaf (pos' := pos) ⟨1, 1, -1, -1, 0, 0, 0, 0, 0⟩ rfl rfl (by omega) (.inr (.inl ⟨rfl, rfl⟩))
          have hrn := hrd.push ht1 hk1 rfl st.length (Nat.le_refl _) (by rw [hts]; exact hso) (by rw [hts]; exact P1.out) P2.out P3.out (by rw [hts]; exact hfo) (by simp) (by omega)
          exact ⟨k + 1, pos, _, _, v1, _, by omega, by go_num, by go_num, hrn⟩
        case measure => simp [intOf]; omega
      · by_cases hst : st = []
        · subst hst
          obtain ⟨p7, c7, rfl⟩ := hrd.nilLen
          set_option maxRecDepth 20000 in
          go_wp2
          go_roundw
          case rel => exact ⟨k + 1, pos, _, _, v, _, by omega, by go_num, rfl, hrd.skip⟩
          case measure => simp [intOf]; omega
        · obtain ⟨gs, cap, rfl, z1, z2, z3, z4, z5, z6⟩ := hrd.stack hst
          have z0 : 0 < st.length := List.length_pos_iff.mpr hst
          obtain ⟨q, hq, hq2⟩ : ∃ q : Nat, (a % 4294967296 % 3 : Int) = q ∧ q ≤ 2 := ⟨(a % 4294967296 % 3).toNat, by omega, by omega⟩
          have HZ6 : Hid (∀ i, i < 9 → (v i).ownBlock ≠ some gs) := z6
          have hso0 := hrd.so
          have HC0 : Hid (∀ j, j < st.length → wr.cell? ⟨gs, j, none⟩ = some (.int .i32 ((st.getD j 0 : Nat) : Int))) := fun j hj => (hso0.cellAt j (by omega)).trans (si_get st j hj)
          have hne0 : ¬ (st.length : Int) = 0 := by omega
          obtain ⟨len, hlen⟩ : ∃ len, len = st.length := ⟨_, rfl⟩
          rw [← hlen] at z0 z1 hne0 hsl0 hso0 HC0 hrd ⊢
          have HLEN : Hid (len = st.length) := hlen
          clear z6 hlen
          have hl6 : len ≤ 65536 := by omega
          by_cases hql : (len : Int) < 2 + (q : Int)
          · have hfo := hrd.fo.link ⟨2, 0, -1, -1, 0, 0, 0, 0, 0⟩ rfl 0 (by rw [← HLEN.out]; omega) (.inl (.inr (.inr (.inl ⟨.inl rfl, by simpa using hst⟩))))
            have HF : Hid _ := hfo
            clear hfo
            go_wp2_with fail
            refine (group35 (w.heap.size + 1) (w.heap.size + 2) v ns 2 st gs 0 len cap HLEN.out.symm (by omega) (fun c hc => (hrd.fo.stl c hc).1) (by omega) wr hrd.hB hrd.tr z4 z5 HZ6.out (fun j hj => by rw [Nat.zero_add]; exact HC0.out j hj)).mono ?_
            rintro e w1 ⟨rfl, v1, ht1, hk1⟩
            obtain ⟨hso, hap⟩ := hk1.stack hso0 hrd.ap hrd.tr.tB
            have hso2 : w1.ownsRow (w.heap.size + 2) 21 1 (.slice (some ⟨gs, 0, none⟩) 0 cap) 0 (si []) := own_take hso (by omega)
            have hB1 : w.heap.size + 2 ≤ w1.heap.size := Nat.le_trans hrd.hB hk1.size
            have HT1 : Hid (Tree w1 (w.heap.size + 1) (w.heap.size + 2) v1 (grouped ns 2 st)) := ht1
            have hgl : (grouped ns 2 st).length = ns.length + 1 := by unfold grouped; rw [link_len]; simp
            have HGL : Hid _ := hgl
            have htl6 : 0 ≤ 65536 := by omega
            clear hso hap ht1 hgl
            set_option maxRecDepth 20000 in
            go_wp2_with (at_builtin; refine wpList_push (st := []) hso2 htl6 hB1 rfl (.tmp 106) (.tmp 108) rfl rfl rfl ?_; intro sv' w2 P1 P2 P3)
            go_roundw
            case rel =>
              have hrn := hrd.push (sv0 := .slice (some ⟨gs, 0, none⟩) 0 cap) HT1.out hk1 rfl 0 (by rw [← HLEN.out]; omega) hso2 P1.out P2.out P3.out HF.out HGL.out (by omega)
              exact ⟨k + 1, pos, _, _, v1, _, by omega, by go_num, rfl, hrn⟩
            case measure => simp [intOf]; omega
          · obtain ⟨top, htop, htl⟩ : ∃ top : Nat, (len : Int) - (2 + (q : Int)) = top ∧ top + (2 + q) = len := ⟨len - (2 + q), by omega, by omega⟩
            have hfo := hrd.fo.link ⟨2, 0, -1, -1, 0, 0, 0, 0, 0⟩ rfl top (by rw [← HLEN.out]; omega) (.inl (.inr (.inr (.inl ⟨.inl rfl, by intro e; have := congrArg List.length e; simp [← HLEN.out] at this; omega⟩))))
            have HF : Hid _ := hfo
            clear hfo
            go_wp2_with fail
            refine (group35 (w.heap.size + 1) (w.heap.size + 2) v ns 2 (st.drop top) gs top (len - top) (cap - top) (by simp [← HLEN.out]) (by omega) (fun c hc => (hrd.fo.stl c (List.mem_of_mem_drop hc)).1) (by omega) wr hrd.hB hrd.tr z4 z5 HZ6.out (fun j hj => by have h9 := HC0.out (top + j) (by omega); simpa [List.getD, List.getElem?_drop] using h9)).mono ?_
            rintro e w1 ⟨rfl, v1, ht1, hk1⟩
            obtain ⟨hso, hap⟩ := hk1.stack hso0 hrd.ap hrd.tr.tB
            have hso2 : w1.ownsRow (w.heap.size + 2) 21 1 (.slice (some ⟨gs, 0, none⟩) top cap) top (si (st.take top)) := by rw [si_take]; exact own_take hso (by omega)
            have hB1 : w.heap.size + 2 ≤ w1.heap.size := Nat.le_trans hrd.hB hk1.size
            have HT1 : Hid (Tree w1 (w.heap.size + 1) (w.heap.size + 2) v1 (grouped ns 2 (st.drop top))) := ht1
            have hgl : (grouped ns 2 (st.drop top)).length = ns.length + 1 := by unfold grouped; rw [link_len]; simp
            have HGL : Hid _ := hgl
            have htl6 : top ≤ 65536 := by omega
            clear hso hap ht1 hgl
            set_option maxRecDepth 20000 in
            go_wp2_with (at_builtin; refine wpList_push (st := (st.take top)) hso2 htl6 hB1 rfl (.tmp 106) (.tmp 108) rfl rfl rfl ?_; intro sv' w2 P1 P2 P3)
            go_roundw
            case rel =>
              have hrn := hrd.push (sv0 := .slice (some ⟨gs, 0, none⟩) top cap) HT1.out hk1 rfl top (by rw [← HLEN.out]; omega) hso2 P1.out P2.out P3.out HF.out HGL.out (by omega)
              exact ⟨k + 1, pos, _, _, v1, _, by omega, by go_num, rfl, hrn⟩
            case measure => simp [intOf]; omega
      · by_cases hst : st = []
        · subst hst
          obtain ⟨p7, c7, rfl⟩ := hrd.nilLen
          set_option maxRecDepth 20000 in
          go_wp2
          go_roundw
          case rel => exact ⟨k + 1, pos, _, _, v, _, by omega, by go_num, rfl, hrd.skip⟩
          case measure => simp [intOf]; omega
        · obtain ⟨gs, cap, rfl, z1, z2, z3, z4, z5, z6⟩ := hrd.stack hst
          have z0 : 0 < st.length := List.length_pos_iff.mpr hst
          obtain ⟨q, hq, hq2⟩ : ∃ q : Nat, (a % 4294967296 % 3 : Int) = q ∧ q ≤ 2 := ⟨(a % 4294967296 % 3).toNat, by omega, by omega⟩
          have HZ6 : Hid (∀ i, i < 9 → (v i).ownBlock ≠ some gs) := z6
          have hso0 := hrd.so
          have HC0 : Hid (∀ j, j < st.length → wr.cell? ⟨gs, j, none⟩ = some (.int .i32 ((st.getD j 0 : Nat) : Int))) := fun j hj => (hso0.cellAt j (by omega)).trans (si_get st j hj)
          have hne0 : ¬ (st.length : Int) = 0 := by omega
          obtain ⟨len, hlen⟩ : ∃ len, len = st.length := ⟨_, rfl⟩
          rw [← hlen] at z0 z1 hne0 hsl0 hso0 HC0 hrd ⊢
          have HLEN : Hid (len = st.length) := hlen
          clear z6 hlen
          have hl6 : len ≤ 65536 := by omega
          by_cases hql : (len : Int) < 2 + (q : Int)
          · have hfo := hrd.fo.link ⟨3, 0, -1, -1, 0, 0, 0, 0, 0⟩ rfl 0 (by rw [← HLEN.out]; omega) (.inl (.inr (.inr (.inl ⟨.inr rfl, by simpa using hst⟩))))
            have HF : Hid _ := hfo
            clear hfo
            go_wp2_with fail
            refine (group35 (w.heap.size + 1) (w.heap.size + 2) v ns 3 st gs 0 len cap HLEN.out.symm (by omega) (fun c hc => (hrd.fo.stl c hc).1) (by omega) wr hrd.hB hrd.tr z4 z5 HZ6.out (fun j hj => by rw [Nat.zero_add]; exact HC0.out j hj)).mono ?_
            rintro e w1 ⟨rfl, v1, ht1, hk1⟩
            obtain ⟨hso, hap⟩ := hk1.stack hso0 hrd.ap hrd.tr.tB
            have hso2 : w1.ownsRow (w.heap.size + 2) 21 1 (.slice (some ⟨gs, 0, none⟩) 0 cap) 0 (si []) := own_take hso (by omega)
            have hB1 : w.heap.size + 2 ≤ w1.heap.size := Nat.le_trans hrd.hB hk1.size
            have HT1 : Hid (Tree w1 (w.heap.size + 1) (w.heap.size + 2) v1 (grouped ns 3 st)) := ht1
            have hgl : (grouped ns 3 st).length = ns.length + 1 := by unfold grouped; rw [link_len]; simp
            have HGL : Hid _ := hgl
            have htl6 : 0 ≤ 65536 := by omega
            clear hso hap ht1 hgl
            set_option maxRecDepth 20000 in
            go_wp2_with (at_builtin; refine wpList_push (st := []) hso2 htl6 hB1 rfl (.tmp 106) (.tmp 108) rfl rfl rfl ?_; intro sv' w2 P1 P2 P3)
            go_roundw
            case rel =>
              have hrn := hrd.push (sv0 := .slice (some ⟨gs, 0, none⟩) 0 cap) HT1.out hk1 rfl 0 (by rw [← HLEN.out]; omega) hso2 P1.out P2.out P3.out HF.out HGL.out (by omega)
              exact ⟨k + 1, pos, _, _, v1, _, by omega, by go_num, rfl, hrn⟩
            case measure => simp [intOf]; omega
          · obtain ⟨top, htop, htl⟩ : ∃ top : Nat, (len : Int) - (2 + (q : Int)) = top ∧ top + (2 + q) = len := ⟨len - (2 + q), by omega, by omega⟩
            have hfo := hrd.fo.link ⟨3, 0, -1, -1, 0, 0, 0, 0, 0⟩ rfl top (by rw [← HLEN.out]; omega) (.inl (.inr (.inr (.inl ⟨.inr rfl, by intro e; have := congrArg List.length e; simp [← HLEN.out] at this; omega⟩))))
            have HF : Hid _ := hfo
            clear hfo
            go_wp2_with fail
            refine (group35 (w.heap.size + 1) (w.heap.size + 2) v ns 3 (st.drop top) gs top (len - top) (cap - top) (by simp [← HLEN.out]) (by omega) (fun c hc => (hrd.fo.stl c (List.mem_of_mem_drop hc)).1) (by omega) wr hrd.hB hrd.tr z4 z5 HZ6.out (fun j hj => by have h9 := HC0.out (top + j) (by omega); simpa [List.getD, List.getElem?_drop] using h9)).mono ?_
            rintro e w1 ⟨rfl, v1, ht1, hk1⟩
            obtain ⟨hso, hap⟩ := hk1.stack hso0 hrd.ap hrd.tr.tB
            have hso2 : w1.ownsRow (w.heap.size + 2) 21 1 (.slice (some ⟨gs, 0, none⟩) top cap) top (si (st.take top)) := by rw [si_take]; exact own_take hso (by omega)
            have hB1 : w.heap.size + 2 ≤ w1.heap.size := Nat.le_trans hrd.hB hk1.size
            have HT1 : Hid (Tree w1 (w.heap.size + 1) (w.heap.size + 2) v1 (grouped ns 3 (st.drop top))) := ht1
            have hgl : (grouped ns 3 (st.drop top)).length = ns.length + 1 := by unfold grouped; rw [link_len]; simp
            have HGL : Hid _ := hgl
            have htl6 : top ≤ 65536 := by omega
            clear hso hap ht1 hgl
            set_option maxRecDepth 20000 in
            go_wp2_with (at_builtin; refine wpList_push (st := (st.take top)) hso2 htl6 hB1 rfl (.tmp 106) (.tmp 108) rfl rfl rfl ?_; intro sv' w2 P1 P2 P3)
            go_roundw
            case rel =>
              have hrn := hrd.push (sv0 := .slice (some ⟨gs, 0, none⟩) top cap) HT1.out hk1 rfl top (by rw [← HLEN.out]; omega) hso2 P1.out P2.out P3.out HF.out HGL.out (by omega)
              exact ⟨k + 1, pos, _, _, v1, _, by omega, by go_num, rfl, hrn⟩
            case measure => simp [intOf]; omega
      · by_cases hst : st = []
        · subst hst
          obtain ⟨p7, c7, rfl⟩ := hrd.nilLen
          set_option maxRecDepth 20000 in
          go_wp2
          go_roundw
          case rel => exact ⟨k + 1, pos, _, _, v, _, by omega, by go_num, rfl, hrd.skip⟩
          case measure => simp [intOf]; omega
        · obtain ⟨gs, cap, rfl, z1, z2, z3, z4, z5, z6⟩ := hrd.stack hst
          have z0 : 0 < st.length := List.length_pos_iff.mpr hst
          obtain ⟨m, hm, hm4⟩ : ∃ m : Nat, (a % 4294967296 % 5 : Int) = m ∧ m ≤ 4 := ⟨(a % 4294967296 % 5).toNat, by omega, by omega⟩
          have HZ6 : Hid (∀ i, i < 9 → (v i).ownBlock ≠ some gs) := z6
          have hso0 := hrd.so
          have HC0 : Hid (∀ j, j < st.length → wr.cell? ⟨gs, j, none⟩ = some (.int .i32 ((st.getD j 0 : Nat) : Int))) := fun j hj => (hso0.cellAt j (by omega)).trans (si_get st j hj)
          have hne0 : ¬ (st.length : Int) = 0 := by omega
          obtain ⟨len, hlen⟩ : ∃ len, st.length = len + 1 := ⟨st.length - 1, by omega⟩
          have HLEN : Hid (st.length = len + 1) := hlen
          have HRD : Hid _ := hrd
          have hrd2 := hrd
          rw [hlen] at z0 z1 hne0 hsl0 hso0 HC0 hrd2 ⊢
          have hi1 : (len : Int) + 1 - 1 = len := by omega
          clear z6 hlen
          by_cases hb : (0 : Int) ≤ b
          · obtain ⟨j, hj, hj3⟩ : ∃ j : Nat, (b % 4 : Int) = j ∧ j ≤ 3 := ⟨(b % 4).toNat, by omega, by omega⟩
            go_wp2_with fail
            refine (add34 (w.heap.size + 1) (w.heap.size + 2) v ns 4 0 0 0 0 m (m + j) (by omega) wr hrd2.hB hrd2.tr).mono ?_
            rintro e w1 ⟨rfl, v1, ht1, hk1⟩
            obtain ⟨g2, cap2, hv2, hg2, hg2B⟩ := ht1.shape 2 (by omega) (by simp)
            rw [show (ns ++ [(⟨4, 0, -1, -1, 0, 0, 0, m, (m + j)⟩ : Nd)]).length = ns.length + 1 by simp] at hv2
            have e0 : w1.cell? ⟨w.heap.size + 1, 2, none⟩ = some (.slice (some ⟨g2, 0, none⟩) (ns.length + 1) cap2) := by rw [← hv2]; exact ht1.cell 2 (by omega)
            obtain ⟨hso, hap⟩ := hk1.stack hso0 hrd2.ap hrd2.tr.tB
            have HV2 : Hid (v1 2 = .slice (some ⟨g2, 0, none⟩) (ns.length + 1) cap2) := hv2
            have o2 := ht1.own 2 (by omega)
            rw [hv2, show (ns ++ [(⟨4, 0, -1, -1, 0, 0, 0, m, (m + j)⟩ : Nd)]).length = ns.length + 1 by simp] at o2
            have f2 := o2.frozenAt ns.length
            have e2 := o2.cellAt ns.length (by omega)
            have e9 : ns.length < ((ns ++ [(⟨4, 0, -1, -1, 0, 0, 0, m, (m + j)⟩ : Nd)]).map (fld 2)).length := by simp
            rw [List.getElem?_eq_getElem e9] at e2
            generalize ((ns ++ [(⟨4, 0, -1, -1, 0, 0, 0, m, (m + j)⟩ : Nd)]).map (fld 2))[ns.length] = u2 at e2
            have e3 : w1.cell? ⟨gs, len, none⟩ = some (.int .i32 ((st.getD len 0 : Nat) : Int)) := (hso.cellAt len (by omega)).trans (si_get st len (by rw [HLEN.out]; omega))
            have f3 := hso.frozenAt len
            obtain ⟨cl, hcl⟩ : ∃ cl, st.getD len 0 = cl := ⟨_, rfl⟩
            rw [hcl] at e3
            have HCL : Hid (st.getD len 0 = cl) := hcl
            have hgne : ¬ g2 = gs := by
              intro e
              have h9 := hap 2 (by omega) (by rw [hv2, e]; rfl)
              cases h9
            have hgne' : ¬ gs = g2 := fun e => hgne e.symm
            have i1 : (ns.length : Int) < (ns.length : Int) + 1 := by omega
            have i2 : (len : Int) < (len : Int) + 1 := by omega
            have HT1 : Hid _ := ht1
            clear o2 e9 hcl hv2 hso hap ht1 hrd2 hso0
            set_option maxRecDepth 20000 in
            go_wp2
            set_option maxRecDepth 20000 in
            go_region
            set_option maxRecDepth 20000 in
            go_wp2
            go_roundw
            case rel =>
              have hrn := HRD.out.rep hst ⟨4, 0, -1, -1, 0, 0, 0, m, (m + j)⟩ rfl HT1.out hk1 gs cap (by rw [HLEN.out]) g2 cap2 HV2.out (.inr (.inr (.inr ⟨rfl, ⟨_, one_drop hst⟩, by dsimp only; omega, by dsimp only; omega, .inr ⟨by dsimp only; omega, by dsimp only; omega⟩⟩)))
              rw [show st.length - 1 = len by rw [HLEN.out]; omega, HCL.out, HLEN.out] at hrn
              exact ⟨k + 1, pos, _, _, v1, _, by omega, by go_num, rfl, hrn.drew⟩
            case measure => simp [intOf]; omega
          · go_wp2_with fail
            refine (add34 (w.heap.size + 1) (w.heap.size + 2) v ns 4 0 0 0 0 m (-1) (by omega) wr hrd2.hB hrd2.tr).mono ?_
            rintro e w1 ⟨rfl, v1, ht1, hk1⟩
            obtain ⟨g2, cap2, hv2, hg2, hg2B⟩ := ht1.shape 2 (by omega) (by simp)
            rw [show (ns ++ [(⟨4, 0, -1, -1, 0, 0, 0, m, (-1)⟩ : Nd)]).length = ns.length + 1 by simp] at hv2
            have e0 : w1.cell? ⟨w.heap.size + 1, 2, none⟩ = some (.slice (some ⟨g2, 0, none⟩) (ns.length + 1) cap2) := by rw [← hv2]; exact ht1.cell 2 (by omega)
            obtain ⟨hso, hap⟩ := hk1.stack hso0 hrd2.ap hrd2.tr.tB
            have HV2 : Hid (v1 2 = .slice (some ⟨g2, 0, none⟩) (ns.length + 1) cap2) := hv2
            have o2 := ht1.own 2 (by omega)
            rw [hv2, show (ns ++ [(⟨4, 0, -1, -1, 0, 0, 0, m, (-1)⟩ : Nd)]).length = ns.length + 1 by simp] at o2
            have f2 := o2.frozenAt ns.length
            have e2 := o2.cellAt ns.length (by omega)
            have e9 : ns.length < ((ns ++ [(⟨4, 0, -1, -1, 0, 0, 0, m, (-1)⟩ : Nd)]).map (fld 2)).length := by simp
            rw [List.getElem?_eq_getElem e9] at e2
            generalize ((ns ++ [(⟨4, 0, -1, -1, 0, 0, 0, m, (-1)⟩ : Nd)]).map (fld 2))[ns.length] = u2 at e2
            have e3 : w1.cell? ⟨gs, len, none⟩ = some (.int .i32 ((st.getD len 0 : Nat) : Int)) := (hso.cellAt len (by omega)).trans (si_get st len (by rw [HLEN.out]; omega))
            have f3 := hso.frozenAt len
            obtain ⟨cl, hcl⟩ : ∃ cl, st.getD len 0 = cl := ⟨_, rfl⟩
            rw [hcl] at e3
            have HCL : Hid (st.getD len 0 = cl) := hcl
            have hgne : ¬ g2 = gs := by
              intro e
              have h9 := hap 2 (by omega) (by rw [hv2, e]; rfl)
              cases h9
            have hgne' : ¬ gs = g2 := fun e => hgne e.symm
            have i1 : (ns.length : Int) < (ns.length : Int) + 1 := by omega
            have i2 : (len : Int) < (len : Int) + 1 := by omega
            have HT1 : Hid _ := ht1
            clear o2 e9 hcl hv2 hso hap ht1 hrd2 hso0
            set_option maxRecDepth 20000 in
            go_wp2
            set_option maxRecDepth 20000 in
            go_region
            set_option maxRecDepth 20000 in
            go_wp2
            go_roundw
            case rel =>
              have hrn := HRD.out.rep hst ⟨4, 0, -1, -1, 0, 0, 0, m, (-1)⟩ rfl HT1.out hk1 gs cap (by rw [HLEN.out]) g2 cap2 HV2.out (.inr (.inr (.inr ⟨rfl, ⟨_, one_drop hst⟩, by dsimp only; omega, by dsimp only; omega, .inl rfl⟩)))
              rw [show st.length - 1 = len by rw [HLEN.out]; omega, HCL.out, HLEN.out] at hrn
              exact ⟨k + 1, pos, _, _, v1, _, by omega, by go_num, rfl, hrn.drew⟩
            case measure => simp [intOf]; omega

    · have hkn : k = n := by omega
      subst hkn
      have hob : wr.heap[w.heap.size]? = some zO := (hrd.bel.block w.heap.size (by omega)).trans hob0
      have hbw : Below w.heap.size w wr := hb0.trans (hrd.bel.mono (by omega))
      by_cases hst : st = []
      · subst hst
        obtain ⟨p7, c7, rfl⟩ := hrd.nilLen
        have htr := hrd.tr
        have HSL : Hid (∀ i, i < 9 → ∃ p l c, v i = .slice p l c) := fun i hi => (own_slice (htr.own i hi)).elim fun p h => h.elim fun c e => ⟨p, _, c, e⟩
        obtain ⟨p0, q0, E0⟩ := own_slice (htr.own 0 (by omega))
        have t0 := htr.cell 0 (by omega)
        rw [E0] at t0
        have H0 : Hid (v 0 = .slice p0 _ q0) := E0
        clear E0
        obtain ⟨p1, q1, E1⟩ := own_slice (htr.own 1 (by omega))
        have t1 := htr.cell 1 (by omega)
        rw [E1] at t1
        have H1 : Hid (v 1 = .slice p1 _ q1) := E1
        clear E1
        obtain ⟨p2, q2, E2⟩ := own_slice (htr.own 2 (by omega))
        have t2 := htr.cell 2 (by omega)
        rw [E2] at t2
        have H2 : Hid (v 2 = .slice p2 _ q2) := E2
        clear E2
        obtain ⟨p3, q3, E3⟩ := own_slice (htr.own 3 (by omega))
        have t3 := htr.cell 3 (by omega)
        rw [E3] at t3
        have H3 : Hid (v 3 = .slice p3 _ q3) := E3
        clear E3
        obtain ⟨p4, q4, E4⟩ := own_slice (htr.own 4 (by omega))
        have t4 := htr.cell 4 (by omega)
        rw [E4] at t4
        have H4 : Hid (v 4 = .slice p4 _ q4) := E4
        clear E4
        obtain ⟨p5, q5, E5⟩ := own_slice (htr.own 5 (by omega))
        have t5 := htr.cell 5 (by omega)
        rw [E5] at t5
        have H5 : Hid (v 5 = .slice p5 _ q5) := E5
        clear E5
        obtain ⟨p6, q6, E6⟩ := own_slice (htr.own 6 (by omega))
        have t6 := htr.cell 6 (by omega)
        rw [E6] at t6
        have H6 : Hid (v 6 = .slice p6 _ q6) := E6
        clear E6
        obtain ⟨p7, q7, E7⟩ := own_slice (htr.own 7 (by omega))
        have t7 := htr.cell 7 (by omega)
        rw [E7] at t7
        have H7 : Hid (v 7 = .slice p7 _ q7) := E7
        clear E7
        obtain ⟨p8, q8, E8⟩ := own_slice (htr.own 8 (by omega))
        have t8 := htr.cell 8 (by omega)
        rw [E8] at t8
        have H8 : Hid (v 8 = .slice p8 _ q8) := E8
        clear E8
        have d0 := cellz hob 0 (by omega)
        have f0 := freez hob 0
        have d1 := cellz hob 1 (by omega)
        have f1 := freez hob 1
        have d2 := cellz hob 2 (by omega)
        have f2 := freez hob 2
        have d3 := cellz hob 3 (by omega)
        have f3 := freez hob 3
        have d4 := cellz hob 4 (by omega)
        have f4 := freez hob 4
        have d5 := cellz hob 5 (by omega)
        have f5 := freez hob 5
        have d6 := cellz hob 6 (by omega)
        have f6 := freez hob 6
        have d7 := cellz hob 7 (by omega)
        have f7 := freez hob 7
        have d8 := cellz hob 8 (by omega)
        have f8 := freez hob 8
        clear htr
        set_option maxRecDepth 20000 in
        go_wp2
        have eW := put9_spell (w := wr) (b := w.heap.size) H0.out H1.out H2.out H3.out H4.out H5.out H6.out H7.out H8.out
        rw [← eW]
        have g0 := put9_cell v hob 0 (by omega)
        have g1 := put9_cell v hob 1 (by omega)
        have g2 := put9_cell v hob 2 (by omega)
        have g3 := put9_cell v hob 3 (by omega)
        have g4 := put9_cell v hob 4 (by omega)
        have g5 := put9_cell v hob 5 (by omega)
        have g6 := put9_cell v hob 6 (by omega)
        have g7 := put9_cell v hob 7 (by omega)
        have g8 := put9_cell v hob 8 (by omega)
        have hbn : Below w.heap.size w (put9 wr w.heap.size v) := put9_below v hbw (Nat.le_refl _)
        clear eW
        generalize put9 wr w.heap.size v = W at g0 g1 g2 g3 g4 g5 g6 g7 g8 hbn ⊢
        refine bodyPost_ret (v := .tuple #[.agg #[v 0, v 1, v 2, v 3, v 4, v 5, v 6, v 7, v 8], .bool false]) (by simp [results, Try.results12, go_sem, g0, g1, g2, g3, g4, g5, g6, g7, g8]) rfl ⟨false, v, rfl, HSL.out, hbn, fun h => by cases h⟩
      · obtain ⟨gs, cap, rfl, z1, z2, z3, z4, z5, z6⟩ := hrd.stack hst
        have z0 : 0 < st.length := List.length_pos_iff.mpr hst
        have hnl := hrd.nl
        have hsl0 := hrd.sl
        have HZ6 : Hid (∀ i, i < 9 → (v i).ownBlock ≠ some gs) := z6
        have hso0 := hrd.so
        have HC0 : Hid (∀ j, j < st.length → wr.cell? ⟨gs, j, none⟩ = some (.int .i32 ((st.getD j 0 : Nat) : Int))) := fun j hj => (hso0.cellAt j (by omega)).trans (si_get st j hj)
        have hne0 : ¬ (st.length : Int) = 0 := by omega
        obtain ⟨len, hlen⟩ : ∃ len, len = st.length := ⟨_, rfl⟩
        rw [← hlen] at z0 z1 hne0 hsl0 hso0 HC0 hrd ⊢
        have HLEN : Hid (len = st.length) := hlen
        clear z6 hlen
        by_cases h1 : len = 1
        · have htr := hrd.tr
          have HSL : Hid (∀ i, i < 9 → ∃ p l c, v i = .slice p l c) := fun i hi => (own_slice (htr.own i hi)).elim fun p h => h.elim fun c e => ⟨p, _, c, e⟩
          obtain ⟨p0, q0, E0⟩ := own_slice (htr.own 0 (by omega))
          have t0 := htr.cell 0 (by omega)
          rw [E0] at t0
          have H0 : Hid (v 0 = .slice p0 _ q0) := E0
          clear E0
          obtain ⟨p1, q1, E1⟩ := own_slice (htr.own 1 (by omega))
          have t1 := htr.cell 1 (by omega)
          rw [E1] at t1
          have H1 : Hid (v 1 = .slice p1 _ q1) := E1
          clear E1
          obtain ⟨p2, q2, E2⟩ := own_slice (htr.own 2 (by omega))
          have t2 := htr.cell 2 (by omega)
          rw [E2] at t2
          have H2 : Hid (v 2 = .slice p2 _ q2) := E2
          clear E2
          obtain ⟨p3, q3, E3⟩ := own_slice (htr.own 3 (by omega))
          have t3 := htr.cell 3 (by omega)
          rw [E3] at t3
          have H3 : Hid (v 3 = .slice p3 _ q3) := E3
          clear E3
          obtain ⟨p4, q4, E4⟩ := own_slice (htr.own 4 (by omega))
          have t4 := htr.cell 4 (by omega)
          rw [E4] at t4
          have H4 : Hid (v 4 = .slice p4 _ q4) := E4
          clear E4
          obtain ⟨p5, q5, E5⟩ := own_slice (htr.own 5 (by omega))
          have t5 := htr.cell 5 (by omega)
          rw [E5] at t5
          have H5 : Hid (v 5 = .slice p5 _ q5) := E5
          clear E5
          obtain ⟨p6, q6, E6⟩ := own_slice (htr.own 6 (by omega))
          have t6 := htr.cell 6 (by omega)
          rw [E6] at t6
          have H6 : Hid (v 6 = .slice p6 _ q6) := E6
          clear E6
          obtain ⟨p7, q7, E7⟩ := own_slice (htr.own 7 (by omega))
          have t7 := htr.cell 7 (by omega)
          rw [E7] at t7
          have H7 : Hid (v 7 = .slice p7 _ q7) := E7
          clear E7
          obtain ⟨p8, q8, E8⟩ := own_slice (htr.own 8 (by omega))
          have t8 := htr.cell 8 (by omega)
          rw [E8] at t8
          have H8 : Hid (v 8 = .slice p8 _ q8) := E8
          clear E8
          have d0 := cellz hob 0 (by omega)
          have f0 := freez hob 0
          have d1 := cellz hob 1 (by omega)
          have f1 := freez hob 1
          have d2 := cellz hob 2 (by omega)
          have f2 := freez hob 2
          have d3 := cellz hob 3 (by omega)
          have f3 := freez hob 3
          have d4 := cellz hob 4 (by omega)
          have f4 := freez hob 4
          have d5 := cellz hob 5 (by omega)
          have f5 := freez hob 5
          have d6 := cellz hob 6 (by omega)
          have f6 := freez hob 6
          have d7 := cellz hob 7 (by omega)
          have f7 := freez hob 7
          have d8 := cellz hob 8 (by omega)
          have f8 := freez hob 8
          clear htr
          subst h1
          set_option maxRecDepth 20000 in
          go_wp2
          have eW := put9_spell (w := wr) (b := w.heap.size) H0.out H1.out H2.out H3.out H4.out H5.out H6.out H7.out H8.out
          rw [← eW]
          have g0 := put9_cell v hob 0 (by omega)
          have g1 := put9_cell v hob 1 (by omega)
          have g2 := put9_cell v hob 2 (by omega)
          have g3 := put9_cell v hob 3 (by omega)
          have g4 := put9_cell v hob 4 (by omega)
          have g5 := put9_cell v hob 5 (by omega)
          have g6 := put9_cell v hob 6 (by omega)
          have g7 := put9_cell v hob 7 (by omega)
          have g8 := put9_cell v hob 8 (by omega)
          have hbn : Below w.heap.size w (put9 wr w.heap.size v) := put9_below v hbw (Nat.le_refl _)
          clear eW
          have hbt : Built (put9 wr w.heap.size v) (w.heap.size + 2) k v ns kids pos := Built.one hrd HLEN.out.symm (by omega)
          generalize put9 wr w.heap.size v = W at g0 g1 g2 g3 g4 g5 g6 g7 g8 hbn hbt ⊢
          refine bodyPost_ret (v := .tuple #[.agg #[v 0, v 1, v 2, v 3, v 4, v 5, v 6, v 7, v 8], .bool true]) (by simp [results, Try.results12, go_sem, g0, g1, g2, g3, g4, g5, g6, g7, g8]) rfl ⟨true, v, rfl, HSL.out, hbn, fun _ => ⟨_, _, _, hbt⟩⟩
        · have hl1 : (1 : Int) < (len : Int) := by omega
          have hfo := hrd.fo.link ⟨2, 0, -1, -1, 0, 0, 0, 0, 0⟩ rfl 0 (by rw [← HLEN.out]; omega) (.inl (.inr (.inr (.inl ⟨.inl rfl, by simpa using hst⟩))))
          have HF : Hid _ := hfo
          clear hfo
          go_wp2_with fail
          refine (group35 (w.heap.size + 1) (w.heap.size + 2) v ns 2 st gs 0 len cap HLEN.out.symm (by omega) (fun c hc => (hrd.fo.stl c hc).1) (by omega) wr hrd.hB hrd.tr z4 z5 HZ6.out (fun j hj => by rw [Nat.zero_add]; exact HC0.out j hj)).mono ?_
          rintro e w1 ⟨rfl, v1, ht1, hk1⟩
          have hob1 : w1.heap[w.heap.size]? = some zO := ((hk1.below hrd.tr (Nat.le_refl _)).block w.heap.size (by omega)).trans hob
          have HSL : Hid (∀ i, i < 9 → ∃ p l c, v1 i = .slice p l c) := fun i hi => (own_slice (ht1.own i hi)).elim fun p h => h.elim fun c e => ⟨p, _, c, e⟩
          have hbw1 : Below w.heap.size w w1 := hbw.trans (hk1.below hrd.tr (by omega))
          have hgl : (grouped ns 2 st).length = ns.length + 1 := by unfold grouped; rw [link_len]; simp
          have hfo : Forest (grouped ns 2 st) [(grouped ns 2 st).length - 1] (updK kids ns.length st) pos := by rw [hgl]; exact HF.out
          obtain ⟨p0, q0, E0⟩ := own_slice (ht1.own 0 (by omega))
          have t0 := ht1.cell 0 (by omega)
          rw [E0] at t0
          have H0 : Hid (v1 0 = .slice p0 _ q0) := E0
          clear E0
          obtain ⟨p1, q1, E1⟩ := own_slice (ht1.own 1 (by omega))
          have t1 := ht1.cell 1 (by omega)
          rw [E1] at t1
          have H1 : Hid (v1 1 = .slice p1 _ q1) := E1
          clear E1
          obtain ⟨p2, q2, E2⟩ := own_slice (ht1.own 2 (by omega))
          have t2 := ht1.cell 2 (by omega)
          rw [E2] at t2
          have H2 : Hid (v1 2 = .slice p2 _ q2) := E2
          clear E2
          obtain ⟨p3, q3, E3⟩ := own_slice (ht1.own 3 (by omega))
          have t3 := ht1.cell 3 (by omega)
          rw [E3] at t3
          have H3 : Hid (v1 3 = .slice p3 _ q3) := E3
          clear E3
          obtain ⟨p4, q4, E4⟩ := own_slice (ht1.own 4 (by omega))
          have t4 := ht1.cell 4 (by omega)
          rw [E4] at t4
          have H4 : Hid (v1 4 = .slice p4 _ q4) := E4
          clear E4
          obtain ⟨p5, q5, E5⟩ := own_slice (ht1.own 5 (by omega))
          have t5 := ht1.cell 5 (by omega)
          rw [E5] at t5
          have H5 : Hid (v1 5 = .slice p5 _ q5) := E5
          clear E5
          obtain ⟨p6, q6, E6⟩ := own_slice (ht1.own 6 (by omega))
          have t6 := ht1.cell 6 (by omega)
          rw [E6] at t6
          have H6 : Hid (v1 6 = .slice p6 _ q6) := E6
          clear E6
          obtain ⟨p7, q7, E7⟩ := own_slice (ht1.own 7 (by omega))
          have t7 := ht1.cell 7 (by omega)
          rw [E7] at t7
          have H7 : Hid (v1 7 = .slice p7 _ q7) := E7
          clear E7
          obtain ⟨p8, q8, E8⟩ := own_slice (ht1.own 8 (by omega))
          have t8 := ht1.cell 8 (by omega)
          rw [E8] at t8
          have H8 : Hid (v1 8 = .slice p8 _ q8) := E8
          clear E8
          have d0 := cellz hob1 0 (by omega)
          have f0 := freez hob1 0
          have d1 := cellz hob1 1 (by omega)
          have f1 := freez hob1 1
          have d2 := cellz hob1 2 (by omega)
          have f2 := freez hob1 2
          have d3 := cellz hob1 3 (by omega)
          have f3 := freez hob1 3
          have d4 := cellz hob1 4 (by omega)
          have f4 := freez hob1 4
          have d5 := cellz hob1 5 (by omega)
          have f5 := freez hob1 5
          have d6 := cellz hob1 6 (by omega)
          have f6 := freez hob1 6
          have d7 := cellz hob1 7 (by omega)
          have f7 := freez hob1 7
          have d8 := cellz hob1 8 (by omega)
          have f8 := freez hob1 8
          have hpl := hrd.pl
          have HOWN : Hid (∀ i, i < 9 → w1.ownsRow (w.heap.size + 2) (et i) 1 (v1 i) (grouped ns 2 st).length ((grouped ns 2 st).map (fld i))) := ht1.own
          have HGL : Hid ((grouped ns 2 st).length = ns.length + 1) := hgl
          generalize grouped ns 2 st = ns2 at *
          clear ht1 hgl
          set_option maxRecDepth 20000 in
          go_wp2
          have eW := put9_spell (w := w1) (b := w.heap.size) H0.out H1.out H2.out H3.out H4.out H5.out H6.out H7.out H8.out
          rw [← eW]
          have g0 := put9_cell v1 hob1 0 (by omega)
          have g1 := put9_cell v1 hob1 1 (by omega)
          have g2 := put9_cell v1 hob1 2 (by omega)
          have g3 := put9_cell v1 hob1 3 (by omega)
          have g4 := put9_cell v1 hob1 4 (by omega)
          have g5 := put9_cell v1 hob1 5 (by omega)
          have g6 := put9_cell v1 hob1 6 (by omega)
          have g7 := put9_cell v1 hob1 7 (by omega)
          have g8 := put9_cell v1 hob1 8 (by omega)
          have hbn : Below w.heap.size w (put9 w1 w.heap.size v1) := put9_below v1 hbw1 (Nat.le_refl _)
          clear eW
          have hbt : Built (put9 w1 w.heap.size v1) (w.heap.size + 2) k v1 ns2 (updK kids ns.length st) pos := ⟨hfo, by rw [HGL.out]; omega, by rw [HGL.out]; omega, hpl, fun i hi => put9_own (HOWN.out i hi) (by omega)⟩
          generalize put9 w1 w.heap.size v1 = W at g0 g1 g2 g3 g4 g5 g6 g7 g8 hbn hbt ⊢
          refine bodyPost_ret (v := .tuple #[.agg #[v1 0, v1 1, v1 2, v1 3, v1 4, v1 5, v1 6, v1 7, v1 8], .bool true]) (by simp [results, Try.results12, go_sem, g0, g1, g2, g3, g4, g5, g6, g7, g8]) rfl ⟨true, v1, rfl, HSL.out, hbn, fun _ => ⟨_, _, _, hbt⟩⟩
end Go.Proofs.Qxb6000433a
