/-
  'tree.add'.
-/
import Derived.Test.Qxb6000433aTreeInv
namespace Go.Proofs.Qxb6000433a
open Go.RowKit

theorem Try.info5 : (Try.prog.info? 5).map (fun i => (i.zero, i.size, i.bytes)) = some (some (.int .u8 0), 1, 1) := by kernel_rfl
theorem Try.info21 : (Try.prog.info? 21).map (fun i => (i.zero, i.size, i.bytes)) = some (some (.int .i32 0), 1, 4) := by kernel_rfl

/-- The tree holds the nodes ns. -/
def Tree (w : World) (tb B : Nat) (v : Nat → Value) (ns : List Nd) : Prop := Nine w tb B v (fun _ => ns.length) (fun i => ns.map (fld i))

/-- Behind k of the nine appends. -/
def lnA (ns : List Nd) (k : Nat) : Nat → Nat := fun i => if i < k then ns.length + 1 else ns.length
def xsA (ns : List Nd) (nd : Nd) (k : Nat) : Nat → List Value := fun i => if i < k then (ns ++ [nd]).map (fld i) else ns.map (fld i)
theorem lnA_step (ns : List Nd) (k : Nat) : updN (lnA ns k) k (ns.length + 1) = lnA ns (k + 1) := by
  funext i
  unfold updN lnA
  by_cases h : i = k
  · subst h; simp
  · rw [if_neg h]
    by_cases h2 : i < k
    · rw [if_pos h2, if_pos (by omega)]
    · rw [if_neg h2, if_neg (by omega)]
theorem xsA_step (ns : List Nd) (nd : Nd) (k : Nat) : updL (xsA ns nd k) k (ns.map (fld k) ++ [fld k nd]) = xsA ns nd (k + 1) := by
  funext i
  unfold updL xsA
  by_cases h : i = k
  · subst h; simp
  · rw [if_neg h]
    by_cases h2 : i < k
    · rw [if_pos h2, if_pos (by omega)]
    · rw [if_neg h2, if_neg (by omega)]
def PN (w : World) (tb B : Nat) (v : Nat → Value) (ns : List Nd) (nd : Nd) (k : Nat) : Prop := Nine w tb B v (lnA ns k) (xsA ns nd k)
theorem pn_zero {w : World} {tb B : Nat} {v : Nat → Value} {ns : List Nd} (nd : Nd) (h : Tree w tb B v ns) : PN w tb B v ns nd 0 := by
  have e1 : lnA ns 0 = fun _ => ns.length := by funext i; simp [lnA]
  have e2 : xsA ns nd 0 = fun i => ns.map (fld i) := by funext i; simp [xsA]
  unfold PN; rw [e1, e2]; exact h
theorem pn_nine {w : World} {tb B : Nat} {v : Nat → Value} {ns : List Nd} {nd : Nd} (h : PN w tb B v ns nd 9) : Tree w tb B v (ns ++ [nd]) := by
  refine ⟨h.blk, h.tB, fun i hi => ?_, h.dis⟩
  have := h.own i hi
  simp only [lnA, xsA, if_pos hi] at this
  simpa using this
theorem pn_own {w : World} {tb B : Nat} {v : Nat → Value} {ns : List Nd} {nd : Nd} {k : Nat} (h : PN w tb B v ns nd k) (hk : k < 9) (o : Obj) : (w.alloc o).ownsRow B (et k) 1 (v k) ns.length (ns.map (fld k)) := by
  have := (h.own k hk).alloc o
  simp only [lnA, xsA, if_neg (Nat.lt_irrefl k)] at this
  exact this
theorem pn_step {w w1 : World} {tb B : Nat} {v : Nat → Value} {ns : List Nd} {nd : Nd} {k : Nat} (h : PN w tb B v ns nd k) (hk : k < 9) {o : Obj} {v' : Value}
    (hown : w1.ownsRow B (et k) 1 v' (ns.length + 1) (ns.map (fld k) ++ [fld k nd])) (hg : (w.alloc o).grownBy w1 (v k).ownBlock) (hat : v'.ownBlock = (v k).ownBlock ∨ v'.ownBlock = some (w.alloc o).heap.size) :
    PN (w1.setCell ⟨tb, k, none⟩ v') tb B (upd v k v') ns nd (k + 1) ∧ Kept w (w1.setCell ⟨tb, k, none⟩ v') tb v (upd v k v') ∧ (∀ j, j < 9 → w1.cell? ⟨tb, j, none⟩ = some (v j)) ∧ (∀ j, w1.frozen? ⟨tb, j, none⟩ = false) := by
  obtain ⟨h1, h2, h3⟩ := Nine.appended h k hk o v' (ns.length + 1) _ hown hg hat
  rw [lnA_step, xsA_step] at h1
  refine ⟨h1, h2, fun j hj => ?_, fun j => by simp [World.frozen?, h3]⟩
  unfold World.cell?
  dsimp only
  rw [h3]
  dsimp only
  rw [get9 v j hj]; rfl
theorem fld_one (k : Nat) (nd : Nd) : (fld k nd).oneCell' = true := by
  match k with
  | 0 | 1 | 2 | 3 | 4 | 5 | 6 | 7 => rfl
  | _ + 8 => rfl

/-- One of the nine appends, for the walk. -/
theorem wpList_tree_append {w : World} {tb B : Nat} {v : Nat → Value} {ns : List Nd} {nd : Nd} {ops : Array Oper} {rest : List Oper} {o : Oper} {a : Act} {Q : Exit → Act → World → Prop} (k : Nat) (h : PN w tb B v ns nd k) (hk : k < 9) (hn : ns.length ≤ 65536) (hB : B ≤ w.heap.size)
    (hgd : o.guard = none) (s x : Operand) (t : TypeId) (ho : o.op = .call { callee := .builtin .append, args := #[s, x], argTypes := #[t, t] }) (i : TypeInfo) (z : Value) (bytes : Nat)
    (ht : Try.prog.underlying t = some (.slice (et k))) (hi : Try.prog.info? (et k) = some i) (hz : i.zero = some z) (hsize : i.size = 1) (hby : i.bytes = bytes) (hzs : z.cells.size = 1) (hbb : bytes ≤ 8)
    (u : Value) (hu : v k = u) (hs : a.eval s = u) (sz : Nat) (hsz : sz = w.heap.size) (hx : a.eval x = .slice (some ⟨sz, 0, none⟩) 1 1)
    (hK : ∀ g cap w1, PN (w1.setCell ⟨tb, k, none⟩ (.slice (some ⟨g, 0, none⟩) (ns.length + 1) cap)) tb B (upd v k (.slice (some ⟨g, 0, none⟩) (ns.length + 1) cap)) ns nd (k + 1) → Kept w (w1.setCell ⟨tb, k, none⟩ (.slice (some ⟨g, 0, none⟩) (ns.length + 1) cap)) tb v (upd v k (.slice (some ⟨g, 0, none⟩) (ns.length + 1) cap)) →
      w1.cell? ⟨tb, k, none⟩ = some u → w1.frozen? ⟨tb, k, none⟩ = false → Hid (B ≤ (w1.setCell ⟨tb, k, none⟩ (.slice (some ⟨g, 0, none⟩) (ns.length + 1) cap)).heap.size) → Hid (w1.heap.size = (w1.setCell ⟨tb, k, none⟩ (.slice (some ⟨g, 0, none⟩) (ns.length + 1) cap)).heap.size) → Hid (∀ j, j < 9 → w1.cell? ⟨tb, j, none⟩ = some (v j)) → wpList Try.prog ops Q rest (a.put o.dst (.slice (some ⟨g, 0, none⟩) (ns.length + 1) cap)) w1) :
    wpList Try.prog ops Q (o :: rest) a (w.alloc (.cells #[fld k nd] (et k))) := by
  subst hu
  subst hsz
  refine wpList_append_own_at _ hgd s x t ho B (et k) i z 1 bytes ht hi hz hsize hby hzs (by decide) (v k) ns.length (ns.map (fld k)) hs (pn_own h hk _) ⟨w.heap.size, 0, none⟩ 1 1 [fld k nd] hx rfl (fun j u hu => cell_one_new w (fld k nd) (et k) j u hu) (fun u hu => ?_) (by unfold maxLen; omega) ?_ (by simp; omega) ?_
  · simp at hu; subst hu; exact fld_one k nd
  · have : (ns.length + 1) * bytes ≤ (ns.length + 1) * 8 := Nat.mul_le_mul_left _ hbb
    omega
  · intro v' w1 g1 g2 g3 g4
    have hsh : ∃ g cap, v' = .slice (some ⟨g, 0, none⟩) (ns.length + 1) cap := by
      rcases g1.2 with ⟨_, h0⟩ | ⟨g, cap, cur, hv, _⟩
      · omega
      · exact ⟨g, cap, hv⟩
    obtain ⟨g, cap, rfl⟩ := hsh
    obtain ⟨p1, p2, p3, p4⟩ := pn_step h hk g1 g2 g4
    have e1 : w1.heap.size = (w1.setCell ⟨tb, k, none⟩ (.slice (some ⟨g, 0, none⟩) (ns.length + 1) cap)).heap.size := by simp [World.setCell]
    exact hK g cap w1 p1 p2 (p3 k hk) (p4 k) (by rw [← e1]; exact Nat.le_trans hB (Nat.le_trans (by simp) g2.size)) e1 p3

set_option maxHeartbeats 4000000 in
theorem add34 (tb B : Nat) (v : Nat → Value) (ns : List Nd) (kd em lo hi ex mn mx : Int) (hn : ns.length ≤ 65536) (w : World) (hB : B ≤ w.heap.size) (h : Tree w tb B v ns) :
    Calls Try.prog 34 #[.pointer (some ⟨tb, 0, none⟩), .int .u8 kd, .int .u8 em, .int .i32 lo, .int .i32 hi, .int .i32 ex, .int .i32 mn, .int .i32 mx] w fun e w' => e = .returned (.int .i32 ns.length) ∧ ∃ v', Tree w' tb B v' (ns ++ [⟨kd, em, -1, -1, lo, hi, ex, mn, mx⟩]) ∧ Kept w w' tb v v' := by
  have P0 := pn_zero ⟨kd, em, -1, -1, lo, hi, ex, mn, mx⟩ h
  have k0 := h.cell 0 (by omega)
  clear h
  obtain ⟨i5, hi5, hz50, hz51, hz52⟩ := info_parts Try.info5
  obtain ⟨i21, hi21, hz210, hz211, hz212⟩ := info_parts Try.info21
  go_enter Try.func34, Try.ntmps34
  go_wp2_with (first | (at_builtin; refine wpList_tree_append 0 P0 (by omega) hn hB rfl (.tmp 21) (.tmp 23) 25 rfl i5 (.int .u8 0) 1 Try.underlying25 hi5 hz50 hz51 hz52 rfl (by decide) (v 0) rfl rfl w.heap.size rfl rfl ?_; intro g0 cap0 w1 P1 K1 c1 f1 B1 E1 J1; have d1 : w1.cell? ⟨tb, 1, none⟩ = some (v 1) := J1.out 1 (by omega)) | (at_builtin; refine wpList_tree_append 1 P1 (by omega) hn B1.out rfl (.tmp 31) (.tmp 33) 25 rfl i5 (.int .u8 0) 1 Try.underlying25 hi5 hz50 hz51 hz52 rfl (by decide) (v 1) rfl rfl w1.heap.size E1.out rfl ?_; intro g1 cap1 w2 P2 K2 c2 f2 B2 E2 J2; have d2 : w2.cell? ⟨tb, 2, none⟩ = some (v 2) := J2.out 2 (by omega)) | (at_builtin; refine wpList_tree_append 2 P2 (by omega) hn B2.out rfl (.tmp 41) (.tmp 42) 26 rfl i21 (.int .i32 0) 4 Try.underlying26 hi21 hz210 hz211 hz212 rfl (by decide) (v 2) rfl rfl w2.heap.size E2.out rfl ?_; intro g2 cap2 w3 P3 K3 c3 f3 B3 E3 J3; have d3 : w3.cell? ⟨tb, 3, none⟩ = some (v 3) := J3.out 3 (by omega)) | (at_builtin; refine wpList_tree_append 3 P3 (by omega) hn B3.out rfl (.tmp 50) (.tmp 51) 26 rfl i21 (.int .i32 0) 4 Try.underlying26 hi21 hz210 hz211 hz212 rfl (by decide) (v 3) rfl rfl w3.heap.size E3.out rfl ?_; intro g3 cap3 w4 P4 K4 c4 f4 B4 E4 J4; have d4 : w4.cell? ⟨tb, 4, none⟩ = some (v 4) := J4.out 4 (by omega)) | (at_builtin; refine wpList_tree_append 4 P4 (by omega) hn B4.out rfl (.tmp 59) (.tmp 61) 26 rfl i21 (.int .i32 0) 4 Try.underlying26 hi21 hz210 hz211 hz212 rfl (by decide) (v 4) rfl rfl w4.heap.size E4.out rfl ?_; intro g4 cap4 w5 P5 K5 c5 f5 B5 E5 J5; have d5 : w5.cell? ⟨tb, 5, none⟩ = some (v 5) := J5.out 5 (by omega)) | (at_builtin; refine wpList_tree_append 5 P5 (by omega) hn B5.out rfl (.tmp 69) (.tmp 71) 26 rfl i21 (.int .i32 0) 4 Try.underlying26 hi21 hz210 hz211 hz212 rfl (by decide) (v 5) rfl rfl w5.heap.size E5.out rfl ?_; intro g5 cap5 w6 P6 K6 c6 f6 B6 E6 J6; have d6 : w6.cell? ⟨tb, 6, none⟩ = some (v 6) := J6.out 6 (by omega)) | (at_builtin; refine wpList_tree_append 6 P6 (by omega) hn B6.out rfl (.tmp 79) (.tmp 81) 26 rfl i21 (.int .i32 0) 4 Try.underlying26 hi21 hz210 hz211 hz212 rfl (by decide) (v 6) rfl rfl w6.heap.size E6.out rfl ?_; intro g6 cap6 w7 P7 K7 c7 f7 B7 E7 J7; have d7 : w7.cell? ⟨tb, 7, none⟩ = some (v 7) := J7.out 7 (by omega)) | (at_builtin; refine wpList_tree_append 7 P7 (by omega) hn B7.out rfl (.tmp 89) (.tmp 91) 26 rfl i21 (.int .i32 0) 4 Try.underlying26 hi21 hz210 hz211 hz212 rfl (by decide) (v 7) rfl rfl w7.heap.size E7.out rfl ?_; intro g7 cap7 w8 P8 K8 c8 f8 B8 E8 J8; have d8 : w8.cell? ⟨tb, 8, none⟩ = some (v 8) := J8.out 8 (by omega)) | (at_builtin; refine wpList_tree_append 8 P8 (by omega) hn B8.out rfl (.tmp 99) (.tmp 101) 26 rfl i21 (.int .i32 0) 4 Try.underlying26 hi21 hz210 hz211 hz212 rfl (by decide) (v 8) rfl rfl w8.heap.size E8.out rfl ?_; intro g8 cap8 w9 P9 K9 c9 f9 B9 E9 J9; have d9 : w9.cell? ⟨tb, 0, none⟩ = some (.slice (some ⟨g0, 0, none⟩) (ns.length + 1) cap0) := J9.out 0 (by omega)))
  go_ret
  exact ⟨rfl, _, pn_nine P9, ((((((((K1.trans K2).trans K3).trans K4).trans K5).trans K6).trans K7).trans K8).trans K9)⟩
end Go.Proofs.Qxb6000433a
