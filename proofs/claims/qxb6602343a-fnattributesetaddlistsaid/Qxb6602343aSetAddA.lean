/-
  'Add' while the set has no index and wants none.
-/
import Derived.Test.Qxb6602343aSetAdd
namespace Go.Proofs.Qxb6602343a
open Go.RowKit Go.Maps SetPlain

set_option maxHeartbeats 1000000 in
theorem add21_plain {w : World} {sb : Nat} {ps : List (ByteArray × Nat)} {v : Value} (h : Inv w sb ps v none) (hn : ps.length < 32) (key : ByteArray) (hkl : key.size ≤ maxLen) (j : Nat) (hnew : ix key 0 (ps.map Prod.fst) = -1) :
    Calls Try.prog 21 #[.pointer (some ⟨sb, 0, none⟩), .agg #[.string key, .int .i64 3, .string ByteArray.empty, .int .u64 j, .slice none 0 0, .slice none 0 0]] w fun e w' => e = .returned (.tuple #[]) ∧ Below sb w w' ∧ ∃ v' m', Inv w' sb (ps ++ [(key, j)]) v' m' := by
  have qn : ∀ (w : World) (r : Option Nat), (binOp .neq 42 (.map r) (.map none)).run Try.prog w = .ok (.bool !r.isNone) w := fun w r => run_neq_map_nil w _ _ _ r Try.underlying42
  have hs := h.lt
  have k0 := h.c0
  have k1 := h.c1
  have k2 := h.c2
  have l0 := h.f0
  have l1 := h.f1
  obtain ⟨g, cap, w1, hrun, hown1, hgrow⟩ := append_one sb w hs v ps.length _ h.own (by omega) key j
  have hB := behind h hown1 hgrow
  obtain ⟨HA, HB⟩ := mid_of h hown1 hgrow
  unfold six at HA HB
  obtain ⟨ao, c, hv⟩ : ∃ ao c, v = .slice ao ps.length c := by
    rcases own_shape h.own with ⟨rfl, h0⟩ | ⟨g, cap, rfl, _⟩
    · exact ⟨none, 0, by rw [h0]⟩
    · exact ⟨_, _, rfl⟩
  subst hv
  have HR : Hid ((Builtin.append_ #[29, 29] 29 #[.slice ao ps.length c, .slice (some ⟨w.heap.size + 1, 0, none⟩) 1 1]).run Try.prog ((w.alloc (boxO key j)).alloc zeroO).drew = .ok (.slice (some ⟨g, 0, none⟩) (ps.length + 1) cap) w1) := hrun
  clear hrun
  have HI : Hid (Inv w sb ps (.slice ao ps.length c) none) := h
  obtain ⟨hsg, hgw, e0, e1, e2, f0, f1, b0, b1, b2, b3, b4, b5, hr, hrf⟩ := hB
  obtain ⟨u0, r0⟩ := hr 0 (by omega)
  obtain ⟨u1, r1⟩ := hr 1 (by omega)
  obtain ⟨u2, r2⟩ := hr 2 (by omega)
  obtain ⟨u3, r3⟩ := hr 3 (by omega)
  obtain ⟨u4, r4⟩ := hr 4 (by omega)
  obtain ⟨u5, r5⟩ := hr 5 (by omega)
  have q0 := hrf 0
  have q1 := hrf 1
  have q2 := hrf 2
  have q3 := hrf 3
  have q4 := hrf 4
  have q5 := hrf 5
  simp only [Nat.add_zero] at r0 q0
  clear hr hrf h hown1 hgrow
  have hnn : (ps.length : Int) < (ps.length : Int) + 1 := by omega
  go_enter Try.func21, Try.ntmps21
  go_wp2
  go_cut [] (fun wc => Mid w wc sb ps g cap none key j)
  case first =>
    go_region_law (refine step_append_run rfl (.tmp 9) (.tmp 12) 29 rfl (.slice ao ps.length c) (.slice (some ⟨w.heap.size + 1, 0, none⟩) 1 1) _ _ rfl rfl HR.out ?_)
    all_goals (go_wp2_with fail; go_meet; first | with_reducible exact HA | with_reducible exact HB)
  case rest =>
    have m0 : wc.cell? ⟨sb, 0, none⟩ = some (.slice (some ⟨g, 0, none⟩) (ps.length + 1) cap) := by simp [World.cell?, hcut.blk]
    have m1 : wc.cell? ⟨sb, 1, none⟩ = some (.map none) := by simp [World.cell?, hcut.blk]
    have HC : Hid (Mid w wc sb ps g cap none key j) := hcut
    clear hcut e0 e1 e2 f0 f1 b0 b1 b2 b3 b4 b5 r0 r1 r2 r3 r4 r5 q0 q1 q2 q3 q4 q5 k0 k1 k2 l0 l1 HA HB HR
    go_wp2
    go_end0
    exact ⟨rfl, HC.out.bel, _, none, Mid.inv HI.out hkl hnew HC.out.own rfl HC.out.blk (.inl ⟨rfl, by omega⟩)⟩
end Go.Proofs.Qxb6602343a
