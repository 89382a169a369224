/-
  A script of steps that came in, opened; 'build' at the empty script.
-/
import Derived.Test.Qxb6000433aTreeBuildL
import Derived.ProofKit
import Derived.OpenShut
import Derived.ShutString
import Derived.ChangeOld
import Derived.Below
import Derived.Deep.Slices
namespace Go.Proofs.Qxb6000433a
open Go.ChangeShapes Go.WideShapes Go.ChangeAt Go.RowKit Go.Deep

instance : Inhabited OpD := ⟨oz⟩
theorem wf_u8' {n : Int} (h : (Lit.int .u8 n).wf = true) : 0 ≤ n ∧ n ≤ 255 := by
  simp [Lit.wf] at h
  have e1 : IntKind.u8.min = 0 := rfl
  have e2 : IntKind.u8.max = 255 := rfl
  omega
theorem wf_i32' {n : Int} (h : (Lit.int .i32 n).wf = true) : -2147483648 ≤ n ∧ n ≤ 2147483647 := by
  simp [Lit.wf] at h
  have e1 : IntKind.i32.min = -2147483648 := rfl
  have e2 : IntKind.i32.max = 2147483647 := rfl
  omega
def OpR (o : OpD) : Prop := 0 ≤ o.kind ∧ o.kind ≤ 255 ∧ -2147483648 ≤ o.a ∧ o.a ≤ 2147483647 ∧ -2147483648 ≤ o.b ∧ o.b ≤ 2147483647
theorem ops_of {H : Type} {enc : TypeId × Value → H} {W : World} {a : Option Addr} {len cap : Nat} {d : DataW H} {p : List MemPlace} (h : DataW.Trod enc Try.prog W 0 (fun _ => true) true 22 (.slice a len cap) d p) :
    len ≤ maxLen ∧ ∃ os : List OpD, (0 < len → ∃ b off, a = some ⟨b, off, none⟩ ∧ b < W.heap.size ∧ OpsAt W b off len os) ∧ ∀ i, i < len → OpR (os.getD i oz) := by
  obtain ⟨fuel, hf⟩ := h
  rcases open_slice Try.underlying22 hf with ⟨hcs, _⟩ | ⟨x, l, c, m, n, D, Pl, hcs, _, hl, hm, hmm, _, hx⟩
  · simp [Value.cells] at hcs
    obtain ⟨rfl, rfl, rfl⟩ := hcs
    exact ⟨Nat.zero_le _, [], fun h => absurd h (Nat.lt_irrefl _), fun i hi => absurd hi (Nat.not_lt_zero _)⟩
  · simp [Value.cells] at hcs
    obtain ⟨rfl, rfl, rfl⟩ := hcs
    have hml : m = cap := by simpa using hmm
    refine ⟨by omega, ?_⟩
    have ce : Try.prog.cellsOf 63 = 3 := by kernel_rfl
    have each : ∀ i, i < len → ∃ o : OpD, (W.cell? (x.add (i * 3)) = some (.int .u8 o.kind) ∧ W.cell? (x.add (i * 3 + 1)) = some (.int .i32 o.a) ∧ W.cell? (x.add (i * 3 + 2)) = some (.int .i32 o.b)) ∧ OpR o := by
      intro i hi
      obtain ⟨cs', h1, h2⟩ := hx i (by omega)
      rw [ce] at h1
      obtain ⟨_, hlen, hcell⟩ := World.cells?_some h1
      obtain ⟨xs, k, hk, hxy, _, hxl, hf⟩ := DataW.trod_struct Try.underlying63 h2
      match xs, hxl, cs', hlen with
      | [y0, y1, y2], _, [v0, v1, v2], _ =>
        have g0 := hf 0 _ rfl
        have g1 := hf 1 _ rfl
        have g2 := hf 2 _ rfl
        have e0 := hcell 0 (by omega)
        have e1 := hcell 1 (by omega)
        have e2 := hcell 2 (by omega)
        rw [add_add] at e0 e1 e2
        have s5 : Try.prog.cellsOf 5 = 1 := by kernel_rfl
        have s21 : Try.prog.cellsOf 21 = 1 := by kernel_rfl
        simp [s5, s21] at g0 g1 g2
        obtain ⟨n0, q0, _, r0⟩ := DataW.trod_int Try.underlying5 g0
        obtain ⟨n1, q1, _, r1⟩ := DataW.trod_int Try.underlying21 g1
        obtain ⟨n2, q2, _, r2⟩ := DataW.trod_int Try.underlying21 g2
        simp at q0 q1 q2
        subst q0 q1 q2
        refine ⟨⟨n0, n1, n2⟩, ⟨by simpa using e0, by simpa using e1, by simpa using e2⟩, ?_⟩
        have b0 := wf_u8' r0
        have b1 := wf_i32' r1
        have b2 := wf_i32' r2
        exact ⟨b0.1, b0.2, b1.1, b1.2, b2.1, b2.2⟩
    obtain ⟨q, hq⟩ := choose_lt each
    refine ⟨(List.range len).map q, fun hpos => ?_, fun i hi => ?_⟩
    · have h1 := (hq 0 hpos).1.1
      obtain ⟨b, off, spot⟩ := x
      have hspot : spot = none := by simpa [Addr.add] using World.cell?_spot h1
      subst hspot
      refine ⟨b, off, rfl, block_lt_of_cell h1, fun i hi => ?_⟩
      have e : ((List.range len).map q).getD i oz = q i := by simp [List.getD, hi]
      rw [e]
      obtain ⟨⟨h1, h2, h3⟩, _⟩ := hq i hi
      rw [add_plain] at h1 h2 h3
      exact ⟨h1, by simpa [Nat.add_assoc] using h2, by simpa [Nat.add_assoc] using h3⟩
    · have e : ((List.range len).map q).getD i oz = q i := by simp [List.getD, hi]
      rw [e]; exact (hq i hi).2
end Go.Proofs.Qxb6000433a
