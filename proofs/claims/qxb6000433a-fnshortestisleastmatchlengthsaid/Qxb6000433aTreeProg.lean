/-
  'program': the tree laid out as the nodes of a Program.
-/
import Derived.Test.Qxb6000433aTreeBuildL
import Derived.StillTailTactics
namespace Go.Proofs.Qxb6000433a
open Go.RowKit

def z14 : Array Value := #[.int .u8 0, .int .u8 0, .int .i32 0, .int .i32 0, .int .i32 0, .int .i32 0, .int .i32 0, .int .i32 0, .int .i32 0, .int .i32 0, .int .i32 0, .int .i32 0, .int .i32 0, .int .i32 0]
theorem Try.info80 : (Try.prog.info? 80).map (fun i => (i.zero, i.size, i.bytes)) = some (some (.agg z14), 14, 52) := by kernel_rfl
theorem Try.info76 : (Try.prog.info? 76).map (fun i => (i.zero, i.size)) = some (some (.agg #[.slice none 0 0, .slice none 0 0, .slice none 0 0, .int .i64 0, .int .i64 0]), 5) := by kernel_rfl
theorem Try.mixed : Try.prog.follows .mixedOrders = true := by kernel_rfl

/-- The fields that 'lay' fills. -/
structure Ly where
  mult : Int
  base : Int
  vec : Int
  words : Int
/-- The cells of a node. -/
def ncells (d : Nd) (y : Ly) : List Value := [.int .u8 d.kind, .int .u8 d.empty, .int .i32 d.first, .int .i32 d.next, .int .i32 d.lo, .int .i32 d.hi, .int .i32 d.exitLo, .int .i32 d.mn, .int .i32 d.mx, .int .i32 0, .int .i32 y.mult, .int .i32 y.base, .int .i32 y.vec, .int .i32 y.words]
def y0 : Ly := ⟨0, 0, 0, 0⟩

def putRun : List Value → Nat → List Value → List Value
  | xs, _, [] => xs
  | xs, off, v :: r => putRun (xs.set off v) (off + 1) r
def setRun (g : Nat) : World → Nat → List Value → World
  | w, _, [] => w
  | w, off, v :: r => setRun g (w.setCell ⟨g, off, none⟩ v) (off + 1) r
theorem putRun_len : ∀ (vs xs : List Value) (off : Nat), (putRun xs off vs).length = xs.length
  | [], _, _ => rfl
  | v :: r, xs, off => by rw [putRun, putRun_len r]; simp
theorem putRun_out : ∀ (vs xs : List Value) (off i : Nat), i < off ∨ off + vs.length ≤ i → (putRun xs off vs)[i]? = xs[i]?
  | [], _, _, _, _ => rfl
  | v :: r, xs, off, i, h => by
    simp only [List.length_cons] at h
    rw [putRun, putRun_out r _ _ i (by omega), List.getElem?_set_ne (by omega)]
theorem putRun_in : ∀ (vs xs : List Value) (off j : Nat), j < vs.length → off + vs.length ≤ xs.length → (putRun xs off vs)[off + j]? = vs[j]?
  | [], _, _, _, h, _ => by simp at h
  | v :: r, xs, off, 0, _, h => by
    simp only [List.length_cons] at h
    show (putRun (xs.set off v) (off + 1) r)[off]? = some v
    rw [putRun_out r _ _ off (by omega), List.getElem?_set_self (by omega)]
  | v :: r, xs, off, j + 1, hj, h => by
    simp only [List.length_cons] at h hj
    have := putRun_in r (xs.set off v) (off + 1) j (by omega) (by simp; omega)
    rw [putRun, show off + (j + 1) = off + 1 + j by omega, this]; simp
theorem setRun_own {base e size g n cap : Nat} : ∀ (vs : List Value) {w : World} {xs : List Value} (off : Nat), w.ownsRow base e size (.slice (some ⟨g, 0, none⟩) n cap) n xs → (setRun g w off vs).ownsRow base e size (.slice (some ⟨g, 0, none⟩) n cap) n (putRun xs off vs)
  | [], _, _, _, h => h
  | v :: r, _, _, off, h => setRun_own r (off + 1) (h.stored off v).1
theorem setRun_below {B g : Nat} {w0 : World} (hg : B ≤ g) : ∀ (vs : List Value) {w : World} (off : Nat), Below B w0 w → Below B w0 (setRun g w off vs)
  | [], _, _, h => h
  | v :: r, _, off, h => setRun_below hg r (off + 1) (h.setCell hg v)
theorem setRun14 (w : World) (g o : Nat) (a0 a1 a2 a3 a4 a5 a6 a7 a8 a9 a10 a11 a12 a13 : Value) : setRun g w o [a0, a1, a2, a3, a4, a5, a6, a7, a8, a9, a10, a11, a12, a13] = ((((((((((((((w.setCell ⟨g, o, none⟩ a0).setCell ⟨g, o + 1, none⟩ a1).setCell ⟨g, o + 2, none⟩ a2).setCell ⟨g, o + 3, none⟩ a3).setCell ⟨g, o + 4, none⟩ a4).setCell ⟨g, o + 5, none⟩ a5).setCell ⟨g, o + 6, none⟩ a6).setCell ⟨g, o + 7, none⟩ a7).setCell ⟨g, o + 8, none⟩ a8).setCell ⟨g, o + 9, none⟩ a9).setCell ⟨g, o + 10, none⟩ a10).setCell ⟨g, o + 11, none⟩ a11).setCell ⟨g, o + 12, none⟩ a12).setCell ⟨g, o + 13, none⟩ a13) := by
  simp [setRun, Nat.add_assoc]
def Node (xs : List Value) (i : Nat) (d : Nd) (y : Ly) : Prop := ∀ j, j < 14 → xs[i * 14 + j]? = (ncells d y)[j]?
theorem node_new (xs : List Value) (n k : Nat) (d : Nd) (y : Ly) (hl : xs.length = n * 14) (hk : k < n) : Node (putRun xs (k * 14) (ncells d y)) k d y := fun j hj => putRun_in _ _ _ _ (by simpa [ncells] using hj) (by simp [ncells]; omega)
theorem node_old (xs : List Value) (i k : Nat) (d e : Nd) (y z : Ly) (hi : i < k) (h : Node xs i e z) : Node (putRun xs (k * 14) (ncells d y)) i e z := fun j hj => by rw [putRun_out _ _ _ _ (.inl (by omega))]; exact h j hj

set_option maxHeartbeats 1000000 in
theorem zzprogram40 (v : Nat → Value) (g : Nat → Nat) (cap : Nat → Nat) (ns : List Nd) (hn : ns.length ≤ 65536) (w : World) (hv : ∀ i, i < 9 → v i = .slice (some ⟨g i, 0, none⟩) ns.length (cap i)) (hg : ∀ i, i < 9 → g i < w.heap.size) (hc : ∀ i j, i < 9 → j < ns.length → w.cell? ⟨g i, j, none⟩ = some (fld i (nodeAt ns j))) :
    Calls Try.prog 40 #[v 0, v 1, v 2, v 3, v 4, v 5, v 6, v 7, v 8] w fun e w' => ∃ pb xs, e = .returned (.pointer (some ⟨pb, 0, none⟩)) ∧ w.heap.size < pb ∧ w'.heap[pb]? = some (.cells #[.slice (some ⟨w.heap.size, 0, none⟩) ns.length ns.length, .slice none 0 0, .slice none 0 0, .int .i64 0, .int .i64 0] 76 (0, 0)) ∧ w'.ownsRow w.heap.size 80 14 (.slice (some ⟨w.heap.size, 0, none⟩) ns.length ns.length) ns.length xs ∧ (∀ i, i < ns.length → Node xs i (nodeAt ns i) y0) ∧ Below w.heap.size w w' := by
  rw [hv 0 (by omega), hv 1 (by omega), hv 2 (by omega), hv 3 (by omega), hv 4 (by omega), hv 5 (by omega), hv 6 (by omega), hv 7 (by omega), hv 8 (by omega)]
  have HC : Hid (∀ i j, i < 9 → j < ns.length → w.cell? ⟨g i, j, none⟩ = some (fld i (nodeAt ns j))) := hc
  have HG : Hid (∀ i, i < 9 → g i < w.heap.size) := hg
  clear hc hg hv
  obtain ⟨n, hnn⟩ : ∃ n, n = ns.length := ⟨_, rfl⟩
  rw [← hnn] at hn HC ⊢
  have HNN : Hid (n = ns.length) := hnn
  clear hnn
  obtain ⟨i0, hi, hz0, hz1, hz2⟩ := info_parts Try.info80
  go_enter Try.func40, Try.ntmps40
  go_wp2_with (at_make; refine wpList_make_full _ rfl _ _ 73 rfl w.heap.size 80 i0 (.agg z14) 14 Try.underlying73 hi hz0 hz1 .i64 .i64 _ _ n rfl rfl rfl rfl (by rw [hz2]; omega) (by unfold maxLen; omega) (by simp) ?_; intro w1 hown hgrow)
  have hbl : Below w.heap.size w w1 := (Below.refl _ _).grown hgrow (Nat.le_refl _) (by simp)
  clear hgrow
  go_loopw [21] (fun i wr => ∃ (k : Nat) (xs : List Value), k ≤ n ∧ i = .int .i64 k ∧ wr.ownsRow w.heap.size 80 14 (.slice (some ⟨w.heap.size, 0, none⟩) n n) n xs ∧ (∀ i, i < k → Node xs i (nodeAt ns i) y0) ∧ Below w.heap.size w wr) (fun i _ => n - (intOf i).toNat)
  case atStart => exact ⟨0, _, Nat.zero_le _, rfl, hown, fun i hi => absurd hi (Nat.not_lt_zero _), hbl⟩
  case round =>
    clear hown hbl
    obtain ⟨k, xs, hk, rfl, hown, hel, hbel⟩ := hrel
    by_cases hlt : k < n
    · have cc : ∀ i, i < 9 → wr.cell? ⟨g i, k, none⟩ = some (fld i (nodeAt ns k)) := fun i hi => (hbel.cell (HG.out i hi)).trans (HC.out i k hi hlt)
      obtain ⟨d, hd⟩ : ∃ d, nodeAt ns k = d := ⟨_, rfl⟩
      rw [hd] at cc
      have HD : Hid (nodeAt ns k = d) := hd
      have c0 := cc 0 (by omega)
      have c1 := cc 1 (by omega)
      have c2 := cc 2 (by omega)
      have c3 := cc 3 (by omega)
      have c4 := cc 4 (by omega)
      have c5 := cc 5 (by omega)
      have c6 := cc 6 (by omega)
      have c7 := cc 7 (by omega)
      have c8 := cc 8 (by omega)
      dsimp only [fld] at c0 c1 c2 c3 c4 c5 c6 c7 c8
      have HX : Hid (xs.length = n * 14) := hown.1
      have hki : (k : Int) < (n : Int) := by omega
      have hcs : ∀ j, j < n * 14 → ∃ v, wr.cell? ⟨w.heap.size, j, none⟩ = some v := fun j hj => ⟨xs[j]'(by have := hown.1; omega), by rw [hown.cellAt j hj, List.getElem?_eq_getElem]⟩
      obtain ⟨x0, hx0⟩ := hcs (k * 14) (by omega)
      have f0 := hown.frozenAt (k * 14)
      obtain ⟨x1, hx1⟩ := hcs (k * 14 + 1) (by omega)
      have f1 := hown.frozenAt (k * 14 + 1)
      obtain ⟨x2, hx2⟩ := hcs (k * 14 + 2) (by omega)
      have f2 := hown.frozenAt (k * 14 + 2)
      obtain ⟨x3, hx3⟩ := hcs (k * 14 + 3) (by omega)
      have f3 := hown.frozenAt (k * 14 + 3)
      obtain ⟨x4, hx4⟩ := hcs (k * 14 + 4) (by omega)
      have f4 := hown.frozenAt (k * 14 + 4)
      obtain ⟨x5, hx5⟩ := hcs (k * 14 + 5) (by omega)
      have f5 := hown.frozenAt (k * 14 + 5)
      obtain ⟨x6, hx6⟩ := hcs (k * 14 + 6) (by omega)
      have f6 := hown.frozenAt (k * 14 + 6)
      obtain ⟨x7, hx7⟩ := hcs (k * 14 + 7) (by omega)
      have f7 := hown.frozenAt (k * 14 + 7)
      obtain ⟨x8, hx8⟩ := hcs (k * 14 + 8) (by omega)
      have f8 := hown.frozenAt (k * 14 + 8)
      obtain ⟨x9, hx9⟩ := hcs (k * 14 + 9) (by omega)
      have f9 := hown.frozenAt (k * 14 + 9)
      obtain ⟨x10, hx10⟩ := hcs (k * 14 + 10) (by omega)
      have f10 := hown.frozenAt (k * 14 + 10)
      obtain ⟨x11, hx11⟩ := hcs (k * 14 + 11) (by omega)
      have f11 := hown.frozenAt (k * 14 + 11)
      obtain ⟨x12, hx12⟩ := hcs (k * 14 + 12) (by omega)
      have f12 := hown.frozenAt (k * 14 + 12)
      obtain ⟨x13, hx13⟩ := hcs (k * 14 + 13) (by omega)
      have f13 := hown.frozenAt (k * 14 + 13)
      have HEL : Hid (∀ i, i < k → Node xs i (nodeAt ns i) y0) := hel
      clear hcs cc hd hel
      obtain ⟨e1, e2, e3, e4, e5, e6, e7, e8, e9⟩ := d
      go_wp2
      go_still_tail 40, Try.mixed
      rw [show ({ wr with drawn := wr.drawn + 1 } : World) = wr.drew from rfl]
      go_wp2
      have eR := setRun14 wr w.heap.size (k * 14) (.int .u8 e1) (.int .u8 e2) (.int .i32 e3) (.int .i32 e4) (.int .i32 e5) (.int .i32 e6) (.int .i32 e7) (.int .i32 e8) (.int .i32 e9) (.int .i32 0) (.int .i32 0) (.int .i32 0) (.int .i32 0) (.int .i32 0)
      rw [← eR]
      have hown2 := (setRun_own (ncells ⟨e1, e2, e3, e4, e5, e6, e7, e8, e9⟩ y0) (k * 14) hown).drew
      have hbel2 := (setRun_below (Nat.le_refl _) (ncells ⟨e1, e2, e3, e4, e5, e6, e7, e8, e9⟩ y0) (k * 14) hbel).drew
      go_roundw
      case rel =>
        refine ⟨k + 1, _, by omega, by go_num, hown2, fun i hi => ?_, hbel2⟩
        by_cases e : i = k
        · subst e; rw [HD.out]; exact node_new xs n i _ _ HX.out hlt
        · exact node_old xs i k _ _ _ _ (by omega) (HEL.out i (by omega))
      case measure => simp [intOf]; omega
    · have hkn : k = n := by omega
      subst hkn
      go_wp2
      go_ret
      exact ⟨wr.heap.size, xs, rfl, (hown.lt _ rfl).2, heap_alloc_new _ _, hown.alloc _, hel, hbel.alloc (Nat.le_of_lt (hown.lt w.heap.size rfl).2) _⟩
end Go.Proofs.Qxb6000433a
