/-
  THE PLAIN SIDE of 'FnHex4EncodeRoundTrip': hexadecimal digits. No Go program here.
-/
import Derived.Laws.BitsAllLaws
namespace Go.Proofs.Qxb6601608a.HexPlain

/-- The byte that the law writes for the digit d, in capitals or not. -/
def enc (d : Int) (up : Bool) : Int := if d < 10 then 48 + d else if up = true then 55 + d else 87 + d

theorem or_shift (r d : Nat) (hr : r < 65536) (hd : d < 16) : bits .or .i32 ((r : Int) * 16) (d : Int) = (r : Int) * 16 + d := by
  unfold bits
  have e1 : (BitVec.ofInt IntKind.i32.bits ((r : Int) * 16)).toNat = r * 16 := by
    rw [BitVec.toNat_ofInt]
    have hb : IntKind.i32.bits = 32 := rfl
    rw [hb]; omega
  have e2 : (BitVec.ofInt IntKind.i32.bits (d : Int)).toNat = d := by
    rw [BitVec.toNat_ofInt]
    have hb : IntKind.i32.bits = 32 := rfl
    rw [hb]; omega
  simp only [BitVec.toNat_or, e1, e2]
  have e3 : r * 16 ||| d = r * 16 + d := by
    have := Nat.two_pow_add_eq_or_of_lt (i := 4) (b := d) (by omega) r
    rw [Nat.mul_comm r 16]
    exact this.symm
  rw [e3]
  unfold IntKind.wrap
  have hb : IntKind.i32.bits = 32 := rfl
  rw [hb]
  have h1 : (((r * 16 + d : Nat) : Int)) % (2 ^ 32) = (r : Int) * 16 + d := by omega
  rw [h1, if_neg]
  simp
  omega

theorem and15 (x : Nat) (hx : x < 65536) : bits .and .i64 (x : Int) 15 = ((x % 16 : Nat) : Int) := by
  unfold bits
  have e1 : (BitVec.ofInt IntKind.i64.bits (x : Int)).toNat = x := by
    rw [BitVec.toNat_ofInt]
    have hb : IntKind.i64.bits = 64 := rfl
    rw [hb]; omega
  have e2 : (BitVec.ofInt IntKind.i64.bits 15).toNat = 2 ^ 4 - 1 := by decide
  simp only [BitVec.toNat_and, e1, e2, Nat.and_two_pow_sub_one_eq_mod]
  unfold IntKind.wrap
  have hb : IntKind.i64.bits = 64 := rfl
  rw [hb]
  have h1 : (((x % 2 ^ 4 : Nat) : Int)) % (2 ^ 64) = ((x % 16 : Nat) : Int) := by omega
  rw [h1, if_neg]
  simp
  omega

/-- The digit of 'code' at place k. -/
def dig (code k : Nat) : Nat := code / 2 ^ (4 * k) % 16
theorem dig_lt (code k : Nat) : dig code k < 16 := Nat.mod_lt _ (by omega)
/-- What is read off the first t of the four digits. -/
def acc (code : Nat) : Nat → Nat
  | 0 => 0
  | t + 1 => acc code t * 16 + dig code (3 - t)
theorem acc_lt (code t : Nat) (ht : t ≤ 4) : acc code t < 16 ^ t := by
  induction t with
  | zero => simp [acc]
  | succ t ih =>
    have h1 := ih (by omega)
    have h2 := dig_lt code (3 - t)
    unfold acc
    rw [Nat.pow_succ]
    omega
theorem acc_four (code : Nat) (h : code < 65536) : acc code 4 = code := by
  simp only [acc, dig]
  simp only [Nat.sub_zero, Nat.reduceSub, Nat.reduceMul, Nat.reducePow]
  omega
end Go.Proofs.Qxb6601608a.HexPlain
