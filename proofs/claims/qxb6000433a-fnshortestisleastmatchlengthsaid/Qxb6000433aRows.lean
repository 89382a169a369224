/-
  No cell of these rows narrows 'for every input' (looked for: loops, veiled, ifaces, maps, wideKeys, modest, calm, conditions, laid).
  DERIVED. THE GIVEN ROWS OF THIS SEAT. 7 by the template 'for every input the law returns true; each argument reads behind the call as it read before'; 0 by the template 'total and deterministic' (their statements: Qxb6000433aTotals.lean).
  GIVEN WITH THE SEED: the statements are not yours to turn. If you find one false, say at which input.
  Laid BY PROGRAM, IN A SANDBOX (cutbox-rows.mjs): the forced cells as the released guide's own fill.sh prints them over the translation a98c1dab133b290e… (all of the seat's roots in one cut). By AI agents, Wed Nov 11 2026. No macro, syntax, notation, axiom, sorry.
-/
import Derived.Test.Qxb6000433aChecked
import GoSem.Claim
import GoSem.ClaimJoined
import GoSem.ClaimMapViews
import Derived.JoinedTies
import Derived.KernelRfl
namespace Go.Proofs.Qxb6000433a
/- THE CELL 'sum', in the pinned program and in every row, IS THE sha256 OF THE DUMP (.gsa) THAT Qxb6000433aProg.lean LOADS. Nothing in Lean hashes anything: it is a label: what it is worth is what the hold of that sum in a sandbox is worth. -/
noncomputable def Try.pinned : Pinned := { name := "qxb6000433a", sum := "a98c1dab133b290e0b4d97f223f70ff9a7f3d1c9e51b9179f6b3ecb913a5cf47", checked := Try.checked }
namespace Rows
def none {H : Type} : Left H := { results := [], args := [] }

/-- 'zzlaws_internal_ere_b1.FnShortestIsLeastMatchLength': WHATEVER THE INPUT: true; the input reads as it did. -/
def fnShortestIsLeastMatchLengthSpec : ChangeSpec := { name := "fnShortestIsLeastMatchLength", fn := fun _ => fun
  | [d] => { results := [.lit (.bool true)], args := [d] }
  | _ => none }
def fnShortestIsLeastMatchLengthRow : OpenClaim := { program := "qxb6000433a", sum := "a98c1dab133b290e0b4d97f223f70ff9a7f3d1c9e51b9179f6b3ecb913a5cf47", func := "example.com/holdstrue/holdstrue/zzlaws_internal_ere_b1.FnShortestIsLeastMatchLength", spec := "fnShortestIsLeastMatchLength", apart := false }
def FnShortestIsLeastMatchLengthSaid : Prop := fnShortestIsLeastMatchLengthRow.holds Try.pinned (OpenSpec.ofChange fnShortestIsLeastMatchLengthSpec)

/-- ITS FALSE NEIGHBOUR: 'it returns false'. Refute it at one input. -/
def fnShortestIsLeastMatchLengthWrong : ChangeSpec := { name := "fnShortestIsLeastMatchLength", fn := fun _ => fun
  | [d] => { results := [.lit (.bool false)], args := [d] }
  | _ => none }
def FnShortestIsLeastMatchLengthWrongFalsely : Prop := fnShortestIsLeastMatchLengthRow.holds Try.pinned (OpenSpec.ofChange fnShortestIsLeastMatchLengthWrong)

/-- 'zzlaws_internal_ere_b1.FnShortestIgnoresChildOrder': WHATEVER THE INPUT: true; the input reads as it did. -/
def fnShortestIgnoresChildOrderSpec : ChangeSpec := { name := "fnShortestIgnoresChildOrder", fn := fun _ => fun
  | [d] => { results := [.lit (.bool true)], args := [d] }
  | _ => none }
def fnShortestIgnoresChildOrderRow : OpenClaim := { program := "qxb6000433a", sum := "a98c1dab133b290e0b4d97f223f70ff9a7f3d1c9e51b9179f6b3ecb913a5cf47", func := "example.com/holdstrue/holdstrue/zzlaws_internal_ere_b1.FnShortestIgnoresChildOrder", spec := "fnShortestIgnoresChildOrder", apart := false }
def FnShortestIgnoresChildOrderSaid : Prop := fnShortestIgnoresChildOrderRow.holds Try.pinned (OpenSpec.ofChange fnShortestIgnoresChildOrderSpec)

/-- ITS FALSE NEIGHBOUR: 'it returns false'. Refute it at one input. -/
def fnShortestIgnoresChildOrderWrong : ChangeSpec := { name := "fnShortestIgnoresChildOrder", fn := fun _ => fun
  | [d] => { results := [.lit (.bool false)], args := [d] }
  | _ => none }
def FnShortestIgnoresChildOrderWrongFalsely : Prop := fnShortestIgnoresChildOrderRow.holds Try.pinned (OpenSpec.ofChange fnShortestIgnoresChildOrderWrong)

/-- 'zzlaws_internal_ere_b1.FnPutBitsSetsEachBitAsTheModelSays': WHATEVER THE INPUT: true; the input reads as it did. -/
def fnPutBitsSetsEachBitAsTheModelSaysSpec : ChangeSpec := { name := "fnPutBitsSetsEachBitAsTheModelSays", fn := fun _ => fun
  | [d1, d2, d3, d4, d5, d6] => { results := [.lit (.bool true)], args := [d1, d2, d3, d4, d5, d6] }
  | _ => none }
def fnPutBitsSetsEachBitAsTheModelSaysRow : OpenClaim := { program := "qxb6000433a", sum := "a98c1dab133b290e0b4d97f223f70ff9a7f3d1c9e51b9179f6b3ecb913a5cf47", func := "example.com/holdstrue/holdstrue/zzlaws_internal_ere_b1.FnPutBitsSetsEachBitAsTheModelSays", spec := "fnPutBitsSetsEachBitAsTheModelSays", apart := false }
def FnPutBitsSetsEachBitAsTheModelSaysSaid : Prop := fnPutBitsSetsEachBitAsTheModelSaysRow.holds Try.pinned (OpenSpec.ofChange fnPutBitsSetsEachBitAsTheModelSaysSpec)

/-- ITS FALSE NEIGHBOUR: 'it returns false'. Refute it at one input. -/
def fnPutBitsSetsEachBitAsTheModelSaysWrong : ChangeSpec := { name := "fnPutBitsSetsEachBitAsTheModelSays", fn := fun _ => fun
  | [d1, d2, d3, d4, d5, d6] => { results := [.lit (.bool false)], args := [d1, d2, d3, d4, d5, d6] }
  | _ => none }
def FnPutBitsSetsEachBitAsTheModelSaysWrongFalsely : Prop := fnPutBitsSetsEachBitAsTheModelSaysRow.holds Try.pinned (OpenSpec.ofChange fnPutBitsSetsEachBitAsTheModelSaysWrong)

/-- 'zzlaws_internal_ere_b1.FnPutBitsAddIsOrOfReplaceIntoZeros': WHATEVER THE INPUT: true; the input reads as it did. -/
def fnPutBitsAddIsOrOfReplaceIntoZerosSpec : ChangeSpec := { name := "fnPutBitsAddIsOrOfReplaceIntoZeros", fn := fun _ => fun
  | [d1, d2, d3, d4, d5] => { results := [.lit (.bool true)], args := [d1, d2, d3, d4, d5] }
  | _ => none }
def fnPutBitsAddIsOrOfReplaceIntoZerosRow : OpenClaim := { program := "qxb6000433a", sum := "a98c1dab133b290e0b4d97f223f70ff9a7f3d1c9e51b9179f6b3ecb913a5cf47", func := "example.com/holdstrue/holdstrue/zzlaws_internal_ere_b1.FnPutBitsAddIsOrOfReplaceIntoZeros", spec := "fnPutBitsAddIsOrOfReplaceIntoZeros", apart := false }
def FnPutBitsAddIsOrOfReplaceIntoZerosSaid : Prop := fnPutBitsAddIsOrOfReplaceIntoZerosRow.holds Try.pinned (OpenSpec.ofChange fnPutBitsAddIsOrOfReplaceIntoZerosSpec)

/-- ITS FALSE NEIGHBOUR: 'it returns false'. Refute it at one input. -/
def fnPutBitsAddIsOrOfReplaceIntoZerosWrong : ChangeSpec := { name := "fnPutBitsAddIsOrOfReplaceIntoZeros", fn := fun _ => fun
  | [d1, d2, d3, d4, d5] => { results := [.lit (.bool false)], args := [d1, d2, d3, d4, d5] }
  | _ => none }
def FnPutBitsAddIsOrOfReplaceIntoZerosWrongFalsely : Prop := fnPutBitsAddIsOrOfReplaceIntoZerosRow.holds Try.pinned (OpenSpec.ofChange fnPutBitsAddIsOrOfReplaceIntoZerosWrong)

/-- 'zzlaws_internal_ere_b1.FnPutBitsMovesDownInPlace': WHATEVER THE INPUT: true; the input reads as it did. -/
def fnPutBitsMovesDownInPlaceSpec : ChangeSpec := { name := "fnPutBitsMovesDownInPlace", fn := fun _ => fun
  | [d1, d2, d3, d4, d5] => { results := [.lit (.bool true)], args := [d1, d2, d3, d4, d5] }
  | _ => none }
def fnPutBitsMovesDownInPlaceRow : OpenClaim := { program := "qxb6000433a", sum := "a98c1dab133b290e0b4d97f223f70ff9a7f3d1c9e51b9179f6b3ecb913a5cf47", func := "example.com/holdstrue/holdstrue/zzlaws_internal_ere_b1.FnPutBitsMovesDownInPlace", spec := "fnPutBitsMovesDownInPlace", apart := false }
def FnPutBitsMovesDownInPlaceSaid : Prop := fnPutBitsMovesDownInPlaceRow.holds Try.pinned (OpenSpec.ofChange fnPutBitsMovesDownInPlaceSpec)

/-- ITS FALSE NEIGHBOUR: 'it returns false'. Refute it at one input. -/
def fnPutBitsMovesDownInPlaceWrong : ChangeSpec := { name := "fnPutBitsMovesDownInPlace", fn := fun _ => fun
  | [d1, d2, d3, d4, d5] => { results := [.lit (.bool false)], args := [d1, d2, d3, d4, d5] }
  | _ => none }
def FnPutBitsMovesDownInPlaceWrongFalsely : Prop := fnPutBitsMovesDownInPlaceRow.holds Try.pinned (OpenSpec.ofChange fnPutBitsMovesDownInPlaceWrong)

/-- 'zzlaws_internal_ere_b1.FnLayGivesEachNodeTheProductOfItsRepeatingAncestors': WHATEVER THE INPUT: true; the input reads as it did. -/
def fnLayGivesEachNodeTheProductOfItsRepeatingAncestorsSpec : ChangeSpec := { name := "fnLayGivesEachNodeTheProductOfItsRepeatingAncestors", fn := fun _ => fun
  | [d] => { results := [.lit (.bool true)], args := [d] }
  | _ => none }
def fnLayGivesEachNodeTheProductOfItsRepeatingAncestorsRow : OpenClaim := { program := "qxb6000433a", sum := "a98c1dab133b290e0b4d97f223f70ff9a7f3d1c9e51b9179f6b3ecb913a5cf47", func := "example.com/holdstrue/holdstrue/zzlaws_internal_ere_b1.FnLayGivesEachNodeTheProductOfItsRepeatingAncestors", spec := "fnLayGivesEachNodeTheProductOfItsRepeatingAncestors", apart := false }
def FnLayGivesEachNodeTheProductOfItsRepeatingAncestorsSaid : Prop := fnLayGivesEachNodeTheProductOfItsRepeatingAncestorsRow.holds Try.pinned (OpenSpec.ofChange fnLayGivesEachNodeTheProductOfItsRepeatingAncestorsSpec)

/-- ITS FALSE NEIGHBOUR: 'it returns false'. Refute it at one input. -/
def fnLayGivesEachNodeTheProductOfItsRepeatingAncestorsWrong : ChangeSpec := { name := "fnLayGivesEachNodeTheProductOfItsRepeatingAncestors", fn := fun _ => fun
  | [d] => { results := [.lit (.bool false)], args := [d] }
  | _ => none }
def FnLayGivesEachNodeTheProductOfItsRepeatingAncestorsWrongFalsely : Prop := fnLayGivesEachNodeTheProductOfItsRepeatingAncestorsRow.holds Try.pinned (OpenSpec.ofChange fnLayGivesEachNodeTheProductOfItsRepeatingAncestorsWrong)

/-- 'zzlaws_internal_ere_b1.FnLayTilesVectorsAndPositionBits': WHATEVER THE INPUT: true; the input reads as it did. -/
def fnLayTilesVectorsAndPositionBitsSpec : ChangeSpec := { name := "fnLayTilesVectorsAndPositionBits", fn := fun _ => fun
  | [d] => { results := [.lit (.bool true)], args := [d] }
  | _ => none }
def fnLayTilesVectorsAndPositionBitsRow : OpenClaim := { program := "qxb6000433a", sum := "a98c1dab133b290e0b4d97f223f70ff9a7f3d1c9e51b9179f6b3ecb913a5cf47", func := "example.com/holdstrue/holdstrue/zzlaws_internal_ere_b1.FnLayTilesVectorsAndPositionBits", spec := "fnLayTilesVectorsAndPositionBits", apart := false }
def FnLayTilesVectorsAndPositionBitsSaid : Prop := fnLayTilesVectorsAndPositionBitsRow.holds Try.pinned (OpenSpec.ofChange fnLayTilesVectorsAndPositionBitsSpec)

/-- ITS FALSE NEIGHBOUR: 'it returns false'. Refute it at one input. -/
def fnLayTilesVectorsAndPositionBitsWrong : ChangeSpec := { name := "fnLayTilesVectorsAndPositionBits", fn := fun _ => fun
  | [d] => { results := [.lit (.bool false)], args := [d] }
  | _ => none }
def FnLayTilesVectorsAndPositionBitsWrongFalsely : Prop := fnLayTilesVectorsAndPositionBitsRow.holds Try.pinned (OpenSpec.ofChange fnLayTilesVectorsAndPositionBitsWrong)

end Rows
end Go.Proofs.Qxb6000433a
