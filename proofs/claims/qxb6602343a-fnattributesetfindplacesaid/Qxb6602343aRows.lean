/-
  No cell of these rows narrows 'for every input' (looked for: loops, veiled, ifaces, maps, wideKeys, modest, calm, conditions, laid).
  DERIVED. THE GIVEN ROWS OF THIS SEAT. 5 by the template 'for every input the law returns true; each argument reads behind the call as it read before'; 0 by the template 'total and deterministic' (their statements: Qxb6602343aTotals.lean).
  GIVEN WITH THE SEED: the statements are not yours to turn. If you find one false, say at which input.
  Laid BY PROGRAM, IN A SANDBOX (cutbox-rows.mjs): the forced cells as the released guide's own fill.sh prints them over the translation 8cdc5d4619e6206b… (all of the seat's roots in one cut). By AI agents, Wed Nov 11 2026. No macro, syntax, notation, axiom, sorry.
-/
import Derived.Test.Qxb6602343aChecked
import GoSem.Claim
import GoSem.ClaimJoined
import GoSem.ClaimMapViews
import Derived.JoinedTies
import Derived.KernelRfl
namespace Go.Proofs.Qxb6602343a
/- THE CELL 'sum', in the pinned program and in every row, IS THE sha256 OF THE DUMP (.gsa) THAT Qxb6602343aProg.lean LOADS. Nothing in Lean hashes anything: it is a label: what it is worth is what the hold of that sum in a sandbox is worth. -/
noncomputable def Try.pinned : Pinned := { name := "qxb6602343a", sum := "8cdc5d4619e6206be2d99016eaa2d7dca2d47520d45cef541445f9747c627ebc", checked := Try.checked }
namespace Rows
def none {H : Type} : Left H := { results := [], args := [] }

/-- 'zzlaws_internal_model_b1.FnHomogeneousSpec': WHATEVER THE INPUT: true; the input reads as it did. -/
def fnHomogeneousSpecSpec : ChangeSpec := { name := "fnHomogeneousSpec", fn := fun _ => fun
  | [d1, d2, d3, d4] => { results := [.lit (.bool true)], args := [d1, d2, d3, d4] }
  | _ => none }
def fnHomogeneousSpecRow : OpenClaim := { program := "qxb6602343a", sum := "8cdc5d4619e6206be2d99016eaa2d7dca2d47520d45cef541445f9747c627ebc", func := "example.com/via2/via2/zzlaws_internal_model_b1.FnHomogeneousSpec", spec := "fnHomogeneousSpec", apart := false }
def FnHomogeneousSpecSaid : Prop := fnHomogeneousSpecRow.holds Try.pinned (OpenSpec.ofChange fnHomogeneousSpecSpec)

/-- ITS FALSE NEIGHBOUR: 'it returns false'. Refute it at one input. -/
def fnHomogeneousSpecWrong : ChangeSpec := { name := "fnHomogeneousSpec", fn := fun _ => fun
  | [d1, d2, d3, d4] => { results := [.lit (.bool false)], args := [d1, d2, d3, d4] }
  | _ => none }
def FnHomogeneousSpecWrongFalsely : Prop := fnHomogeneousSpecRow.holds Try.pinned (OpenSpec.ofChange fnHomogeneousSpecWrong)

/-- 'zzlaws_internal_model_b1.FnHomogeneousDropOne': WHATEVER THE INPUT: true; the input reads as it did. -/
def fnHomogeneousDropOneSpec : ChangeSpec := { name := "fnHomogeneousDropOne", fn := fun _ => fun
  | [d1, d2, d3, d4, d5] => { results := [.lit (.bool true)], args := [d1, d2, d3, d4, d5] }
  | _ => none }
def fnHomogeneousDropOneRow : OpenClaim := { program := "qxb6602343a", sum := "8cdc5d4619e6206be2d99016eaa2d7dca2d47520d45cef541445f9747c627ebc", func := "example.com/via2/via2/zzlaws_internal_model_b1.FnHomogeneousDropOne", spec := "fnHomogeneousDropOne", apart := false }
def FnHomogeneousDropOneSaid : Prop := fnHomogeneousDropOneRow.holds Try.pinned (OpenSpec.ofChange fnHomogeneousDropOneSpec)

/-- ITS FALSE NEIGHBOUR: 'it returns false'. Refute it at one input. -/
def fnHomogeneousDropOneWrong : ChangeSpec := { name := "fnHomogeneousDropOne", fn := fun _ => fun
  | [d1, d2, d3, d4, d5] => { results := [.lit (.bool false)], args := [d1, d2, d3, d4, d5] }
  | _ => none }
def FnHomogeneousDropOneWrongFalsely : Prop := fnHomogeneousDropOneRow.holds Try.pinned (OpenSpec.ofChange fnHomogeneousDropOneWrong)

/-- 'zzlaws_internal_model_b1.FnAttributeSetFindPlace': WHATEVER THE INPUT: true; the input reads as it did. -/
def fnAttributeSetFindPlaceSpec : ChangeSpec := { name := "fnAttributeSetFindPlace", fn := fun _ => fun
  | [d1, d2] => { results := [.lit (.bool true)], args := [d1, d2] }
  | _ => none }
def fnAttributeSetFindPlaceRow : OpenClaim := { program := "qxb6602343a", sum := "8cdc5d4619e6206be2d99016eaa2d7dca2d47520d45cef541445f9747c627ebc", func := "example.com/via2/via2/zzlaws_internal_model_b1.FnAttributeSetFindPlace", spec := "fnAttributeSetFindPlace", apart := false }
def FnAttributeSetFindPlaceSaid : Prop := fnAttributeSetFindPlaceRow.holds Try.pinned (OpenSpec.ofChange fnAttributeSetFindPlaceSpec)

/-- ITS FALSE NEIGHBOUR: 'it returns false'. Refute it at one input. -/
def fnAttributeSetFindPlaceWrong : ChangeSpec := { name := "fnAttributeSetFindPlace", fn := fun _ => fun
  | [d1, d2] => { results := [.lit (.bool false)], args := [d1, d2] }
  | _ => none }
def FnAttributeSetFindPlaceWrongFalsely : Prop := fnAttributeSetFindPlaceRow.holds Try.pinned (OpenSpec.ofChange fnAttributeSetFindPlaceWrong)

/-- 'zzlaws_internal_model_b1.FnAttributeSetFindStable': WHATEVER THE INPUT: true; the input reads as it did. -/
def fnAttributeSetFindStableSpec : ChangeSpec := { name := "fnAttributeSetFindStable", fn := fun _ => fun
  | [d1, d2] => { results := [.lit (.bool true)], args := [d1, d2] }
  | _ => none }
def fnAttributeSetFindStableRow : OpenClaim := { program := "qxb6602343a", sum := "8cdc5d4619e6206be2d99016eaa2d7dca2d47520d45cef541445f9747c627ebc", func := "example.com/via2/via2/zzlaws_internal_model_b1.FnAttributeSetFindStable", spec := "fnAttributeSetFindStable", apart := false }
def FnAttributeSetFindStableSaid : Prop := fnAttributeSetFindStableRow.holds Try.pinned (OpenSpec.ofChange fnAttributeSetFindStableSpec)

/-- ITS FALSE NEIGHBOUR: 'it returns false'. Refute it at one input. -/
def fnAttributeSetFindStableWrong : ChangeSpec := { name := "fnAttributeSetFindStable", fn := fun _ => fun
  | [d1, d2] => { results := [.lit (.bool false)], args := [d1, d2] }
  | _ => none }
def FnAttributeSetFindStableWrongFalsely : Prop := fnAttributeSetFindStableRow.holds Try.pinned (OpenSpec.ofChange fnAttributeSetFindStableWrong)

/-- 'zzlaws_internal_model_b1.FnAttributeSetAddList': WHATEVER THE INPUT: true; the input reads as it did. -/
def fnAttributeSetAddListSpec : ChangeSpec := { name := "fnAttributeSetAddList", fn := fun _ => fun
  | [d] => { results := [.lit (.bool true)], args := [d] }
  | _ => none }
def fnAttributeSetAddListRow : OpenClaim := { program := "qxb6602343a", sum := "8cdc5d4619e6206be2d99016eaa2d7dca2d47520d45cef541445f9747c627ebc", func := "example.com/via2/via2/zzlaws_internal_model_b1.FnAttributeSetAddList", spec := "fnAttributeSetAddList", apart := false }
def FnAttributeSetAddListSaid : Prop := fnAttributeSetAddListRow.holds Try.pinned (OpenSpec.ofChange fnAttributeSetAddListSpec)

/-- ITS FALSE NEIGHBOUR: 'it returns false'. Refute it at one input. -/
def fnAttributeSetAddListWrong : ChangeSpec := { name := "fnAttributeSetAddList", fn := fun _ => fun
  | [d] => { results := [.lit (.bool false)], args := [d] }
  | _ => none }
def FnAttributeSetAddListWrongFalsely : Prop := fnAttributeSetAddListRow.holds Try.pinned (OpenSpec.ofChange fnAttributeSetAddListWrong)

end Rows
end Go.Proofs.Qxb6602343a
