/-
  No cell of these rows narrows 'for every input' (looked for: loops, veiled, ifaces, maps, wideKeys, modest, calm, conditions, laid).
  DERIVED. THE GIVEN ROWS OF THIS SEAT. 4 by the template 'for every input the law returns true; each argument reads behind the call as it read before'; 0 by the template 'total and deterministic' (their statements: Qxb6604413aTotals.lean).
  GIVEN WITH THE SEED: the statements are not yours to turn. If you find one false, say at which input.
  Laid BY PROGRAM, IN A SANDBOX (cutbox-rows.mjs): the forced cells as the released guide's own fill.sh prints them over the translation a5c7466dde02dab4… (all of the seat's roots in one cut). By AI agents, Wed Nov 11 2026. No macro, syntax, notation, axiom, sorry.
-/
import Derived.Test.Qxb6604413aChecked
import GoSem.Claim
import GoSem.ClaimJoined
import GoSem.ClaimMapViews
import Derived.JoinedTies
import Derived.KernelRfl
namespace Go.Proofs.Qxb6604413a
/- THE CELL 'sum', in the pinned program and in every row, IS THE sha256 OF THE DUMP (.gsa) THAT Qxb6604413aProg.lean LOADS. Nothing in Lean hashes anything: it is a label: what it is worth is what the hold of that sum in a sandbox is worth. -/
noncomputable def Try.pinned : Pinned := { name := "qxb6604413a", sum := "a5c7466dde02dab4c0f9fe014216ec8c1c73aeb20483168aedc6d87f228b5647", checked := Try.checked }
namespace Rows
def none {H : Type} : Left H := { results := [], args := [] }

/-- 'zzlaws_root_b1.FnAtOrBelowIsCountAtOrBelowLessOne': WHATEVER THE INPUT: true; the input reads as it did. -/
def fnAtOrBelowIsCountAtOrBelowLessOneSpec : ChangeSpec := { name := "fnAtOrBelowIsCountAtOrBelowLessOne", fn := fun _ => fun
  | [d1, d2] => { results := [.lit (.bool true)], args := [d1, d2] }
  | _ => none }
def fnAtOrBelowIsCountAtOrBelowLessOneRow : OpenClaim := { program := "qxb6604413a", sum := "a5c7466dde02dab4c0f9fe014216ec8c1c73aeb20483168aedc6d87f228b5647", func := "example.com/endpoint-versioning/endpoint-versioning/zzlaws_root_b1.FnAtOrBelowIsCountAtOrBelowLessOne", spec := "fnAtOrBelowIsCountAtOrBelowLessOne", apart := false }
def FnAtOrBelowIsCountAtOrBelowLessOneSaid : Prop := fnAtOrBelowIsCountAtOrBelowLessOneRow.holds Try.pinned (OpenSpec.ofChange fnAtOrBelowIsCountAtOrBelowLessOneSpec)

/-- ITS FALSE NEIGHBOUR: 'it returns false'. Refute it at one input. -/
def fnAtOrBelowIsCountAtOrBelowLessOneWrong : ChangeSpec := { name := "fnAtOrBelowIsCountAtOrBelowLessOne", fn := fun _ => fun
  | [d1, d2] => { results := [.lit (.bool false)], args := [d1, d2] }
  | _ => none }
def FnAtOrBelowIsCountAtOrBelowLessOneWrongFalsely : Prop := fnAtOrBelowIsCountAtOrBelowLessOneRow.holds Try.pinned (OpenSpec.ofChange fnAtOrBelowIsCountAtOrBelowLessOneWrong)

/-- 'zzlaws_root_b1.FnAtOrBelowHoldsGreatestAtOrBelowAndGrowsWithN': WHATEVER THE INPUT: true; the input reads as it did. -/
def fnAtOrBelowHoldsGreatestAtOrBelowAndGrowsWithNSpec : ChangeSpec := { name := "fnAtOrBelowHoldsGreatestAtOrBelowAndGrowsWithN", fn := fun _ => fun
  | [d1, d2] => { results := [.lit (.bool true)], args := [d1, d2] }
  | _ => none }
def fnAtOrBelowHoldsGreatestAtOrBelowAndGrowsWithNRow : OpenClaim := { program := "qxb6604413a", sum := "a5c7466dde02dab4c0f9fe014216ec8c1c73aeb20483168aedc6d87f228b5647", func := "example.com/endpoint-versioning/endpoint-versioning/zzlaws_root_b1.FnAtOrBelowHoldsGreatestAtOrBelowAndGrowsWithN", spec := "fnAtOrBelowHoldsGreatestAtOrBelowAndGrowsWithN", apart := false }
def FnAtOrBelowHoldsGreatestAtOrBelowAndGrowsWithNSaid : Prop := fnAtOrBelowHoldsGreatestAtOrBelowAndGrowsWithNRow.holds Try.pinned (OpenSpec.ofChange fnAtOrBelowHoldsGreatestAtOrBelowAndGrowsWithNSpec)

/-- ITS FALSE NEIGHBOUR: 'it returns false'. Refute it at one input. -/
def fnAtOrBelowHoldsGreatestAtOrBelowAndGrowsWithNWrong : ChangeSpec := { name := "fnAtOrBelowHoldsGreatestAtOrBelowAndGrowsWithN", fn := fun _ => fun
  | [d1, d2] => { results := [.lit (.bool false)], args := [d1, d2] }
  | _ => none }
def FnAtOrBelowHoldsGreatestAtOrBelowAndGrowsWithNWrongFalsely : Prop := fnAtOrBelowHoldsGreatestAtOrBelowAndGrowsWithNRow.holds Try.pinned (OpenSpec.ofChange fnAtOrBelowHoldsGreatestAtOrBelowAndGrowsWithNWrong)

/-- 'zzlaws_root_b1.FnCompareVersionsIsDateThenStabilityKey': WHATEVER THE INPUT: true; the input reads as it did. -/
def fnCompareVersionsIsDateThenStabilityKeySpec : ChangeSpec := { name := "fnCompareVersionsIsDateThenStabilityKey", fn := fun _ => fun
  | [d1, d2, d3, d4] => { results := [.lit (.bool true)], args := [d1, d2, d3, d4] }
  | _ => none }
def fnCompareVersionsIsDateThenStabilityKeyRow : OpenClaim := { program := "qxb6604413a", sum := "a5c7466dde02dab4c0f9fe014216ec8c1c73aeb20483168aedc6d87f228b5647", func := "example.com/endpoint-versioning/endpoint-versioning/zzlaws_root_b1.FnCompareVersionsIsDateThenStabilityKey", spec := "fnCompareVersionsIsDateThenStabilityKey", apart := false }
def FnCompareVersionsIsDateThenStabilityKeySaid : Prop := fnCompareVersionsIsDateThenStabilityKeyRow.holds Try.pinned (OpenSpec.ofChange fnCompareVersionsIsDateThenStabilityKeySpec)

/-- ITS FALSE NEIGHBOUR: 'it returns false'. Refute it at one input. -/
def fnCompareVersionsIsDateThenStabilityKeyWrong : ChangeSpec := { name := "fnCompareVersionsIsDateThenStabilityKey", fn := fun _ => fun
  | [d1, d2, d3, d4] => { results := [.lit (.bool false)], args := [d1, d2, d3, d4] }
  | _ => none }
def FnCompareVersionsIsDateThenStabilityKeyWrongFalsely : Prop := fnCompareVersionsIsDateThenStabilityKeyRow.holds Try.pinned (OpenSpec.ofChange fnCompareVersionsIsDateThenStabilityKeyWrong)

/-- 'zzlaws_root_b1.FnCompareVersionsIsStrictTotalOrder': WHATEVER THE INPUT: true; the input reads as it did. -/
def fnCompareVersionsIsStrictTotalOrderSpec : ChangeSpec := { name := "fnCompareVersionsIsStrictTotalOrder", fn := fun _ => fun
  | [d1, d2, d3, d4, d5, d6] => { results := [.lit (.bool true)], args := [d1, d2, d3, d4, d5, d6] }
  | _ => none }
def fnCompareVersionsIsStrictTotalOrderRow : OpenClaim := { program := "qxb6604413a", sum := "a5c7466dde02dab4c0f9fe014216ec8c1c73aeb20483168aedc6d87f228b5647", func := "example.com/endpoint-versioning/endpoint-versioning/zzlaws_root_b1.FnCompareVersionsIsStrictTotalOrder", spec := "fnCompareVersionsIsStrictTotalOrder", apart := false }
def FnCompareVersionsIsStrictTotalOrderSaid : Prop := fnCompareVersionsIsStrictTotalOrderRow.holds Try.pinned (OpenSpec.ofChange fnCompareVersionsIsStrictTotalOrderSpec)

/-- ITS FALSE NEIGHBOUR: 'it returns false'. Refute it at one input. -/
def fnCompareVersionsIsStrictTotalOrderWrong : ChangeSpec := { name := "fnCompareVersionsIsStrictTotalOrder", fn := fun _ => fun
  | [d1, d2, d3, d4, d5, d6] => { results := [.lit (.bool false)], args := [d1, d2, d3, d4, d5, d6] }
  | _ => none }
def FnCompareVersionsIsStrictTotalOrderWrongFalsely : Prop := fnCompareVersionsIsStrictTotalOrderRow.holds Try.pinned (OpenSpec.ofChange fnCompareVersionsIsStrictTotalOrderWrong)

end Rows
end Go.Proofs.Qxb6604413a
