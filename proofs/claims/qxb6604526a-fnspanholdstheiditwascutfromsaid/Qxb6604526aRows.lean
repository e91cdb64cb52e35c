/-
  No cell of these rows narrows 'for every input' (looked for: loops, veiled, ifaces, maps, wideKeys, modest, calm, conditions, laid).
  DERIVED. THE GIVEN ROWS OF THIS SEAT. 5 by the template 'for every input the law returns true; each argument reads behind the call as it read before'; 0 by the template 'total and deterministic' (their statements: Qxb6604526aTotals.lean).
  GIVEN WITH THE SEED: the statements are not yours to turn. If you find one false, say at which input.
  Laid BY PROGRAM, IN A SANDBOX (cutbox-rows.mjs): the forced cells as the released guide's own fill.sh prints them over the translation 311711d078f5b431… (all of the seat's roots in one cut). By AI agents, Wed Nov 11 2026. No macro, syntax, notation, axiom, sorry.
-/
import Derived.Test.Qxb6604526aChecked
import GoSem.Claim
import GoSem.ClaimJoined
import GoSem.ClaimMapViews
import Derived.JoinedTies
import Derived.KernelRfl
namespace Go.Proofs.Qxb6604526a
/- THE CELL 'sum', in the pinned program and in every row, IS THE sha256 OF THE DUMP (.gsa) THAT Qxb6604526aProg.lean LOADS. Nothing in Lean hashes anything: it is a label: what it is worth is what the hold of that sum in a sandbox is worth. -/
noncomputable def Try.pinned : Pinned := { name := "qxb6604526a", sum := "311711d078f5b4312d45297f7575af509c3fe23218209aeadd27850d8feebaa3", checked := Try.checked }
namespace Rows
def none {H : Type} : Left H := { results := [], args := [] }

/-- 'zzlaws_root_b1.FnCompareIDsAgreesWithEquality': WHATEVER THE INPUT: true; the input reads as it did. -/
def fnCompareIDsAgreesWithEqualitySpec : ChangeSpec := { name := "fnCompareIDsAgreesWithEquality", fn := fun _ => fun
  | [d1, d2, d3, d4, d5, d6] => { results := [.lit (.bool true)], args := [d1, d2, d3, d4, d5, d6] }
  | _ => none }
def fnCompareIDsAgreesWithEqualityRow : OpenClaim := { program := "qxb6604526a", sum := "311711d078f5b4312d45297f7575af509c3fe23218209aeadd27850d8feebaa3", func := "example.com/forebear/forebear/zzlaws_root_b1.FnCompareIDsAgreesWithEquality", spec := "fnCompareIDsAgreesWithEquality", inPlace := ["internal/bytealg.Compare"], apart := false }
def FnCompareIDsAgreesWithEqualitySaid : Prop := fnCompareIDsAgreesWithEqualityRow.holds Try.pinned (OpenSpec.ofChange fnCompareIDsAgreesWithEqualitySpec)

/-- ITS FALSE NEIGHBOUR: 'it returns false'. Refute it at one input. -/
def fnCompareIDsAgreesWithEqualityWrong : ChangeSpec := { name := "fnCompareIDsAgreesWithEquality", fn := fun _ => fun
  | [d1, d2, d3, d4, d5, d6] => { results := [.lit (.bool false)], args := [d1, d2, d3, d4, d5, d6] }
  | _ => none }
def FnCompareIDsAgreesWithEqualityWrongFalsely : Prop := fnCompareIDsAgreesWithEqualityRow.holds Try.pinned (OpenSpec.ofChange fnCompareIDsAgreesWithEqualityWrong)

/-- 'zzlaws_root_b1.FnSpanIsTheBlockOfTheDigits': WHATEVER THE INPUT: true; the input reads as it did. -/
def fnSpanIsTheBlockOfTheDigitsSpec : ChangeSpec := { name := "fnSpanIsTheBlockOfTheDigits", fn := fun _ => fun
  | [d1, d2, d3] => { results := [.lit (.bool true)], args := [d1, d2, d3] }
  | _ => none }
def fnSpanIsTheBlockOfTheDigitsRow : OpenClaim := { program := "qxb6604526a", sum := "311711d078f5b4312d45297f7575af509c3fe23218209aeadd27850d8feebaa3", func := "example.com/forebear/forebear/zzlaws_root_b1.FnSpanIsTheBlockOfTheDigits", spec := "fnSpanIsTheBlockOfTheDigits", inPlace := ["internal/bytealg.Compare"], unfollowed := true, recurses := true, apart := false }
def FnSpanIsTheBlockOfTheDigitsSaid : Prop := fnSpanIsTheBlockOfTheDigitsRow.holds Try.pinned (OpenSpec.ofChange fnSpanIsTheBlockOfTheDigitsSpec)

/-- ITS FALSE NEIGHBOUR: 'it returns false'. Refute it at one input. -/
def fnSpanIsTheBlockOfTheDigitsWrong : ChangeSpec := { name := "fnSpanIsTheBlockOfTheDigits", fn := fun _ => fun
  | [d1, d2, d3] => { results := [.lit (.bool false)], args := [d1, d2, d3] }
  | _ => none }
def FnSpanIsTheBlockOfTheDigitsWrongFalsely : Prop := fnSpanIsTheBlockOfTheDigitsRow.holds Try.pinned (OpenSpec.ofChange fnSpanIsTheBlockOfTheDigitsWrong)

/-- 'zzlaws_root_b1.FnSpanHoldsTheIDItWasCutFrom': WHATEVER THE INPUT: true; the input reads as it did. -/
def fnSpanHoldsTheIDItWasCutFromSpec : ChangeSpec := { name := "fnSpanHoldsTheIDItWasCutFrom", fn := fun _ => fun
  | [d1, d2, d3] => { results := [.lit (.bool true)], args := [d1, d2, d3] }
  | _ => none }
def fnSpanHoldsTheIDItWasCutFromRow : OpenClaim := { program := "qxb6604526a", sum := "311711d078f5b4312d45297f7575af509c3fe23218209aeadd27850d8feebaa3", func := "example.com/forebear/forebear/zzlaws_root_b1.FnSpanHoldsTheIDItWasCutFrom", spec := "fnSpanHoldsTheIDItWasCutFrom", inPlace := ["internal/bytealg.Compare"], unfollowed := true, recurses := true, apart := false }
def FnSpanHoldsTheIDItWasCutFromSaid : Prop := fnSpanHoldsTheIDItWasCutFromRow.holds Try.pinned (OpenSpec.ofChange fnSpanHoldsTheIDItWasCutFromSpec)

/-- ITS FALSE NEIGHBOUR: 'it returns false'. Refute it at one input. -/
def fnSpanHoldsTheIDItWasCutFromWrong : ChangeSpec := { name := "fnSpanHoldsTheIDItWasCutFrom", fn := fun _ => fun
  | [d1, d2, d3] => { results := [.lit (.bool false)], args := [d1, d2, d3] }
  | _ => none }
def FnSpanHoldsTheIDItWasCutFromWrongFalsely : Prop := fnSpanHoldsTheIDItWasCutFromRow.holds Try.pinned (OpenSpec.ofChange fnSpanHoldsTheIDItWasCutFromWrong)

/-- 'zzlaws_root_b1.FnCommitListAddLaysOutEveryCommit': WHATEVER THE INPUT: true; the input reads as it did. -/
def fnCommitListAddLaysOutEveryCommitSpec : ChangeSpec := { name := "fnCommitListAddLaysOutEveryCommit", fn := fun _ => fun
  | [d] => { results := [.lit (.bool true)], args := [d] }
  | _ => none }
def fnCommitListAddLaysOutEveryCommitRow : OpenClaim := { program := "qxb6604526a", sum := "311711d078f5b4312d45297f7575af509c3fe23218209aeadd27850d8feebaa3", func := "example.com/forebear/forebear/zzlaws_root_b1.FnCommitListAddLaysOutEveryCommit", spec := "fnCommitListAddLaysOutEveryCommit", apart := false }
def FnCommitListAddLaysOutEveryCommitSaid : Prop := fnCommitListAddLaysOutEveryCommitRow.holds Try.pinned (OpenSpec.ofChange fnCommitListAddLaysOutEveryCommitSpec)

/-- ITS FALSE NEIGHBOUR: 'it returns false'. Refute it at one input. -/
def fnCommitListAddLaysOutEveryCommitWrong : ChangeSpec := { name := "fnCommitListAddLaysOutEveryCommit", fn := fun _ => fun
  | [d] => { results := [.lit (.bool false)], args := [d] }
  | _ => none }
def FnCommitListAddLaysOutEveryCommitWrongFalsely : Prop := fnCommitListAddLaysOutEveryCommitRow.holds Try.pinned (OpenSpec.ofChange fnCommitListAddLaysOutEveryCommitWrong)

/-- 'zzlaws_root_b1.FnCommitListAddKeepsNoHoldOfTheParents': WHATEVER THE INPUT: true; the input reads as it did. -/
def fnCommitListAddKeepsNoHoldOfTheParentsSpec : ChangeSpec := { name := "fnCommitListAddKeepsNoHoldOfTheParents", fn := fun _ => fun
  | [d1, d2] => { results := [.lit (.bool true)], args := [d1, d2] }
  | _ => none }
def fnCommitListAddKeepsNoHoldOfTheParentsRow : OpenClaim := { program := "qxb6604526a", sum := "311711d078f5b4312d45297f7575af509c3fe23218209aeadd27850d8feebaa3", func := "example.com/forebear/forebear/zzlaws_root_b1.FnCommitListAddKeepsNoHoldOfTheParents", spec := "fnCommitListAddKeepsNoHoldOfTheParents", apart := false }
def FnCommitListAddKeepsNoHoldOfTheParentsSaid : Prop := fnCommitListAddKeepsNoHoldOfTheParentsRow.holds Try.pinned (OpenSpec.ofChange fnCommitListAddKeepsNoHoldOfTheParentsSpec)

/-- ITS FALSE NEIGHBOUR: 'it returns false'. Refute it at one input. -/
def fnCommitListAddKeepsNoHoldOfTheParentsWrong : ChangeSpec := { name := "fnCommitListAddKeepsNoHoldOfTheParents", fn := fun _ => fun
  | [d1, d2] => { results := [.lit (.bool false)], args := [d1, d2] }
  | _ => none }
def FnCommitListAddKeepsNoHoldOfTheParentsWrongFalsely : Prop := fnCommitListAddKeepsNoHoldOfTheParentsRow.holds Try.pinned (OpenSpec.ofChange fnCommitListAddKeepsNoHoldOfTheParentsWrong)

end Rows
end Go.Proofs.Qxb6604526a
