/-
  No cell of these rows narrows 'for every input' (looked for: loops, veiled, ifaces, maps, wideKeys, modest, calm, conditions, laid).
  DERIVED. THE GIVEN ROWS OF THIS SEAT. 2 by the template 'for every input the law returns true; each argument reads behind the call as it read before'; 0 by the template 'total and deterministic' (their statements: Qxb6604416aTotals.lean).
  GIVEN WITH THE SEED: the statements are not yours to turn. If you find one false, say at which input.
  Laid BY PROGRAM, IN A SANDBOX (cutbox-rows.mjs): the forced cells as the released guide's own fill.sh prints them over the translation 5e82f0916f18ea17… (all of the seat's roots in one cut). By AI agents, Wed Nov 11 2026. No macro, syntax, notation, axiom, sorry.
-/
import Derived.Test.Qxb6604416aChecked
import GoSem.Claim
import GoSem.ClaimJoined
import GoSem.ClaimMapViews
import Derived.JoinedTies
import Derived.KernelRfl
namespace Go.Proofs.Qxb6604416a
/- THE CELL 'sum', in the pinned program and in every row, IS THE sha256 OF THE DUMP (.gsa) THAT Qxb6604416aProg.lean LOADS. Nothing in Lean hashes anything: it is a label: what it is worth is what the hold of that sum in a sandbox is worth. -/
noncomputable def Try.pinned : Pinned := { name := "qxb6604416a", sum := "5e82f0916f18ea173157a2529d379b2b8b3b455e430a84edcb71cf339a0cb15f", checked := Try.checked }
namespace Rows
def none {H : Type} : Left H := { results := [], args := [] }

/-- 'zzlaws_internal_raft_b1.FnLastTermClosedForm': WHATEVER THE INPUT: true; the input reads as it did. -/
def fnLastTermClosedFormSpec : ChangeSpec := { name := "fnLastTermClosedForm", fn := fun _ => fun
  | [d1, d2, d3] => { results := [.lit (.bool true)], args := [d1, d2, d3] }
  | _ => none }
def fnLastTermClosedFormRow : OpenClaim := { program := "qxb6604416a", sum := "5e82f0916f18ea173157a2529d379b2b8b3b455e430a84edcb71cf339a0cb15f", func := "example.com/pulsewarden/pulsewarden/zzlaws_internal_raft_b1.FnLastTermClosedForm", spec := "fnLastTermClosedForm", apart := false }
def FnLastTermClosedFormSaid : Prop := fnLastTermClosedFormRow.holds Try.pinned (OpenSpec.ofChange fnLastTermClosedFormSpec)

/-- ITS FALSE NEIGHBOUR: 'it returns false'. Refute it at one input. -/
def fnLastTermClosedFormWrong : ChangeSpec := { name := "fnLastTermClosedForm", fn := fun _ => fun
  | [d1, d2, d3] => { results := [.lit (.bool false)], args := [d1, d2, d3] }
  | _ => none }
def FnLastTermClosedFormWrongFalsely : Prop := fnLastTermClosedFormRow.holds Try.pinned (OpenSpec.ofChange fnLastTermClosedFormWrong)

/-- 'zzlaws_internal_raft_b1.FnLastTermKeptBySnapshot': WHATEVER THE INPUT: true; the input reads as it did. -/
def fnLastTermKeptBySnapshotSpec : ChangeSpec := { name := "fnLastTermKeptBySnapshot", fn := fun _ => fun
  | [d1, d2, d3, d4] => { results := [.lit (.bool true)], args := [d1, d2, d3, d4] }
  | _ => none }
def fnLastTermKeptBySnapshotRow : OpenClaim := { program := "qxb6604416a", sum := "5e82f0916f18ea173157a2529d379b2b8b3b455e430a84edcb71cf339a0cb15f", func := "example.com/pulsewarden/pulsewarden/zzlaws_internal_raft_b1.FnLastTermKeptBySnapshot", spec := "fnLastTermKeptBySnapshot", apart := false }
def FnLastTermKeptBySnapshotSaid : Prop := fnLastTermKeptBySnapshotRow.holds Try.pinned (OpenSpec.ofChange fnLastTermKeptBySnapshotSpec)

/-- ITS FALSE NEIGHBOUR: 'it returns false'. Refute it at one input. -/
def fnLastTermKeptBySnapshotWrong : ChangeSpec := { name := "fnLastTermKeptBySnapshot", fn := fun _ => fun
  | [d1, d2, d3, d4] => { results := [.lit (.bool false)], args := [d1, d2, d3, d4] }
  | _ => none }
def FnLastTermKeptBySnapshotWrongFalsely : Prop := fnLastTermKeptBySnapshotRow.holds Try.pinned (OpenSpec.ofChange fnLastTermKeptBySnapshotWrong)

end Rows
end Go.Proofs.Qxb6604416a
