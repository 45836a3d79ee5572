/-
  No cell of these rows narrows 'for every input' (looked for: loops, veiled, ifaces, maps, wideKeys, modest, calm, conditions, laid).
  DERIVED. THE GIVEN ROWS OF THIS SEAT. 2 by the template 'for every input the law returns true; each argument reads behind the call as it read before'; 0 by the template 'total and deterministic' (their statements: Qxb6615065aTotals.lean).
  GIVEN WITH THE SEED: the statements are not yours to turn. If you find one false, say at which input.
  Laid BY PROGRAM, IN A SANDBOX (cutbox-rows.mjs): the forced cells as the released guide's own fill.sh prints them over the translation 10c00caab61efcc3… (all of the seat's roots in one cut). By AI agents, Wed Nov 11 2026. No macro, syntax, notation, axiom, sorry.
-/
import Derived.Test.Qxb6615065aChecked
import GoSem.Claim
import GoSem.ClaimJoined
import GoSem.ClaimMapViews
import Derived.JoinedTies
import Derived.KernelRfl
namespace Go.Proofs.Qxb6615065a
/- THE CELL 'sum', in the pinned program and in every row, IS THE sha256 OF THE DUMP (.gsa) THAT Qxb6615065aProg.lean LOADS. Nothing in Lean hashes anything: it is a label: what it is worth is what the hold of that sum in a sandbox is worth. -/
noncomputable def Try.pinned : Pinned := { name := "qxb6615065a", sum := "10c00caab61efcc3f2d7bd88133b40119571029771493c67b0e101c2fd2ea09b", checked := Try.checked }
namespace Rows
def none {H : Type} : Left H := { results := [], args := [] }

/-- 'zzlaws_root_b1.FnJoinsRepeatAndUnreadable': WHATEVER THE INPUT: true; the input reads as it did. -/
def fnJoinsRepeatAndUnreadableSpec : ChangeSpec := { name := "fnJoinsRepeatAndUnreadable", fn := fun _ => fun
  | [d1, d2, d3, d4, d5] => { results := [.lit (.bool true)], args := [d1, d2, d3, d4, d5] }
  | _ => none }
def fnJoinsRepeatAndUnreadableRow : OpenClaim := { program := "qxb6615065a", sum := "10c00caab61efcc3f2d7bd88133b40119571029771493c67b0e101c2fd2ea09b", func := "example.com/counterstep/counterstep/zzlaws_root_b1.FnJoinsRepeatAndUnreadable", spec := "fnJoinsRepeatAndUnreadable", inPlace := ["sync/atomic.StoreUint32", "sync/atomic.LoadUint32"], apart := false }
def FnJoinsRepeatAndUnreadableSaid : Prop := fnJoinsRepeatAndUnreadableRow.holds Try.pinned (OpenSpec.ofChange fnJoinsRepeatAndUnreadableSpec)

/-- ITS FALSE NEIGHBOUR: 'it returns false'. Refute it at one input. -/
def fnJoinsRepeatAndUnreadableWrong : ChangeSpec := { name := "fnJoinsRepeatAndUnreadable", fn := fun _ => fun
  | [d1, d2, d3, d4, d5] => { results := [.lit (.bool false)], args := [d1, d2, d3, d4, d5] }
  | _ => none }
def FnJoinsRepeatAndUnreadableWrongFalsely : Prop := fnJoinsRepeatAndUnreadableRow.holds Try.pinned (OpenSpec.ofChange fnJoinsRepeatAndUnreadableWrong)

/-- 'zzlaws_root_b1.FnLastArrivalReportsEachRecorded': WHATEVER THE INPUT: true; the input reads as it did. -/
def fnLastArrivalReportsEachRecordedSpec : ChangeSpec := { name := "fnLastArrivalReportsEachRecorded", fn := fun _ => fun
  | [d1, d2, d3] => { results := [.lit (.bool true)], args := [d1, d2, d3] }
  | _ => none }
def fnLastArrivalReportsEachRecordedRow : OpenClaim := { program := "qxb6615065a", sum := "10c00caab61efcc3f2d7bd88133b40119571029771493c67b0e101c2fd2ea09b", func := "example.com/counterstep/counterstep/zzlaws_root_b1.FnLastArrivalReportsEachRecorded", spec := "fnLastArrivalReportsEachRecorded", apart := false }
def FnLastArrivalReportsEachRecordedSaid : Prop := fnLastArrivalReportsEachRecordedRow.holds Try.pinned (OpenSpec.ofChange fnLastArrivalReportsEachRecordedSpec)

/-- ITS FALSE NEIGHBOUR: 'it returns false'. Refute it at one input. -/
def fnLastArrivalReportsEachRecordedWrong : ChangeSpec := { name := "fnLastArrivalReportsEachRecorded", fn := fun _ => fun
  | [d1, d2, d3] => { results := [.lit (.bool false)], args := [d1, d2, d3] }
  | _ => none }
def FnLastArrivalReportsEachRecordedWrongFalsely : Prop := fnLastArrivalReportsEachRecordedRow.holds Try.pinned (OpenSpec.ofChange fnLastArrivalReportsEachRecordedWrong)

end Rows
end Go.Proofs.Qxb6615065a
