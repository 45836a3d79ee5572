/-
  No cell of these rows narrows 'for every input' (looked for: loops, veiled, ifaces, maps, wideKeys, modest, calm, conditions, laid).
  DERIVED. THE GIVEN ROWS OF THIS SEAT. 2 by the template 'for every input the law returns true; each argument reads behind the call as it read before'; 0 by the template 'total and deterministic' (their statements: Qxb6614942aTotals.lean).
  GIVEN WITH THE SEED: the statements are not yours to turn. If you find one false, say at which input.
  Laid BY PROGRAM, IN A SANDBOX (cutbox-rows.mjs): the forced cells as the released guide's own fill.sh prints them over the translation 99cbe336b949cec8… (all of the seat's roots in one cut). By AI agents, Wed Nov 11 2026. No macro, syntax, notation, axiom, sorry.
-/
import Derived.Test.Qxb6614942aChecked
import GoSem.Claim
import GoSem.ClaimJoined
import GoSem.ClaimMapViews
import Derived.JoinedTies
import Derived.KernelRfl
namespace Go.Proofs.Qxb6614942a
/- THE CELL 'sum', in the pinned program and in every row, IS THE sha256 OF THE DUMP (.gsa) THAT Qxb6614942aProg.lean LOADS. Nothing in Lean hashes anything: it is a label: what it is worth is what the hold of that sum in a sandbox is worth. -/
noncomputable def Try.pinned : Pinned := { name := "qxb6614942a", sum := "99cbe336b949cec8d94c698e05669cab11a081a0c0d43c5ef49f7ea3596ab86e", checked := Try.checked }
namespace Rows
def none {H : Type} : Left H := { results := [], args := [] }

/-- 'zzlaws_internal_output_b1.FnFlushAtAnyCutWritesAllOnce': WHATEVER THE INPUT: true; the input reads as it did. -/
def fnFlushAtAnyCutWritesAllOnceSpec : ChangeSpec := { name := "fnFlushAtAnyCutWritesAllOnce", fn := fun _ => fun
  | [d1, d2, d3, d4, d5] => { results := [.lit (.bool true)], args := [d1, d2, d3, d4, d5] }
  | _ => none }
def fnFlushAtAnyCutWritesAllOnceRow : OpenClaim := { program := "qxb6614942a", sum := "99cbe336b949cec8d94c698e05669cab11a081a0c0d43c5ef49f7ea3596ab86e", func := "example.com/tpat/tpat/zzlaws_internal_output_b1.FnFlushAtAnyCutWritesAllOnce", spec := "fnFlushAtAnyCutWritesAllOnce", unfollowed := true, recurses := true, apart := false }
def FnFlushAtAnyCutWritesAllOnceSaid : Prop := fnFlushAtAnyCutWritesAllOnceRow.holds Try.pinned (OpenSpec.ofChange fnFlushAtAnyCutWritesAllOnceSpec)

/-- ITS FALSE NEIGHBOUR: 'it returns false'. Refute it at one input. -/
def fnFlushAtAnyCutWritesAllOnceWrong : ChangeSpec := { name := "fnFlushAtAnyCutWritesAllOnce", fn := fun _ => fun
  | [d1, d2, d3, d4, d5] => { results := [.lit (.bool false)], args := [d1, d2, d3, d4, d5] }
  | _ => none }
def FnFlushAtAnyCutWritesAllOnceWrongFalsely : Prop := fnFlushAtAnyCutWritesAllOnceRow.holds Try.pinned (OpenSpec.ofChange fnFlushAtAnyCutWritesAllOnceWrong)

/-- 'zzlaws_internal_output_b1.FnFlushTwiceWritesOnce': WHATEVER THE INPUT: true; the input reads as it did. -/
def fnFlushTwiceWritesOnceSpec : ChangeSpec := { name := "fnFlushTwiceWritesOnce", fn := fun _ => fun
  | [d1, d2, d3, d4] => { results := [.lit (.bool true)], args := [d1, d2, d3, d4] }
  | _ => none }
def fnFlushTwiceWritesOnceRow : OpenClaim := { program := "qxb6614942a", sum := "99cbe336b949cec8d94c698e05669cab11a081a0c0d43c5ef49f7ea3596ab86e", func := "example.com/tpat/tpat/zzlaws_internal_output_b1.FnFlushTwiceWritesOnce", spec := "fnFlushTwiceWritesOnce", unfollowed := true, recurses := true, apart := false }
def FnFlushTwiceWritesOnceSaid : Prop := fnFlushTwiceWritesOnceRow.holds Try.pinned (OpenSpec.ofChange fnFlushTwiceWritesOnceSpec)

/-- ITS FALSE NEIGHBOUR: 'it returns false'. Refute it at one input. -/
def fnFlushTwiceWritesOnceWrong : ChangeSpec := { name := "fnFlushTwiceWritesOnce", fn := fun _ => fun
  | [d1, d2, d3, d4] => { results := [.lit (.bool false)], args := [d1, d2, d3, d4] }
  | _ => none }
def FnFlushTwiceWritesOnceWrongFalsely : Prop := fnFlushTwiceWritesOnceRow.holds Try.pinned (OpenSpec.ofChange fnFlushTwiceWritesOnceWrong)

end Rows
end Go.Proofs.Qxb6614942a
