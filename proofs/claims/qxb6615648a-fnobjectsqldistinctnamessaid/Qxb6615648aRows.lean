/-
  No cell of these rows narrows 'for every input' (looked for: loops, veiled, ifaces, maps, wideKeys, modest, calm, conditions, laid).
  DERIVED. THE GIVEN ROWS OF THIS SEAT. 2 by the template 'for every input the law returns true; each argument reads behind the call as it read before'; 0 by the template 'total and deterministic' (their statements: Qxb6615648aTotals.lean).
  GIVEN WITH THE SEED: the statements are not yours to turn. If you find one false, say at which input.
  Laid BY PROGRAM, IN A SANDBOX (cutbox-rows.mjs): the forced cells as the released guide's own fill.sh prints them over the translation 27ff0fd90b23a17f… (all of the seat's roots in one cut). By AI agents, Wed Nov 11 2026. No macro, syntax, notation, axiom, sorry.
-/
import Derived.Test.Qxb6615648aChecked
import GoSem.Claim
import GoSem.ClaimJoined
import GoSem.ClaimMapViews
import Derived.JoinedTies
import Derived.KernelRfl
namespace Go.Proofs.Qxb6615648a
/- THE CELL 'sum', in the pinned program and in every row, IS THE sha256 OF THE DUMP (.gsa) THAT Qxb6615648aProg.lean LOADS. Nothing in Lean hashes anything: it is a label: what it is worth is what the hold of that sum in a sandbox is worth. -/
noncomputable def Try.pinned : Pinned := { name := "qxb6615648a", sum := "27ff0fd90b23a17f8f06e67a74c28119afccb44e92cece356b563768867797d4", checked := Try.checked }
namespace Rows
def none {H : Type} : Left H := { results := [], args := [] }

/-- 'zzlaws_internal_writeset_b1.FnObjectSQLFixedFrame': WHATEVER THE INPUT: true; the input reads as it did. -/
def fnObjectSQLFixedFrameSpec : ChangeSpec := { name := "fnObjectSQLFixedFrame", fn := fun _ => fun
  | [d1, d2, d3, d4] => { results := [.lit (.bool true)], args := [d1, d2, d3, d4] }
  | _ => none }
def fnObjectSQLFixedFrameRow : OpenClaim := { program := "qxb6615648a", sum := "27ff0fd90b23a17f8f06e67a74c28119afccb44e92cece356b563768867797d4", func := "example.com/isoband/isoband/zzlaws_internal_writeset_b1.FnObjectSQLFixedFrame", spec := "fnObjectSQLFixedFrame", apart := false }
def FnObjectSQLFixedFrameSaid : Prop := fnObjectSQLFixedFrameRow.holds Try.pinned (OpenSpec.ofChange fnObjectSQLFixedFrameSpec)

/-- ITS FALSE NEIGHBOUR: 'it returns false'. Refute it at one input. -/
def fnObjectSQLFixedFrameWrong : ChangeSpec := { name := "fnObjectSQLFixedFrame", fn := fun _ => fun
  | [d1, d2, d3, d4] => { results := [.lit (.bool false)], args := [d1, d2, d3, d4] }
  | _ => none }
def FnObjectSQLFixedFrameWrongFalsely : Prop := fnObjectSQLFixedFrameRow.holds Try.pinned (OpenSpec.ofChange fnObjectSQLFixedFrameWrong)

/-- 'zzlaws_internal_writeset_b1.FnObjectSQLDistinctNames': WHATEVER THE INPUT: true; the input reads as it did. -/
def fnObjectSQLDistinctNamesSpec : ChangeSpec := { name := "fnObjectSQLDistinctNames", fn := fun _ => fun
  | [d1, d2, d3, d4] => { results := [.lit (.bool true)], args := [d1, d2, d3, d4] }
  | _ => none }
def fnObjectSQLDistinctNamesRow : OpenClaim := { program := "qxb6615648a", sum := "27ff0fd90b23a17f8f06e67a74c28119afccb44e92cece356b563768867797d4", func := "example.com/isoband/isoband/zzlaws_internal_writeset_b1.FnObjectSQLDistinctNames", spec := "fnObjectSQLDistinctNames", apart := false }
def FnObjectSQLDistinctNamesSaid : Prop := fnObjectSQLDistinctNamesRow.holds Try.pinned (OpenSpec.ofChange fnObjectSQLDistinctNamesSpec)

/-- ITS FALSE NEIGHBOUR: 'it returns false'. Refute it at one input. -/
def fnObjectSQLDistinctNamesWrong : ChangeSpec := { name := "fnObjectSQLDistinctNames", fn := fun _ => fun
  | [d1, d2, d3, d4] => { results := [.lit (.bool false)], args := [d1, d2, d3, d4] }
  | _ => none }
def FnObjectSQLDistinctNamesWrongFalsely : Prop := fnObjectSQLDistinctNamesRow.holds Try.pinned (OpenSpec.ofChange fnObjectSQLDistinctNamesWrong)

end Rows
end Go.Proofs.Qxb6615648a
