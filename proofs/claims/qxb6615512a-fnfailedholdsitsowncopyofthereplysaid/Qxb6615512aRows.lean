/-
  No cell of these rows narrows 'for every input' (looked for: loops, veiled, ifaces, maps, wideKeys, modest, calm, conditions, laid).
  DERIVED. THE GIVEN ROWS OF THIS SEAT. 1 by the template 'for every input the law returns true; each argument reads behind the call as it read before'; 0 by the template 'total and deterministic' (their statements: Qxb6615512aTotals.lean).
  GIVEN WITH THE SEED: the statements are not yours to turn. If you find one false, say at which input.
  Laid BY PROGRAM, IN A SANDBOX (cutbox-rows.mjs): the forced cells as the released guide's own fill.sh prints them over the translation 10744cd5c568b713… (all of the seat's roots in one cut). By AI agents, Wed Nov 11 2026. No macro, syntax, notation, axiom, sorry.
-/
import Derived.Test.Qxb6615512aChecked
import GoSem.Claim
import GoSem.ClaimJoined
import GoSem.ClaimMapViews
import Derived.JoinedTies
import Derived.KernelRfl
namespace Go.Proofs.Qxb6615512a
/- THE CELL 'sum', in the pinned program and in every row, IS THE sha256 OF THE DUMP (.gsa) THAT Qxb6615512aProg.lean LOADS. Nothing in Lean hashes anything: it is a label: what it is worth is what the hold of that sum in a sandbox is worth. -/
noncomputable def Try.pinned : Pinned := { name := "qxb6615512a", sum := "10744cd5c568b713fb34c014d1b3060bfae5e51f8ce20b761dc891fc66d3cfe0", checked := Try.checked }
namespace Rows
def none {H : Type} : Left H := { results := [], args := [] }

/-- 'zzlaws_internal_mock_b1.FnFailedHoldsItsOwnCopyOfTheReply': WHATEVER THE INPUT: true; the input reads as it did. -/
def fnFailedHoldsItsOwnCopyOfTheReplySpec : ChangeSpec := { name := "fnFailedHoldsItsOwnCopyOfTheReply", fn := fun _ => fun
  | [d1, d2, d3, d4, d5, d6] => { results := [.lit (.bool true)], args := [d1, d2, d3, d4, d5, d6] }
  | _ => none }
def fnFailedHoldsItsOwnCopyOfTheReplyRow : OpenClaim := { program := "qxb6615512a", sum := "10744cd5c568b713fb34c014d1b3060bfae5e51f8ce20b761dc891fc66d3cfe0", func := "example.com/barua/barua/zzlaws_internal_mock_b1.FnFailedHoldsItsOwnCopyOfTheReply", spec := "fnFailedHoldsItsOwnCopyOfTheReply", apart := false }
def FnFailedHoldsItsOwnCopyOfTheReplySaid : Prop := fnFailedHoldsItsOwnCopyOfTheReplyRow.holds Try.pinned (OpenSpec.ofChange fnFailedHoldsItsOwnCopyOfTheReplySpec)

/-- ITS FALSE NEIGHBOUR: 'it returns false'. Refute it at one input. -/
def fnFailedHoldsItsOwnCopyOfTheReplyWrong : ChangeSpec := { name := "fnFailedHoldsItsOwnCopyOfTheReply", fn := fun _ => fun
  | [d1, d2, d3, d4, d5, d6] => { results := [.lit (.bool false)], args := [d1, d2, d3, d4, d5, d6] }
  | _ => none }
def FnFailedHoldsItsOwnCopyOfTheReplyWrongFalsely : Prop := fnFailedHoldsItsOwnCopyOfTheReplyRow.holds Try.pinned (OpenSpec.ofChange fnFailedHoldsItsOwnCopyOfTheReplyWrong)

end Rows
end Go.Proofs.Qxb6615512a
