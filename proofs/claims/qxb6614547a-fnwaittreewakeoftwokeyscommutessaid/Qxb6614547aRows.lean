/-
  NARROWER THAN 'FOR EVERY INPUT', by the rows' own cells (each row's printed sentence says how): FnWaitTreeWakeTwiceWakesExactlyTheHolders: loops · FnWaitTreeWakeOfTwoKeysCommutes: loops.
  DERIVED. THE GIVEN ROWS OF THIS SEAT. 4 by the template 'for every input the law returns true; each argument reads behind the call as it read before'; 0 by the template 'total and deterministic' (their statements: Qxb6614547aTotals.lean).
  GIVEN WITH THE SEED: the statements are not yours to turn. If you find one false, say at which input.
  Laid BY PROGRAM, IN A SANDBOX (cutbox-rows.mjs): the forced cells as the released guide's own fill.sh prints them over the translation f1f6e6cf88c24dc1… (all of the seat's roots in one cut). By AI agents, Wed Nov 11 2026. No macro, syntax, notation, axiom, sorry.
-/
import Derived.Test.Qxb6614547aChecked
import GoSem.Claim
import GoSem.ClaimJoined
import GoSem.ClaimMapViews
import Derived.JoinedTies
import Derived.KernelRfl
namespace Go.Proofs.Qxb6614547a
/- THE CELL 'sum', in the pinned program and in every row, IS THE sha256 OF THE DUMP (.gsa) THAT Qxb6614547aProg.lean LOADS. Nothing in Lean hashes anything: it is a label: what it is worth is what the hold of that sum in a sandbox is worth. -/
noncomputable def Try.pinned : Pinned := { name := "qxb6614547a", sum := "f1f6e6cf88c24dc14a9bf3846a69c4e16835e72033be0ed9fd8104550e7a1ad8", checked := Try.checked }
namespace Rows
def none {H : Type} : Left H := { results := [], args := [] }

/-- 'zzlaws_pkg_kv_b1.FnResultWithDecodesBackAndIsInjective': WHATEVER THE INPUT: true; the input reads as it did. -/
def fnResultWithDecodesBackAndIsInjectiveSpec : ChangeSpec := { name := "fnResultWithDecodesBackAndIsInjective", fn := fun _ => fun
  | [d1, d2, d3, d4] => { results := [.lit (.bool true)], args := [d1, d2, d3, d4] }
  | _ => none }
def fnResultWithDecodesBackAndIsInjectiveRow : OpenClaim := { program := "qxb6614547a", sum := "f1f6e6cf88c24dc14a9bf3846a69c4e16835e72033be0ed9fd8104550e7a1ad8", func := "example.com/foldline/foldline/zzlaws_pkg_kv_b1.FnResultWithDecodesBackAndIsInjective", spec := "fnResultWithDecodesBackAndIsInjective", apart := false }
def FnResultWithDecodesBackAndIsInjectiveSaid : Prop := fnResultWithDecodesBackAndIsInjectiveRow.holds Try.pinned (OpenSpec.ofChange fnResultWithDecodesBackAndIsInjectiveSpec)

/-- ITS FALSE NEIGHBOUR: 'it returns false'. Refute it at one input. -/
def fnResultWithDecodesBackAndIsInjectiveWrong : ChangeSpec := { name := "fnResultWithDecodesBackAndIsInjective", fn := fun _ => fun
  | [d1, d2, d3, d4] => { results := [.lit (.bool false)], args := [d1, d2, d3, d4] }
  | _ => none }
def FnResultWithDecodesBackAndIsInjectiveWrongFalsely : Prop := fnResultWithDecodesBackAndIsInjectiveRow.holds Try.pinned (OpenSpec.ofChange fnResultWithDecodesBackAndIsInjectiveWrong)

/-- 'zzlaws_pkg_kv_b1.FnResultWithIsShortestAndPrefixFree': WHATEVER THE INPUT: true; the input reads as it did. -/
def fnResultWithIsShortestAndPrefixFreeSpec : ChangeSpec := { name := "fnResultWithIsShortestAndPrefixFree", fn := fun _ => fun
  | [d1, d2, d3, d4] => { results := [.lit (.bool true)], args := [d1, d2, d3, d4] }
  | _ => none }
def fnResultWithIsShortestAndPrefixFreeRow : OpenClaim := { program := "qxb6614547a", sum := "f1f6e6cf88c24dc14a9bf3846a69c4e16835e72033be0ed9fd8104550e7a1ad8", func := "example.com/foldline/foldline/zzlaws_pkg_kv_b1.FnResultWithIsShortestAndPrefixFree", spec := "fnResultWithIsShortestAndPrefixFree", apart := false }
def FnResultWithIsShortestAndPrefixFreeSaid : Prop := fnResultWithIsShortestAndPrefixFreeRow.holds Try.pinned (OpenSpec.ofChange fnResultWithIsShortestAndPrefixFreeSpec)

/-- ITS FALSE NEIGHBOUR: 'it returns false'. Refute it at one input. -/
def fnResultWithIsShortestAndPrefixFreeWrong : ChangeSpec := { name := "fnResultWithIsShortestAndPrefixFree", fn := fun _ => fun
  | [d1, d2, d3, d4] => { results := [.lit (.bool false)], args := [d1, d2, d3, d4] }
  | _ => none }
def FnResultWithIsShortestAndPrefixFreeWrongFalsely : Prop := fnResultWithIsShortestAndPrefixFreeRow.holds Try.pinned (OpenSpec.ofChange fnResultWithIsShortestAndPrefixFreeWrong)

/-- 'zzlaws_pkg_kv_b1.FnWaitTreeWakeTwiceWakesExactlyTheHolders': WHATEVER THE INPUT: true; the input reads as it did. -/
def fnWaitTreeWakeTwiceWakesExactlyTheHoldersSpec : ChangeSpec := { name := "fnWaitTreeWakeTwiceWakesExactlyTheHolders", fn := fun _ => fun
  | [d1, d2, d3, d4, d5, d6, d7] => { results := [.lit (.bool true)], args := [d1, d2, d3, d4, d5, d6, d7] }
  | _ => none }
def fnWaitTreeWakeTwiceWakesExactlyTheHoldersRow : OpenClaim := { program := "qxb6614547a", sum := "f1f6e6cf88c24dc14a9bf3846a69c4e16835e72033be0ed9fd8104550e7a1ad8", func := "example.com/foldline/foldline/zzlaws_pkg_kv_b1.FnWaitTreeWakeTwiceWakesExactlyTheHolders", spec := "fnWaitTreeWakeTwiceWakesExactlyTheHolders", recurses := true, loops := true, apart := false }
def FnWaitTreeWakeTwiceWakesExactlyTheHoldersSaid : Prop := fnWaitTreeWakeTwiceWakesExactlyTheHoldersRow.holds Try.pinned (OpenSpec.ofChange fnWaitTreeWakeTwiceWakesExactlyTheHoldersSpec)

/-- ITS FALSE NEIGHBOUR: 'it returns false'. Refute it at one input. -/
def fnWaitTreeWakeTwiceWakesExactlyTheHoldersWrong : ChangeSpec := { name := "fnWaitTreeWakeTwiceWakesExactlyTheHolders", fn := fun _ => fun
  | [d1, d2, d3, d4, d5, d6, d7] => { results := [.lit (.bool false)], args := [d1, d2, d3, d4, d5, d6, d7] }
  | _ => none }
def FnWaitTreeWakeTwiceWakesExactlyTheHoldersWrongFalsely : Prop := fnWaitTreeWakeTwiceWakesExactlyTheHoldersRow.holds Try.pinned (OpenSpec.ofChange fnWaitTreeWakeTwiceWakesExactlyTheHoldersWrong)

/-- 'zzlaws_pkg_kv_b1.FnWaitTreeWakeOfTwoKeysCommutes': WHATEVER THE INPUT: true; the input reads as it did. -/
def fnWaitTreeWakeOfTwoKeysCommutesSpec : ChangeSpec := { name := "fnWaitTreeWakeOfTwoKeysCommutes", fn := fun _ => fun
  | [d1, d2, d3, d4, d5, d6] => { results := [.lit (.bool true)], args := [d1, d2, d3, d4, d5, d6] }
  | _ => none }
def fnWaitTreeWakeOfTwoKeysCommutesRow : OpenClaim := { program := "qxb6614547a", sum := "f1f6e6cf88c24dc14a9bf3846a69c4e16835e72033be0ed9fd8104550e7a1ad8", func := "example.com/foldline/foldline/zzlaws_pkg_kv_b1.FnWaitTreeWakeOfTwoKeysCommutes", spec := "fnWaitTreeWakeOfTwoKeysCommutes", recurses := true, loops := true, apart := false }
def FnWaitTreeWakeOfTwoKeysCommutesSaid : Prop := fnWaitTreeWakeOfTwoKeysCommutesRow.holds Try.pinned (OpenSpec.ofChange fnWaitTreeWakeOfTwoKeysCommutesSpec)

/-- ITS FALSE NEIGHBOUR: 'it returns false'. Refute it at one input. -/
def fnWaitTreeWakeOfTwoKeysCommutesWrong : ChangeSpec := { name := "fnWaitTreeWakeOfTwoKeysCommutes", fn := fun _ => fun
  | [d1, d2, d3, d4, d5, d6] => { results := [.lit (.bool false)], args := [d1, d2, d3, d4, d5, d6] }
  | _ => none }
def FnWaitTreeWakeOfTwoKeysCommutesWrongFalsely : Prop := fnWaitTreeWakeOfTwoKeysCommutesRow.holds Try.pinned (OpenSpec.ofChange fnWaitTreeWakeOfTwoKeysCommutesWrong)

end Rows
end Go.Proofs.Qxb6614547a
