/-
  No cell of these rows narrows 'for every input' (looked for: loops, veiled, ifaces, maps, wideKeys, modest, calm, conditions, laid).
  DERIVED. THE GIVEN ROWS OF THIS SEAT. 5 by the template 'for every input the law returns true; each argument reads behind the call as it read before'; 0 by the template 'total and deterministic' (their statements: Qxb6614022aTotals.lean).
  GIVEN WITH THE SEED: the statements are not yours to turn. If you find one false, say at which input.
  Laid BY PROGRAM, IN A SANDBOX (cutbox-rows.mjs): the forced cells as the released guide's own fill.sh prints them over the translation 301edf809d6f9498… (all of the seat's roots in one cut). By AI agents, Wed Nov 11 2026. No macro, syntax, notation, axiom, sorry.
-/
import Derived.Test.Qxb6614022aChecked
import GoSem.Claim
import GoSem.ClaimJoined
import GoSem.ClaimMapViews
import Derived.JoinedTies
import Derived.KernelRfl
namespace Go.Proofs.Qxb6614022a
/- THE CELL 'sum', in the pinned program and in every row, IS THE sha256 OF THE DUMP (.gsa) THAT Qxb6614022aProg.lean LOADS. Nothing in Lean hashes anything: it is a label: what it is worth is what the hold of that sum in a sandbox is worth. -/
noncomputable def Try.pinned : Pinned := { name := "qxb6614022a", sum := "301edf809d6f9498ab63b7fb9215e7ef2f510ea95cd7ba4c7df6a2fdcd52714e", checked := Try.checked }
namespace Rows
def none {H : Type} : Left H := { results := [], args := [] }

/-- 'zzlaws_internal_engine_b1.FnResumeKeepsTheStateAndAbandonsEveryActiveTry': WHATEVER THE INPUT: true; the input reads as it did. -/
def fnResumeKeepsTheStateAndAbandonsEveryActiveTrySpec : ChangeSpec := { name := "fnResumeKeepsTheStateAndAbandonsEveryActiveTry", fn := fun _ => fun
  | [d1, d2, d3, d4, d5, d6] => { results := [.lit (.bool true)], args := [d1, d2, d3, d4, d5, d6] }
  | _ => none }
def fnResumeKeepsTheStateAndAbandonsEveryActiveTryRow : OpenClaim := { program := "qxb6614022a", sum := "301edf809d6f9498ab63b7fb9215e7ef2f510ea95cd7ba4c7df6a2fdcd52714e", func := "example.com/orrery/orrery/zzlaws_internal_engine_b1.FnResumeKeepsTheStateAndAbandonsEveryActiveTry", spec := "fnResumeKeepsTheStateAndAbandonsEveryActiveTry", unfollowed := true, recurses := true, apart := false }
def FnResumeKeepsTheStateAndAbandonsEveryActiveTrySaid : Prop := fnResumeKeepsTheStateAndAbandonsEveryActiveTryRow.holds Try.pinned (OpenSpec.ofChange fnResumeKeepsTheStateAndAbandonsEveryActiveTrySpec)

/-- ITS FALSE NEIGHBOUR: 'it returns false'. Refute it at one input. -/
def fnResumeKeepsTheStateAndAbandonsEveryActiveTryWrong : ChangeSpec := { name := "fnResumeKeepsTheStateAndAbandonsEveryActiveTry", fn := fun _ => fun
  | [d1, d2, d3, d4, d5, d6] => { results := [.lit (.bool false)], args := [d1, d2, d3, d4, d5, d6] }
  | _ => none }
def FnResumeKeepsTheStateAndAbandonsEveryActiveTryWrongFalsely : Prop := fnResumeKeepsTheStateAndAbandonsEveryActiveTryRow.holds Try.pinned (OpenSpec.ofChange fnResumeKeepsTheStateAndAbandonsEveryActiveTryWrong)

/-- 'zzlaws_internal_engine_b1.FnResumeOfTheStateItLeftIsAFixpoint': WHATEVER THE INPUT: true; the input reads as it did. -/
def fnResumeOfTheStateItLeftIsAFixpointSpec : ChangeSpec := { name := "fnResumeOfTheStateItLeftIsAFixpoint", fn := fun _ => fun
  | [d1, d2, d3, d4, d5, d6] => { results := [.lit (.bool true)], args := [d1, d2, d3, d4, d5, d6] }
  | _ => none }
def fnResumeOfTheStateItLeftIsAFixpointRow : OpenClaim := { program := "qxb6614022a", sum := "301edf809d6f9498ab63b7fb9215e7ef2f510ea95cd7ba4c7df6a2fdcd52714e", func := "example.com/orrery/orrery/zzlaws_internal_engine_b1.FnResumeOfTheStateItLeftIsAFixpoint", spec := "fnResumeOfTheStateItLeftIsAFixpoint", unfollowed := true, recurses := true, apart := false }
def FnResumeOfTheStateItLeftIsAFixpointSaid : Prop := fnResumeOfTheStateItLeftIsAFixpointRow.holds Try.pinned (OpenSpec.ofChange fnResumeOfTheStateItLeftIsAFixpointSpec)

/-- ITS FALSE NEIGHBOUR: 'it returns false'. Refute it at one input. -/
def fnResumeOfTheStateItLeftIsAFixpointWrong : ChangeSpec := { name := "fnResumeOfTheStateItLeftIsAFixpoint", fn := fun _ => fun
  | [d1, d2, d3, d4, d5, d6] => { results := [.lit (.bool false)], args := [d1, d2, d3, d4, d5, d6] }
  | _ => none }
def FnResumeOfTheStateItLeftIsAFixpointWrongFalsely : Prop := fnResumeOfTheStateItLeftIsAFixpointRow.holds Try.pinned (OpenSpec.ofChange fnResumeOfTheStateItLeftIsAFixpointWrong)

/-- 'zzlaws_internal_engine_b1.FnRequeueFollowsTheRulesAndASecondDoesNothing': WHATEVER THE INPUT: true; the input reads as it did. -/
def fnRequeueFollowsTheRulesAndASecondDoesNothingSpec : ChangeSpec := { name := "fnRequeueFollowsTheRulesAndASecondDoesNothing", fn := fun _ => fun
  | [d1, d2, d3, d4, d5, d6] => { results := [.lit (.bool true)], args := [d1, d2, d3, d4, d5, d6] }
  | _ => none }
def fnRequeueFollowsTheRulesAndASecondDoesNothingRow : OpenClaim := { program := "qxb6614022a", sum := "301edf809d6f9498ab63b7fb9215e7ef2f510ea95cd7ba4c7df6a2fdcd52714e", func := "example.com/orrery/orrery/zzlaws_internal_engine_b1.FnRequeueFollowsTheRulesAndASecondDoesNothing", spec := "fnRequeueFollowsTheRulesAndASecondDoesNothing", unfollowed := true, recurses := true, apart := false }
def FnRequeueFollowsTheRulesAndASecondDoesNothingSaid : Prop := fnRequeueFollowsTheRulesAndASecondDoesNothingRow.holds Try.pinned (OpenSpec.ofChange fnRequeueFollowsTheRulesAndASecondDoesNothingSpec)

/-- ITS FALSE NEIGHBOUR: 'it returns false'. Refute it at one input. -/
def fnRequeueFollowsTheRulesAndASecondDoesNothingWrong : ChangeSpec := { name := "fnRequeueFollowsTheRulesAndASecondDoesNothing", fn := fun _ => fun
  | [d1, d2, d3, d4, d5, d6] => { results := [.lit (.bool false)], args := [d1, d2, d3, d4, d5, d6] }
  | _ => none }
def FnRequeueFollowsTheRulesAndASecondDoesNothingWrongFalsely : Prop := fnRequeueFollowsTheRulesAndASecondDoesNothingRow.holds Try.pinned (OpenSpec.ofChange fnRequeueFollowsTheRulesAndASecondDoesNothingWrong)

/-- 'zzlaws_internal_engine_b1.FnRequeueChangesReplayBeforeIntoAfter': WHATEVER THE INPUT: true; the input reads as it did. -/
def fnRequeueChangesReplayBeforeIntoAfterSpec : ChangeSpec := { name := "fnRequeueChangesReplayBeforeIntoAfter", fn := fun _ => fun
  | [d1, d2, d3, d4, d5, d6] => { results := [.lit (.bool true)], args := [d1, d2, d3, d4, d5, d6] }
  | _ => none }
def fnRequeueChangesReplayBeforeIntoAfterRow : OpenClaim := { program := "qxb6614022a", sum := "301edf809d6f9498ab63b7fb9215e7ef2f510ea95cd7ba4c7df6a2fdcd52714e", func := "example.com/orrery/orrery/zzlaws_internal_engine_b1.FnRequeueChangesReplayBeforeIntoAfter", spec := "fnRequeueChangesReplayBeforeIntoAfter", unfollowed := true, recurses := true, apart := false }
def FnRequeueChangesReplayBeforeIntoAfterSaid : Prop := fnRequeueChangesReplayBeforeIntoAfterRow.holds Try.pinned (OpenSpec.ofChange fnRequeueChangesReplayBeforeIntoAfterSpec)

/-- ITS FALSE NEIGHBOUR: 'it returns false'. Refute it at one input. -/
def fnRequeueChangesReplayBeforeIntoAfterWrong : ChangeSpec := { name := "fnRequeueChangesReplayBeforeIntoAfter", fn := fun _ => fun
  | [d1, d2, d3, d4, d5, d6] => { results := [.lit (.bool false)], args := [d1, d2, d3, d4, d5, d6] }
  | _ => none }
def FnRequeueChangesReplayBeforeIntoAfterWrongFalsely : Prop := fnRequeueChangesReplayBeforeIntoAfterRow.holds Try.pinned (OpenSpec.ofChange fnRequeueChangesReplayBeforeIntoAfterWrong)

/-- 'zzlaws_internal_engine_b1.FnSwapChainRotatesLeftByOne': WHATEVER THE INPUT: true; the input reads as it did. -/
def fnSwapChainRotatesLeftByOneSpec : ChangeSpec := { name := "fnSwapChainRotatesLeftByOne", fn := fun _ => fun
  | [d] => { results := [.lit (.bool true)], args := [d] }
  | _ => none }
def fnSwapChainRotatesLeftByOneRow : OpenClaim := { program := "qxb6614022a", sum := "301edf809d6f9498ab63b7fb9215e7ef2f510ea95cd7ba4c7df6a2fdcd52714e", func := "example.com/orrery/orrery/zzlaws_internal_engine_b1.FnSwapChainRotatesLeftByOne", spec := "fnSwapChainRotatesLeftByOne", apart := false }
def FnSwapChainRotatesLeftByOneSaid : Prop := fnSwapChainRotatesLeftByOneRow.holds Try.pinned (OpenSpec.ofChange fnSwapChainRotatesLeftByOneSpec)

/-- ITS FALSE NEIGHBOUR: 'it returns false'. Refute it at one input. -/
def fnSwapChainRotatesLeftByOneWrong : ChangeSpec := { name := "fnSwapChainRotatesLeftByOne", fn := fun _ => fun
  | [d] => { results := [.lit (.bool false)], args := [d] }
  | _ => none }
def FnSwapChainRotatesLeftByOneWrongFalsely : Prop := fnSwapChainRotatesLeftByOneRow.holds Try.pinned (OpenSpec.ofChange fnSwapChainRotatesLeftByOneWrong)

end Rows
end Go.Proofs.Qxb6614022a
