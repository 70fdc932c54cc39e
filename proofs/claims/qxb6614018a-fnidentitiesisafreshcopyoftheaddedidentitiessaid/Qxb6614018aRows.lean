/-
  No cell of these rows narrows 'for every input' (looked for: loops, veiled, ifaces, maps, wideKeys, modest, calm, conditions, laid).
  DERIVED. THE GIVEN ROWS OF THIS SEAT. 1 by the template 'for every input the law returns true; each argument reads behind the call as it read before'; 0 by the template 'total and deterministic' (their statements: Qxb6614018aTotals.lean).
  GIVEN WITH THE SEED: the statements are not yours to turn. If you find one false, say at which input.
  Laid BY PROGRAM, IN A SANDBOX (cutbox-rows.mjs): the forced cells as the released guide's own fill.sh prints them over the translation ae0e18778df5a83e… (all of the seat's roots in one cut). By AI agents, Wed Nov 11 2026. No macro, syntax, notation, axiom, sorry.
-/
import Derived.Test.Qxb6614018aChecked
import GoSem.Claim
import GoSem.ClaimJoined
import GoSem.ClaimMapViews
import Derived.JoinedTies
import Derived.KernelRfl
namespace Go.Proofs.Qxb6614018a
/- THE CELL 'sum', in the pinned program and in every row, IS THE sha256 OF THE DUMP (.gsa) THAT Qxb6614018aProg.lean LOADS. Nothing in Lean hashes anything: it is a label: what it is worth is what the hold of that sum in a sandbox is worth. -/
noncomputable def Try.pinned : Pinned := { name := "qxb6614018a", sum := "ae0e18778df5a83e63d176b95d9bea68073154996239b5692ce90dc1c594abf8", checked := Try.checked }
namespace Rows
def none {H : Type} : Left H := { results := [], args := [] }

/-- 'zzlaws_client_b1.FnIdentitiesIsAFreshCopyOfTheAddedIdentities': WHATEVER THE INPUT: true; the input reads as it did. -/
def fnIdentitiesIsAFreshCopyOfTheAddedIdentitiesSpec : ChangeSpec := { name := "fnIdentitiesIsAFreshCopyOfTheAddedIdentities", fn := fun _ => fun
  | [d1, d2, d3] => { results := [.lit (.bool true)], args := [d1, d2, d3] }
  | _ => none }
def fnIdentitiesIsAFreshCopyOfTheAddedIdentitiesRow : OpenClaim := { program := "qxb6614018a", sum := "ae0e18778df5a83e63d176b95d9bea68073154996239b5692ce90dc1c594abf8", func := "example.com/reconvene/reconvene/zzlaws_client_b1.FnIdentitiesIsAFreshCopyOfTheAddedIdentities", spec := "fnIdentitiesIsAFreshCopyOfTheAddedIdentities", inPlace := ["(*internal/sync.Mutex).Lock", "internal/race.Disable", "sync/atomic.CompareAndSwapInt32", "internal/race.Enable", "internal/race.Acquire", "(*internal/sync.Mutex).lockSlow", "internal/sync.runtime_canSpin", "internal/sync.runtime_doSpin", "internal/sync.throw", "internal/sync.runtime_nanotime", "internal/sync.runtime_SemacquireMutex", "sync/atomic.AddInt32", "(*internal/sync.Mutex).Unlock", "internal/race.ReleaseMerge", "(*internal/sync.Mutex).unlockSlow", "internal/sync.fatal", "internal/sync.runtime_Semrelease"], apart := false }
def FnIdentitiesIsAFreshCopyOfTheAddedIdentitiesSaid : Prop := fnIdentitiesIsAFreshCopyOfTheAddedIdentitiesRow.holds Try.pinned (OpenSpec.ofChange fnIdentitiesIsAFreshCopyOfTheAddedIdentitiesSpec)

/-- ITS FALSE NEIGHBOUR: 'it returns false'. Refute it at one input. -/
def fnIdentitiesIsAFreshCopyOfTheAddedIdentitiesWrong : ChangeSpec := { name := "fnIdentitiesIsAFreshCopyOfTheAddedIdentities", fn := fun _ => fun
  | [d1, d2, d3] => { results := [.lit (.bool false)], args := [d1, d2, d3] }
  | _ => none }
def FnIdentitiesIsAFreshCopyOfTheAddedIdentitiesWrongFalsely : Prop := fnIdentitiesIsAFreshCopyOfTheAddedIdentitiesRow.holds Try.pinned (OpenSpec.ofChange fnIdentitiesIsAFreshCopyOfTheAddedIdentitiesWrong)

end Rows
end Go.Proofs.Qxb6614018a
