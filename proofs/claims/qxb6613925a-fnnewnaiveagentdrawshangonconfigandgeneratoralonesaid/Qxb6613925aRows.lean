/-
  No cell of these rows narrows 'for every input' (looked for: loops, veiled, ifaces, maps, wideKeys, modest, calm, conditions, laid).
  DERIVED. THE GIVEN ROWS OF THIS SEAT. 3 by the template 'for every input the law returns true; each argument reads behind the call as it read before'; 0 by the template 'total and deterministic' (their statements: Qxb6613925aTotals.lean).
  GIVEN WITH THE SEED: the statements are not yours to turn. If you find one false, say at which input.
  Laid BY PROGRAM, IN A SANDBOX (cutbox-rows.mjs): the forced cells as the released guide's own fill.sh prints them over the translation b6a8a6d34936af28… (all of the seat's roots in one cut). By AI agents, Wed Nov 11 2026. No macro, syntax, notation, axiom, sorry.
-/
import Derived.Test.Qxb6613925aChecked
import GoSem.Claim
import GoSem.ClaimJoined
import GoSem.ClaimMapViews
import Derived.JoinedTies
import Derived.KernelRfl
namespace Go.Proofs.Qxb6613925a
/- THE CELL 'sum', in the pinned program and in every row, IS THE sha256 OF THE DUMP (.gsa) THAT Qxb6613925aProg.lean LOADS. Nothing in Lean hashes anything: it is a label: what it is worth is what the hold of that sum in a sandbox is worth. -/
noncomputable def Try.pinned : Pinned := { name := "qxb6613925a", sum := "b6a8a6d34936af28cc837509d51deadba674a8230bf1c4df8c4d052e723ca898", checked := Try.checked }
namespace Rows
def none {H : Type} : Left H := { results := [], args := [] }

/-- 'zzlaws_root_b1.FnLineAtTwoPointsGiveAwayTheLine': WHATEVER THE INPUT: true; the input reads as it did. -/
def fnLineAtTwoPointsGiveAwayTheLineSpec : ChangeSpec := { name := "fnLineAtTwoPointsGiveAwayTheLine", fn := fun _ => fun
  | [d1, d2, d3, d4] => { results := [.lit (.bool true)], args := [d1, d2, d3, d4] }
  | _ => none }
def fnLineAtTwoPointsGiveAwayTheLineRow : OpenClaim := { program := "qxb6613925a", sum := "b6a8a6d34936af28cc837509d51deadba674a8230bf1c4df8c4d052e723ca898", func := "example.com/concordat/concordat/zzlaws_root_b1.FnLineAtTwoPointsGiveAwayTheLine", spec := "fnLineAtTwoPointsGiveAwayTheLine", apart := false }
def FnLineAtTwoPointsGiveAwayTheLineSaid : Prop := fnLineAtTwoPointsGiveAwayTheLineRow.holds Try.pinned (OpenSpec.ofChange fnLineAtTwoPointsGiveAwayTheLineSpec)

/-- ITS FALSE NEIGHBOUR: 'it returns false'. Refute it at one input. -/
def fnLineAtTwoPointsGiveAwayTheLineWrong : ChangeSpec := { name := "fnLineAtTwoPointsGiveAwayTheLine", fn := fun _ => fun
  | [d1, d2, d3, d4] => { results := [.lit (.bool false)], args := [d1, d2, d3, d4] }
  | _ => none }
def FnLineAtTwoPointsGiveAwayTheLineWrongFalsely : Prop := fnLineAtTwoPointsGiveAwayTheLineRow.holds Try.pinned (OpenSpec.ofChange fnLineAtTwoPointsGiveAwayTheLineWrong)

/-- 'zzlaws_root_b1.FnLineAtOneShareHidesTheSecret': WHATEVER THE INPUT: true; the input reads as it did. -/
def fnLineAtOneShareHidesTheSecretSpec : ChangeSpec := { name := "fnLineAtOneShareHidesTheSecret", fn := fun _ => fun
  | [d1, d2, d3, d4] => { results := [.lit (.bool true)], args := [d1, d2, d3, d4] }
  | _ => none }
def fnLineAtOneShareHidesTheSecretRow : OpenClaim := { program := "qxb6613925a", sum := "b6a8a6d34936af28cc837509d51deadba674a8230bf1c4df8c4d052e723ca898", func := "example.com/concordat/concordat/zzlaws_root_b1.FnLineAtOneShareHidesTheSecret", spec := "fnLineAtOneShareHidesTheSecret", apart := false }
def FnLineAtOneShareHidesTheSecretSaid : Prop := fnLineAtOneShareHidesTheSecretRow.holds Try.pinned (OpenSpec.ofChange fnLineAtOneShareHidesTheSecretSpec)

/-- ITS FALSE NEIGHBOUR: 'it returns false'. Refute it at one input. -/
def fnLineAtOneShareHidesTheSecretWrong : ChangeSpec := { name := "fnLineAtOneShareHidesTheSecret", fn := fun _ => fun
  | [d1, d2, d3, d4] => { results := [.lit (.bool false)], args := [d1, d2, d3, d4] }
  | _ => none }
def FnLineAtOneShareHidesTheSecretWrongFalsely : Prop := fnLineAtOneShareHidesTheSecretRow.holds Try.pinned (OpenSpec.ofChange fnLineAtOneShareHidesTheSecretWrong)

/-- 'zzlaws_root_b1.FnNewNaiveAgentDrawsHangOnConfigAndGeneratorAlone': WHATEVER THE INPUT: true; the input reads as it did. -/
def fnNewNaiveAgentDrawsHangOnConfigAndGeneratorAloneSpec : ChangeSpec := { name := "fnNewNaiveAgentDrawsHangOnConfigAndGeneratorAlone", fn := fun _ => fun
  | [d1, d2, d3, d4, d5, d6, d7, d8] => { results := [.lit (.bool true)], args := [d1, d2, d3, d4, d5, d6, d7, d8] }
  | _ => none }
def fnNewNaiveAgentDrawsHangOnConfigAndGeneratorAloneRow : OpenClaim := { program := "qxb6613925a", sum := "b6a8a6d34936af28cc837509d51deadba674a8230bf1c4df8c4d052e723ca898", func := "example.com/concordat/concordat/zzlaws_root_b1.FnNewNaiveAgentDrawsHangOnConfigAndGeneratorAlone", spec := "fnNewNaiveAgentDrawsHangOnConfigAndGeneratorAlone", unfollowed := true, recurses := true, apart := false }
def FnNewNaiveAgentDrawsHangOnConfigAndGeneratorAloneSaid : Prop := fnNewNaiveAgentDrawsHangOnConfigAndGeneratorAloneRow.holds Try.pinned (OpenSpec.ofChange fnNewNaiveAgentDrawsHangOnConfigAndGeneratorAloneSpec)

/-- ITS FALSE NEIGHBOUR: 'it returns false'. Refute it at one input. -/
def fnNewNaiveAgentDrawsHangOnConfigAndGeneratorAloneWrong : ChangeSpec := { name := "fnNewNaiveAgentDrawsHangOnConfigAndGeneratorAlone", fn := fun _ => fun
  | [d1, d2, d3, d4, d5, d6, d7, d8] => { results := [.lit (.bool false)], args := [d1, d2, d3, d4, d5, d6, d7, d8] }
  | _ => none }
def FnNewNaiveAgentDrawsHangOnConfigAndGeneratorAloneWrongFalsely : Prop := fnNewNaiveAgentDrawsHangOnConfigAndGeneratorAloneRow.holds Try.pinned (OpenSpec.ofChange fnNewNaiveAgentDrawsHangOnConfigAndGeneratorAloneWrong)

end Rows
end Go.Proofs.Qxb6613925a
