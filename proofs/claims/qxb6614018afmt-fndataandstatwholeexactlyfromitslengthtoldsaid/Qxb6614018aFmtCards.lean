/-
  DERIVED. GIVEN WITH THE SEED: THE CARDS: each row of Qxb6614018aFmtRows.lean that lists a variable, with what it lists TIED to the program's text (the seventh form; the later family's looks); each row that meets fmt, with fmt's text TOLD by the authors' own Lean function (tested against real Go, not proved from fmt's source: count such statements apart). THE CARD IS WHAT COUNTS. Prove the row's statement (the work); the ties are given (Qxb6614018aFmtTie.lean); close each card by the builder's one call (the guide's Derived/Test/ToyasCard.lean, 'card_holds'). Laid BY PROGRAM, IN A SANDBOX (cutbox-door.mjs). By AI agents, Wed Nov 11 2026. No macro, syntax, notation, axiom, sorry.
-/
import Derived.Test.Qxb6614018aFmtRows
import GoSem.ClaimSeven
namespace Go.Proofs.Qxb6614018aFmt
namespace Rows

/-- THE TOLD AND TIED CARD OF 'zzlaws_client_b1.FnDataAndStatIgnoresWhatFollowsTheRecord'. -/
def fnDataAndStatIgnoresWhatFollowsTheRecordCard : Claim7 := { stood := { row := fnDataAndStatIgnoresWhatFollowsTheRecordRow, standIns := [], harness := (true, "ade39c853b2719471ec4e47b60246b91a091bdd2d7c894159aee555d4bd3d93f"), looks := false }, told := true, laidByText := true, laidKinds := [.sentinel], laidTests := true, laidLooks := .later, goes := false }
def FnDataAndStatIgnoresWhatFollowsTheRecordToldSaid : Prop := Claim7.holds Tryf.pinned (.plain (OpenSpec.ofChange fnDataAndStatIgnoresWhatFollowsTheRecordSpec)) fnDataAndStatIgnoresWhatFollowsTheRecordCard
/-- ITS FALSE NEIGHBOUR. Refute it at one input. -/
def FnDataAndStatIgnoresWhatFollowsTheRecordToldWrongFalsely : Prop := Claim7.holds Tryf.pinned (.plain (OpenSpec.ofChange fnDataAndStatIgnoresWhatFollowsTheRecordWrong)) fnDataAndStatIgnoresWhatFollowsTheRecordCard

/-- THE TOLD AND TIED CARD OF 'zzlaws_client_b1.FnDataAndStatWholeExactlyFromItsLength'. -/
def fnDataAndStatWholeExactlyFromItsLengthCard : Claim7 := { stood := { row := fnDataAndStatWholeExactlyFromItsLengthRow, standIns := [], harness := (true, "ade39c853b2719471ec4e47b60246b91a091bdd2d7c894159aee555d4bd3d93f"), looks := false }, told := true, laidByText := true, laidKinds := [.sentinel], laidTests := true, laidLooks := .later, goes := false }
def FnDataAndStatWholeExactlyFromItsLengthToldSaid : Prop := Claim7.holds Tryf.pinned (.plain (OpenSpec.ofChange fnDataAndStatWholeExactlyFromItsLengthSpec)) fnDataAndStatWholeExactlyFromItsLengthCard
/-- ITS FALSE NEIGHBOUR. Refute it at one input. -/
def FnDataAndStatWholeExactlyFromItsLengthToldWrongFalsely : Prop := Claim7.holds Tryf.pinned (.plain (OpenSpec.ofChange fnDataAndStatWholeExactlyFromItsLengthWrong)) fnDataAndStatWholeExactlyFromItsLengthCard
end Rows
end Go.Proofs.Qxb6614018aFmt
