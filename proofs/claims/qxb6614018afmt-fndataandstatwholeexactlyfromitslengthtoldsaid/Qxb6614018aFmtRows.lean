/-
  NARROWER THAN 'FOR EVERY INPUT', by the rows' own cells (each row's printed sentence says how): FnDataAndStatIgnoresWhatFollowsTheRecord: ifaces, laid · FnDataAndStatWholeExactlyFromItsLength: ifaces, laid.
  DERIVED. THE GIVEN ROWS OF THIS SEAT. 2 by the template 'for every input the law returns true; each argument reads behind the call as it read before'; 0 by the template 'total and deterministic' (their statements: Qxb6614018aFmtTotals.lean).
  GIVEN WITH THE SEED: the statements are not yours to turn. If you find one false, say at which input.
  Laid BY PROGRAM, IN A SANDBOX (cutbox-rows.mjs): the forced cells as the released guide's own fill.sh prints them over the translation 32b57e57fbf55af3… (all of the seat's roots in one cut). By AI agents, Wed Nov 11 2026. No macro, syntax, notation, axiom, sorry.
-/
import Derived.Test.Qxb6614018aFmtChecked
import GoSem.Claim
import GoSem.ClaimJoined
import GoSem.ClaimMapViews
import Derived.JoinedTies
import Derived.KernelRfl
namespace Go.Proofs.Qxb6614018aFmt
/- THE CELL 'sum', in the pinned program and in every row, IS THE sha256 OF THE DUMP (.gsa) THAT Qxb6614018aFmtProg.lean LOADS. Nothing in Lean hashes anything: it is a label: what it is worth is what the hold of that sum in a sandbox is worth. -/
noncomputable def Tryf.pinned : Pinned := { name := "qxb6614018afmt", sum := "32b57e57fbf55af37dd527adced47e2339ac504e9ba34e4a278c5e1e0ce58ad8", checked := Tryf.checked }
namespace Rows
def none {H : Type} : Left H := { results := [], args := [] }

/- WHAT THE LISTED PACKAGE-LEVEL VARIABLES READ AS WHEN THE CALL BEGINS. Each datum BY PROGRAM (the guide's laid-datum.mjs) off the statement by which the dump's own 'gosem.cut.vars' lays the variable. In a bare row this is a premise. The card (Qxb6614018aFmtCards.lean) ties it to the program's text. -/
def laid_example_com_reconvene_reconvene_wire_errShort {H : Type} : DataW H := .iface "*errors.errorString" (.ptr (.agg [.lit (.string [109, 101, 115, 115, 97, 103, 101, 32, 101, 110, 100, 115, 32, 105, 110, 115, 105, 100, 101, 32, 97, 32, 102, 105, 101, 108, 100])]))

/-- 'zzlaws_client_b1.FnDataAndStatIgnoresWhatFollowsTheRecord': WHATEVER THE INPUT: true; the input reads as it did. -/
def fnDataAndStatIgnoresWhatFollowsTheRecordSpec : ChangeSpec := { name := "fnDataAndStatIgnoresWhatFollowsTheRecord", vars := ["example.com/reconvene/reconvene/wire.errShort"], fn := fun _ => fun
  | [d1, d2, g1] => { results := [.lit (.bool true)], args := [d1, d2], vars := [g1] }
  | _ => none }
def fnDataAndStatIgnoresWhatFollowsTheRecordRow : OpenClaim := { program := "qxb6614018afmt", sum := "32b57e57fbf55af37dd527adced47e2339ac504e9ba34e4a278c5e1e0ce58ad8", func := "example.com/reconvene/reconvene/zzlaws_client_b1.FnDataAndStatIgnoresWhatFollowsTheRecord", spec := "fnDataAndStatIgnoresWhatFollowsTheRecord", stops := ["fmt.errorf"], inPlace := ["fmt.errorf"], named := ["encoding/binary.BigEndian", "example.com/reconvene/reconvene/wire.errShort"], ifaces := true, apart := false, laid := [("example.com/reconvene/reconvene/wire.errShort", laid_example_com_reconvene_reconvene_wire_errShort)] }
/-- NO THEOREM (fmt's text is open here; it may be false): for the released tool's asking of the row's closed facts alone. THE STATEMENT IS 'FnDataAndStatIgnoresWhatFollowsTheRecordToldSaid' (Qxb6614018aFmtCards.lean). -/
def FnDataAndStatIgnoresWhatFollowsTheRecordFormAsk : Prop := fnDataAndStatIgnoresWhatFollowsTheRecordRow.holds Tryf.pinned (OpenSpec.ofChange fnDataAndStatIgnoresWhatFollowsTheRecordSpec)

/-- ITS FALSE NEIGHBOUR: 'it returns false'. Refute it at one input. -/
def fnDataAndStatIgnoresWhatFollowsTheRecordWrong : ChangeSpec := { name := "fnDataAndStatIgnoresWhatFollowsTheRecord", vars := ["example.com/reconvene/reconvene/wire.errShort"], fn := fun _ => fun
  | [d1, d2, g1] => { results := [.lit (.bool false)], args := [d1, d2], vars := [g1] }
  | _ => none }
def FnDataAndStatIgnoresWhatFollowsTheRecordWrongFormAsk : Prop := fnDataAndStatIgnoresWhatFollowsTheRecordRow.holds Tryf.pinned (OpenSpec.ofChange fnDataAndStatIgnoresWhatFollowsTheRecordWrong)

/-- 'zzlaws_client_b1.FnDataAndStatWholeExactlyFromItsLength': WHATEVER THE INPUT: true; the input reads as it did. -/
def fnDataAndStatWholeExactlyFromItsLengthSpec : ChangeSpec := { name := "fnDataAndStatWholeExactlyFromItsLength", vars := ["example.com/reconvene/reconvene/wire.errShort"], fn := fun _ => fun
  | [d1, d2, g1] => { results := [.lit (.bool true)], args := [d1, d2], vars := [g1] }
  | _ => none }
def fnDataAndStatWholeExactlyFromItsLengthRow : OpenClaim := { program := "qxb6614018afmt", sum := "32b57e57fbf55af37dd527adced47e2339ac504e9ba34e4a278c5e1e0ce58ad8", func := "example.com/reconvene/reconvene/zzlaws_client_b1.FnDataAndStatWholeExactlyFromItsLength", spec := "fnDataAndStatWholeExactlyFromItsLength", stops := ["fmt.errorf"], inPlace := ["fmt.errorf"], named := ["encoding/binary.BigEndian", "example.com/reconvene/reconvene/wire.errShort"], ifaces := true, apart := false, laid := [("example.com/reconvene/reconvene/wire.errShort", laid_example_com_reconvene_reconvene_wire_errShort)] }
/-- NO THEOREM (fmt's text is open here; it may be false): for the released tool's asking of the row's closed facts alone. THE STATEMENT IS 'FnDataAndStatWholeExactlyFromItsLengthToldSaid' (Qxb6614018aFmtCards.lean). -/
def FnDataAndStatWholeExactlyFromItsLengthFormAsk : Prop := fnDataAndStatWholeExactlyFromItsLengthRow.holds Tryf.pinned (OpenSpec.ofChange fnDataAndStatWholeExactlyFromItsLengthSpec)

/-- ITS FALSE NEIGHBOUR: 'it returns false'. Refute it at one input. -/
def fnDataAndStatWholeExactlyFromItsLengthWrong : ChangeSpec := { name := "fnDataAndStatWholeExactlyFromItsLength", vars := ["example.com/reconvene/reconvene/wire.errShort"], fn := fun _ => fun
  | [d1, d2, g1] => { results := [.lit (.bool false)], args := [d1, d2], vars := [g1] }
  | _ => none }
def FnDataAndStatWholeExactlyFromItsLengthWrongFormAsk : Prop := fnDataAndStatWholeExactlyFromItsLengthRow.holds Tryf.pinned (OpenSpec.ofChange fnDataAndStatWholeExactlyFromItsLengthWrong)

end Rows
end Go.Proofs.Qxb6614018aFmt
