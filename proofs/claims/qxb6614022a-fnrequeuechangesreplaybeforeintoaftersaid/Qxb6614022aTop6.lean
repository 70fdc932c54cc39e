/-
  The law on a requeue's replay.
-/
import Derived.Test.Qxb6614022aTop6f
import Derived.Test.Qxb6614022aTop6t
namespace Go.Proofs.Qxb6614022a
open Go.RowKit
set_option linter.unusedVariables false
set_option linter.unusedSimpArgs false

theorem law6 (nm : ByteArray) (thr jb : Int) (tq so fo : Option Addr) (nt ct ns cs nf cf : Nat) (Z : ZA) (w : World) (h : ZAt w tq so fo nt ns nf Z) (hnm : nm.size ≤ maxLen)
    (ht : tq = none → nt = 0 ∧ ct = 0) (hs : so = none → ns = 0 ∧ cs = 0) (hf : fo = none → nf = 0 ∧ cf = 0) :
    Calls Try.prog 6 #[.string nm, .int .i64 thr, .slice tq nt ct, .int .i64 jb, .slice so ns cs, .slice fo nf cf] w fun e w' => LawPost w e w' := by
  cases hen : endedB jb with
  | false => exact law6f nm thr jb tq so fo nt ct ns cs nf cf Z w h hnm ht hs hf hen
  | true => exact law6t nm thr jb tq so fo nt ct ns cs nf cf Z w h hnm ht hs hf hen
end Go.Proofs.Qxb6614022a
