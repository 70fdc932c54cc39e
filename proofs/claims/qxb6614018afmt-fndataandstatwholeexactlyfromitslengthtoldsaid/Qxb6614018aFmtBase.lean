/-
  What both cards want: closed facts, the world that the witness starts in.
-/
import Derived.Test.Qxb6614018aFmtRows
import Derived.Test.Qxb6614018aFmtCards
import Derived.Test.Qxb6614018aFmtTie
import Derived.Test.Qxb6614018aFmtTop3
import Derived.ProofKit
import Derived.Stop.JoinedAt
import Derived.Stop.JoinedTold
import Derived.Stop.Texts
import Derived.Stop.ErrReads
import Derived.Stop.LaidErr
import Derived.SevenTiedAt
namespace Go.Proofs.Qxb6614018aFmt
open Go.ChangeShapes Go.WideShapes Go.ChangeAt Go.RowKit Go.Kit
open Go.Extern.Stop Go.Stop Go.Extern
set_option linter.unusedVariables false

theorem own : ownKnob Tryf.prog.godebug = none := by kernel_rfl
theorem laidOut : laidOutB Tryf.pinned.checked.prog = true := by kernel_rfl
theorem stops : Tryf.pinned.checked.prog.stops = ["fmt.errorf"] := by kernel_rfl
theorem stopKnobs : Tryf.pinned.checked.prog.stopKnobs = [] := by kernel_rfl
theorem quiet (os : Os) : Stop.quiet Tryf.pinned.checked.prog os := by
  intro k hk
  rw [stopKnobs] at hk
  cases hk

/-- The listed variable's name. -/
def vn : String := Rows.fnDataAndStatIgnoresWhatFollowsTheRecordSpec.vars.headD ""
theorem gE : Tryf.prog.globalNamed vn = some 0 := by kernel_rfl
theorem gEType : (Tryf.prog.globals[0]?).map (·.type) = some 27 := by kernel_rfl
theorem cells66 : Tryf.prog.cellsOf 66 = 1 := by kernel_rfl
theorem cells9 : Tryf.prog.cellsOf 9 = 1 := by kernel_rfl
theorem cells5 : Tryf.prog.cellsOf 5 = 1 := by kernel_rfl
theorem bytes5 : Tryf.prog.bytesOf 5 = 1 := by kernel_rfl

theorem var?_bel {P : Program} {B g : Nat} {W W' : World} {n : String} {cs : Array Value} (h : Below B W W') (hg : P.globalNamed n = some g) (hgB : g < B) (hv : W.var? P n = some cs) : W'.var? P n = some cs := by
  unfold World.var? at hv ⊢
  simp only [hg, Option.bind_some] at hv ⊢
  rw [h.block g hgB]
  exact hv

/-- A slice of bytes that came in, as the walks want it. -/
theorem open_arg {H : Type} {enc : TypeId × Value → H} {W : World} {d : DataW H} {p : List MemPlace} {ao : Option Addr} {len cap : Nat}
    (h : DataW.Trod enc Tryf.prog W 0 (fun _ => true) true 22 (.slice ao len cap) d p) :
    ∃ A : List Int, A.length = len ∧ Small A ∧ ArgAt W ao cap A ∧ len ≤ maxLen := by
  obtain ⟨fuel, hf⟩ := h
  rcases open_ints Tryf.underlying22 Tryf.underlying5 cells5 hf with ⟨hcs, hx⟩ | ⟨a, len', cap', zs, hcs, _, hl, hm, hz, hx, hcell, hwz⟩
  · simp [Value.cells] at hcs
    obtain ⟨rfl, rfl, rfl⟩ := hcs
    exact ⟨[], rfl, fun x hx => by simp at hx, Or.inl ⟨rfl, rfl, rfl⟩, by decide⟩
  · simp [Value.cells] at hcs
    obtain ⟨rfl, rfl, rfl⟩ := hcs
    simp only [if_true] at hz
    refine ⟨zs.take len, by rw [List.length_take]; omega, fun x hx => ?_, Or.inr ⟨a, rfl, fun j v hj => ?_⟩, Nat.le_trans hl hm⟩
    · have := hwz x (List.mem_of_mem_take hx)
      simp [Lit.wf, IntKind.min, IntKind.max, IntKind.signed, IntKind.bits] at this
      omega
    · rw [List.map_take, List.getElem?_take] at hj
      split at hj
      · rename_i hjl
        rw [List.getElem?_map] at hj
        have hj2 : j < zs.length := by omega
        rw [List.getElem?_eq_getElem hj2] at hj
        simp at hj
        rw [hcell j hj2, ← hj, List.getD_eq_getElem?_getD, List.getElem?_eq_getElem hj2]
        rfl
      · cases hj

/-- The listed variable, read off 'laid'. -/
theorem open_laid {W : World} (hL : laidMetH Tryf.checked.prog Rows.fnDataAndStatIgnoresWhatFollowsTheRecordRow.laid W) :
    ∃ (a : Addr) (s : ByteArray), W.var? Tryf.prog vn = some #[.iface 64 (.pointer (some a))] ∧ W.cell? a = some (.string s) := by
  obtain ⟨a1, s1, hv1, hc1, _, _⟩ := laid_sentinel (P := Tryf.prog) (tp := 64) hL gE gEType Tryf.underlying27
    (fun u h => typeName_ptr_named (nm := "errors.errorString") (by kernel_rfl) (by kernel_rfl) (by decide) u (h.trans (congrArg some (by decide))))
    Tryf.underlying64 Tryf.underlying66 rfl rfl Tryf.underlying9 cells66 cells9
  exact ⟨a1, s1, hv1, hc1⟩
end Go.Proofs.Qxb6614018aFmt
