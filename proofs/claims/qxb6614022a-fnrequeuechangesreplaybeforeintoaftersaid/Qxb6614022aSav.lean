/-
  A list of states that a law writes one by one.
-/
import Derived.Test.Qxb6614022aFront
namespace Go.Proofs.Qxb6614022a
open Go.RowKit
set_option linter.unusedVariables false
set_option linter.unusedSimpArgs false

structure Sav (w wr : World) (WB n k : Nat) (V : Nat → Nat → Value) : Prop where
  r : Row4 wr 44 WB n k V
  k : Keep w wr (fun _ => False)
  ge : w.heap.size ≤ WB

theorem Sav.start (w : World) (n : Nat) (V : Nat → Nat → Value) : Sav w (w.alloc (.cells (madeCells z44c (n * 4)) 44)) w.heap.size n 0 V :=
  ⟨row4_made w 44 z44c n V, Keep.alloc _ _ _, Nat.le_refl _⟩
theorem Sav.keep {w wr w' : World} {WB n k : Nat} {V : Nat → Nat → Value} (h : Sav w wr WB n k V) (hk : Keep wr w' (fun _ => False)) : Sav w w' WB n k V :=
  ⟨h.r.keep hk, h.k.trans hk (fun _ _ h => h), h.ge⟩
theorem Sav.put {w wr : World} {WB n k : Nat} {V : Nat → Nat → Value} (h : Sav w wr WB n k V) (hk : k < n) :
    Sav w ((((wr.setCell ⟨WB, k * 4, none⟩ (V k 0)).setCell ⟨WB, k * 4 + 1, none⟩ (V k 1)).setCell ⟨WB, k * 4 + 2, none⟩ (V k 2)).setCell ⟨WB, k * 4 + 3, none⟩ (V k 3)) WB n (k + 1) V :=
  ⟨h.r.step hk, h.k.trans (keep4 wr WB _ _ _ _ _ _ _ _) (fun i hi e => by have := h.ge; omega), h.ge⟩
/-- The four cells of the next record. -/
theorem Sav.cells {w wr : World} {WB n k : Nat} {V : Nat → Nat → Value} (h : Sav w wr WB n k V) (hk : k < n) :
    (∃ o, wr.cell? ⟨WB, k * 4, none⟩ = some o) ∧ (∃ o, wr.cell? ⟨WB, k * 4 + 1, none⟩ = some o) ∧ (∃ o, wr.cell? ⟨WB, k * 4 + 2, none⟩ = some o) ∧ (∃ o, wr.cell? ⟨WB, k * 4 + 3, none⟩ = some o) ∧
    wr.frozen? ⟨WB, k * 4, none⟩ = false ∧ wr.frozen? ⟨WB, k * 4 + 1, none⟩ = false ∧ wr.frozen? ⟨WB, k * 4 + 2, none⟩ = false ∧ wr.frozen? ⟨WB, k * 4 + 3, none⟩ = false := by
  obtain ⟨c, r1, r2, r3⟩ := h.r
  have cc : ∀ f, f < 4 → ∃ o, wr.cell? ⟨WB, k * 4 + f, none⟩ = some o := fun f hf => ⟨c[k * 4 + f]'(by omega), by rw [cell_of_row _ _ _ _ _ _ r1, Array.getElem?_eq_getElem (by omega)]⟩
  exact ⟨cc 0 (by omega), cc 1 (by omega), cc 2 (by omega), cc 3 (by omega), frozen_of_row _ _ _ _ _ r1, frozen_of_row _ _ _ _ _ r1, frozen_of_row _ _ _ _ _ r1, frozen_of_row _ _ _ _ _ r1⟩
/-- A record that has been written. -/
theorem Sav.at {w wr : World} {WB n k i : Nat} {V : Nat → Nat → Value} (h : Sav w wr WB n k V) (hi : i < k) :
    wr.cell? ⟨WB, i * 4, none⟩ = some (V i 0) ∧ wr.cell? ⟨WB, i * 4 + 1, none⟩ = some (V i 1) ∧ wr.cell? ⟨WB, i * 4 + 2, none⟩ = some (V i 2) ∧ wr.cell? ⟨WB, i * 4 + 3, none⟩ = some (V i 3) :=
  ⟨row4_cell h.r hi (f := 0) (by omega), row4_cell h.r hi (f := 1) (by omega), row4_cell h.r hi (f := 2) (by omega), row4_cell h.r hi (f := 3) (by omega)⟩

/-- The states as a resume leaves them. -/
def pV (Z : ZA) (i f : Nat) : Value := match f with
  | 0 => .int .i64 (preZ (Z.S i))
  | 1 => .int .i64 (Z.L i)
  | 2 => .int .i64 (Z.Tr i)
  | _ => .string (Z.Wk i)

theorem ab_at (nm : ByteArray) (thr jb : Int) (Z : ZA) {n i : Nat} (h : i < n) :
    ((DK (toRA nm thr Z) jb Z.S Z.L Z.Tr Z.Wk n).ab n).N i = Z.N i ∧ ((DK (toRA nm thr Z) jb Z.S Z.L Z.Tr Z.Wk n).ab n).S i = preZ (Z.S i) ∧ ((DK (toRA nm thr Z) jb Z.S Z.L Z.Tr Z.Wk n).ab n).R i = Z.R i ∧ ((DK (toRA nm thr Z) jb Z.S Z.L Z.Tr Z.Wk n).ab n).L i = Z.L i ∧ ((DK (toRA nm thr Z) jb Z.S Z.L Z.Tr Z.Wk n).ab n).Tr i = Z.Tr i ∧ ((DK (toRA nm thr Z) jb Z.S Z.L Z.Tr Z.Wk n).ab n).Wk i = Z.Wk i := by
  simp only [JD.ab, DK, toRA, h, if_true, preZ, true_and, and_true, and_self]
theorem stOf_at (nm : ByteArray) (thr jb : Int) (Z : ZA) {n i : Nat} (h : i < n) :
    stOf ((DK (toRA nm thr Z) jb Z.S Z.L Z.Tr Z.Wk n).ab n) i = .agg #[.int .i64 (preZ (Z.S i)), .int .i64 (Z.L i), .int .i64 (Z.Tr i), .string (Z.Wk i)] := by
  obtain ⟨_, h2, _, h4, h5, h6⟩ := ab_at nm thr jb Z h
  simp only [stOf, h2, h4, h5, h6]
theorem preZ_idem (z : Int) : preZ (preZ z) = preZ z := by
  simp only [preZ]
  split
  · simp
  · rfl
end Go.Proofs.Qxb6614022a
