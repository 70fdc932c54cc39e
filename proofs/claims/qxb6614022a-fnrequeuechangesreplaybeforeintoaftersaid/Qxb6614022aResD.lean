/-
  engine.Resume: the active tries that it cuts off.
-/
import Derived.Test.Qxb6614022aCon
namespace Go.Proofs.Qxb6614022a
open Go.RowKit
set_option linter.unusedVariables false
set_option linter.unusedSimpArgs false

/-- The job once the active ones of the first k tasks have been queued again. -/
def JD.ab (D : JD) (k : Nat) : JD := { D with S := fun i => if i < k ∧ D.S i = 2 then 1 else D.S i }
def act (D : JD) (k : Nat) : List Nat := (List.range k).filter (fun i => decide (D.S i = 2))
def abL (D : JD) (l : List Nat) : List Value := l.flatMap (fun i => (chgC D i 1).toList)

theorem act_yes {D : JD} {k : Nat} (h : D.S k = 2) : act D (k + 1) = act D k ++ [k] := by
  simp [act, List.range_succ, List.filter_append, h]
theorem act_no {D : JD} {k : Nat} (h : D.S k ≠ 2) : act D (k + 1) = act D k := by
  simp [act, List.range_succ, List.filter_append, h]
theorem act_le (D : JD) (k : Nat) : (act D k).length ≤ k := by
  have := List.length_filter_le (fun i => decide (D.S i = 2)) (List.range k)
  simpa [act] using this
theorem ab_zero (D : JD) : D.ab 0 = D := by simp [JD.ab]
theorem ab_no {D : JD} {k : Nat} (h : D.S k ≠ 2) : D.ab (k + 1) = D.ab k := by
  simp only [JD.ab, JD.mk.injEq, true_and, and_true]
  funext i
  have key : (i < k + 1 ∧ D.S i = 2) = (i < k ∧ D.S i = 2) := by
    apply propext
    constructor
    · rintro ⟨h1, h2⟩
      refine ⟨?_, h2⟩
      rcases Nat.lt_or_ge i k with h3 | h3
      · exact h3
      · have : i = k := by omega
        subst this; exact (h h2).elim
    · rintro ⟨h1, h2⟩; exact ⟨by omega, h2⟩
  simp only [key]
theorem ab_yes {D : JD} {k : Nat} (h : D.S k = 2) : (D.ab k).setS k 1 = D.ab (k + 1) := by
  simp only [JD.ab, JD.setS, JD.mk.injEq, true_and, and_true]
  funext i
  by_cases hi : i = k
  · subst hi; simp [h]
  · have key : (i < k + 1 ∧ D.S i = 2) = (i < k ∧ D.S i = 2) := by
      apply propext
      constructor
      · rintro ⟨h1, h2⟩; exact ⟨by omega, h2⟩
      · rintro ⟨h1, h2⟩; exact ⟨by omega, h2⟩
    simp only [if_neg hi, key]

theorem equalIn65 (d : Nat) (w : World) : (Op.equalIn (d + 1) 65 .nilFunc .nilFunc).run Try.prog w = .ok true w := by
  simp [Op.equalIn, run_underlying Try.underlying65]
theorem equal65 (w : World) : (Op.equal 65 .nilFunc .nilFunc).run Try.prog w = .ok true w := equalIn65 9999 w
theorem eql65 (w : World) : (binOp .eql 65 .nilFunc .nilFunc).run Try.prog w = .ok (.bool true) w := by
  simp only [binOp]
  simp [equal65 w]

def ResPost (w : World) (n : Nat) (D : JD) (e : Ending) (w' : World) : Prop :=
  ∃ lo lo2 JB TB G F v, e = .returned (.tuple #[.pointer (some ⟨JB, 0, none⟩), v]) ∧ Jb w' lo JB TB n G (D.ab n) (n + n) F ∧ Keep w w' (fun _ => False) ∧ w.heap.size ≤ lo ∧ w'.ownsRow lo2 46 9 v (act D n).length (abL D (act D n))
end Go.Proofs.Qxb6614022a
