/-
  The changes, record by record.
-/
import Derived.Test.Qxb6614022aSav
namespace Go.Proofs.Qxb6614022a
open Go.RowKit
set_option linter.unusedVariables false
set_option linter.unusedSimpArgs false

/-- One record of nine cells in a row of them. -/
theorem rec9 {w : World} {lo g len cap : Nat} {xs : List Value} (ow : w.ownsRow lo 46 9 (.slice (some ⟨g, 0, none⟩) len cap) len xs) (pre mid post : List Value) (hx : xs = pre ++ (mid ++ post)) (p : Nat) (hp : pre.length = p * 9)
    (f : Nat) (u : Value) (hu : mid[f]? = some u) : w.cell? ⟨g, p * 9 + f, none⟩ = some u := by
  have hf : f < mid.length := (List.getElem?_eq_some_iff.1 hu).1
  have h1 : xs[p * 9 + f]? = some u := by
    rw [hx, List.getElem?_append_right (by omega), hp, List.getElem?_append_left (by omega)]
    rw [show p * 9 + f - p * 9 = f by omega]
    exact hu
  have h2 := ow.cells rfl (p * 9 + f) u h1
  have e : (⟨g, 0, none⟩ : Addr).add (p * 9 + f) = ⟨g, p * 9 + f, none⟩ := by
    unfold Addr.add
    split
    · rename_i h; rw [h]
    · simp
  rw [e] at h2
  exact h2

theorem act_split {D : JD} {n k : Nat} (hk : k < n) (h : D.S k = 2) : ∃ r, act D n = act D k ++ (k :: r) := by
  induction n with
  | zero => omega
  | succ n ih =>
    by_cases hn : k = n
    · subst hn; exact ⟨[], act_yes h⟩
    · obtain ⟨r, hr⟩ := ih (by omega)
      by_cases h2 : D.S n = 2
      · exact ⟨r ++ [n], by rw [act_yes h2, hr]; simp⟩
      · exact ⟨r, by rw [act_no h2, hr]⟩

theorem abL_len (D : JD) (l : List Nat) : (abL D l).length = l.length * 9 := by
  induction l with
  | nil => rfl
  | cons a l ih =>
    have : (abL D (a :: l)).length = 9 + (abL D l).length := by simp [abL, chgC]; omega
    rw [this, ih, List.length_cons]; omega

theorem own_form {w : World} {lo l : Nat} {vo : Option Addr} {vl vc : Nat} {xs : List Value} (ow : w.ownsRow lo 46 9 (.slice vo vl vc) l xs) (hl : 0 < l) : vl = l ∧ ∃ g, vo = some ⟨g, 0, none⟩ := by
  rcases ow.2 with ⟨h, h0⟩ | ⟨g, cap, cur, h, _⟩
  · omega
  · cases h; exact ⟨rfl, g, rfl⟩

/-- The change of an active task. -/
theorem ch_at {w : World} {lo n k : Nat} {vo : Option Addr} {vl vc : Nat} {D : JD} (ow : w.ownsRow lo 46 9 (.slice vo vl vc) (act D n).length (abL D (act D n))) (hk : k < n) (h : D.S k = 2) :
    (act D k).length < vl ∧ ∃ g, vo = some ⟨g, 0, none⟩ ∧ ∀ f u, (chgC D k 1).toList[f]? = some u → w.cell? ⟨g, (act D k).length * 9 + f, none⟩ = some u := by
  obtain ⟨r, hr⟩ := act_split hk h
  have hlen : (act D n).length = (act D k).length + (r.length + 1) := by rw [hr, List.length_append, List.length_cons]
  obtain ⟨e, g, hg⟩ := own_form ow (by omega)
  subst hg e
  refine ⟨by omega, g, rfl, fun f u hu => rec9 ow (abL D (act D k)) (chgC D k 1).toList (abL D r) (by rw [hr]; simp [abL]) _ (abL_len D _) f u hu⟩
end Go.Proofs.Qxb6614022a
