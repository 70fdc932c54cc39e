/-
  A requeue's changes, record by record; a list of states written and mended.
-/
import Derived.Test.Qxb6614022aRec
namespace Go.Proofs.Qxb6614022a
open Go.RowKit
set_option linter.unusedVariables false
set_option linter.unusedSimpArgs false

theorem rqs_split {D : JD} {e : Int} {n k : Nat} (hk : k < n) (h : reqB e (D.S k) = true) : ∃ r, rqs D e n = rqs D e k ++ (k :: r) := by
  induction n with
  | zero => omega
  | succ n ih =>
    by_cases hn : k = n
    · subst hn; exact ⟨[], rqs_yes h⟩
    · obtain ⟨r, hr⟩ := ih (by omega)
      cases h2 : reqB e (D.S n) with
      | true => exact ⟨r ++ [n], by rw [rqs_yes h2, hr]; simp⟩
      | false => exact ⟨r, by rw [rqs_no h2, hr]⟩

theorem chs_len (D : JD) (l : List Nat) : (chs D l).length = l.length * 9 := by
  induction l with
  | nil => rfl
  | cons a l ih =>
    have : (chs D (a :: l)).length = 9 + (chs D l).length := by simp [chs, rqC]; omega
    rw [this, ih, List.length_cons]; omega

section
variable {w : World} {lo n g cap : Nat} {D : JD}

/-- The first change: the job's. -/
theorem rq_first (ow : w.ownsRow lo 46 9 (.slice (some ⟨g, 0, none⟩) ((rqs D D.st n).length + 2) cap) ((rqs D D.st n).length + 2) (requeueL D n)) :
    ∀ f u, (jchgL D 7)[f]? = some u → w.cell? ⟨g, f, none⟩ = some u := fun f u hu => by
  have := rec9 ow [] (jchgL D 7) (chs D (rqs D D.st n) ++ jchgL { D with st := 7 } 2) (by simp [requeueL, List.append_assoc]) 0 rfl f u hu
  rw [show 0 * 9 + f = f by omega] at this
  exact this
/-- The last change: the job's. -/
theorem rq_last (ow : w.ownsRow lo 46 9 (.slice (some ⟨g, 0, none⟩) ((rqs D D.st n).length + 2) cap) ((rqs D D.st n).length + 2) (requeueL D n)) :
    ∀ f u, (jchgL { D with st := 7 } 2)[f]? = some u → w.cell? ⟨g, ((rqs D D.st n).length + 1) * 9 + f, none⟩ = some u := fun f u hu =>
  rec9 ow (jchgL D 7 ++ chs D (rqs D D.st n)) (jchgL { D with st := 7 } 2) [] (by simp [requeueL, List.append_assoc]) _ (by rw [List.length_append, chs_len]; simp [jchgL]; omega) f u hu
/-- A task's change. -/
theorem rq_mid (ow : w.ownsRow lo 46 9 (.slice (some ⟨g, 0, none⟩) ((rqs D D.st n).length + 2) cap) ((rqs D D.st n).length + 2) (requeueL D n)) {k : Nat} (hk : k < n) (h : reqB D.st (D.S k) = true) :
    (rqs D D.st k).length < (rqs D D.st n).length ∧ ∀ f u, (rqC D k)[f]? = some u → w.cell? ⟨g, ((rqs D D.st k).length + 1) * 9 + f, none⟩ = some u := by
  obtain ⟨r, hr⟩ := rqs_split hk h
  refine ⟨by rw [hr, List.length_append, List.length_cons]; omega, fun f u hu => ?_⟩
  exact rec9 ow (jchgL D 7 ++ chs D (rqs D D.st k)) (rqC D k) (chs D r ++ jchgL { D with st := 7 } 2) (by simp [requeueL, hr, chs, List.append_assoc]) _ (by rw [List.length_append, chs_len]; simp [jchgL]; omega) f u hu
end

theorem Row4.congr {w : World} {t : TypeId} {QB n k : Nat} {V V' : Nat → Nat → Value} (h : Row4 w t QB n k V) (e : ∀ i f, i < k → f < 4 → V i f = V' i f) : Row4 w t QB n k V' := by
  obtain ⟨c, h1, h2, h3⟩ := h
  exact ⟨c, h1, h2, fun i hi f hf => by rw [← e i f hi hf]; exact h3 i hi f hf⟩
theorem Row4.keepX {w w' : World} {t : TypeId} {QB n k : Nat} {V : Nat → Nat → Value} {X : Nat → Prop} (h : Row4 w t QB n k V) (hk : Keep w w' X) (hX : ¬ X QB) : Row4 w' t QB n k V := by
  obtain ⟨c, h1, h2⟩ := h
  exact ⟨c, (hk.block QB (lt_of_heap h1) hX).trans h1, h2⟩
theorem Row4.mod {w : World} {t : TypeId} {QB n k j g : Nat} {V : Nat → Nat → Value} (h : Row4 w t QB n k V) (hj : j < n) (hg : g < 4) (u : Value) :
    Row4 (w.setCell ⟨QB, j * 4 + g, none⟩ u) t QB n k (fun i f => if i = j ∧ f = g then u else V i f) := by
  obtain ⟨c, h1, h2, h3⟩ := h
  refine ⟨_, heap_setCell_same w QB (j * 4 + g) c t u h1, by simpa using h2, fun i hi f hf => ?_⟩
  by_cases e : i = j ∧ f = g
  · obtain ⟨rfl, rfl⟩ := e
    rw [Array.getElem?_setIfInBounds_self_of_lt (by omega)]; simp
  · rw [Array.getElem?_setIfInBounds_ne (by omega)]
    simp only [if_neg e]
    exact h3 i hi f hf

/-- What the law wants of each task, behind a requeue (b: the job had ended). -/
def wS (Z : ZA) (b : Bool) (jb : Int) (i : Nat) : Int := if (b && reqB jb (preZ (Z.S i))) = true then 1 else preZ (Z.S i)
def wL (Z : ZA) (b : Bool) (jb : Int) (i : Nat) : Int := if (b && reqB jb (preZ (Z.S i))) = true then Z.R i else Z.L i
def wV (Z : ZA) (b : Bool) (jb : Int) (i f : Nat) : Value := match f with
  | 0 => .int .i64 (wS Z b jb i)
  | 1 => .int .i64 (wL Z b jb i)
  | 2 => .int .i64 (Z.Tr i)
  | _ => .string (Z.Wk i)

/-- The next record written, and left as it is. -/
theorem Sav.wput {w wr : World} {WB n k : Nat} {Z : ZA} {b : Bool} {jb : Int} (h : Sav w wr WB n k (wV Z b jb)) (hk : k < n) (hb : (b && reqB jb (preZ (Z.S k))) = false) :
    Sav w ((((wr.setCell ⟨WB, k * 4, none⟩ (.int .i64 (preZ (Z.S k)))).setCell ⟨WB, k * 4 + 1, none⟩ (.int .i64 (Z.L k))).setCell ⟨WB, k * 4 + 2, none⟩ (.int .i64 (Z.Tr k))).setCell ⟨WB, k * 4 + 3, none⟩ (.string (Z.Wk k))) WB n (k + 1) (wV Z b jb) := by
  have := h.put hk
  simpa only [wV, wS, wL, hb, Bool.false_eq_true, if_false] using this
/-- The next record written, and mended. -/
theorem Sav.wput2 {w wr : World} {WB n k : Nat} {Z : ZA} {b : Bool} {jb : Int} (h : Sav w wr WB n k (wV Z b jb)) (hk : k < n) (hb : (b && reqB jb (preZ (Z.S k))) = true) :
    Sav w ((((((wr.setCell ⟨WB, k * 4, none⟩ (.int .i64 (preZ (Z.S k)))).setCell ⟨WB, k * 4 + 1, none⟩ (.int .i64 (Z.L k))).setCell ⟨WB, k * 4 + 2, none⟩ (.int .i64 (Z.Tr k))).setCell ⟨WB, k * 4 + 3, none⟩ (.string (Z.Wk k))).setCell ⟨WB, k * 4, none⟩ (.int .i64 1)).setCell ⟨WB, k * 4 + 1, none⟩ (.int .i64 (Z.R k))) WB n (k + 1) (wV Z b jb) := by
  obtain ⟨V0, hV0⟩ : ∃ V0 : Nat → Nat → Value, V0 = fun i f => if i = k then pV Z i f else wV Z b jb i f := ⟨_, rfl⟩
  have h0 : Sav w wr WB n k V0 := ⟨h.r.congr (fun i f hi _ => by rw [hV0]; simp only [if_neg (show i ≠ k by omega)]), h.k, h.ge⟩
  have h1 := h0.put hk
  have e0 : V0 k 0 = .int .i64 (preZ (Z.S k)) := by rw [hV0]; simp [pV]
  have e1 : V0 k 1 = .int .i64 (Z.L k) := by rw [hV0]; simp [pV]
  have e2 : V0 k 2 = .int .i64 (Z.Tr k) := by rw [hV0]; simp [pV]
  have e3 : V0 k 3 = .string (Z.Wk k) := by rw [hV0]; simp [pV]
  rw [e0, e1, e2, e3] at h1
  have r2 := (h1.r.mod hk (g := 0) (by omega) (.int .i64 1)).mod hk (g := 1) (by omega) (.int .i64 (Z.R k))
  refine ⟨r2.congr (fun i f hi hf => ?_), ?_, h.ge⟩
  · by_cases hik : i = k
    · subst hik
      have hf' : f = 0 ∨ f = 1 ∨ f = 2 ∨ f = 3 := by omega
      rcases hf' with rfl | rfl | rfl | rfl <;> simp [wV, wS, wL, hb, hV0, pV]
    · simp [hik, hV0]
  · exact (h1.k.trans (Keep.set _ ⟨WB, k * 4, none⟩ _) (fun i hi e => by have := h.ge; simp at e; omega)).trans (Keep.set _ ⟨WB, k * 4 + 1, none⟩ _) (fun i hi e => by have := h.ge; simp at e; omega)
theorem requeued_at (nm : ByteArray) (thr jb : Int) (Z : ZA) {n i : Nat} (h : i < n) :
    (((DK (toRA nm thr Z) jb Z.S Z.L Z.Tr Z.Wk n).ab n).requeued n).S i = wS Z true jb i ∧ (((DK (toRA nm thr Z) jb Z.S Z.L Z.Tr Z.Wk n).ab n).requeued n).L i = wL Z true jb i ∧ (((DK (toRA nm thr Z) jb Z.S Z.L Z.Tr Z.Wk n).ab n).requeued n).Tr i = Z.Tr i ∧ (((DK (toRA nm thr Z) jb Z.S Z.L Z.Tr Z.Wk n).ab n).requeued n).Wk i = Z.Wk i := by
  obtain ⟨_, a2, a3, a4, a5, a6⟩ := ab_at nm thr jb Z h
  have est : ((DK (toRA nm thr Z) jb Z.S Z.L Z.Tr Z.Wk n).ab n).st = jb := rfl
  refine ⟨?_, ?_, a5, a6⟩
  · simp only [JD.requeued, JD.setSt, JD.rq, a2, est, wS, h, true_and, Bool.true_and]
  · simp only [JD.requeued, JD.setSt, JD.rq, a2, a3, a4, est, wL, h, true_and, Bool.true_and]
theorem w_false (Z : ZA) (jb : Int) (i : Nat) : wS Z false jb i = preZ (Z.S i) ∧ wL Z false jb i = Z.L i := by
  simp [wS, wL]
end Go.Proofs.Qxb6614022a
