/-
  What the replay of a requeue's changes keeps: four lists.
-/
import Derived.Test.Qxb6614022aRq
namespace Go.Proofs.Qxb6614022a
open Go.RowKit
set_option linter.unusedVariables false
set_option linter.unusedSimpArgs false

theorem info39 : (Try.prog.info? 39).map (fun i => (i.zero, i.size, i.bytes)) = some (some (.int .i64 0), 1, 8) := by kernel_rfl
theorem info4 : (Try.prog.info? 4).map (fun i => (i.zero, i.size, i.bytes)) = some (some (.bool false), 1, 1) := by kernel_rfl
theorem make56 (n : Nat) (hn : n ≤ 1048576) (w : World) : (Instr.makeSlice 56 (.int .i64 n) (.int .i64 n)).run Try.prog w =
    .ok (.slice (some ⟨w.heap.size, 0, none⟩) n n) (w.alloc (.cells (madeCells #[.int .i64 0] n) 39)) := by
  obtain ⟨i, hi, hzz⟩ := Option.map_eq_some_iff.1 info39
  simp only [Prod.mk.injEq] at hzz
  obtain ⟨hz, hs, hb⟩ := hzz
  have := run_make (P := Try.prog) w 56 39 i _ Try.underlying56 hi hz .i64 .i64 n n (by omega) (Int.le_refl _) (by rw [hb]; omega) (by omega)
  simp only [Int.toNat_natCast, hs, Value.cells, Nat.mul_one] at this
  exact this
theorem make57 (n : Nat) (hn : n ≤ 1048576) (w : World) : (Instr.makeSlice 57 (.int .i64 n) (.int .i64 n)).run Try.prog w =
    .ok (.slice (some ⟨w.heap.size, 0, none⟩) n n) (w.alloc (.cells (madeCells #[.bool false] n) 4)) := by
  obtain ⟨i, hi, hzz⟩ := Option.map_eq_some_iff.1 info4
  simp only [Prod.mk.injEq] at hzz
  obtain ⟨hz, hs, hb⟩ := hzz
  have := run_make (P := Try.prog) w 57 4 i _ Try.underlying57 hi hz .i64 .i64 n n (by omega) (Int.le_refl _) (by rw [hb]; omega) (by omega)
  simp only [Int.toNat_natCast, hs, Value.cells, Nat.mul_one] at this
  exact this

/-- A row of n cells, the first k of them as V says. -/
def Row1 (w : World) (t : TypeId) (QB n k : Nat) (V : Nat → Value) : Prop :=
  ∃ c : Array Value, w.heap[QB]? = some (.cells c t (0, 0)) ∧ c.size = n ∧ ∀ i, i < k → c[i]? = some (V i)

section
variable {w w' : World} {t : TypeId} {QB n k : Nat} {V V' : Nat → Value}
theorem Row1.keepX {X : Nat → Prop} (h : Row1 w t QB n k V) (hk : Keep w w' X) (hX : ¬ X QB) : Row1 w' t QB n k V := by
  obtain ⟨c, h1, h2⟩ := h
  exact ⟨c, (hk.block QB (lt_of_heap h1) hX).trans h1, h2⟩
theorem Row1.cell (h : Row1 w t QB n k V) {i : Nat} (hi : i < k) : w.cell? ⟨QB, i, none⟩ = some (V i) := by
  obtain ⟨c, h1, h2, h3⟩ := h
  rw [cell_of_row _ _ _ _ _ _ h1]; exact h3 i hi
theorem Row1.some (h : Row1 w t QB n k V) {i : Nat} (hi : i < n) : ∃ o, w.cell? ⟨QB, i, none⟩ = Option.some o := by
  obtain ⟨c, h1, h2, h3⟩ := h
  exact ⟨c[i]'(by omega), by rw [cell_of_row _ _ _ _ _ _ h1, Array.getElem?_eq_getElem (by omega)]⟩
theorem Row1.fz (h : Row1 w t QB n k V) (i : Nat) : w.frozen? ⟨QB, i, none⟩ = false := by
  obtain ⟨c, h1, h2, h3⟩ := h
  exact frozen_of_row _ _ _ _ _ h1
theorem Row1.step (h : Row1 w t QB n k V) (hk : k < n) : Row1 (w.setCell ⟨QB, k, none⟩ (V k)) t QB n (k + 1) V := by
  obtain ⟨c, h1, h2, h3⟩ := h
  refine ⟨_, heap_setCell_same w QB k c t (V k) h1, by simpa using h2, fun i hi => ?_⟩
  by_cases e : i = k
  · subst e; rw [Array.getElem?_setIfInBounds_self_of_lt (by omega)]
  · rw [Array.getElem?_setIfInBounds_ne (by omega)]; exact h3 i (by omega)
theorem Row1.mod (h : Row1 w t QB n k V) {j : Nat} (hj : j < n) (u : Value) : Row1 (w.setCell ⟨QB, j, none⟩ u) t QB n k (fun i => if i = j then u else V i) := by
  obtain ⟨c, h1, h2, h3⟩ := h
  refine ⟨_, heap_setCell_same w QB j c t u h1, by simpa using h2, fun i hi => ?_⟩
  by_cases e : i = j
  · subst e; rw [Array.getElem?_setIfInBounds_self_of_lt (by omega)]; simp
  · rw [Array.getElem?_setIfInBounds_ne (by omega)]; simp only [if_neg e]; exact h3 i hi
theorem Row1.congr (h : Row1 w t QB n k V) (e : ∀ i, i < k → V i = V' i) : Row1 w t QB n k V' := by
  obtain ⟨c, h1, h2, h3⟩ := h
  exact ⟨c, h1, h2, fun i hi => by rw [← e i hi]; exact h3 i hi⟩
theorem Row1.start (h : Row1 w t QB n k V) : Row1 w t QB n 0 V' := by
  obtain ⟨c, h1, h2, h3⟩ := h
  exact ⟨c, h1, h2, fun i hi => by omega⟩
end
theorem row1_made (w : World) (t : TypeId) (z : Value) (n : Nat) : Row1 (w.alloc (.cells (madeCells #[z] n) t)) t w.heap.size n n (fun _ => z) :=
  ⟨_, heap_alloc_new w _, size_madeCells _ _, fun i hi => by simp [madeCells, hi, Nat.mod_one]⟩

/-- The four lists: the states before, the states behind, the statuses as replayed (kc of them laid), those that were logged. -/
structure Rp (w wr : World) (W1 W2 W3 W4 n kc : Nat) (V1 V2 : Nat → Nat → Value) (C Lg : Nat → Value) : Prop where
  r1 : Row4 wr 44 W1 n n V1
  r2 : Row4 wr 44 W2 n n V2
  r3 : Row1 wr 39 W3 n kc C
  r4 : Row1 wr 4 W4 n n Lg
  k : Keep w wr (fun _ => False)
  h1 : W1 < w.heap.size
  h2 : w.heap.size ≤ W2
  h3 : W2 < W3
  h4 : W3 < W4

section
variable {w wr w' : World} {W1 W2 W3 W4 n kc : Nat} {V1 V2 : Nat → Nat → Value} {C Lg : Nat → Value}
theorem Rp.keep (h : Rp w wr W1 W2 W3 W4 n kc V1 V2 C Lg) (hk : Keep wr w' (fun _ => False)) : Rp w w' W1 W2 W3 W4 n kc V1 V2 C Lg :=
  ⟨h.r1.keep hk, h.r2.keep hk, h.r3.keepX hk id, h.r4.keepX hk id, h.k.trans hk (fun _ _ h => h), h.h1, h.h2, h.h3, h.h4⟩
theorem Rp.put (h : Rp w wr W1 W2 W3 W4 n kc V1 V2 C Lg) (hk : kc < n) : Rp w (wr.setCell ⟨W3, kc, none⟩ (C kc)) W1 W2 W3 W4 n (kc + 1) V1 V2 C Lg := by
  have ks := Keep.set wr ⟨W3, kc, none⟩ (C kc)
  have a1 := h.h1
  have a2 := h.h2
  have a3 := h.h3
  have a4 := h.h4
  exact ⟨h.r1.keepX ks (fun e => by have e' : W1 = W3 := e; omega), h.r2.keepX ks (fun e => by have e' : W2 = W3 := e; omega), h.r3.step hk, h.r4.keepX ks (fun e => by have e' : W4 = W3 := e; omega), h.k.trans ks (fun i hi e => by have e' : i = W3 := e; omega), a1, a2, a3, a4⟩
theorem Rp.mend (h : Rp w wr W1 W2 W3 W4 n n V1 V2 C Lg) {j : Nat} (hj : j < n) (u v : Value) : Rp w ((wr.setCell ⟨W3, j, none⟩ u).setCell ⟨W4, j, none⟩ v) W1 W2 W3 W4 n n V1 V2 (fun i => if i = j then u else C i) (fun i => if i = j then v else Lg i) := by
  have ks := Keep.set wr ⟨W3, j, none⟩ u
  have kt := Keep.set (wr.setCell ⟨W3, j, none⟩ u) ⟨W4, j, none⟩ v
  have a1 := h.h1
  have a2 := h.h2
  have a3 := h.h3
  have a4 := h.h4
  exact ⟨(h.r1.keepX ks (fun e => by have e' : W1 = W3 := e; omega)).keepX kt (fun e => by have e' : W1 = W4 := e; omega), (h.r2.keepX ks (fun e => by have e' : W2 = W3 := e; omega)).keepX kt (fun e => by have e' : W2 = W4 := e; omega), (h.r3.mod hj u).keepX kt (fun e => by have e' : W3 = W4 := e; omega), (h.r4.keepX ks (fun e => by have e' : W4 = W3 := e; omega)).mod hj v,
    (h.k.trans ks (fun i hi e => by have e' : i = W3 := e; omega)).trans kt (fun i hi e => by have e' : i = W4 := e; omega), a1, a2, a3, a4⟩
theorem Rp.congr {C' Lg' : Nat → Value} (h : Rp w wr W1 W2 W3 W4 n n V1 V2 C Lg) (e1 : ∀ i, i < n → C i = C' i) (e2 : ∀ i, i < n → Lg i = Lg' i) : Rp w wr W1 W2 W3 W4 n n V1 V2 C' Lg' :=
  ⟨h.r1, h.r2, h.r3.congr e1, h.r4.congr e2, h.k, h.h1, h.h2, h.h3, h.h4⟩
end
end Go.Proofs.Qxb6614022a
