/-
  zzBuild.
-/
import Derived.Test.Qxb6614022aFits
import Derived.Test.Qxb6614022aCon
namespace Go.Proofs.Qxb6614022a
open Go.RowKit
set_option linter.unusedVariables false
set_option linter.unusedSimpArgs false

theorem info62 : (Try.prog.info? 62).map (fun i => (i.zero, i.size, i.bytes)) = some (some (.agg #[.string ⟨#[]⟩, .slice none 0 0, .slice none 0 0, .int .i64 0]), 4, 72) := by kernel_rfl
theorem info44 : (Try.prog.info? 44).map (fun i => (i.zero, i.size, i.bytes)) = some (some (.agg #[.int .i64 0, .int .i64 0, .int .i64 0, .string ⟨#[]⟩]), 4, 40) := by kernel_rfl
def z62c : Array Value := #[.string ⟨#[]⟩, .slice none 0 0, .slice none 0 0, .int .i64 0]
def z44c : Array Value := #[.int .i64 0, .int .i64 0, .int .i64 0, .string ⟨#[]⟩]
theorem make62 (n : Nat) (hn : n ≤ 1048576) (w : World) : (Instr.makeSlice 61 (.int .i64 n) (.int .i64 n)).run Try.prog w =
    .ok (.slice (some ⟨w.heap.size, 0, none⟩) n n) (w.alloc (.cells (madeCells z62c (n * 4)) 62)) := by
  obtain ⟨i, hi, hzz⟩ := Option.map_eq_some_iff.1 info62
  simp only [Prod.mk.injEq] at hzz
  obtain ⟨hz, hs, hb⟩ := hzz
  have := run_make (P := Try.prog) w 61 62 i _ Try.underlying61 hi hz .i64 .i64 n n (by omega) (Int.le_refl _) (by rw [hb]; omega) (by omega)
  simp only [Int.toNat_natCast, hs, Value.cells] at this
  exact this
theorem make44 (n : Nat) (hn : n ≤ 1048576) (w : World) : (Instr.makeSlice 30 (.int .i64 n) (.int .i64 n)).run Try.prog w =
    .ok (.slice (some ⟨w.heap.size, 0, none⟩) n n) (w.alloc (.cells (madeCells z44c (n * 4)) 44)) := by
  obtain ⟨i, hi, hzz⟩ := Option.map_eq_some_iff.1 info44
  simp only [Prod.mk.injEq] at hzz
  obtain ⟨hz, hs, hb⟩ := hzz
  have := run_make (P := Try.prog) w 30 44 i _ Try.underlying30 hi hz .i64 .i64 n n (by omega) (Int.le_refl _) (by rw [hb]; omega) (by omega)
  simp only [Int.toNat_natCast, hs, Value.cells] at this
  exact this

/-- A row of n records of four cells each, the first k of them as V says. -/
def Row4 (w : World) (t : TypeId) (QB n k : Nat) (V : Nat → Nat → Value) : Prop :=
  ∃ c : Array Value, w.heap[QB]? = some (.cells c t (0, 0)) ∧ c.size = n * 4 ∧ ∀ i, i < k → ∀ f, f < 4 → c[i * 4 + f]? = some (V i f)

theorem Row4.step {w : World} {t : TypeId} {QB n k : Nat} {V : Nat → Nat → Value} (h : Row4 w t QB n k V) (hk : k < n) :
    Row4 ((((w.setCell ⟨QB, k * 4, none⟩ (V k 0)).setCell ⟨QB, k * 4 + 1, none⟩ (V k 1)).setCell ⟨QB, k * 4 + 2, none⟩ (V k 2)).setCell ⟨QB, k * 4 + 3, none⟩ (V k 3)) t QB n (k + 1) V := by
  obtain ⟨c, h1, h2, h3⟩ := h
  have e1 := heap_setCell_same w QB (k * 4) c t (V k 0) h1
  have e2 := heap_setCell_same _ QB (k * 4 + 1) _ t (V k 1) e1
  have e3 := heap_setCell_same _ QB (k * 4 + 2) _ t (V k 2) e2
  have e4 := heap_setCell_same _ QB (k * 4 + 3) _ t (V k 3) e3
  have s1 : ∀ (c : Array Value) (a b : Nat) (v : Value), a ≠ b → (c.setIfInBounds a v)[b]? = c[b]? := fun c a b v hab => Array.getElem?_setIfInBounds_ne hab
  refine ⟨_, e4, by simpa using h2, fun i hi f hf => ?_⟩
  by_cases hik : i = k
  · subst hik
    have hf' : f = 0 ∨ f = 1 ∨ f = 2 ∨ f = 3 := by omega
    rcases hf' with rfl | rfl | rfl | rfl
    · rw [s1 _ _ _ _ (by omega), s1 _ _ _ _ (by omega), s1 _ _ _ _ (by omega), Nat.add_zero, Array.getElem?_setIfInBounds_self_of_lt (by omega)]
    · rw [s1 _ _ _ _ (by omega), s1 _ _ _ _ (by omega), Array.getElem?_setIfInBounds_self_of_lt (by simp; omega)]
    · rw [s1 _ _ _ _ (by omega), Array.getElem?_setIfInBounds_self_of_lt (by simp; omega)]
    · rw [Array.getElem?_setIfInBounds_self_of_lt (by simp; omega)]
  · rw [s1 _ _ _ _ (by omega), s1 _ _ _ _ (by omega), s1 _ _ _ _ (by omega), s1 _ _ _ _ (by omega)]
    exact h3 i (by omega) f hf
theorem Row4.keep {w w' : World} {t : TypeId} {QB n k : Nat} {V : Nat → Nat → Value} (h : Row4 w t QB n k V) (hk : Keep w w' (fun _ => False)) : Row4 w' t QB n k V := by
  obtain ⟨c, h1, h2⟩ := h
  exact ⟨c, (hk.block QB (lt_of_heap h1) id).trans h1, h2⟩
theorem keep4 (w : World) (QB a0 a1 a2 a3 : Nat) (v0 v1 v2 v3 : Value) : Keep w ((((w.setCell ⟨QB, a0, none⟩ v0).setCell ⟨QB, a1, none⟩ v1).setCell ⟨QB, a2, none⟩ v2).setCell ⟨QB, a3, none⟩ v3) (fun b => b = QB) :=
  (((Keep.set w ⟨QB, a0, none⟩ v0).trans (Keep.set _ ⟨QB, a1, none⟩ v1) (fun _ _ h => h)).trans (Keep.set _ ⟨QB, a2, none⟩ v2) (fun _ _ h => h)).trans (Keep.set _ ⟨QB, a3, none⟩ v3) (fun _ _ h => h)
theorem row4_made (w : World) (t : TypeId) (z : Array Value) (n : Nat) (V : Nat → Nat → Value) : Row4 (w.alloc (.cells (madeCells z (n * 4)) t)) t w.heap.size n 0 V :=
  ⟨_, heap_alloc_new w _, size_madeCells _ _, fun i hi => by omega⟩
end Go.Proofs.Qxb6614022a
