/-
  zzb1Build.
-/
import Derived.Test.Qxb6614018aSizes
import Derived.Deep.RegionHeld3
namespace Go.Proofs.Qxb6614018a
open Go.RowKit
set_option linter.unusedVariables false
set_option linter.unusedSimpArgs false
attribute [local go_sem] eql26 eql29

theorem info34 : (Try.prog.info? 34).map (fun i => (i.zero, i.size, i.bytes)) = some (some (.agg #[.int .i32 0, .string ByteArray.empty, .slice none 0 0]), 3, 48) := by kernel_rfl

theorem make34 (n : Nat) (hn : n ≤ 1048576) (w : World) : (Instr.makeSlice 29 (.int .i64 n) (.int .i64 n)).run Try.prog w =
    .ok (.slice (some ⟨w.heap.size, 0, none⟩) n n) (w.alloc (.cells (madeCells #[.int .i32 0, .string ByteArray.empty, .slice none 0 0] (n * 3)) 34)) := by
  obtain ⟨i, hi, hzz⟩ := Option.map_eq_some_iff.1 info34
  simp only [Prod.mk.injEq] at hzz
  obtain ⟨hz, hs, hb⟩ := hzz
  have := run_make (P := Try.prog) w 29 34 i _ Try.underlying29 hi hz .i64 .i64 n n (by omega) (Int.le_refl _) (by rw [hb]; omega) (by omega)
  simp only [Int.toNat_natCast, hs, Value.cells] at this
  exact this

/-- The first k entries of the list whose cells are c. -/
def Items (w : World) (base : Nat) (T : Nat → Int) (S : Nat → ByteArray) (A : Nat → Option Addr) (X : Nat → List Int) (c : Array Value) (k : Nat) : Prop :=
  ∀ i, i < k → c[i * 3]? = some (.int .i32 (T i)) ∧ c[i * 3 + 1]? = some (.string (S i)) ∧ ∃ v, c[i * 3 + 2]? = some v ∧ Clone w base v (A i).isNone (X i)

theorem Items.grown0 {w w' : World} {base : Nat} {T : Nat → Int} {S : Nat → ByteArray} {A : Nat → Option Addr} {X : Nat → List Int} {c : Array Value} {k : Nat}
    (h : Items w base T S A X c k) (hg : w.grownBy w' none) : Items w' base T S A X c k := fun i hi => by
  obtain ⟨h1, h2, v, h3, h4⟩ := h i hi
  exact ⟨h1, h2, v, h3, h4.grown0 hg⟩

theorem add_block (a : Addr) (i : Nat) : (a.add i).block = a.block := by unfold Addr.add; split <;> rfl
theorem far3 (w : World) (R o1 o2 o3 : Nat) (v1 v2 v3 : Value) (a : Addr) (i : Nat) (h : a.block ≠ R) :
    (((w.setCell ⟨R, o1, none⟩ v1).setCell ⟨R, o2, none⟩ v2).setCell ⟨R, o3, none⟩ v3).cell? (a.add i) = w.cell? (a.add i) := by
  have hb : (a.add i).block = a.block := by unfold Addr.add; split <;> rfl
  have hne : ∀ o, (⟨R, o, none⟩ : Addr) ≠ a.add i := fun o e => h (by rw [← hb, ← e])
  rw [World.cell?_setCell_other _ _ _ _ (hne o3), World.cell?_setCell_other _ _ _ _ (hne o2), World.cell?_setCell_other _ _ _ _ (hne o1)]

theorem items_step {w wr w5 : World} {L : Nat} {T : Nat → Int} {S : Nat → ByteArray} {A : Nat → Option Addr} {X : Nat → List Int} {c : Array Value} {k n base : Nat} {v : Value}
    (h1 : wr.heap[L]? = some (.cells c 34 (0, 0))) (h2 : c.size = n * 3) (h3 : Items wr (L + 1) T S A X c k) (h4 : w.grownBy wr none) (hL : w.heap.size ≤ L) (hk : k < n)
    (hg : wr.grownBy w5 none) (hcl : Clone w5 base v (A k).isNone (X k)) (hb : L + 1 ≤ base) :
    ∃ c', (((w5.setCell ⟨L, k * 3, none⟩ (.int .i32 (T k))).setCell ⟨L, k * 3 + 1, none⟩ (.string (S k))).setCell ⟨L, k * 3 + 2, none⟩ v).heap[L]? = some (.cells c' 34 (0, 0)) ∧ c'.size = n * 3 ∧
      Items (((w5.setCell ⟨L, k * 3, none⟩ (.int .i32 (T k))).setCell ⟨L, k * 3 + 1, none⟩ (.string (S k))).setCell ⟨L, k * 3 + 2, none⟩ v) (L + 1) T S A X c' (k + 1) ∧
      w.grownBy (((w5.setCell ⟨L, k * 3, none⟩ (.int .i32 (T k))).setCell ⟨L, k * 3 + 1, none⟩ (.string (S k))).setCell ⟨L, k * 3 + 2, none⟩ v) none := by
  have h5 := (hg.block L (lt_of_heap h1) (by simp)).trans h1
  have r0 := heap_setCell_same w5 L (k * 3) c 34 (.int .i32 (T k)) h5
  have r1 := heap_setCell_same _ L (k * 3 + 1) _ 34 (.string (S k)) r0
  have r2 := heap_setCell_same _ L (k * 3 + 2) _ 34 v r1
  have gs : w5.grownBy (((w5.setCell ⟨L, k * 3, none⟩ (.int .i32 (T k))).setCell ⟨L, k * 3 + 1, none⟩ (.string (S k))).setCell ⟨L, k * 3 + 2, none⟩ v) (some L) :=
    gtrans (gtrans (gset w5 ⟨L, k * 3, none⟩ _) (gset _ ⟨L, k * 3 + 1, none⟩ _)) (gset _ ⟨L, k * 3 + 2, none⟩ _)
  generalize (((w5.setCell ⟨L, k * 3, none⟩ (.int .i32 (T k))).setCell ⟨L, k * 3 + 1, none⟩ (.string (S k))).setCell ⟨L, k * 3 + 2, none⟩ v) = wf at r2 gs ⊢
  refine ⟨_, r2, by simp [h2], fun i hi => ?_, gjoin (gtrans h4 hg) gs hL⟩
  by_cases hik : i = k
  · subst hik
    refine ⟨?_, ?_, v, ?_, (hcl.base hb).grown gs (by omega)⟩
    · rw [Array.getElem?_setIfInBounds_ne (by omega), Array.getElem?_setIfInBounds_ne (by omega), Array.getElem?_setIfInBounds_self_of_lt (by omega)]
    · rw [Array.getElem?_setIfInBounds_ne (by omega), Array.getElem?_setIfInBounds_self_of_lt (by simp; omega)]
    · rw [Array.getElem?_setIfInBounds_self_of_lt (by simp; omega)]
  · obtain ⟨i1, i2, u, i3, i4⟩ := h3 i (by omega)
    refine ⟨?_, ?_, u, ?_, (i4.grown0 hg).grown gs (by omega)⟩
    · rw [Array.getElem?_setIfInBounds_ne (by omega), Array.getElem?_setIfInBounds_ne (by omega), Array.getElem?_setIfInBounds_ne (by omega)]; exact i1
    · rw [Array.getElem?_setIfInBounds_ne (by omega), Array.getElem?_setIfInBounds_ne (by omega), Array.getElem?_setIfInBounds_ne (by omega)]; exact i2
    · rw [Array.getElem?_setIfInBounds_ne (by omega), Array.getElem?_setIfInBounds_ne (by omega), Array.getElem?_setIfInBounds_ne (by omega)]; exact i3

set_option maxRecDepth 100000 in
set_option maxHeartbeats 1000000 in
theorem build_any (ao bo co : Option Addr) (T : Nat → Int) (S : Nat → ByteArray) (A : Nat → Option Addr) (X : Nat → List Int) (C : Nat → Nat) (n ct cs cc : Nat) (w : World)
    (hA : Args w ao bo co T S A X C n n n) (hn : n ≤ 65536) (hX : ∀ i, i < n → (X i).length ≤ 1048576) :
    Calls Try.prog 6 #[.slice ao n ct, .slice bo n cs, .slice co n cc, .int .i64 0, .int .i64 n] w fun e w' =>
      e = .returned (.slice (some ⟨w.heap.size, 0, none⟩) n n) ∧ ∃ c : Array Value, w'.heap[w.heap.size]? = some (.cells c 34 (0, 0)) ∧ c.size = n * 3 ∧ Items w' (w.heap.size + 1) T S A X c n ∧ w.grownBy w' none := by
  have hmk := make34 n (by omega)
  have HA : Hid (Args w ao bo co T S A X C n n n) := hA
  have HX : Hid (∀ i, i < n → (X i).length ≤ 1048576) := hX
  clear hA hX
  go_enter Try.func6, Try.ntmps6
  go_wp2
  go_loopw [12] (fun i wr => ∃ (k : Nat) (c : Array Value), k ≤ n ∧ i = .int .i64 k ∧ Hid (wr.heap[w.heap.size]? = some (.cells c 34 (0, 0)) ∧ c.size = n * 3 ∧ Items wr (w.heap.size + 1) T S A X c k ∧ w.grownBy wr none)) (fun i _ => n - (intOf i).toNat)
  case atStart => exact ⟨0, _, Nat.zero_le _, rfl, heap_alloc_new w _, size_madeCells _ _, fun i hi => by omega, galloc _ _ _⟩
  case round =>
    obtain ⟨k, c, hk, rfl, HR⟩ := hrel
    by_cases hlt : k < n
    · have hAw := HA.out.grown HR.out.2.2.2
      obtain ⟨adT, e, hT⟩ := hAw.ty (by omega)
      subst e
      obtain ⟨adS, e, hS⟩ := hAw.st (by omega)
      subst e
      obtain ⟨adA, e, hAu⟩ := hAw.au (by omega)
      subst e
      have x1 := hT k hlt
      have x2 := hS k hlt
      have x3 := hAu k hlt
      have hX := HX.out k hlt
      have q : (k : Int) < (n : Int) := by omega
      have bT : adT.block ≠ w.heap.size := by
        obtain ⟨a2, e, h⟩ := HA.out.ty (by omega)
        cases e
        have := World.block_lt_of_cell? w _ (h k hlt)
        rw [add_block] at this
        omega
      have bS : adS.block ≠ w.heap.size := by
        obtain ⟨a2, e, h⟩ := HA.out.st (by omega)
        cases e
        have := World.block_lt_of_cell? w _ (h k hlt)
        rw [add_block] at this
        omega
      have bA : adA.block ≠ w.heap.size := by
        obtain ⟨a2, e, h⟩ := HA.out.au (by omega)
        cases e
        have := World.block_lt_of_cell? w _ (h k hlt)
        rw [add_block] at this
        omega
      have HAw : Hid (Args wr (some adT) (some adS) (some adA) T S A X C n n n) := hAw
      clear hAw hT hS hAu
      go_wp2
      obtain ⟨h1, h2, h3, h4⟩ := HR.out
      have g0 : k * 3 < c.size := by omega
      have g1 : k * 3 + 1 < c.size := by omega
      have g2 : k * 3 + 2 < c.size := by omega
      have z0 : wr.cell? ⟨w.heap.size, k * 3, none⟩ = some c[k * 3] := by rw [cell_of_row _ _ _ _ _ _ h1, Array.getElem?_eq_getElem g0]
      have z1 : wr.cell? ⟨w.heap.size, k * 3 + 1, none⟩ = some c[k * 3 + 1] := by rw [cell_of_row _ _ _ _ _ _ h1, Array.getElem?_eq_getElem g1]
      have z2 : wr.cell? ⟨w.heap.size, k * 3 + 2, none⟩ = some c[k * 3 + 2] := by rw [cell_of_row _ _ _ _ _ _ h1, Array.getElem?_eq_getElem g2]
      generalize c[k * 3] = o0 at z0
      generalize c[k * 3 + 1] = o1 at z1
      generalize c[k * 3 + 2] = o2 at z2
      have f0 : wr.frozen? ⟨w.heap.size, k * 3, none⟩ = false := frozen_of_row _ _ _ _ _ h1
      have f1 : wr.frozen? ⟨w.heap.size, k * 3 + 1, none⟩ = false := frozen_of_row _ _ _ _ _ h1
      have f2 : wr.frozen? ⟨w.heap.size, k * 3 + 2, none⟩ = false := frozen_of_row _ _ _ _ _ h1
      have hLl := lt_of_heap h1
      clear h1 h2 h3 h4 g0 g1 g2
      have hw1 : IntKind.i64.wrap (k : Int) = (k : Int) := by rw [IntKind.wrap_i64]; omega
      go_region_held3 (fun w' => w'.cell? (adT.add k) = some (.int .i32 (T k)) ∧ w'.cell? (adS.add k) = some (.string (S k)) ∧ w'.cell? (adA.add k) = some (.slice (A k) (X k).length (C k))) (first | go_keep | exact ⟨s1, s2, s3⟩ | exact ⟨(far3 _ _ _ _ _ _ _ _ _ _ bT).trans s1, (far3 _ _ _ _ _ _ _ _ _ _ bS).trans s2, (far3 _ _ _ _ _ _ _ _ _ _ bA).trans s3⟩) ((go_at_call 9; refine (clone_any (A k) (X k) (C k) _ hX (HAw.out.nil k hlt) (by exact HAw.out.by_ k hlt)).mono ?_; rintro e w5 ⟨v, rfl, hcl, hg5⟩; obtain ⟨bo, cc, hv, hb1, hb2, hb3⟩ := hcl; subst hv; have s1 := hg5.cell (a := adT.add k) (by exact x1) (by simp); have s2 := hg5.cell (a := adS.add k) (by exact x2) (by simp); have s3 := hg5.cell (a := adA.add k) (by exact x3) (by simp); have y0 := hg5.cell (a := ⟨w.heap.size, k * 3, none⟩) (v := o0) (by exact z0) (by simp); have y1 := hg5.cell (a := ⟨w.heap.size, k * 3 + 1, none⟩) (v := o1) (by exact z1) (by simp); have y2 := hg5.cell (a := ⟨w.heap.size, k * 3 + 2, none⟩) (v := o2) (by exact z2) (by simp); have e0 : w5.frozen? ⟨w.heap.size, k * 3, none⟩ = false := (World.frozen?_of_block (hg5.block w.heap.size (by exact hLl) (by simp))).trans f0; have e1 : w5.frozen? ⟨w.heap.size, k * 3 + 1, none⟩ = false := (World.frozen?_of_block (hg5.block w.heap.size (by exact hLl) (by simp))).trans f1; have e2 : w5.frozen? ⟨w.heap.size, k * 3 + 2, none⟩ = false := (World.frozen?_of_block (hg5.block w.heap.size (by exact hLl) (by simp))).trans f2))
      go_wp2
      go_roundw
      case rel =>
        obtain ⟨r1, r2, r3, r4⟩ := HR.out
        obtain ⟨c', t1, t2, t3, t4⟩ := items_step r1 r2 r3 r4 (Nat.le_refl _) hlt (gtrans (gdrew wr none) hg5) ⟨bo, cc, rfl, hb1, hb2, hb3⟩ (by show w.heap.size + 1 ≤ wr.heap.size; exact lt_of_heap r1)
        exact ⟨k + 1, c', by omega, by go_num, t1, t2, t3, t4⟩
      case measure => simp [intOf]; omega
    · go_wp2
      go_ret
      obtain ⟨h1, h2, h3, h4⟩ := HR.out
      obtain rfl : k = n := by omega
      exact ⟨rfl, c, h1, h2, h3, h4⟩
end Go.Proofs.Qxb6614018a
