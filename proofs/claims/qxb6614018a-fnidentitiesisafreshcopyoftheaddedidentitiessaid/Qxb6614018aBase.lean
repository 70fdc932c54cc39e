/-
  Small laws; zzb1SameBytes, zzb1CloneBytes.
-/
import Derived.Test.Qxb6614018aRows
import Derived.WalkKit
import Derived.WalkSpells
import Derived.WalkLawsBesides
import Derived.Deep.QuietTactic
import Derived.BigQuiet
import Derived.Laws.CopyOwn
import Derived.Deep.OwnRows
import Derived.Deep.MidRow
namespace Go.Proofs.Qxb6614018a
open Go.RowKit
set_option linter.unusedVariables false
set_option linter.unusedSimpArgs false

theorem eql26 (a : Option Addr) (n c : Nat) (w : World) : (binOp .eql 26 (.slice a n c) (.slice none 0 0)).run Try.prog w = .ok (.bool a.isNone) w := Lib.run_eql_slice_nil w _ _ a n c 0 0 Try.underlying26
theorem eql29 (a : Option Addr) (n c : Nat) (w : World) : (binOp .eql 29 (.slice a n c) (.slice none 0 0)).run Try.prog w = .ok (.bool a.isNone) w := Lib.run_eql_slice_nil w _ _ a n c 0 0 Try.underlying29
attribute [local go_sem] eql26 eql29

theorem cell_al {w : World} {a : Addr} {v : Value} (o : Obj) (h : w.cell? a = some v) : (w.alloc o).cell? a = some v :=
  (World.cell?_alloc_lt w o a (World.block_lt_of_cell? w a h)).trans h
theorem lt_of_heap {w : World} {R : Nat} {o : Obj} (h : w.heap[R]? = some o) : R < w.heap.size := by
  rcases Nat.lt_or_ge R w.heap.size with h' | h'
  · exact h'
  · rw [Array.getElem?_eq_none h'] at h; cases h
theorem gtrans {a b c : World} {row : Option Nat} (h : a.grownBy b row) (k : b.grownBy c row) : a.grownBy c row :=
  ⟨k.os.trans h.os, k.tape.trans h.tape, k.output.trans h.output, Nat.le_trans h.size k.size, fun i hi hne => (k.block i (Nat.lt_of_lt_of_le hi h.size) hne).trans (h.block i hi hne)⟩
theorem gany {a c : World} (h : a.grownBy c none) (row : Option Nat) : a.grownBy c row := ⟨h.os, h.tape, h.output, h.size, fun i hi _ => h.block i hi (by simp)⟩
theorem gdrew (w : World) (row : Option Nat) : w.grownBy w.drew row := ⟨rfl, rfl, rfl, Nat.le_refl _, fun _ _ _ => rfl⟩
theorem gdrewN (w : World) (n : Nat) (row : Option Nat) : w.grownBy (w.drewN n) row := ⟨rfl, rfl, rfl, Nat.le_refl _, fun _ _ _ => rfl⟩
theorem galloc (w : World) (o : Obj) (row : Option Nat) : w.grownBy (w.alloc o) row := World.grownBy_alloc w o row
theorem grefl (w : World) (row : Option Nat) : w.grownBy w row := World.grownBy.refl w row
theorem gjoin {a b c : World} {R : Nat} (h : a.grownBy b none) (k : b.grownBy c (some R)) (hR : a.heap.size ≤ R) : a.grownBy c none :=
  ⟨k.os.trans h.os, k.tape.trans h.tape, k.output.trans h.output, Nat.le_trans h.size k.size, fun i hi hne => (k.block i (Nat.lt_of_lt_of_le hi h.size) (by simp; omega)).trans (h.block i hi hne)⟩
theorem gset (w : World) (a : Addr) (u : Value) : w.grownBy (w.setCell a u) (some a.block) :=
  ⟨rfl, rfl, rfl, by simp, fun i _ hne => Below.heap_setCell w _ u i (fun e => hne (by rw [e]))⟩
theorem setRow_grown {a b : World} {row : Option Nat} (h : a.grownBy b row) (R : Nat) (cs : Array Value) (hR : a.heap.size ≤ R ∨ row = some R) : a.grownBy (b.setRow R cs) row :=
  ⟨h.os, h.tape, h.output, by rw [size_setRow]; exact h.size, fun i hi hne => (setRow_other b R i cs (fun e => by
    rcases hR with h | h
    · omega
    · exact hne (by rw [h, e]))).trans (h.block i hi hne)⟩

/-- The cells behind a slice of bytes, up to its length. -/
def Sl (w : World) (v : Value) (l : List Int) : Prop :=
  ∃ ao c, v = .slice ao l.length c ∧ (0 < l.length → ∃ ad, ao = some ad ∧ ∀ j, j < l.length → w.cell? (ad.add j) = some (.int .u8 (l.getD j 0)))
theorem Sl.grown {w w' : World} {v : Value} {l : List Int} (h : Sl w v l) (hg : w.grownBy w' none) : Sl w' v l := by
  obtain ⟨ao, c, h0, h1⟩ := h
  exact ⟨ao, c, h0, fun hp => by obtain ⟨ad, e, h2⟩ := h1 hp; exact ⟨ad, e, fun j hj => hg.cell (h2 j hj) (by simp)⟩⟩

set_option maxHeartbeats 400000 in
theorem same_any (v1 v2 : Value) (l : List Int) (w : World) (h1 : Sl w v1 l) (h2 : Sl w v2 l) (hl : l.length ≤ 1048576) :
    Calls Try.prog 11 #[v1, v2] w fun e w' => e = .returned (.bool true) ∧ ∃ n, w' = w.drewN n := by
  obtain ⟨ao1, c1, rfl, k1⟩ := h1
  obtain ⟨ao2, c2, rfl, k2⟩ := h2
  have hq : ((l.length : Int) != (l.length : Int)) = false := by simp
  by_cases hn : 0 < l.length
  · obtain ⟨a1, rfl, b1⟩ := k1 hn
    obtain ⟨a2, rfl, b2⟩ := k2 hn
    obtain ⟨n, HN⟩ : ∃ n, Hid (l.length = n) := ⟨_, rfl⟩
    rw [HN.out] at hl hq ⊢
    have B1 : Hid (∀ j, j < l.length → w.cell? (a1.add j) = some (.int .u8 (l.getD j 0))) := b1
    have B2 : Hid (∀ j, j < l.length → w.cell? (a2.add j) = some (.int .u8 (l.getD j 0))) := b2
    clear k1 k2 b1 b2
    go_enter Try.func11, Try.ntmps11
    go_wp2
    go_loopw [5] (fun i wr => ∃ k m : Nat, k ≤ n ∧ i = .int .i64 k ∧ wr = w.drewN m) (fun i _ => n - (intOf i).toNat)
    case atStart => exact ⟨0, 0, Nat.zero_le _, rfl, rfl⟩
    case round =>
      obtain ⟨k, m, hk, rfl, rfl⟩ := hrel
      by_cases hlt : k < n
      · have x1 := B1.out k (by rw [HN.out]; exact hlt)
        have x2 := B2.out k (by rw [HN.out]; exact hlt)
        obtain ⟨b, HB⟩ : ∃ b, Hid (b = l.getD k 0) := ⟨_, rfl⟩
        rw [← HB.out] at x1 x2
        have hbb : (b != b) = false := by simp
        have q1 : (k : Int) < (n : Int) := by omega
        go_wp2
        go_quiet (fail)
        go_wp2
        go_roundw
        case rel => exact ⟨k + 1, _, by omega, by go_num, rfl⟩
        case measure => simp [intOf]; omega
      · go_wp2
        go_ret
        exact ⟨rfl, m, rfl⟩
  · obtain ⟨n, HN⟩ : ∃ n, Hid (l.length = n) := ⟨_, rfl⟩
    rw [HN.out] at hl hq hn ⊢
    go_enter Try.func11, Try.ntmps11
    go_wp2
    refine wp_loop_rounds 1 ?_
    rw [rounds_succ]
    go_wp2
    go_ret
    exact ⟨rfl, 0, rfl⟩
end Go.Proofs.Qxb6614018a
