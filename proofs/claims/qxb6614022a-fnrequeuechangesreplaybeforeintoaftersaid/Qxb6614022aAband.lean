/-
  (*Job).Abandon, requeueTasks, Requeue.
-/
import Derived.Test.Qxb6614022aCount
namespace Go.Proofs.Qxb6614022a
open Go.RowKit
set_option linter.unusedVariables false
set_option linter.unusedSimpArgs false

def chgC (D : JD) (i : Nat) (to : Int) : Array Value := #[.int .i64 i, .string (D.N i), .int .i64 (D.S i), .int .i64 to, .int .i64 (D.L i), .int .i64 (D.Tr i), .string (D.Wk i), .int .i64 0, .int .i64 0]
def jchgC (D : JD) (to : Int) : Array Value := #[.int .i64 (-1), .string D.nm, .int .i64 0, .int .i64 0, .int .i64 0, .int .i64 0, .string ⟨#[]⟩, .int .i64 D.st, .int .i64 to]

def AbPost (w : World) (lo JB TB n : Nat) (G : Nat → Value) (D : JD) (i m : Nat) (F : Nat → Prop) (e : Ending) (w' : World) : Prop :=
  ∃ b F', e = .returned (.slice (some ⟨b, 0, none⟩) 1 1) ∧ w'.heap[b]? = some (.cells (chgC D i 1) 46 (0, 0)) ∧ w.heap.size ≤ b ∧ ¬ F' b ∧ Jb w' lo JB TB n G (D.setS i 1) (m + 1) F' ∧ Step w w' F F'

theorem fresh_not {w w' : World} {lo JB TB n m : Nat} {G : Nat → Value} {D : JD} {F : Nat → Prop} (h : Jb w lo JB TB n G D m F) : ¬ F w.heap.size := fun hf => by have := (h.lt _ hf).2; omega

set_option maxRecDepth 100000 in
set_option maxHeartbeats 1000000 in
theorem abandon_any {lo JB TB n m : Nat} {G : Nat → Value} {D : JD} {F : Nat → Prop} (i : Nat) (w : World) (h : Jb w lo JB TB n G D m F) (hi : i < n) (hn : n ≤ 65536) (hm : m ≤ 1099511627776) (hS : D.S i = 2) :
    Calls Try.prog 28 #[.pointer (some ⟨JB, 0, none⟩), .int .i64 i] w fun e w' => AbPost w lo JB TB n G D i m F e w' := by
  have HJ : Hid (Jb w lo JB TB n G D m F) := h
  obtain ⟨_, _, _, hc, _⟩ := h.jc
  have c3 := hc.c3
  obtain ⟨z6, c6⟩ := hc.c6
  have f6 := hc.fz 6
  have t1 := (h.tc hi).c1
  rw [hS] at t1
  have q : (i : Int) < (n : Int) := by omega
  have HS : Hid (D.S i = 2) := hS
  clear h hc hS
  go_enter Try.func28, Try.ntmps28
  go_wp2_with fail
  have J1 := HJ.out.setCnt 6 (Or.inl rfl) (wrap64 (z6 - 1))
  refine (J1.push (by omega) _).mono ?_
  rintro e w1 ⟨rfl, F1, P1, P2⟩
  have HS1 : Hid (Step w w1 F F1) := (Step.keep (keepF HJ.out _ (Or.inl rfl))).trans P2
  have HP1 : Hid (Jb w1 lo JB TB n G D (m + 1) F1) := P1
  clear J1 P1 P2
  go_wp2_with fail
  refine (setTask_any i 1 w1 HP1.out hi hn).mono ?_
  rintro e w2 ⟨rfl, P1, P2⟩
  have HP2 : Hid (Jb w2 lo JB TB n G (D.setS i 1) (m + 1) F1 ∧ Step w w2 F F1) := ⟨P1, HS1.out.trans (Step.keep P2)⟩
  clear P1 P2
  unfold chgOf
  go_wp2_with fail
  go_ret
  exact ⟨w2.heap.size, F1, rfl, heap_alloc_new w2 _, HP2.out.2.1.size, fresh_not (w' := w2) HP2.out.1, HP2.out.1.keep (Keep.alloc _ _ _), HP2.out.2.trans (Step.of (Keep.alloc _ _ _))⟩
end Go.Proofs.Qxb6614022a
