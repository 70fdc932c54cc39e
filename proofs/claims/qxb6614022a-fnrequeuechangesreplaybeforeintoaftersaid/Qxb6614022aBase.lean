/-
  Small laws; the methods of readyTasks.
-/
import Derived.Test.Qxb6614022aRows
import Derived.WalkKit
import Derived.WalkSpells
import Derived.WalkLawsBesides
import Derived.Deep.QuietTactic
import Derived.BigQuiet
import Derived.Handy
import Derived.Maps.AppendAt
import Derived.Deep.RegionHeld3
import Derived.Deep.OwnRows
import Derived.Deep.MidRow
import Derived.Laws.Rows
namespace Go.Proofs.Qxb6614022a
open Go.RowKit
set_option linter.unusedVariables false
set_option linter.unusedSimpArgs false

theorem lt_of_heap {w : World} {R : Nat} {o : Obj} (h : w.heap[R]? = some o) : R < w.heap.size := by
  rcases Nat.lt_or_ge R w.heap.size with h' | h'
  · exact h'
  · rw [Array.getElem?_eq_none h'] at h; cases h

/-- All old blocks but those of F are as they were. -/
structure Keep (w w' : World) (F : Nat → Prop) : Prop where
  os : w'.os = w.os
  tape : w'.tape = w.tape
  output : w'.output = w.output
  size : w.heap.size ≤ w'.heap.size
  block : ∀ k, k < w.heap.size → ¬ F k → w'.heap[k]? = w.heap[k]?

theorem Keep.refl (w : World) (F : Nat → Prop) : Keep w w F := ⟨rfl, rfl, rfl, Nat.le_refl _, fun _ _ _ => rfl⟩
theorem Keep.mono {w w' : World} {F G : Nat → Prop} (h : Keep w w' F) (hFG : ∀ k, k < w.heap.size → F k → G k) : Keep w w' G :=
  ⟨h.os, h.tape, h.output, h.size, fun k hk hn => h.block k hk (fun hf => hn (hFG k hk hf))⟩
theorem Keep.trans {a b c : World} {F G : Nat → Prop} (h : Keep a b F) (k : Keep b c G) (hG : ∀ i, i < a.heap.size → G i → F i) : Keep a c F :=
  ⟨k.os.trans h.os, k.tape.trans h.tape, k.output.trans h.output, Nat.le_trans h.size k.size, fun i hi hn => (k.block i (Nat.lt_of_lt_of_le hi h.size) (fun hg => hn (hG i hi hg))).trans (h.block i hi hn)⟩
theorem Keep.alloc (w : World) (o : Obj) (F : Nat → Prop) : Keep w (w.alloc o) F :=
  have h := World.grownBy_alloc w o none
  ⟨h.os, h.tape, h.output, h.size, fun k hk _ => h.block k hk (by simp)⟩
theorem Keep.drewN (w : World) (n : Nat) (F : Nat → Prop) : Keep w (w.drewN n) F := ⟨rfl, rfl, rfl, Nat.le_refl _, fun _ _ _ => rfl⟩
theorem Keep.drew (w : World) (F : Nat → Prop) : Keep w w.drew F := ⟨rfl, rfl, rfl, Nat.le_refl _, fun _ _ _ => rfl⟩
theorem Keep.set (w : World) (a : Addr) (u : Value) : Keep w (w.setCell a u) (fun k => k = a.block) :=
  ⟨rfl, rfl, rfl, by simp, fun i _ hne => Below.heap_setCell w _ u i (fun e => hne (by rw [e]))⟩
theorem Keep.grown {w w' : World} {row : Option Nat} (h : w.grownBy w' row) : Keep w w' (fun k => row = some k) :=
  ⟨h.os, h.tape, h.output, h.size, fun k hk hn => h.block k hk (fun e => hn e.symm)⟩
theorem Keep.same {a b c : World} {F : Nat → Prop} (h : Keep a b F) (h1 : c.heap = b.heap) (h2 : c.os = b.os) (h3 : c.tape = b.tape) (h4 : c.output = b.output) : Keep a c F :=
  ⟨h2.trans h.os, h3.trans h.tape, h4.trans h.output, by rw [h1]; exact h.size, fun i hi hne => by rw [h1]; exact h.block i hi hne⟩

/-- The list of ready tasks: a row of its own with ints. -/
def Rdy (w : World) (lo : Nat) (rv : Value) (len : Nat) : Prop :=
  ∃ xs, w.ownsRow lo 3 1 rv len xs ∧ (∀ u ∈ xs, ∃ z, u = .int .i64 z)

theorem Rdy.kept {w w' : World} {lo len : Nat} {rv : Value} {F : Nat → Prop} (h : Rdy w lo rv len) (k : Keep w w' F) (hF : ∀ g, rv.ownBlock = some g → ¬ F g) : Rdy w' lo rv len := by
  obtain ⟨xs, ⟨h1, h2⟩, h3⟩ := h
  refine ⟨xs, ⟨h1, ?_⟩, h3⟩
  rcases h2 with h2 | ⟨g, cap, cur, rfl, h4, h5, h6⟩
  · exact Or.inl h2
  · exact Or.inr ⟨g, cap, cur, rfl, h4, (k.block g (lt_of_heap h5) (hF g rfl)).trans h5, h6⟩

/-- What is in the row at i. -/
theorem Rdy.at {w : World} {lo len i : Nat} {rv : Value} (h : Rdy w lo rv len) (hi : i < len) :
    ∃ g cap cur z, rv = .slice (some ⟨g, 0, none⟩) len cap ∧ lo ≤ g ∧ w.heap[g]? = some (.cells cur 3 (0, 0)) ∧ len ≤ cap ∧ cap ≤ maxLen ∧ cur.size = cap ∧ cur[i]? = some (.int .i64 z) := by
  obtain ⟨xs, ⟨h1, h2⟩, h3⟩ := h
  rcases h2 with h2 | ⟨g, cap, cur, rfl, h4, h5, h6, h7, h8, h9⟩
  · omega
  · have hl : i < xs.length := by omega
    obtain ⟨z, hz⟩ := h3 xs[i] (List.getElem_mem hl)
    refine ⟨g, cap, cur, z, rfl, h4, h5, h6, h7, by omega, ?_⟩
    rw [← Array.getElem?_toList, ← hz, ← List.getElem?_eq_getElem hl]
    conv => rhs; rw [← h9]
    rw [List.getElem?_take_of_lt (by omega)]

theorem maxLen_le : maxLen ≤ 9223372036854775807 := by decide

theorem Rdy.set {w : World} {lo len g i : Nat} {rv : Value} (h : Rdy w lo rv len) (hg : rv.ownBlock = some g) (z : Int) : Rdy (w.setCell ⟨g, i, none⟩ (.int .i64 z)) lo rv len := by
  obtain ⟨xs, ⟨h1, h2⟩, h3⟩ := h
  rcases h2 with ⟨rfl, _⟩ | ⟨g', cap, cur, rfl, h4, h5, h6, h7, h8, h9⟩
  · cases hg
  · cases hg
    refine ⟨(cur.setIfInBounds i (.int .i64 z)).toList.take (len * 1), ⟨?_, Or.inr ⟨_, cap, _, rfl, h4, heap_setCell_same w _ i cur 3 _ h5, h6, h7, by simpa using h8, rfl⟩⟩, fun u hu => ?_⟩
    · rw [List.length_take, Array.length_toList, Array.size_setIfInBounds]; omega
    · obtain ⟨k, hk, rfl⟩ := List.getElem_of_mem hu
      rw [List.getElem_take, Array.getElem_toList]
      rw [List.length_take, Array.length_toList, Array.size_setIfInBounds] at hk
      by_cases hik : i = k
      · exact ⟨z, by subst hik; rw [Array.getElem_setIfInBounds_self]⟩
      · rw [Array.getElem_setIfInBounds_ne (by omega) hik]
        refine h3 _ ?_
        rw [← h9, List.mem_iff_getElem]
        exact ⟨k, by rw [List.length_take, Array.length_toList]; omega, by rw [List.getElem_take, Array.getElem_toList]⟩

set_option maxHeartbeats 400000 in
theorem len_any (a : Option Addr) (n c : Nat) (w : World) :
    Calls Try.prog 56 #[.slice a n c] w fun e w' => e = .returned (.int .i64 n) ∧ w' = w := by
  go_enter Try.func56, Try.ntmps56
  go_wp2
  go_ret
  exact ⟨rfl, rfl⟩

set_option maxHeartbeats 400000 in
theorem less_any (rv : Value) (lo len i j : Nat) (w : World) (h : Rdy w lo rv len) (hi : i < len) (hj : j < len) :
    Calls Try.prog 57 #[rv, .int .i64 i, .int .i64 j] w fun e w' => ∃ b n, e = .returned (.bool b) ∧ w' = w.drewN n := by
  obtain ⟨g, cap, cur, z, rfl, h1, h2, h3, h4, h5, h6⟩ := h.at hi
  obtain ⟨g', cap', cur', z', e, _, h2', _, _, _, h6'⟩ := h.at hj
  cases e
  rw [h2] at h2'
  cases h2'
  have y1 : w.cell? ⟨g, i, none⟩ = some (.int .i64 z) := by rw [cell_of_row _ _ _ _ _ _ h2]; exact h6
  have y2 : w.cell? ⟨g, j, none⟩ = some (.int .i64 z') := by rw [cell_of_row _ _ _ _ _ _ h2]; exact h6'
  have q1 : (i : Int) < (len : Int) := by omega
  have q2 : (j : Int) < (len : Int) := by omega
  have q3 : len ≤ 9223372036854775807 := Nat.le_trans (Nat.le_trans h3 h4) maxLen_le
  clear h h2 h6 h6'
  go_enter Try.func57, Try.ntmps57
  go_wp2
  go_quiet (fail)
  go_wp2
  go_ret
  exact ⟨_, _, rfl, rfl⟩

def SwapPost (w : World) (lo : Nat) (rv : Value) (len : Nat) (e : Ending) (w' : World) : Prop :=
  e = .returned (.tuple #[]) ∧ Rdy w' lo rv len ∧ Keep w w' (fun k => rv.ownBlock = some k)

set_option maxHeartbeats 1000000 in
theorem swap_any (rv : Value) (lo len i j : Nat) (w : World) (h : Rdy w lo rv len) (hi : i < len) (hj : j < len) (hij : i ≠ j) :
    Calls Try.prog 32 #[rv, .int .i64 i, .int .i64 j] w fun e w' => SwapPost w lo rv len e w' := by
  obtain ⟨g, cap, cur, z, rfl, h1, h2, h3, h4, h5, h6⟩ := h.at hi
  obtain ⟨g', cap', cur', z', e, _, h2', _, _, _, h6'⟩ := h.at hj
  cases e
  rw [h2] at h2'
  cases h2'
  have y1 : w.cell? ⟨g, i, none⟩ = some (.int .i64 z) := by rw [cell_of_row _ _ _ _ _ _ h2]; exact h6
  have y2 : w.cell? ⟨g, j, none⟩ = some (.int .i64 z') := by rw [cell_of_row _ _ _ _ _ _ h2]; exact h6'
  have q1 : (i : Int) < (len : Int) := by omega
  have q2 : (j : Int) < (len : Int) := by omega
  have q3 : len ≤ 9223372036854775807 := Nat.le_trans (Nat.le_trans h3 h4) maxLen_le
  have f1 : w.frozen? ⟨g, i, none⟩ = false := frozen_of_row _ _ _ _ _ h2
  have f2 : w.frozen? ⟨g, j, none⟩ = false := frozen_of_row _ _ _ _ _ h2
  have HR : Hid (Rdy w lo (.slice (some ⟨g, 0, none⟩) len cap) len) := h
  clear h h2 h6 h6'
  go_enter Try.func32, Try.ntmps32
  go_wp2
  go_region
  all_goals go_wp2
  all_goals go_returns
  all_goals refine ⟨rfl, ?_, ?_⟩
  · exact (((HR.out.set rfl z').set rfl z).kept (Keep.drew _ (fun _ => False)) (fun _ _ h => h))
  · exact (((Keep.set w ⟨g, i, none⟩ (.int .i64 z')).trans (Keep.set _ ⟨g, j, none⟩ (.int .i64 z)) (fun _ _ h => h)).mono (G := fun k => some g = some k) (fun k _ h => congrArg some (Eq.symm h))).same rfl rfl rfl rfl

theorem m_less0 (a : Addr) (w : World) : (method 205 78 (.pointer (some a)) "Less").run Try.prog w = ((loadVar 67 a >>= fun v => pure (57, v)) : Sem (FuncId × Value)).run Try.prog w := by kernel_rfl
theorem m_len0 (a : Addr) (w : World) : (method 205 78 (.pointer (some a)) "Len").run Try.prog w = ((loadVar 67 a >>= fun v => pure (56, v)) : Sem (FuncId × Value)).run Try.prog w := by kernel_rfl
theorem m_swap0 (a : Addr) (w : World) : (method 205 78 (.pointer (some a)) "Swap").run Try.prog w = ((loadVar 67 a >>= fun v => pure (32, v)) : Sem (FuncId × Value)).run Try.prog w := by kernel_rfl
theorem m_push (a : Addr) (w : World) : (method 205 78 (.pointer (some a)) "Push").run Try.prog w = .ok (58, .pointer (some a)) w := by kernel_rfl
theorem m_less {a : Addr} {w : World} {o : Option Addr} {n c : Nat} (h : w.cell? a = some (.slice o n c)) : (method 205 78 (.pointer (some a)) "Less").run Try.prog w = .ok (57, .slice o n c) w := by
  rw [m_less0]; simp [go_sem, loadVar, h]
theorem m_len {a : Addr} {w : World} {o : Option Addr} {n c : Nat} (h : w.cell? a = some (.slice o n c)) : (method 205 78 (.pointer (some a)) "Len").run Try.prog w = .ok (56, .slice o n c) w := by
  rw [m_len0]; simp [go_sem, loadVar, h]
theorem m_swap {a : Addr} {w : World} {o : Option Addr} {n c : Nat} (h : w.cell? a = some (.slice o n c)) : (method 205 78 (.pointer (some a)) "Swap").run Try.prog w = .ok (32, .slice o n c) w := by
  rw [m_swap0]; simp [go_sem, loadVar, h]

set_option maxHeartbeats 1000000 in
theorem up_any (JB lo len cap k0 : Nat) (o : Option Addr) (w : World) (hrv : w.cell? ⟨JB, 4, none⟩ = some (.slice o len cap)) (h : Rdy w lo (.slice o len cap) len) (hk0 : k0 < len) (hne : (Value.slice o len cap).ownBlock ≠ some JB) :
    Calls Try.prog 36 #[.iface 78 (.pointer (some ⟨JB, 4, none⟩)), .int .i64 k0] w fun e w' => SwapPost w lo (.slice o len cap) len e w' := by
  have HR : Hid (Rdy w lo (.slice o len cap) len) := h
  have HC : Hid (w.cell? ⟨JB, 4, none⟩ = some (.slice o len cap)) := hrv
  have HN : Hid ((Value.slice o len cap).ownBlock ≠ some JB) := hne
  have hm : len ≤ 9223372036854775807 := by
    obtain ⟨g, cap, cur, z, _, _, _, h3, h4, _⟩ := h.at hk0
    exact Nat.le_trans (Nat.le_trans h3 h4) maxLen_le
  clear h hrv hne
  go_enter Try.func36, Try.ntmps36
  go_wp2
  go_loopw [1] (fun jv wr => ∃ k : Nat, k < len ∧ jv = .int .i64 k ∧ Hid (Rdy wr lo (.slice o len cap) len ∧ Keep w wr (fun k => (Value.slice o len cap).ownBlock = some k))) (fun jv _ => (intOf jv).toNat)
  case atStart => exact ⟨k0, hk0, rfl, HR.out, Keep.refl _ _⟩
  case round =>
    obtain ⟨k, hk, rfl, HL⟩ := hrel
    have hc : wr.cell? ⟨JB, 4, none⟩ = some (.slice o len cap) := (World.cell?_of_block (HL.out.2.block JB (World.block_lt_of_cell? w ⟨JB, 4, none⟩ HC.out) HN.out)).trans HC.out
    by_cases h0 : k = 0
    · subst h0
      go_wp2
      go_returns
      exact ⟨rfl, HL.out⟩
    · have hml := m_less hc
      have hms := m_swap hc
      have hpe : (((k - 1 : Nat) : Int) / 2 == (k : Int)) = false := by simp; omega
      go_wp2_with fail
      obtain ⟨p, hp⟩ : ∃ p : Nat, ((k : Int) - 1) / 2 = p := ⟨(k - 1) / 2, by omega⟩
      rw [hp]
      have hpe2 : ((p : Int) == (k : Int)) = false := by simp; omega
      refine (less_any (.slice o len cap) lo len k p wr HL.out.1 hk (by omega)).mono ?_
      rintro e w1 ⟨b, m, rfl, hw1⟩
      have HL1 : Hid (Rdy w1 lo (.slice o len cap) len ∧ Keep w w1 (fun k => (Value.slice o len cap).ownBlock = some k)) := by
        rw [hw1]; exact ⟨HL.out.1.kept (Keep.drewN wr m (fun _ => False)) (fun _ _ h => h), HL.out.2.same rfl rfl rfl rfl⟩
      have hc1 : w1.cell? ⟨JB, 4, none⟩ = some (.slice o len cap) := by rw [hw1]; exact hc
      clear hw1 hml hms hc
      have hms := m_swap hc1
      cases b with
      | false =>
        go_wp2_with fail
        go_returns
        exact ⟨rfl, HL1.out⟩
      | true =>
        go_wp2_with fail
        refine (swap_any (.slice o len cap) lo len p k w1 HL1.out.1 (by omega) hk (by omega)).mono ?_
        rintro e w2 ⟨rfl, s1, s2⟩
        have HL2 : Hid (Rdy w2 lo (.slice o len cap) len ∧ Keep w w2 (fun k => (Value.slice o len cap).ownBlock = some k)) := ⟨s1, HL1.out.2.trans s2 (fun _ _ h => h)⟩
        clear s1 s2
        go_wp2_with fail
        go_roundw
        case rel => exact ⟨p, by omega, rfl, HL2.out⟩
        case measure => simp [intOf]; omega
end Go.Proofs.Qxb6614022a
