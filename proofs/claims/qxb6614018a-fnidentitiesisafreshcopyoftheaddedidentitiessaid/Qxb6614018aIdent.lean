/-
  ZZnewConnWithAuths, (*Conn).identities, ZZidentities.
-/
import Derived.Test.Qxb6614018aBuild
import Derived.Test.Qxb6614018aLocks
import Derived.Laws.EntriesVeiled
namespace Go.Proofs.Qxb6614018a
open Go.RowKit Go.MuLone
set_option linter.unusedVariables false
set_option linter.unusedSimpArgs false
attribute [local go_sem] eql26 eql29

/-- The cells of a Conn that holds the list v and is zero elsewhere. -/
def conn (v : Value) : Array Value := #[.int .i64 0, .slice none 0 0, .int .i64 0, .int .i64 0, .nilIface, .nilFunc, .chan none, .chan none, .int .i32 0, .int .u32 0, .pointer none, .chan none, .string ByteArray.empty, .int .i64 0, .nilIface, v]

set_option maxHeartbeats 400000 in
theorem newconn_any (ao : Option Addr) (n c : Nat) (w : World) :
    Calls Try.prog 5 #[.slice ao n c] w fun e w' => e = .returned (.pointer (some ⟨w.heap.size, 0, none⟩)) ∧ w' = w.alloc (.cells (conn (.slice ao n c)) 53) := by
  go_enter Try.func5, Try.ntmps5
  go_wp2
  go_ret
  exact ⟨rfl, rfl⟩

/-- A fresh copy of the list whose cells are c: nil where it is empty. -/
def Copy (w : World) (base : Nat) (v : Value) (n : Nat) (c : Array Value) : Prop :=
  (v = .slice none 0 0 ∧ n = 0) ∨ (0 < n ∧ ∃ g cap cur, v = .slice (some ⟨g, 0, none⟩) n cap ∧ base ≤ g ∧ w.heap[g]? = some (.cells cur 34 (0, 0)) ∧ n ≤ cap ∧ cur.size = cap * 3 ∧ cur.toList.take (n * 3) = c.toList)

theorem conn_back (v : Value) : ((conn v).setIfInBounds 8 (.int .i32 1)).setIfInBounds 8 (.int .i32 0) = conn v := by
  simp [conn]

theorem locked_back {w w2 : World} {CB : Nat} {v : Value} (hC : w.heap[CB]? = some (.cells (conn v) 53 (0, 0))) (hg : (w.setCell ⟨CB, 8, none⟩ (.int .i32 1)).grownBy w2 none) :
    w2.cell? ⟨CB, 8, none⟩ = some (.int .i32 1) ∧ w2.frozen? ⟨CB, 8, none⟩ = false ∧ w.grownBy (w2.setCell ⟨CB, 8, none⟩ (.int .i32 0)) none ∧ CB < w2.heap.size := by
  have h1 := heap_setCell_same w CB 8 _ 53 (.int .i32 1) hC
  have h2 := (hg.block CB (lt_of_heap h1) (by simp)).trans h1
  have h3 := heap_setCell_same w2 CB 8 _ 53 (.int .i32 0) h2
  rw [conn_back] at h3
  refine ⟨?_, frozen_of_row _ _ _ _ _ h2, ⟨hg.os, hg.tape, hg.output, ?_, fun i hi _ => ?_⟩, lt_of_heap h2⟩
  · rw [cell_of_row _ _ _ _ _ _ h2]; simp [conn]
  · have := hg.size; simpa using this
  · by_cases hi2 : i = CB
    · rw [hi2, h3, hC]
    · rw [heap_setCell_other _ _ _ _ hi2, hg.block i (by simpa using hi) (by simp), heap_setCell_other _ _ _ _ hi2]

theorem info34p : ∃ i, Try.prog.info? 34 = some i ∧ i.zero = some (.agg #[.int .i32 0, .string ByteArray.empty, .slice none 0 0]) ∧ i.size = 3 ∧ i.bytes = 48 := by
  obtain ⟨i, hi, hzz⟩ := Option.map_eq_some_iff.1 info34
  simp only [Prod.mk.injEq] at hzz
  exact ⟨i, hi, hzz⟩

set_option maxRecDepth 100000 in
set_option maxHeartbeats 1000000 in
theorem ident_any (CB L n : Nat) (c : Array Value) (w : World) (hC : w.heap[CB]? = some (.cells (conn (.slice (some ⟨L, 0, none⟩) n n)) 53 (0, 0)))
    (hL : w.heap[L]? = some (.cells c 34 (0, 0))) (hc : c.size = n * 3) (hone : ∀ u ∈ c.toList, u.oneCell' = true) (hn : n ≤ 65536) (hne : L ≠ CB) :
    Calls Try.prog 10 #[.pointer (some ⟨CB, 0, none⟩)] w fun e w' => ∃ v, e = .returned v ∧ Copy w' w.heap.size v n c ∧ w.grownBy w' none := by
  obtain ⟨i, hi, hz, hs, hb⟩ := info34p
  have c8 : w.cell? ⟨CB, 8, none⟩ = some (.int .i32 0) := by rw [cell_of_row _ _ _ _ _ _ hC]; rfl
  have f8 : w.frozen? ⟨CB, 8, none⟩ = false := frozen_of_row _ _ _ _ _ hC
  have c15 : w.cell? ⟨CB, 15, none⟩ = some (.slice (some ⟨L, 0, none⟩) n n) := by rw [cell_of_row _ _ _ _ _ _ hC]; rfl
  have hnews : ∀ j u, c.toList[j]? = some u → (w.setCell ⟨CB, 8, none⟩ (.int .i32 1)).cell? ((⟨L, 0, none⟩ : Addr).add j) = some u := by
    intro j u hj
    rw [Addr.add_mid, World.cell?_setCell_other _ _ _ _ (by intro e; exact hne (congrArg Addr.block e).symm), cell_of_row _ _ _ _ _ _ hL, Nat.zero_add]
    simpa using hj
  have HC : Hid (w.heap[CB]? = some (.cells (conn (.slice (some ⟨L, 0, none⟩) n n)) 53 (0, 0))) := hC
  have HN : Hid (∀ j u, c.toList[j]? = some u → (w.setCell ⟨CB, 8, none⟩ (.int .i32 1)).cell? ((⟨L, 0, none⟩ : Addr).add j) = some u) := hnews
  have HO : Hid (∀ u ∈ c.toList, u.oneCell' = true) := hone
  have HL : Hid (c.toList.length = n * 3) := by show _ = _; rw [Array.length_toList, hc]
  clear hC hnews hone hL hc
  go_enter_defers Try.func10, Try.ntmps10
  go_wp2_with (first
    | (go_at_call 12; refine (lock_free muLib ⟨CB, 8, none⟩ _ c8 f8).mono ?_; rintro e w' ⟨rfl, rfl⟩)
    | (at_builtin; refine wpList_append_own _ rfl _ _ 29 rfl w.heap.size 34 i _ 3 48 Try.underlying29 hi hz hs hb rfl (by decide) _ 0 [] rfl (World.ownsRow_nil _ _ _ _) ⟨L, 0, none⟩ n n c.toList rfl HL.out HN.out HO.out (by unfold maxLen; omega) (by omega) (by simp) ?_; intro v' w1 hown hgrow hnil))
  refine leaves_cons (f := 13) (args := #[.pointer (some ⟨CB, 8, none⟩)]) (by simp) (by simp [go_sem]) ?_
  obtain ⟨k1, k2, k3, k4⟩ := locked_back HC.out hgrow
  refine (unlock_deferred muLib ⟨CB, 8, none⟩ .returning _ k1 k2).mono ?_
  rintro e u' w'' ⟨rfl, rfl, rfl⟩
  refine ⟨_, results_tmp rfl _ _ _, v', rfl, ?_, k3⟩
  have hCl := lt_of_heap HC.out
  obtain ⟨_, h | ⟨g, cap, cur, h1, h2, h3, h4, h5, h6, h7⟩⟩ := hown
  · exact Or.inl ⟨h.1, by omega⟩
  · by_cases hn0 : n = 0
    · exact Or.inl ⟨hnil.2 ⟨rfl, hn0⟩, hn0⟩
    · rw [Nat.zero_add] at h1 h4 h7
      refine Or.inr ⟨by omega, g, cap, cur, h1, h2, ?_, h4, h6, h7⟩
      rw [heap_setCell_other _ _ _ _ (by show g ≠ CB; omega)]
      exact h3

set_option maxHeartbeats 400000 in
theorem zzident_any (CB L n : Nat) (c : Array Value) (w : World) (hC : w.heap[CB]? = some (.cells (conn (.slice (some ⟨L, 0, none⟩) n n)) 53 (0, 0)))
    (hL : w.heap[L]? = some (.cells c 34 (0, 0))) (hc : c.size = n * 3) (hone : ∀ u ∈ c.toList, u.oneCell' = true) (hn : n ≤ 65536) (hne : L ≠ CB) :
    Calls Try.prog 7 #[.pointer (some ⟨CB, 0, none⟩)] w fun e w' => ∃ v, e = .returned v ∧ Copy w' w.heap.size v n c ∧ w.grownBy w' none := by
  have h := ident_any CB L n c w hC hL hc hone hn hne
  clear hC hL hc hone
  go_enter Try.func7, Try.ntmps7
  go_wp2_with fail
  refine h.mono ?_
  rintro e w1 ⟨v, rfl, h1, h2⟩
  go_wp2_with fail
  go_ret
  exact ⟨v, rfl, h1, h2⟩
end Go.Proofs.Qxb6614018a
