/-
  readyTasks.Push, container/heap.Push.
-/
import Derived.Test.Qxb6614022aBase
import Derived.StillTactics
import Derived.OwnWalk
import Derived.Laws.Pointers
import Derived.Deep.RegionHeldLaw
import Derived.Deep.RegionLaw
import Derived.Deep.AppendLies
namespace Go.Proofs.Qxb6614022a
open Go.RowKit
set_option linter.unusedVariables false
set_option linter.unusedSimpArgs false

theorem info3 : (Try.prog.info? 3).map (fun i => (i.zero, i.size, i.bytes)) = some (some (.int .i64 0), 1, 8) := by kernel_rfl

theorem ta3 (z : Int) (w : World) : (Instr.typeAssert (.iface 3 (.int .i64 z)) 20 3 false).run Try.prog w = .ok (.int .i64 z) w := by kernel_rfl
attribute [local go_sem] ta3

/-- What a push leaves: the list lies in its old block or in a new one. -/
def PushPost (w : World) (JB lo : Nat) (jc : Array Value) (rv : Value) (len : Nat) (e : Ending) (w' : World) : Prop :=
  e = .returned (.tuple #[]) ∧ ∃ g cap, w'.heap[JB]? = some (.cells (jc.setIfInBounds 4 (.slice (some ⟨g, 0, none⟩) (len + 1) cap)) 69 (0, 0)) ∧ Rdy w' lo (.slice (some ⟨g, 0, none⟩) (len + 1) cap) (len + 1) ∧
    Keep w w' (fun k => k = JB ∨ rv.ownBlock = some k) ∧ (rv.ownBlock = some g ∨ w.heap.size ≤ g) ∧ g ≠ JB

theorem push_fin {w w1 : World} {JB lo len g cap : Nat} {jc : Array Value} {rv : Value} {xs : List Value} {z : Int} (hJ : w.heap[JB]? = some (.cells jc 69 (0, 0))) (hne : rv.ownBlock ≠ some JB)
    (hx : ∀ u ∈ xs, ∃ z, u = .int .i64 z) (ho : w1.ownsRow lo 3 1 (.slice (some ⟨g, 0, none⟩) (len + 1) cap) (len + 1) (xs ++ [.int .i64 z])) (hk : Keep w w1 (fun k => rv.ownBlock = some k)) (hat : rv.ownBlock = some g ∨ w.heap.size ≤ g) :
    PushPost w JB lo jc rv len (.returned (.tuple #[])) (w1.setCell ⟨JB, 4, none⟩ (.slice (some ⟨g, 0, none⟩) (len + 1) cap)) := by
  have hl := lt_of_heap hJ
  have h1 := (hk.block JB hl hne).trans hJ
  have hg : g ≠ JB := by
    intro e
    rcases hat with h | h
    · exact hne (by rw [h, e])
    · omega
  refine ⟨rfl, g, cap, heap_setCell_same w1 JB 4 jc 69 _ h1, ?_, ?_, hat, hg⟩
  · have : Rdy w1 lo (.slice (some ⟨g, 0, none⟩) (len + 1) cap) (len + 1) := ⟨_, ho, fun u hu => by
      rcases List.mem_append.1 hu with h | h
      · exact hx u h
      · exact ⟨z, by simpa using h⟩⟩
    exact this.kept (Keep.set w1 ⟨JB, 4, none⟩ _) (fun k hk e => hg (by cases hk; exact e))
  · exact (hk.mono (fun k _ h => Or.inr h)).trans (Keep.set w1 ⟨JB, 4, none⟩ _) (fun k _ e => Or.inl e)

set_option maxRecDepth 100000 in
set_option maxHeartbeats 3200000 in
theorem push_any (JB lo len cap0 : Nat) (o : Option Addr) (jc : Array Value) (z : Int) (w : World) (hJ : w.heap[JB]? = some (.cells jc 69 (0, 0))) (h4 : jc[4]? = some (.slice o len cap0))
    (h : Rdy w lo (.slice o len cap0) len) (hlen : len ≤ 1099511627776) (hne : (Value.slice o len cap0).ownBlock ≠ some JB) (hlo : lo ≤ w.heap.size) :
    Calls Try.prog 58 #[.pointer (some ⟨JB, 4, none⟩), .iface 3 (.int .i64 z)] w fun e w' => PushPost w JB lo jc (.slice o len cap0) len e w' := by
  obtain ⟨i0, hi0, hz0, hz1, hz2⟩ := info_parts info3
  have hrv : w.cell? ⟨JB, 4, none⟩ = some (.slice o len cap0) := by rw [cell_of_row _ _ _ _ _ _ hJ]; exact h4
  have hfz : w.frozen? ⟨JB, 4, none⟩ = false := frozen_of_row _ _ _ _ _ hJ
  have lJ := lt_of_heap hJ
  obtain ⟨xs, hown, hxs⟩ := h
  have HX : Hid (∀ u ∈ xs, ∃ z, u = .int .i64 z) := hxs
  have HJ : Hid (w.heap[JB]? = some (.cells jc 69 (0, 0))) := hJ
  have hn : len + 1 ≤ maxLen := by unfold maxLen; omega
  have hb : (len + 1) * 8 ≤ 140737488355328 := by omega
  clear hxs hJ
  go_enter Try.func58, Try.ntmps58
  go_wp2_with fail
  go_region_law
    ((refine step_append_lies _ (by rfl) _ _ _ (by rfl) lo 3 i0 _ 1 8 Try.underlying67 hi0 hz0 hz1 hz2 rfl (by omega) (.slice o len cap0) len xs (by rfl) ((hown.alloc _).drew)
        ⟨w.heap.size, 0, none⟩ 1 1 [.int .i64 z] (by rfl) (by rfl) (World.news_of_block (cs := #[.int .i64 z]) (t := 3) (fr := (0, 0)) (heap_alloc_new w _)) (by simp [Value.oneCell'])
        (by omega) hn hb (by simp; omega) (w.heap.size + 1) (by simp) ?_; intro gg cap w1 hown1 hgrow hat hlt; have hfz1 : w1.frozen? ⟨JB, 4, none⟩ = false := (hgrow.frozen_far ⟨JB, 4, none⟩ (by simp; omega) (Ne.symm hne)).trans ((World.frozen?_of_block ((World.grownBy_alloc w (.cells #[.int .i64 z] 3) none).block JB lJ (by simp))).trans hfz); have hc1 : w1.cell? ⟨JB, 4, none⟩ = some (.slice o len cap0) := (hgrow.cell_far ⟨JB, 4, none⟩ (by simp; omega) (Ne.symm hne)).trans ((World.cell?_of_block ((World.grownBy_alloc w (.cells #[.int .i64 z] 3) none).block JB lJ (by simp))).trans hrv)))
  all_goals
    go_wp2
    go_returns
    have hk1 : Keep w (w.alloc (.cells #[.int .i64 z] 3)).drew (fun k => (Value.slice o len cap0).ownBlock = some k) := (Keep.alloc w (.cells #[.int .i64 z] 3) _).same rfl rfl rfl rfl
    refine push_fin HJ.out hne HX.out hown1 (hk1.trans (Keep.grown hgrow) (fun _ _ h => h)) ?_
    rcases hat with h | h
    · exact Or.inl h
    · exact Or.inr (by omega)

theorem push_up {w w1 w2 : World} {JB lo len : Nat} {jc : Array Value} {rv : Value} {e1 : Ending} (h4 : 4 < jc.size) (hs : SwapPost w1 lo rv len e1 w2) {g cap : Nat} {rv0 : Value} {l0 : Nat} (hl : len = l0 + 1) (hrv : rv = .slice (some ⟨g, 0, none⟩) (l0 + 1) cap)
    (k1 : w1.heap[JB]? = some (.cells (jc.setIfInBounds 4 rv) 69 (0, 0))) (k3 : Keep w w1 (fun k => k = JB ∨ rv0.ownBlock = some k)) (k4 : rv0.ownBlock = some g ∨ w.heap.size ≤ g) (k5 : g ≠ JB) :
    PushPost w JB lo jc rv0 l0 (.returned (.tuple #[])) w2 := by
  subst hrv
  subst hl
  obtain ⟨_, s1, s2⟩ := hs
  refine ⟨rfl, g, cap, ?_, s1, k3.trans s2 ?_, k4, k5⟩
  · rw [s2.block JB (lt_of_heap k1) (by intro e; cases e; exact k5 rfl)]; exact k1
  · intro i hi e
    have e2 : g = i := Option.some.inj e
    subst e2
    rcases k4 with h | h
    · exact Or.inr h
    · omega

set_option maxHeartbeats 1000000 in
theorem heappush_any (JB lo len cap0 : Nat) (o : Option Addr) (jc : Array Value) (z : Int) (w : World) (hJ : w.heap[JB]? = some (.cells jc 69 (0, 0))) (h4 : jc[4]? = some (.slice o len cap0))
    (h : Rdy w lo (.slice o len cap0) len) (hlen : len ≤ 1099511627776) (hne : (Value.slice o len cap0).ownBlock ≠ some JB) (hlo : lo ≤ w.heap.size) :
    Calls Try.prog 33 #[.iface 78 (.pointer (some ⟨JB, 4, none⟩)), .iface 3 (.int .i64 z)] w fun e w' => PushPost w JB lo jc (.slice o len cap0) len e w' := by
  have HP := push_any JB lo len cap0 o jc z w hJ h4 h hlen hne hlo
  have h4s : 4 < jc.size := (Array.getElem?_eq_some_iff.1 h4).1
  have hmp := m_push ⟨JB, 4, none⟩ w
  clear hJ h4 h hlo hne
  go_enter Try.func33, Try.ntmps33
  go_wp2_with fail
  refine HP.mono ?_
  rintro e w1 ⟨rfl, g, cap, k1, k2, k3, k4, k5⟩
  have hc1 : w1.cell? ⟨JB, 4, none⟩ = some (.slice (some ⟨g, 0, none⟩) (len + 1) cap) := by
    rw [cell_of_row _ _ _ _ _ _ k1, Array.getElem?_setIfInBounds_self_of_lt h4s]
  have hml := m_len hc1
  have HU := up_any JB lo (len + 1) cap len (some ⟨g, 0, none⟩) w1 hc1 k2 (by omega) (by intro e; cases e; exact k5 rfl)
  have K1 : Hid (w1.heap[JB]? = some (.cells (jc.setIfInBounds 4 (.slice (some ⟨g, 0, none⟩) (len + 1) cap)) 69 (0, 0))) := k1
  have K3 : Hid (Keep w w1 (fun k => k = JB ∨ (Value.slice o len cap0).ownBlock = some k)) := k3
  have K4 : Hid ((Value.slice o len cap0).ownBlock = some g ∨ w.heap.size ≤ g) := k4
  clear k1 k2 k3 k4 HP hmp
  go_wp2_with (go_at_call 56; refine (len_any _ _ _ _).mono ?_; rintro e w' ⟨rfl, rfl⟩)
  refine HU.mono ?_
  intro e w2 hs
  obtain ⟨rfl, _⟩ := id hs
  go_wp2_with fail
  go_returns
  exact push_up h4s hs rfl rfl K1.out K3.out K4.out k5
end Go.Proofs.Qxb6614022a
