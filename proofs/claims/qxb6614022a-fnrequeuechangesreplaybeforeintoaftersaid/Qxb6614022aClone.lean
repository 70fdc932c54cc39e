/-
  slices.Clone of ints: it keeps all that there was.
-/
import Derived.Test.Qxb6614022aReq
namespace Go.Proofs.Qxb6614022a
open Go.RowKit
set_option linter.unusedVariables false
set_option linter.unusedSimpArgs false

theorem eql24 (a : Option Addr) (n c : Nat) (w : World) : (binOp .eql 24 (.slice a n c) (.slice none 0 0)).run Try.prog w = .ok (.bool a.isNone) w := Lib.run_eql_slice_nil w _ _ a n c 0 0 Try.underlying24
attribute [local go_sem] eql24

def IntsAt (w : World) (o : Option Addr) (l : Nat) (X : Nat → Int) : Prop := 0 < l → ∃ ad, o = some ad ∧ ∀ j, j < l → w.cell? (ad.add j) = some (.int .i64 (X j))

def ClonePost (w : World) (e : Ending) (w' : World) : Prop := ∃ o l c, e = .returned (.slice o l c) ∧ Keep w w' (fun _ => False)

set_option maxHeartbeats 1000000 in
theorem clone_any (o : Option Addr) (l c : Nat) (X : Nat → Int) (w : World) (h : IntsAt w o l X) (hl : l ≤ 1048576) (hnil : o = none → l = 0 ∧ c = 0) :
    Calls Try.prog 26 #[.slice o l c] w fun e w' => ClonePost w e w' := by
  obtain ⟨i0, hi0, hz0, hz1, hz2⟩ := info_parts info3
  cases o with
  | none =>
    obtain ⟨rfl, rfl⟩ := hnil rfl
    go_enter Try.func26, Try.ntmps26
    go_wp2
    go_ret
    exact ⟨_, _, _, rfl, Keep.refl _ _⟩
  | some ad =>
    have HN : Hid (∀ j u, ((List.range l).map (fun j => Value.int .i64 (X j)))[j]? = some u → (w.alloc (.cells #[] 3)).cell? (ad.add j) = some u) := by
      intro j u hj
      rw [List.getElem?_map] at hj
      by_cases hjl : j < l
      · rw [List.getElem?_range hjl] at hj
        obtain ⟨ad', e, hc⟩ := h (by omega)
        cases e
        have := hc j hjl
        exact cell_al _ (this.trans (by simpa using hj))
      · rw [List.getElem?_eq_none (by simpa using hjl)] at hj
        cases hj
    have HO : Hid (∀ u ∈ (List.range l).map (fun j => Value.int .i64 (X j)), u.oneCell' = true) := by
      intro u hu
      obtain ⟨j, _, rfl⟩ := List.mem_map.1 hu
      rfl
    have HW : Hid ((w.alloc (.cells #[] 3)).ownsRow w.heap.size 3 1 (.slice (some ⟨w.heap.size, 0, none⟩) 0 0) 0 []) := World.ownsRow_made w #[] 0 (Nat.le_refl _) (by decide) rfl
    have HLn : Hid (((List.range l).map (fun j => Value.int .i64 (X j))).length = l * 1) := by show _ = _; simp
    clear h hnil
    go_enter Try.func26, Try.ntmps26
    go_wp2_with (at_builtin; (refine wpList_append_own_at _ rfl _ _ _ rfl w.heap.size 3 i0 _ 1 8 Try.underlying24 hi0 hz0 hz1 hz2 rfl (by omega) (.slice (some ⟨w.heap.size, 0, none⟩) 0 0) 0 [] rfl HW.out ad l c ((List.range l).map (fun j => Value.int .i64 (X j))) rfl HLn.out HN.out HO.out (by unfold maxLen; omega) (by omega) (by simp) ?_); intro v4 w4 hown4 hgrow4 hnil4 hat4)
    go_ret
    have k := Keep.grown hgrow4
    obtain ⟨o5, l5, c5, rfl⟩ : ∃ o l c, v4 = .slice o l c := by
      rcases hown4.2 with ⟨h, _⟩ | ⟨g, cap, cur, h, _⟩
      · exact ⟨_, _, _, h⟩
      · exact ⟨_, _, _, h⟩
    exact ⟨_, _, _, rfl, ⟨k.os, k.tape, k.output, Nat.le_trans (by simp) k.size, fun b hb _ => (k.block b (by simp; omega) (fun e => by simp [Value.ownBlock] at e; omega)).trans ((Keep.alloc w _ (fun _ => False)).block b hb id)⟩⟩
end Go.Proofs.Qxb6614022a
