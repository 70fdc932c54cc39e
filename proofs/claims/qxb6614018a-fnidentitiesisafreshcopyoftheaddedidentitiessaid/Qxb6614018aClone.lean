/-
  zzb1CloneBytes.
-/
import Derived.Test.Qxb6614018aBase
namespace Go.Proofs.Qxb6614018a
open Go.RowKit
set_option linter.unusedVariables false
set_option linter.unusedSimpArgs false
attribute [local go_sem] eql26 eql29

theorem wpList_copy_g {P : Program} {w : World} {ops : Array Oper} {rest : List Oper} {o : Oper} {a : Act} {Q : Exit → Act → World → Prop} (hgd : o.guard = none) (d s : Operand) (dT sT : TypeId)
    (ho : o.op = .call { callee := .builtin .copy, args := #[d, s], argTypes := #[dT, sT] }) (elem : TypeId) (hu : P.underlying dT = some (.slice elem)) (hsz : (P.info? elem).map (·.size) = some 1)
    (dp sp : Option Addr) (dLen dCap sLen sCap : Nat) (hd : a.eval d = .slice dp dLen dCap) (hs : a.eval s = .slice sp sLen sCap)
    (g off : Nat) (cur : List Value) (t : TypeId) (hg : w.heap[g]? = some (.cells cur.toArray t (0, 0))) (cs : List Value) (hn : cs.length = Nat.min sLen dLen)
    (hpos : 0 < cs.length → dp = some ⟨g, off, none⟩ ∧ ∃ ad, sp = some ad ∧ ∀ j v, cs[j]? = some v → w.cell? (ad.add j) = some v)
    (hfit : off + cs.length ≤ cur.length) (h1 : ∀ v ∈ cs, v.oneCell' = true)
    (h : ∀ w', Hid (w'.heap[g]? = some (.cells (splice cur off cs).toArray t (0, 0))) → w.grownBy w' (some g) → wpList P ops Q rest (a.put o.dst (goInt cs.length)) w') :
    wpList P ops Q (o :: rest) a w := by
  by_cases h0 : cs.length = 0
  · obtain rfl : cs = [] := List.eq_nil_of_length_eq_zero h0
    refine wpList_copy_nothing hgd d s dT sT ho elem hu hsz dp sp dLen dCap sLen sCap hd hs (by simpa using hn.symm) ?_
    exact h w (show _ = _ by simpa [splice] using hg) (World.grownBy.refl _ _)
  · obtain ⟨rfl, ad, rfl, hsrc⟩ := hpos (by omega)
    refine wpList_copy_own hgd d s dT sT ho elem hu hsz g off dLen dCap ad sLen sCap hd hs cur.toArray t hg cs hn hsrc (by simpa using hfit) h1 ?_
    exact h _ (show _ = _ by simpa [splice] using setRow_heap w g _ _ t _ hg) (setRow_grown (World.grownBy.refl _ _) _ _ (Or.inr rfl))

theorem splice_all {α : Type} (cur cs : List α) (h : cs.length = cur.length) : splice cur 0 cs = cs := by
  simp [splice, h]
theorem one_u8 (A : List Int) : ∀ v ∈ A.map (Value.int .u8), v.oneCell' = true := by
  intro v hv
  obtain ⟨x, _, rfl⟩ := List.mem_map.1 hv
  rfl
theorem info5 : (Try.prog.info? 5).map (fun i => (i.zero, i.size, i.bytes)) = some (some (.int .u8 0), 1, 1) := by kernel_rfl
theorem size5 : (Try.prog.info? 5).map (·.size) = some 1 := by kernel_rfl

/-- A copy of a slice of bytes: nil where that was nil; else a new block from 'base' on. -/
def Clone (w : World) (base : Nat) (v : Value) (nil : Bool) (l : List Int) : Prop :=
  ∃ bo c, v = .slice bo l.length c ∧ bo.isNone = nil ∧ (∀ ad, bo = some ad → base ≤ ad.block) ∧ (nil = true → l = []) ∧ (0 < l.length → ∃ ad, bo = some ad ∧ ∀ j, j < l.length → w.cell? (ad.add j) = some (.int .u8 (l.getD j 0)))

theorem Clone.sl {w : World} {base : Nat} {v : Value} {nil : Bool} {l : List Int} (h : Clone w base v nil l) : Sl w v l := by
  obtain ⟨bo, c, h0, _, _, _, h1⟩ := h
  exact ⟨bo, c, h0, h1⟩
theorem Clone.base {w : World} {base base' : Nat} {v : Value} {nil : Bool} {l : List Int} (h : Clone w base v nil l) (hb : base' ≤ base) : Clone w base' v nil l := by
  obtain ⟨bo, c, h0, h1, h2, h3⟩ := h
  exact ⟨bo, c, h0, h1, fun ad e => Nat.le_trans hb (h2 ad e), h3⟩
theorem Clone.grown {w w' : World} {base R : Nat} {v : Value} {nil : Bool} {l : List Int} (h : Clone w base v nil l) (hg : w.grownBy w' (some R)) (hR : R < base) : Clone w' base v nil l := by
  obtain ⟨bo, c, h0, h1, h2, hx, h3⟩ := h
  refine ⟨bo, c, h0, h1, h2, hx, fun hp => ?_⟩
  obtain ⟨ad, e, h4⟩ := h3 hp
  refine ⟨ad, e, fun j hj => hg.cell (h4 j hj) ?_⟩
  have := h2 ad e
  have hb : (ad.add j).block = ad.block := by unfold Addr.add; split <;> rfl
  simp [hb]; omega
theorem Clone.grown0 {w w' : World} {base : Nat} {v : Value} {nil : Bool} {l : List Int} (h : Clone w base v nil l) (hg : w.grownBy w' none) : Clone w' base v nil l := by
  obtain ⟨bo, c, h0, h1, h2, hx, h3⟩ := h
  refine ⟨bo, c, h0, h1, h2, hx, fun hp => ?_⟩
  obtain ⟨ad, e, h4⟩ := h3 hp
  exact ⟨ad, e, fun j hj => hg.cell (h4 j hj) (by simp)⟩

theorem sl_cells {w : World} {ad : Addr} {l : List Int} (h : 0 < l.length → ∀ j, j < l.length → w.cell? (ad.add j) = some (.int .u8 (l.getD j 0))) (j : Nat) (v : Value) (hj : (l.map (Value.int .u8))[j]? = some v) : w.cell? (ad.add j) = some v := by
  have hjl : j < l.length := by
    rcases Nat.lt_or_ge j l.length with h | h
    · exact h
    · rw [List.getElem?_eq_none (by simpa using h)] at hj; cases hj
  rw [h (by omega) j hjl]
  simpa [hjl] using hj

set_option maxHeartbeats 400000 in
theorem clone_any (ao : Option Addr) (l : List Int) (c : Nat) (w : World) (hl : l.length ≤ 1048576) (hn : ao = none → l = [])
    (hc : 0 < l.length → ∃ ad, ao = some ad ∧ ∀ j, j < l.length → w.cell? (ad.add j) = some (.int .u8 (l.getD j 0))) :
    Calls Try.prog 9 #[.slice ao l.length c] w fun e w' => ∃ v, e = .returned v ∧ Clone w' w.heap.size v ao.isNone l ∧ w.grownBy w' none := by
  obtain ⟨n, HN⟩ : ∃ n, Hid (l.length = n) := ⟨_, rfl⟩
  rw [HN.out] at hl ⊢
  cases ao with
  | none =>
    have HL : Hid (l = []) := hn rfl
    clear hc hn
    go_enter Try.func9, Try.ntmps9
    go_wp2
    go_ret
    exact ⟨_, rfl, ⟨none, 0, by rw [HL.out]; rfl, rfl, (fun _ h => by cases h), fun _ => HL.out, fun h => by rw [HL.out] at h; simp at h⟩, grefl _ _⟩
  | some ad =>
    obtain ⟨C, HC⟩ : ∃ C : List Value, Hid (C = l.map (Value.int .u8)) := ⟨_, rfl⟩
    have lC : Hid (C.length = n) := by show _ = _; rw [HC.out, List.length_map, HN.out]
    have oC : Hid (∀ v ∈ C, v.oneCell' = true) := by show ∀ _, _; rw [HC.out]; exact one_u8 l
    have HAd : Hid (∀ j v, C[j]? = some v → w.cell? (ad.add j) = some v) := by
      intro j v hj
      rw [HC.out] at hj
      exact sl_cells (fun hp => by obtain ⟨a2, e, h⟩ := hc hp; cases e; exact h) j v hj
    have hmk := run_make_row' (P := Try.prog) 26 5 (.int .u8 0) 1 Try.underlying26 info5 rfl .i64 .i64 n (by omega) (by omega)
    clear hc hn
    go_enter Try.func9, Try.ntmps9
    go_wp2_with (refine wpList_copy_g rfl (.tmp 9) (.tmp 10) 26 26 rfl 5 Try.underlying26 size5 _ _ _ _ _ _ rfl rfl w.heap.size 0 (madeCells #[.int .u8 0] n).toList 5 (heap_alloc_new w _) C (by rw [lC.out]; exact (Nat.min_self _).symm) (fun _ => ⟨rfl, ad, rfl, fun j v hj => cell_al _ (HAd.out j v hj)⟩) (by rw [lC.out, Array.length_toList, size_madeCells]; omega) oC.out ?_; intro w1 HM1 hg1)
    go_ret
    have h1 := HM1.out
    rw [splice_all _ _ (by rw [lC.out, Array.length_toList, size_madeCells]), HC.out] at h1
    refine ⟨_, rfl, ⟨some ⟨w.heap.size, 0, none⟩, n, by rw [HN.out]; rfl, rfl, fun ad e => by cases e; exact Nat.le_refl _, fun h => by simp at h, fun _ => ⟨_, rfl, fun j hj => ?_⟩⟩, gjoin (galloc _ _ _) hg1 (Nat.le_refl _)⟩
    rw [Addr.add_mid, cell_of_row _ _ _ _ _ _ h1, Nat.zero_add]
    simp [hj]
end Go.Proofs.Qxb6614018a
