/-
  DecodeDataReply, notWhole, dataAndStat, ZZdataAndStat, NewDecoder.
-/
import Derived.Test.Qxb6614018aFmtDec3
namespace Go.Proofs.Qxb6614018aFmt
open Go.RowKit Go.Stop
set_option linter.unusedVariables false
set_option linter.unusedSimpArgs false

attribute [local go_sem] eql22 neq22

theorem Data.slice {w : World} {M : Nat} {v : Value} {d : Option (List Int)} (h : Data w M v d) : ∃ ao n c, v = .slice ao n c := by
  cases d with
  | none => exact ⟨_, _, _, h⟩
  | some l => obtain ⟨o, h, _⟩ := h; exact ⟨_, _, _, h⟩

theorem SmallS.bufS {s : Option (List Int)} (h : SmallS s) : SmallS (bufS s) := by
  have h1 : SmallS (lenS s) := by
    unfold lenS
    have := h.nx 4
    split
    · trivial
    · rename_i l hl
      rw [hl] at this
      split
      · trivial
      · exact this
  unfold Qxb6614018aFmt.bufS
  split
  · exact h1.nx _
  · exact h1

theorem BytesAt.setRow {w : World} {M o : Nat} {l : List Int} (h : BytesAt w M o l) (R : Nat) (cs : Array Value) (hM : R ≠ M) : BytesAt (w.setRow R cs) M o l :=
  fun i hi => (World.cell?_of_block (setRow_other w R M cs (fun e => hM e.symm))).trans (h i hi)
theorem Data.setRow {w : World} {M : Nat} {v : Value} {d : Option (List Int)} (h : Data w M v d) (R : Nat) (cs : Array Value) (hM : R ≠ M) : Data (w.setRow R cs) M v d := by
  cases d with
  | none => exact h
  | some l => obtain ⟨o, h0, h1⟩ := h; exact ⟨o, h0, h1.setRow R cs hM⟩

def replyV (v : Value) (s : Option (List Int)) : Array Value := (v :: statL s).toArray
theorem info41 : (Tryf.prog.info? 41).map (·.size) = some 12 := by kernel_rfl
theorem replyV_one (ao : Option Addr) (n c : Nat) (s : Option (List Int)) : (replyV (.slice ao n c) s).all (·.oneCell') = true := by simp [replyV, statL, Value.oneCell']

set_option maxHeartbeats 1000000 in
theorem reply_any (F : Interp) (D M : Nat) (s : Option (List Int)) (a0 : Addr) (s0 : ByteArray) (w : World) (hF : F.answers w.tape) (hE : Env w D M a0 s0) (hS : StateW w D M s) (hs : SmallS s) (hD : D < w.heap.size) (hMl : M < w.heap.size) :
    Calls Tryf.prog 15 #[.pointer (some ⟨D, 0, none⟩)] w fun e w' =>
      ∃ v, e = .returned (.agg (replyV v (bufS s))) ∧ Data w' M v (bufD s) ∧ State w' D M (nx 68 (bufS s)) ∧ w.grownBy w' (some D) := by
  go_enter Tryf.func15, Tryf.ntmps15
  go_wp2_with fail
  have hR0 := heap_alloc_new w (.cells #[.slice none 0 0, .int .i64 0, .int .i64 0, .int .i64 0, .int .i64 0, .int .i32 0, .int .i32 0, .int .i32 0, .int .i64 0, .int .i32 0, .int .i32 0, .int .i64 0] 41)
  have hg0 := galloc w (.cells #[.slice none 0 0, .int .i64 0, .int .i64 0, .int .i64 0, .int .i64 0, .int .i32 0, .int .i32 0, .int .i32 0, .int .i64 0, .int .i32 0, .int .i32 0, .int .i64 0] 41) none
  have hE0 := hE.grown (gany hg0 _)
  have hS0 := hS.grown hg0
  generalize w.alloc (.cells #[.slice none 0 0, .int .i64 0, .int .i64 0, .int .i64 0, .int .i64 0, .int .i32 0, .int .i32 0, .int .i32 0, .int .i64 0, .int .i32 0, .int .i32 0, .int .i64 0] 41) = w0 at *
  refine (buffer_any F D M s a0 s0 _ (by rw [hg0.tape]; exact hF) hE0 hS0 hs).mono ?_
  rintro e w1 ⟨v, rfl, hd1, hS1, hg1⟩
  have hE1 := hE0.grown hg1
  have hs1 := hs.bufS
  have hR1 := (hg1.block _ (lt_of_heap hR0) (by simpa using Nat.ne_of_gt hD)).trans hR0
  obtain ⟨ao, n, c, hv⟩ := hd1.slice
  rw [hv] at hd1 ⊢
  clear hv hR0 hE0 hS0
  go_wp2_with fail
  refine (stat_any D M (bufS s) a0 s0 _ hE1 hS1 hs1 (Nat.lt_of_lt_of_le hD (Nat.le_trans hg0.size hg1.size)) (Nat.lt_of_lt_of_le hMl (Nat.le_trans hg0.size hg1.size))).mono ?_
  rintro e w2 ⟨rfl, hS2, hg2⟩
  have hd2 := hd1.grown hg2 hE.hM
  have hR2 := (hg2.block _ (lt_of_heap hR1) (by simpa using Nat.ne_of_gt hD)).trans hR1
  have hgg := gtrans (gany hg0 (some D)) (gtrans hg1 hg2)
  clear hg0 hg1 hg2 hE1 hS1 hs1 hR1 hd1
  simp only [statV, statL]
  go_wp2_with (refine wpList_store_row rfl 41 _ _ rfl w.heap.size (replyV (.slice ao n c) (bufS s)) rfl rfl 41 _ hR2 info41 rfl (replyV_one _ _ _ _) ?_)
  refine bodyPost_ret (v := .agg (replyV (.slice ao n c) (bufS s))) (results_cell_row rfl _ _ w.heap.size 41 _ (0, 0) _ rfl (setRow_heap _ _ _ _ _ _ hR2) Tryf.underlying41 rfl info41) rfl ⟨_, rfl, ?_, ?_, setRow_grown hgg _ _ (Or.inl (Nat.le_refl _))⟩
  · exact hd2.setRow _ _ (Nat.ne_of_gt hMl)
  · refine hS2.setRow _ _ (Nat.ne_of_gt hD) (Nat.ne_of_gt hMl) (fun v a x _ hx => not_string hR2 (by simp) hx)
end Go.Proofs.Qxb6614018aFmt
