/-
  The decoder: Buffer, DecodeStat, DecodeDataReply.
-/
import Derived.Test.Qxb6614018aFmtDec2
namespace Go.Proofs.Qxb6614018aFmt
open Go.RowKit Go.Stop
set_option linter.unusedVariables false
set_option linter.unusedSimpArgs false

attribute [local go_sem] eql22 neq22

def bufD (s : Option (List Int)) : Option (List Int) := if lenB s then tk (lenN s).toNat (lenS s) else none
def bufS (s : Option (List Int)) : Option (List Int) := if lenB s then nx (lenN s).toNat (lenS s) else lenS s

theorem lenN_nonneg (s : Option (List Int)) : 0 ≤ lenN s := by
  unfold lenN
  split
  · omega
  · split <;> omega

set_option maxHeartbeats 400000 in
theorem buffer_any (F : Interp) (D M : Nat) (s : Option (List Int)) (a0 : Addr) (s0 : ByteArray) (w : World) (hF : F.answers w.tape) (hE : Env w D M a0 s0) (hS : StateW w D M s) (hs : SmallS s) :
    Calls Tryf.prog 19 #[.pointer (some ⟨D, 0, none⟩)] w fun e w' =>
      ∃ v, e = .returned v ∧ Data w' M v (bufD s) ∧ State w' D M (bufS s) ∧ w.grownBy w' (some D) := by
  go_enter Tryf.func19, Tryf.ntmps19
  go_wp2_with fail
  refine (length_any F D M s _ a0 s0 _ hF hE hS hs).mono ?_
  rintro e w1 ⟨rfl, hS1, hg1⟩
  have hE1 := hE.grown hg1
  have hn := lenN_nonneg s
  cases hb : lenB s with
  | false =>
    have HB : Hid (lenB s = false) := hb
    clear hb
    go_wp2_with fail
    go_ret
    exact ⟨_, rfl, by simp [bufD, HB.out, Data], by simpa [bufS, HB.out] using hS1, hg1⟩
  | true =>
    have HB : Hid (lenB s = true) := hb
    clear hb
    obtain ⟨n, HN⟩ : ∃ n : Nat, Hid (lenN s = n) := ⟨(lenN s).toNat, by show lenN s = ((lenN s).toNat : Int); omega⟩
    rw [HN.out]
    clear hn
    go_wp2_with fail
    refine (take_any D M n (lenS s) a0 s0 _ hE1 hS1).mono ?_
    rintro e w2 ⟨v, rfl, hd, hS2, hg2⟩
    go_wp2_with fail
    go_ret
    exact ⟨v, rfl, by simpa [bufD, HB.out, HN.out] using hd, by simpa [bufS, HB.out, HN.out] using hS2, gtrans hg1 hg2⟩

/-- The eleven fields of a Stat as the decoder reads them. -/
def statL (s : Option (List Int)) : List Value :=
  [.int .i64 (rd64 s), .int .i64 (rd64 (nx 8 s)), .int .i64 (rd64 (nx 16 s)), .int .i64 (rd64 (nx 24 s)), .int .i32 (rd32 (nx 32 s)), .int .i32 (rd32 (nx 36 s)), .int .i32 (rd32 (nx 40 s)), .int .i64 (rd64 (nx 44 s)), .int .i32 (rd32 (nx 52 s)), .int .i32 (rd32 (nx 56 s)), .int .i64 (rd64 (nx 60 s))]
def statV (s : Option (List Int)) : Array Value := (statL s).toArray

theorem lt_of_heap {w : World} {R : Nat} {o : Obj} (h : w.heap[R]? = some o) : R < w.heap.size := by
  rcases Nat.lt_or_ge R w.heap.size with h' | h'
  · exact h'
  · rw [Array.getElem?_eq_none h'] at h; cases h
theorem not_string {w : World} {R : Nat} {cs : Array Value} {t : TypeId} {fr : Nat × Nat} {a : Addr} {x : ByteArray} (h : w.heap[R]? = some (.cells cs t fr)) (hcs : ∀ x, Value.string x ∉ cs) (hx : w.cell? a = some (.string x)) : a.block ≠ R := by
  intro e
  subst e
  simp only [World.cell?, h] at hx
  split at hx
  · cases hx
  · exact hcs x (Array.mem_of_getElem? hx)
theorem statV_one (s : Option (List Int)) : (statV s).all (·.oneCell') = true := by simp [statV, statL, Value.oneCell']
theorem info25 : (Tryf.prog.info? 25).map (·.size) = some 11 := by kernel_rfl
theorem setRow_grown {a b : World} {row : Option Nat} (h : a.grownBy b row) (R : Nat) (cs : Array Value) (hR : a.heap.size ≤ R ∨ row = some R) : a.grownBy (b.setRow R cs) row :=
  ⟨h.os, h.tape, h.output, by rw [size_setRow]; exact h.size, fun i hi hne => (setRow_other b R i cs (fun e => by
    rcases hR with h | h
    · omega
    · exact hne (by rw [h, e]))).trans (h.block i hi hne)⟩
theorem State.setRow {w : World} {D M : Nat} {s : Option (List Int)} (h : State w D M s) (R : Nat) (cs : Array Value) (hD : R ≠ D) (hM : R ≠ M) (ha : ∀ (v : Value) (a : Addr) (x : ByteArray), Dec w D v (.iface 64 (.pointer (some a))) → w.cell? a = some (.string x) → a.block ≠ R) : State (w.setRow R cs) D M s := by
  have hd : ∀ {v ev}, Dec w D v ev → Dec (w.setRow R cs) D v ev := fun h => (setRow_other w R D cs (fun e => hD e.symm)).trans h
  have hc : ∀ a : Addr, a.block ≠ R → (w.setRow R cs).cell? a = w.cell? a := fun a ha => World.cell?_of_block (setRow_other w R a.block cs ha)
  cases s with
  | some l =>
    obtain ⟨o, cap, h0, h1, h2, h3⟩ := h
    exact ⟨o, cap, hd h0, h1, h2, fun i hi => (hc _ (fun e => hM e.symm)).trans (h3 i hi)⟩
  | none =>
    obtain ⟨v, a, x, h0, h1, h2⟩ := h
    exact ⟨v, a, x, hd h0, (hc _ (ha v a x h0 h1)).trans h1, h2⟩

set_option maxHeartbeats 1000000 in
theorem stat_any (D M : Nat) (s : Option (List Int)) (a0 : Addr) (s0 : ByteArray) (w : World) (hE : Env w D M a0 s0) (hS : State w D M s) (hs : SmallS s) (hD : D < w.heap.size) (hMl : M < w.heap.size) :
    Calls Tryf.prog 20 #[.pointer (some ⟨D, 0, none⟩)] w fun e w' =>
      e = .returned (.agg (statV s)) ∧ State w' D M (nx 68 s) ∧ w.grownBy w' (some D) := by
  go_enter Tryf.func20, Tryf.ntmps20
  go_wp2_with fail
  have hR0 := heap_alloc_new w (.cells #[.int .i64 0, .int .i64 0, .int .i64 0, .int .i64 0, .int .i32 0, .int .i32 0, .int .i32 0, .int .i64 0, .int .i32 0, .int .i32 0, .int .i64 0] 25)
  have hg0 := galloc w (.cells #[.int .i64 0, .int .i64 0, .int .i64 0, .int .i64 0, .int .i32 0, .int .i32 0, .int .i32 0, .int .i64 0, .int .i32 0, .int .i32 0, .int .i64 0] 25) none
  have hE0 := hE.grown (gany hg0 _)
  have hS0 := hS.grown hg0
  have hs0 := hs
  generalize w.alloc (.cells #[.int .i64 0, .int .i64 0, .int .i64 0, .int .i64 0, .int .i32 0, .int .i32 0, .int .i32 0, .int .i64 0, .int .i32 0, .int .i32 0, .int .i64 0] 25) = w0 at *
  refine (int64_any D M s a0 s0 _ hE0 hS0 hs0).mono ?_
  rintro e w1 ⟨rfl, hS1, hg1⟩
  have hE1 := hE0.grown hg1
  have hs1 := hs0.nx 8
  have hR1 := (hg1.block _ (lt_of_heap hR0) (by simpa using Nat.ne_of_gt hD)).trans hR0
  clear hR0 hE0 hS0 hs0
  go_wp2_with fail
  refine (int64_any D M (nx 8 s) a0 s0 _ hE1 hS1 hs1).mono ?_
  rintro e w2 ⟨rfl, hS2, hg2⟩
  have hE2 := hE1.grown hg2
  have hs2 := hs1.nx 8
  have hR2 := (hg2.block _ (lt_of_heap hR1) (by simpa using Nat.ne_of_gt hD)).trans hR1
  rw [nx_nx] at hS2 hs2
  simp only [Nat.reduceAdd] at hS2 hs2
  clear hR1 hE1 hS1 hs1
  go_wp2_with fail
  refine (int64_any D M (nx 16 s) a0 s0 _ hE2 hS2 hs2).mono ?_
  rintro e w3 ⟨rfl, hS3, hg3⟩
  have hE3 := hE2.grown hg3
  have hs3 := hs2.nx 8
  have hR3 := (hg3.block _ (lt_of_heap hR2) (by simpa using Nat.ne_of_gt hD)).trans hR2
  rw [nx_nx] at hS3 hs3
  simp only [Nat.reduceAdd] at hS3 hs3
  clear hR2 hE2 hS2 hs2
  go_wp2_with fail
  refine (int64_any D M (nx 24 s) a0 s0 _ hE3 hS3 hs3).mono ?_
  rintro e w4 ⟨rfl, hS4, hg4⟩
  have hE4 := hE3.grown hg4
  have hs4 := hs3.nx 8
  have hR4 := (hg4.block _ (lt_of_heap hR3) (by simpa using Nat.ne_of_gt hD)).trans hR3
  rw [nx_nx] at hS4 hs4
  simp only [Nat.reduceAdd] at hS4 hs4
  clear hR3 hE3 hS3 hs3
  go_wp2_with fail
  refine (int32_any D M (nx 32 s) a0 s0 _ hE4 hS4 hs4).mono ?_
  rintro e w5 ⟨rfl, hS5, hg5⟩
  have hE5 := hE4.grown hg5
  have hs5 := hs4.nx 4
  have hR5 := (hg5.block _ (lt_of_heap hR4) (by simpa using Nat.ne_of_gt hD)).trans hR4
  rw [nx_nx] at hS5 hs5
  simp only [Nat.reduceAdd] at hS5 hs5
  clear hR4 hE4 hS4 hs4
  go_wp2_with fail
  refine (int32_any D M (nx 36 s) a0 s0 _ hE5 hS5 hs5).mono ?_
  rintro e w6 ⟨rfl, hS6, hg6⟩
  have hE6 := hE5.grown hg6
  have hs6 := hs5.nx 4
  have hR6 := (hg6.block _ (lt_of_heap hR5) (by simpa using Nat.ne_of_gt hD)).trans hR5
  rw [nx_nx] at hS6 hs6
  simp only [Nat.reduceAdd] at hS6 hs6
  clear hR5 hE5 hS5 hs5
  go_wp2_with fail
  refine (int32_any D M (nx 40 s) a0 s0 _ hE6 hS6 hs6).mono ?_
  rintro e w7 ⟨rfl, hS7, hg7⟩
  have hE7 := hE6.grown hg7
  have hs7 := hs6.nx 4
  have hR7 := (hg7.block _ (lt_of_heap hR6) (by simpa using Nat.ne_of_gt hD)).trans hR6
  rw [nx_nx] at hS7 hs7
  simp only [Nat.reduceAdd] at hS7 hs7
  clear hR6 hE6 hS6 hs6
  go_wp2_with fail
  refine (int64_any D M (nx 44 s) a0 s0 _ hE7 hS7 hs7).mono ?_
  rintro e w8 ⟨rfl, hS8, hg8⟩
  have hE8 := hE7.grown hg8
  have hs8 := hs7.nx 8
  have hR8 := (hg8.block _ (lt_of_heap hR7) (by simpa using Nat.ne_of_gt hD)).trans hR7
  rw [nx_nx] at hS8 hs8
  simp only [Nat.reduceAdd] at hS8 hs8
  clear hR7 hE7 hS7 hs7
  go_wp2_with fail
  refine (int32_any D M (nx 52 s) a0 s0 _ hE8 hS8 hs8).mono ?_
  rintro e w9 ⟨rfl, hS9, hg9⟩
  have hE9 := hE8.grown hg9
  have hs9 := hs8.nx 4
  have hR9 := (hg9.block _ (lt_of_heap hR8) (by simpa using Nat.ne_of_gt hD)).trans hR8
  rw [nx_nx] at hS9 hs9
  simp only [Nat.reduceAdd] at hS9 hs9
  clear hR8 hE8 hS8 hs8
  go_wp2_with fail
  refine (int32_any D M (nx 56 s) a0 s0 _ hE9 hS9 hs9).mono ?_
  rintro e w10 ⟨rfl, hS10, hg10⟩
  have hE10 := hE9.grown hg10
  have hs10 := hs9.nx 4
  have hR10 := (hg10.block _ (lt_of_heap hR9) (by simpa using Nat.ne_of_gt hD)).trans hR9
  rw [nx_nx] at hS10 hs10
  simp only [Nat.reduceAdd] at hS10 hs10
  clear hR9 hE9 hS9 hs9
  go_wp2_with fail
  refine (int64_any D M (nx 60 s) a0 s0 _ hE10 hS10 hs10).mono ?_
  rintro e w11 ⟨rfl, hS11, hg11⟩
  have hE11 := hE10.grown hg11
  have hs11 := hs10.nx 8
  have hR11 := (hg11.block _ (lt_of_heap hR10) (by simpa using Nat.ne_of_gt hD)).trans hR10
  rw [nx_nx] at hS11 hs11
  simp only [Nat.reduceAdd] at hS11 hs11
  clear hR10 hE10 hS10 hs10
  have hgg := gtrans (gany hg0 (some D)) (gtrans hg1 (gtrans hg2 (gtrans hg3 (gtrans hg4 (gtrans hg5 (gtrans hg6 (gtrans hg7 (gtrans hg8 (gtrans hg9 (gtrans hg10 hg11))))))))))
  clear hg0 hg1 hg2 hg3 hg4 hg5 hg6 hg7 hg8 hg9 hg10 hg11
  go_wp2_with (refine wpList_store_row rfl 25 _ _ rfl w.heap.size (statV s) rfl rfl 25 _ hR11 info25 rfl (statV_one s) ?_)
  refine bodyPost_ret (v := .agg (statV s)) (results_cell_row rfl _ _ w.heap.size 25 (statV s) (0, 0) _ rfl (setRow_heap _ _ _ _ _ _ hR11) Tryf.underlying25 rfl info25) rfl ⟨rfl, ?_, setRow_grown hgg _ _ (Or.inl (Nat.le_refl _))⟩
  refine hS11.setRow _ _ (Nat.ne_of_gt hD) (Nat.ne_of_gt hMl) (fun v a x _ hx => not_string hR11 (by simp) hx)
end Go.Proofs.Qxb6614018aFmt
