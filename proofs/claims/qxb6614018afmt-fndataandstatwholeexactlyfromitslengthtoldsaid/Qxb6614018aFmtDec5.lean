/-
  notWhole, dataAndStat, ZZdataAndStat, NewDecoder.
-/
import Derived.Test.Qxb6614018aFmtDec4
import Derived.Deep.RegionHeld3
import Derived.Deep.MidRow
namespace Go.Proofs.Qxb6614018aFmt
open Go.RowKit Go.Stop
set_option linter.unusedVariables false
set_option linter.unusedSimpArgs false

attribute [local go_sem] eql22 neq22

set_option maxHeartbeats 400000 in
theorem err_nil (D : Nat) (w : World) (h : w.cell? ⟨D, 1, none⟩ = some .nilIface) : Calls Tryf.prog 16 #[.pointer (some ⟨D, 0, none⟩)] w fun e w' => e = .returned .nilIface ∧ w' = w := by
  go_enter Tryf.func16, Tryf.ntmps16
  go_wp2
  go_ret
  exact ⟨rfl, rfl⟩
set_option maxHeartbeats 400000 in
theorem err_set (D t : Nat) (x : Value) (w : World) (h : w.cell? ⟨D, 1, none⟩ = some (.iface t x)) : Calls Tryf.prog 16 #[.pointer (some ⟨D, 0, none⟩)] w fun e w' => e = .returned (.iface t x) ∧ w' = w := by
  go_enter Tryf.func16, Tryf.ntmps16
  go_wp2
  go_ret
  exact ⟨rfl, rfl⟩

set_option maxHeartbeats 400000 in
theorem notWhole_any (F : Interp) (a : Addr) (s : ByteArray) (w : World) (hF : F.answers w.tape) (hs : w.cell? a = some (.string s)) :
    Calls Tryf.prog 17 #[.iface 64 (.pointer (some a))] w fun e w' => ∃ b, e = .returned (.iface 59 (.pointer (some b))) ∧ w.grownBy w' none := by
  go_enter Tryf.func17, Tryf.ntmps17
  go_wp2_with fail
  refine (errorf_wrap F w.heap.size a s _ (by exact hF) (by simp) (cell_al _ hs)).mono ?_
  rintro e w1 ⟨tx, rfl, rfl⟩
  go_wp2_with fail
  go_ret
  exact ⟨_, rfl, gtrans (gtrans (galloc _ _ _) (galloc _ _ _)) (gdrew _ _)⟩

def zeroStat : Array Value := #[.int .i64 0, .int .i64 0, .int .i64 0, .int .i64 0, .int .i32 0, .int .i32 0, .int .i32 0, .int .i64 0, .int .i32 0, .int .i32 0, .int .i64 0]

theorem zeroStat_one : zeroStat.all (·.oneCell') = true := by simp [zeroStat, Value.oneCell']

theorem results_tct {P : Program} {fn : Func} {t p u : Tmp} {ty : TypeId} (h : fn.results = #[.tmp t, .cell p ty, .tmp u]) (tmps : Array Value) (w : World) (g : Nat) (ty0 : TypeId) (cs : Array Value) (fr : Nat × Nat) (d : TypeDesc)
    (hp : tmps.getD p undef = .pointer (some ⟨g, 0, none⟩)) (hg : w.heap[g]? = some (.cells cs ty0 fr))
    (hu : P.underlying ty = some d) (hd : (match d with | .struct _ | .array _ _ => true | _ => false) = true) (hi : (P.info? ty).map (·.size) = some cs.size) :
    (results fn tmps).run P w = .ok (.tuple #[tmps.getD t undef, .agg cs, tmps.getD u undef]) w := by
  have hp' : tmps[p]?.getD undef = .pointer (some ⟨g, 0, none⟩) := by simpa using hp
  simp [results, h, hp', asAddr, run_loadVar_row w g ty0 ty cs fr d hg hu hd hi, Sem.run_bind, Result.andThen]

theorem setCells_row (R : Nat) (t : TypeId) : ∀ (vs pre suf : List Value) (w : World), suf.length = vs.length → w.heap[R]? = some (.cells (pre ++ suf).toArray t (0, 0)) →
    (w.setCells R pre.length vs).heap[R]? = some (.cells (pre ++ vs).toArray t (0, 0))
  | [], pre, suf, w, hl, h => by
    obtain rfl : suf = [] := List.length_eq_zero_iff.1 hl
    exact h
  | v :: vs, pre, suf, w, hl, h => by
    match suf, hl with
    | s0 :: suf, hl =>
      have h1 := heap_setCell_same w R pre.length _ t v h
      have e : (pre ++ s0 :: suf).toArray.setIfInBounds pre.length v = ((pre ++ [v]) ++ suf).toArray := by simp
      rw [e] at h1
      have := setCells_row R t vs (pre ++ [v]) suf _ (by simpa using hl) h1
      simp only [List.length_append, List.length_cons, List.length_nil, Nat.zero_add, List.append_assoc, List.cons_append, List.nil_append] at this
      exact this
theorem setCells_other (R : Nat) : ∀ (vs : List Value) (o : Nat) (w : World) (j : Nat), j ≠ R → (w.setCells R o vs).heap[j]? = w.heap[j]?
  | [], _, _, _, _ => rfl
  | v :: vs, o, w, j, h => (setCells_other R vs (o + 1) _ j h).trans (heap_setCell_other _ _ _ _ h)
theorem setCells_size (R : Nat) : ∀ (vs : List Value) (o : Nat) (w : World), (w.setCells R o vs).heap.size = w.heap.size
  | [], _, _ => rfl
  | v :: vs, o, w => (setCells_size R vs (o + 1) _).trans (by simp)
theorem setCells_rest (R : Nat) : ∀ (vs : List Value) (o : Nat) (w : World), (w.setCells R o vs).os = w.os ∧ (w.setCells R o vs).tape = w.tape ∧ (w.setCells R o vs).output = w.output
  | [], _, _ => ⟨rfl, rfl, rfl⟩
  | v :: vs, o, w => setCells_rest R vs (o + 1) _

/-- The answer of dataAndStat, the decoder standing at s. -/
def Answer (w : World) (M : Nat) (s : Option (List Int)) (v ev : Value) (st : Array Value) : Prop :=
  match nx 68 (bufS s) with
  | some _ => Data w M v (bufD s) ∧ st = statV (bufS s) ∧ ev = .nilIface
  | none => v = .slice none 0 0 ∧ st = zeroStat ∧ ∃ b, ev = .iface 59 (.pointer (some b))

set_option maxHeartbeats 1000000 in
theorem das_any (F : Interp) (D M : Nat) (s : Option (List Int)) (a0 : Addr) (s0 : ByteArray) (w : World) (hF : F.answers w.tape) (hE : Env w D M a0 s0) (hS : StateW w D M s) (hs : SmallS s) (hD : D < w.heap.size) (hMl : M < w.heap.size) :
    Calls Tryf.prog 12 #[.pointer (some ⟨D, 0, none⟩)] w fun e w' =>
      ∃ v ev st, e = .returned (.tuple #[v, .agg st, ev]) ∧ Answer w' M s v ev st ∧ w.grownBy w' (some D) := by
  go_enter Tryf.func12, Tryf.ntmps12
  go_wp2_with fail
  have hR0 := heap_alloc_new w (.cells zeroStat 25)
  have hg0 := galloc w (.cells zeroStat 25) none
  have hE0 := hE.grown (gany hg0 _)
  have hS0 := hS.grown hg0
  have hD0 : D < (w.alloc (.cells zeroStat 25)).heap.size := by simp; omega
  have hM0 : M < (w.alloc (.cells zeroStat 25)).heap.size := by simp; omega
  rw [show (Obj.cells #[.int .i64 0, .int .i64 0, .int .i64 0, .int .i64 0, .int .i32 0, .int .i32 0, .int .i32 0, .int .i64 0, .int .i32 0, .int .i32 0, .int .i64 0] 25) = .cells zeroStat 25 from rfl]
  generalize w.alloc (.cells zeroStat 25) = w0 at *
  refine (reply_any F D M s a0 s0 _ (by rw [hg0.tape]; exact hF) hE0 hS0 hs hD0 hM0).mono ?_
  rintro e w1 ⟨v, rfl, hd1, hS1, hg1⟩
  have hE1 := hE0.grown hg1
  have hR1 := (hg1.block _ (lt_of_heap hR0) (by simpa using Nat.ne_of_gt hD)).trans hR0
  have hD1 := Nat.lt_of_lt_of_le hD0 hg1.size
  have hM1 := Nat.lt_of_lt_of_le hM0 hg1.size
  obtain ⟨ao, n, c, hv⟩ := hd1.slice
  rw [hv] at hd1 ⊢
  clear hv hR0 hE0 hS0
  go_wp2_with (refine wpList_store_row rfl 41 _ _ rfl w1.heap.size (replyV (.slice ao n c) (bufS s)) rfl rfl 41 _ (heap_alloc_new w1 _) info41 rfl (replyV_one _ _ _ _) ?_)
  have k2 : w1.grownBy ((w1.alloc (.cells #[.slice none 0 0, .int .i64 0, .int .i64 0, .int .i64 0, .int .i64 0, .int .i32 0, .int .i32 0, .int .i32 0, .int .i64 0, .int .i32 0, .int .i32 0, .int .i64 0] 41)).setRow w1.heap.size (replyV (.slice ao n c) (bufS s))) none := setRow_grown (galloc _ _ _) _ _ (Or.inl (Nat.le_refl _))
  have hX2 := setRow_heap _ w1.heap.size _ (replyV (.slice ao n c) (bufS s)) 41 (0, 0) (heap_alloc_new w1 (.cells #[.slice none 0 0, .int .i64 0, .int .i64 0, .int .i64 0, .int .i64 0, .int .i32 0, .int .i32 0, .int .i32 0, .int .i64 0, .int .i32 0, .int .i32 0, .int .i64 0] 41))
  generalize ((w1.alloc (.cells #[.slice none 0 0, .int .i64 0, .int .i64 0, .int .i64 0, .int .i64 0, .int .i32 0, .int .i32 0, .int .i32 0, .int .i64 0, .int .i32 0, .int .i32 0, .int .i64 0] 41)).setRow w1.heap.size (replyV (.slice ao n c) (bufS s))) = w2 at *
  have hS2 := hS1.grown k2
  have hd2 := hd1.grown (gany k2 (some D)) hE.hM
  have hR2 := (k2.block _ (lt_of_heap hR1) (by simp)).trans hR1
  have hgg := gtrans (gany hg0 (some D)) (gtrans hg1 (gany k2 _))
  have hrl := lt_of_heap hR1
  cases hn : nx 68 (bufS s) with
  | none =>
    rw [hn] at hS2
    obtain ⟨vb, a, tx, h0, h1, h2⟩ := hS2
    have HN : Hid (nx 68 (bufS s) = none) := hn
    clear hn hX2 hd2 hd1 hS1 hR1 hE1
    refine (err_set D _ _ _ h0.c1).mono ?_
    rintro e w2' ⟨rfl, rfl⟩
    go_wp2_with fail
    refine (err_set D _ _ _ h0.c1).mono ?_
    rintro e w2' ⟨rfl, rfl⟩
    go_wp2_with fail
    refine (notWhole_any F a tx _ (by rw [hgg.tape]; exact hF) h1).mono ?_
    rintro e w3 ⟨b, rfl, hg3⟩
    have hR3 := (hg3.block _ (lt_of_heap hR2) (by simp)).trans hR2
    go_wp2_with (refine wpList_store_row rfl 25 _ _ rfl w.heap.size zeroStat rfl rfl 25 _ hR3 info25 rfl zeroStat_one ?_)
    refine bodyPost_ret (results_tct rfl _ _ w.heap.size 25 zeroStat (0, 0) _ rfl (setRow_heap _ _ _ _ _ _ hR3) Tryf.underlying25 rfl info25) rfl ⟨_, _, _, rfl, ?_, setRow_grown (gtrans hgg (gany hg3 _)) _ _ (Or.inl (Nat.le_refl _))⟩
    show Answer _ M s (.slice none 0 0) (.iface 59 (.pointer (some b))) zeroStat
    unfold Answer
    rw [HN.out]
    exact ⟨rfl, rfl, b, rfl⟩
  | some lr =>
    rw [hn] at hS2
    obtain ⟨o, cap, h0, h1, h2, h3⟩ := hS2
    have HN : Hid (nx 68 (bufS s) = some lr) := hn
    clear hn hd1 hS1 hR1 hE1
    refine (err_nil D _ h0.c1).mono ?_
    rintro e w2' ⟨rfl, rfl⟩
    go_wp2_with fail
    have q0 : w2'.cell? ⟨w1.heap.size, 0, none⟩ = some (.slice ao n c) := cell_of_row _ _ _ _ _ _ hX2
    have q1 : w2'.cell? ⟨w1.heap.size, 1, none⟩ = some (.int .i64 (rd64 (bufS s))) := cell_of_row _ _ _ _ _ _ hX2
    have q2 : w2'.cell? ⟨w1.heap.size, 2, none⟩ = some (.int .i64 (rd64 (nx 8 (bufS s)))) := cell_of_row _ _ _ _ _ _ hX2
    have q3 : w2'.cell? ⟨w1.heap.size, 3, none⟩ = some (.int .i64 (rd64 (nx 16 (bufS s)))) := cell_of_row _ _ _ _ _ _ hX2
    have q4 : w2'.cell? ⟨w1.heap.size, 4, none⟩ = some (.int .i64 (rd64 (nx 24 (bufS s)))) := cell_of_row _ _ _ _ _ _ hX2
    have q5 : w2'.cell? ⟨w1.heap.size, 5, none⟩ = some (.int .i32 (rd32 (nx 32 (bufS s)))) := cell_of_row _ _ _ _ _ _ hX2
    have q6 : w2'.cell? ⟨w1.heap.size, 6, none⟩ = some (.int .i32 (rd32 (nx 36 (bufS s)))) := cell_of_row _ _ _ _ _ _ hX2
    have q7 : w2'.cell? ⟨w1.heap.size, 7, none⟩ = some (.int .i32 (rd32 (nx 40 (bufS s)))) := cell_of_row _ _ _ _ _ _ hX2
    have q8 : w2'.cell? ⟨w1.heap.size, 8, none⟩ = some (.int .i64 (rd64 (nx 44 (bufS s)))) := cell_of_row _ _ _ _ _ _ hX2
    have q9 : w2'.cell? ⟨w1.heap.size, 9, none⟩ = some (.int .i32 (rd32 (nx 52 (bufS s)))) := cell_of_row _ _ _ _ _ _ hX2
    have q10 : w2'.cell? ⟨w1.heap.size, 10, none⟩ = some (.int .i32 (rd32 (nx 56 (bufS s)))) := cell_of_row _ _ _ _ _ _ hX2
    have q11 : w2'.cell? ⟨w1.heap.size, 11, none⟩ = some (.int .i64 (rd64 (nx 60 (bufS s)))) := cell_of_row _ _ _ _ _ _ hX2
    have z0 : w2'.cell? ⟨w.heap.size, 0, none⟩ = some (.int .i64 0) := cell_of_row _ _ _ _ _ _ hR2
    have y0 : w2'.frozen? ⟨w.heap.size, 0, none⟩ = false := frozen_of_row _ _ _ _ _ hR2
    have z1 : w2'.cell? ⟨w.heap.size, 1, none⟩ = some (.int .i64 0) := cell_of_row _ _ _ _ _ _ hR2
    have y1 : w2'.frozen? ⟨w.heap.size, 1, none⟩ = false := frozen_of_row _ _ _ _ _ hR2
    have z2 : w2'.cell? ⟨w.heap.size, 2, none⟩ = some (.int .i64 0) := cell_of_row _ _ _ _ _ _ hR2
    have y2 : w2'.frozen? ⟨w.heap.size, 2, none⟩ = false := frozen_of_row _ _ _ _ _ hR2
    have z3 : w2'.cell? ⟨w.heap.size, 3, none⟩ = some (.int .i64 0) := cell_of_row _ _ _ _ _ _ hR2
    have y3 : w2'.frozen? ⟨w.heap.size, 3, none⟩ = false := frozen_of_row _ _ _ _ _ hR2
    have z4 : w2'.cell? ⟨w.heap.size, 4, none⟩ = some (.int .i32 0) := cell_of_row _ _ _ _ _ _ hR2
    have y4 : w2'.frozen? ⟨w.heap.size, 4, none⟩ = false := frozen_of_row _ _ _ _ _ hR2
    have z5 : w2'.cell? ⟨w.heap.size, 5, none⟩ = some (.int .i32 0) := cell_of_row _ _ _ _ _ _ hR2
    have y5 : w2'.frozen? ⟨w.heap.size, 5, none⟩ = false := frozen_of_row _ _ _ _ _ hR2
    have z6 : w2'.cell? ⟨w.heap.size, 6, none⟩ = some (.int .i32 0) := cell_of_row _ _ _ _ _ _ hR2
    have y6 : w2'.frozen? ⟨w.heap.size, 6, none⟩ = false := frozen_of_row _ _ _ _ _ hR2
    have z7 : w2'.cell? ⟨w.heap.size, 7, none⟩ = some (.int .i64 0) := cell_of_row _ _ _ _ _ _ hR2
    have y7 : w2'.frozen? ⟨w.heap.size, 7, none⟩ = false := frozen_of_row _ _ _ _ _ hR2
    have z8 : w2'.cell? ⟨w.heap.size, 8, none⟩ = some (.int .i32 0) := cell_of_row _ _ _ _ _ _ hR2
    have y8 : w2'.frozen? ⟨w.heap.size, 8, none⟩ = false := frozen_of_row _ _ _ _ _ hR2
    have z9 : w2'.cell? ⟨w.heap.size, 9, none⟩ = some (.int .i32 0) := cell_of_row _ _ _ _ _ _ hR2
    have y9 : w2'.frozen? ⟨w.heap.size, 9, none⟩ = false := frozen_of_row _ _ _ _ _ hR2
    have z10 : w2'.cell? ⟨w.heap.size, 10, none⟩ = some (.int .i64 0) := cell_of_row _ _ _ _ _ _ hR2
    have y10 : w2'.frozen? ⟨w.heap.size, 10, none⟩ = false := frozen_of_row _ _ _ _ _ hR2
    clear hX2 h1 h2 h3 h0
    have hne1 : ¬ w.heap.size = w1.heap.size := by omega
    have hne2 : ¬ w1.heap.size = w.heap.size := by omega
    have HR2 : Hid (w2'.heap[w.heap.size]? = some (.cells zeroStat 25 (0, 0))) := hR2
    clear hR2
    go_region_held3 (fun w' => w'.cell? ⟨w1.heap.size, 0, none⟩ = some (.slice ao n c) ∧ w'.cell? ⟨w1.heap.size, 1, none⟩ = some (.int .i64 (rd64 (bufS s))) ∧ w'.cell? ⟨w1.heap.size, 2, none⟩ = some (.int .i64 (rd64 (nx 8 (bufS s)))) ∧ w'.cell? ⟨w1.heap.size, 3, none⟩ = some (.int .i64 (rd64 (nx 16 (bufS s)))) ∧ w'.cell? ⟨w1.heap.size, 4, none⟩ = some (.int .i64 (rd64 (nx 24 (bufS s)))) ∧ w'.cell? ⟨w1.heap.size, 5, none⟩ = some (.int .i32 (rd32 (nx 32 (bufS s)))) ∧ w'.cell? ⟨w1.heap.size, 6, none⟩ = some (.int .i32 (rd32 (nx 36 (bufS s)))) ∧ w'.cell? ⟨w1.heap.size, 7, none⟩ = some (.int .i32 (rd32 (nx 40 (bufS s)))) ∧ w'.cell? ⟨w1.heap.size, 8, none⟩ = some (.int .i64 (rd64 (nx 44 (bufS s)))) ∧ w'.cell? ⟨w1.heap.size, 9, none⟩ = some (.int .i32 (rd32 (nx 52 (bufS s)))) ∧ w'.cell? ⟨w1.heap.size, 10, none⟩ = some (.int .i32 (rd32 (nx 56 (bufS s)))) ∧ w'.cell? ⟨w1.heap.size, 11, none⟩ = some (.int .i64 (rd64 (nx 60 (bufS s))))) (go_keep) (fail)
    all_goals go_wp2
    change bodyPost _ _ _ _ _ (World.drew (w2'.setCells w.heap.size 0 (statL (bufS s))))
    have hsame := setCells_row w.heap.size 25 (statL (bufS s)) [] zeroStat.toList w2' rfl HR2.out
    have hoth := setCells_other w.heap.size (statL (bufS s)) 0 w2'
    have hsz := setCells_size w.heap.size (statL (bufS s)) 0 w2'
    have hre := setCells_rest w.heap.size (statL (bufS s)) 0 w2'
    simp only [List.length_nil, List.nil_append] at hsame
    generalize w2'.setCells w.heap.size 0 (statL (bufS s)) = X at *
    refine bodyPost_ret (results_tct rfl _ _ w.heap.size 25 (statV (bufS s)) (0, 0) _ rfl hsame Tryf.underlying25 rfl info25) rfl ⟨_, _, _, rfl, ?_, ?_⟩
    · show Answer _ M s (.slice ao n c) .nilIface (statV (bufS s))
      unfold Answer
      rw [HN.out]
      refine ⟨?_, rfl, rfl⟩
      have hc : ∀ a : Addr, a.block ≠ w.heap.size → _ := fun a ha => World.cell?_of_block (hoth a.block ha)
      cases hb : bufD s with
      | none => rw [hb] at hd2; exact hd2
      | some l =>
        rw [hb] at hd2
        obtain ⟨o', e', hb'⟩ := hd2
        exact ⟨o', e', fun i hi => (hc ⟨M, o' + i, none⟩ (Nat.ne_of_lt hMl)).trans (hb' i hi)⟩
    · exact ⟨hre.1.trans hgg.os, hre.2.1.trans hgg.tape, hre.2.2.trans hgg.output, by rw [World.size_drew, hsz]; exact hgg.size, fun i hi hne => (hoth i (by omega)).trans (hgg.block i hi hne)⟩
end Go.Proofs.Qxb6614018aFmt
