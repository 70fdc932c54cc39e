/-
  (*Job).Status, Task, setTask, setJob; the small functions on statuses.
-/
import Derived.Test.Qxb6614022aJob
import Derived.BigRegion
namespace Go.Proofs.Qxb6614022a
open Go.RowKit
set_option linter.unusedVariables false
set_option linter.unusedSimpArgs false

theorem cell_al {w : World} {a : Addr} {v : Value} (o : Obj) (h : w.cell? a = some v) : (w.alloc o).cell? a = some v :=
  (World.cell?_alloc_lt w o a (World.block_lt_of_cell? w a h)).trans h
def z44 : Obj := .cells #[.int .i64 0, .int .i64 0, .int .i64 0, .string ⟨#[]⟩] 44
def z46 : Obj := .cells #[.int .i64 0, .string ⟨#[]⟩, .int .i64 0, .int .i64 0, .int .i64 0, .int .i64 0, .string ⟨#[]⟩, .int .i64 0, .int .i64 0] 46

section
variable {lo JB TB n m : Nat} {G : Nat → Value} {D : JD} {F : Nat → Prop}

set_option maxHeartbeats 400000 in
theorem status_any (w : World) (h : Jb w lo JB TB n G D m F) :
    Calls Try.prog 16 #[.pointer (some ⟨JB, 0, none⟩)] w fun e w' => e = .returned (.int .i64 D.st) ∧ w' = w := by
  obtain ⟨_, _, _, hc, _⟩ := h.jc
  have h2 := hc.c2
  obtain ⟨st, hst⟩ : ∃ st, st = D.st := ⟨_, rfl⟩
  rw [← hst] at h2 ⊢
  clear h hc hst
  go_enter Try.func16, Try.ntmps16
  go_wp2
  go_ret
  exact ⟨rfl, rfl⟩

def stOf (D : JD) (i : Nat) : Value := .agg #[.int .i64 (D.S i), .int .i64 (D.L i), .int .i64 (D.Tr i), .string (D.Wk i)]

set_option maxHeartbeats 1000000 in
theorem task_any (i : Nat) (w : World) (h : Jb w lo JB TB n G D m F) (hi : i < n) (hn : n ≤ 65536) :
    Calls Try.prog 17 #[.pointer (some ⟨JB, 0, none⟩), .int .i64 i] w fun e w' => e = .returned (stOf D i) ∧ Keep w w' (fun _ => False) := by
  obtain ⟨_, _, _, hc, _⟩ := h.jc
  have h3 := hc.c3
  have t := h.tc hi
  have t0 := t.c0
  have t1 := t.c1
  have t2 := t.c2
  have t3 := t.c3
  have t4 := t.c4
  have t5 := t.c5
  obtain ⟨z, t6⟩ := t.c6
  have t7 := t.c7
  obtain ⟨o, l, c, xs, hG, _⟩ := h.thn i hi
  rw [hG] at t7
  have q : (i : Int) < (n : Int) := by omega
  clear h hc t
  replace h3 := cell_al z44 h3
  replace t0 := cell_al z44 t0
  replace t1 := cell_al z44 t1
  replace t2 := cell_al z44 t2
  replace t3 := cell_al z44 t3
  replace t4 := cell_al z44 t4
  replace t5 := cell_al z44 t5
  replace t6 := cell_al z44 t6
  replace t7 := cell_al z44 t7
  unfold z44 at h3 t0 t1 t2 t3 t4 t5 t6 t7
  go_enter Try.func17, Try.ntmps17
  go_wp2
  go_returns
  exact ⟨rfl, (Keep.alloc _ _ _).trans (Keep.alloc _ _ _) (fun _ _ h => h)⟩

/-- A task's change, as setTask makes it. -/
def chgOf (D : JD) (i : Nat) (to : Int) : Value := .agg #[.int .i64 i, .string (D.N i), .int .i64 (D.S i), .int .i64 to, .int .i64 (D.L i), .int .i64 (D.Tr i), .string (D.Wk i), .int .i64 0, .int .i64 0]

def SetPost (w : World) (lo JB TB n : Nat) (G : Nat → Value) (D' : JD) (m : Nat) (F : Nat → Prop) (v : Value) (e : Ending) (w' : World) : Prop :=
  e = .returned v ∧ Jb w' lo JB TB n G D' m F ∧ Keep w w' F

set_option maxRecDepth 100000 in
set_option maxHeartbeats 1000000 in
theorem setTask_any (i : Nat) (to : Int) (w : World) (h : Jb w lo JB TB n G D m F) (hi : i < n) (hn : n ≤ 65536) :
    Calls Try.prog 34 #[.pointer (some ⟨JB, 0, none⟩), .int .i64 i, .int .i64 to] w fun e w' => SetPost w lo JB TB n G (D.setS i to) m F (chgOf D i to) e w' := by
  have HJ : Hid (Jb w lo JB TB n G D m F) := h
  obtain ⟨_, _, _, hc, _⟩ := h.jc
  have h3 := hc.c3
  have t := h.tc hi
  have t0 := t.c0
  have t1 := t.c1
  have t3 := t.c3
  have t4 := t.c4
  have t5 := t.c5
  have q : (i : Int) < (n : Int) := by omega
  have f1 : (w.alloc z46).frozen? ⟨TB, i * 8 + 1, none⟩ = false := (World.frozen?_of_block ((World.grownBy_alloc w z46 none).block TB (World.block_lt_of_cell? w _ t1) (by simp))).trans (t.fz _)
  clear h hc t
  have lT : TB < w.heap.size := World.block_lt_of_cell? w _ t1
  replace h3 := cell_al z46 h3
  replace t0 := cell_al z46 t0
  replace t1 := cell_al z46 t1
  replace t3 := cell_al z46 t3
  replace t4 := cell_al z46 t4
  replace t5 := cell_al z46 t5
  unfold z46 at h3 t0 t1 t3 t4 t5 f1
  go_enter Try.func34, Try.ntmps34
  go_wp2
  go_region
  go_wp2
  go_returns
  have key : Keep (w.setCell ⟨TB, i * 8 + 1, none⟩ (.int .i64 to)) (((w.setCell ⟨TB, i * 8 + 1, none⟩ (.int .i64 to)).alloc (.cells #[.int .i64 i, .string (D.N i), .int .i64 (D.S i), .int .i64 to, .int .i64 (D.L i), .int .i64 (D.Tr i), .string (D.Wk i), .int .i64 0, .int .i64 0] 46)).alloc (.cells #[.int .i64 i, .string (D.N i), .int .i64 (D.S i), .int .i64 to, .int .i64 (D.L i), .int .i64 (D.Tr i), .string (D.Wk i), .int .i64 0, .int .i64 0] 46)).drew (fun _ => False) :=
    ((Keep.alloc _ _ _).trans (Keep.alloc _ _ _) (fun _ _ h => h)).same rfl rfl rfl rfl
  exact ⟨rfl, (HJ.out.setS hi to).keep key, ((Keep.set w ⟨TB, i * 8 + 1, none⟩ _).mono (fun k _ e => by rw [e]; exact HJ.out.fT)).trans key (fun _ _ h => h.elim)⟩

/-- The job's change, as setJob makes it. -/
def jchgOf (D : JD) (to : Int) : Value := .agg #[.int .i64 (-1), .string D.nm, .int .i64 0, .int .i64 0, .int .i64 0, .int .i64 0, .string ⟨#[]⟩, .int .i64 D.st, .int .i64 to]

set_option maxRecDepth 100000 in
set_option maxHeartbeats 1000000 in
theorem setJob_any (to : Int) (w : World) (h : Jb w lo JB TB n G D m F) :
    Calls Try.prog 30 #[.pointer (some ⟨JB, 0, none⟩), .int .i64 to] w fun e w' => SetPost w lo JB TB n G (D.setSt to) m F (jchgOf D to) e w' := by
  have HJ : Hid (Jb w lo JB TB n G D m F) := h
  obtain ⟨_, _, _, hc, _⟩ := h.jc
  have h0 := hc.c0
  have h2 := hc.c2
  have f2 : (w.alloc z46).frozen? ⟨JB, 2, none⟩ = false := (World.frozen?_of_block ((World.grownBy_alloc w z46 none).block JB (World.block_lt_of_cell? w _ h2) (by simp))).trans (hc.fz _)
  have lJ : JB < w.heap.size := World.block_lt_of_cell? w _ h2
  clear h hc
  replace h0 := cell_al z46 h0
  replace h2 := cell_al z46 h2
  unfold z46 at h0 h2 f2
  go_enter Try.func30, Try.ntmps30
  go_wp2
  go_region
  go_wp2
  go_returns
  have key : Keep (w.setCell ⟨JB, 2, none⟩ (.int .i64 to)) (((w.setCell ⟨JB, 2, none⟩ (.int .i64 to)).alloc (.cells #[.int .i64 (-1), .string D.nm, .int .i64 0, .int .i64 0, .int .i64 0, .int .i64 0, .string ⟨#[]⟩, .int .i64 D.st, .int .i64 to] 46)).alloc (.cells #[.int .i64 (-1), .string D.nm, .int .i64 0, .int .i64 0, .int .i64 0, .int .i64 0, .string ⟨#[]⟩, .int .i64 D.st, .int .i64 to] 46)).drew (fun _ => False) :=
    ((Keep.alloc _ _ _).trans (Keep.alloc _ _ _) (fun _ _ h => h)).same rfl rfl rfl rfl
  exact ⟨rfl, (HJ.out.setSt to).keep key, ((Keep.set w ⟨JB, 2, none⟩ _).mono (fun k _ e => by rw [e]; exact HJ.out.fJ)).trans key (fun _ _ h => h.elim)⟩
end

def endedB (z : Int) : Bool := z == 8 || z == 9 || z == 6
def reqB (e z : Int) : Bool := z == 5 || z == 7 || z == 4 || z == 3 || e == 8
def preZ (z : Int) : Int := if z = 2 then 1 else z

set_option maxHeartbeats 400000 in
theorem ended_any (z : Int) (w : World) : Calls Try.prog 29 #[.int .i64 z] w fun e w' => e = .returned (.bool (endedB z)) ∧ w' = w := by
  by_cases h8 : z = 8
  · subst h8
    go_enter Try.func29, Try.ntmps29
    go_wp2
    go_ret
    exact ⟨rfl, rfl⟩
  · by_cases h9 : z = 9
    · subst h9
      go_enter Try.func29, Try.ntmps29
      go_wp2
      go_ret
      exact ⟨rfl, rfl⟩
    · have e8 : (z == 8) = false := by simp [h8]
      have e9 : (z == 9) = false := by simp [h9]
      have eb : endedB z = (z == 6) := by simp [endedB, e8, e9]
      rw [eb]
      go_enter Try.func29, Try.ntmps29
      go_wp2
      go_ret
      exact ⟨by simp [e8, e9], rfl⟩

set_option maxHeartbeats 400000 in
theorem zzended_any (z : Int) (w : World) : Calls Try.prog 19 #[.int .i64 z] w fun e w' => e = .returned (.bool (endedB z)) ∧ w' = w := by
  by_cases h8 : z = 8
  · subst h8
    go_enter Try.func19, Try.ntmps19
    go_wp2
    go_ret
    exact ⟨rfl, rfl⟩
  · by_cases h9 : z = 9
    · subst h9
      go_enter Try.func19, Try.ntmps19
      go_wp2
      go_ret
      exact ⟨rfl, rfl⟩
    · by_cases h6 : z = 6
      · subst h6
        go_enter Try.func19, Try.ntmps19
        go_wp2
        go_ret
        exact ⟨rfl, rfl⟩
      · have e8 : (z == 8) = false := by simp [h8]
        have e9 : (z == 9) = false := by simp [h9]
        have e6 : (z == 6) = false := by simp [h6]
        have eb : endedB z = false := by simp [endedB, e8, e9, e6]
        rw [eb]
        go_enter Try.func19, Try.ntmps19
        go_wp2
        go_ret
        exact ⟨rfl, rfl⟩

set_option maxHeartbeats 400000 in
theorem zzpre_any (z : Int) (w : World) : Calls Try.prog 13 #[.int .i64 z] w fun e w' => e = .returned (.int .i64 (preZ z)) ∧ w' = w := by
  by_cases h2 : z = 2
  · subst h2
    go_enter Try.func13, Try.ntmps13
    go_wp2
    go_ret
    exact ⟨rfl, rfl⟩
  · have e2 : (z == 2) = false := by simp [h2]
    have eb : preZ z = z := by simp [preZ, h2]
    rw [eb]
    go_enter Try.func13, Try.ntmps13
    go_wp2
    go_ret
    exact ⟨rfl, rfl⟩

set_option maxHeartbeats 400000 in
theorem requeued_any (j z : Int) (w : World) : Calls Try.prog 35 #[.int .i64 j, .int .i64 z] w fun e w' => e = .returned (.bool (reqB j z)) ∧ w' = w := by
  by_cases h5 : z = 5
  · subst h5
    go_enter Try.func35, Try.ntmps35
    go_wp2
    go_ret
    exact ⟨rfl, rfl⟩
  · by_cases h7 : z = 7
    · subst h7
      go_enter Try.func35, Try.ntmps35
      go_wp2
      go_ret
      exact ⟨rfl, rfl⟩
    · by_cases h4 : z = 4
      · subst h4
        go_enter Try.func35, Try.ntmps35
        go_wp2
        go_ret
        exact ⟨rfl, rfl⟩
      · by_cases h3 : z = 3
        · subst h3
          go_enter Try.func35, Try.ntmps35
          go_wp2
          go_ret
          exact ⟨rfl, rfl⟩
        · have e5 : (z == 5) = false := by simp [h5]
          have e7 : (z == 7) = false := by simp [h7]
          have e4 : (z == 4) = false := by simp [h4]
          have e3 : (z == 3) = false := by simp [h3]
          have eb : reqB j z = (j == 8) := by simp [reqB, e5, e7, e4, e3]
          rw [eb]
          go_enter Try.func35, Try.ntmps35
          go_wp2
          go_ret
          exact ⟨rfl, rfl⟩

set_option maxHeartbeats 400000 in
theorem zzreq_any (j z : Int) (w : World) : Calls Try.prog 20 #[.bool (j == 8), .int .i64 z] w fun e w' => e = .returned (.bool (reqB j z)) ∧ w' = w := by
  by_cases h8 : j = 8
  · have eb : reqB j z = true := by simp [reqB, h8]
    have e8 : (j == 8) = true := by simp [h8]
    rw [eb, e8]
    go_enter Try.func20, Try.ntmps20
    go_wp2
    go_ret
    exact ⟨rfl, rfl⟩
  · have e8 : (j == 8) = false := by simp [h8]
    rw [e8]
    by_cases h3 : 3 ≤ z
    · by_cases h7 : z ≤ 7
      · by_cases h6 : z = 6
        · subst h6
          have eb : reqB j 6 = false := by simp [reqB, h8]
          rw [eb]
          go_enter Try.func20, Try.ntmps20
          go_wp2
          go_ret
          exact ⟨rfl, rfl⟩
        · have e6 : (z != 6) = true := by simp [h6]
          have eb : reqB j z = true := by
            have : z = 5 ∨ z = 7 ∨ z = 4 ∨ z = 3 := by omega
            rcases this with rfl | rfl | rfl | rfl <;> simp [reqB]
          rw [eb]
          go_enter Try.func20, Try.ntmps20
          go_wp2
          go_ret
          exact ⟨by simp_all, rfl⟩
      · have eb : reqB j z = false := by
          simp [reqB, h8]; omega
        rw [eb]
        go_enter Try.func20, Try.ntmps20
        go_wp2
        go_ret
        exact ⟨by simp_all, rfl⟩
    · have eb : reqB j z = false := by
        simp [reqB, h8]; omega
      rw [eb]
      go_enter Try.func20, Try.ntmps20
      go_wp2
      go_ret
      exact ⟨by simp_all, rfl⟩
end Go.Proofs.Qxb6614022a
