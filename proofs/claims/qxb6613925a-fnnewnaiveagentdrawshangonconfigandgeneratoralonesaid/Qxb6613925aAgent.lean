/-
  newNaiveAgent.
-/
import Derived.Test.Qxb6613925aUn
namespace Go.Proofs.Qxb6613925a
open Go.RowKit
set_option linter.unusedVariables false
set_option linter.unusedSimpArgs false

theorem out_lt (s : Nat) : out s < 18446744073709551616 := dx_lt _ _
theorem div_lt_gen (a n m : Nat) (h : a < m) (hn : 0 < n) : a * n / m < n := by
  apply Nat.div_lt_of_lt_mul
  exact Nat.mul_lt_mul_of_pos_right h hn
theorem Draw.lt {n s v s' : Nat} (h : Draw n s v s') (hn : 1 ≤ n) : v < n := by
  rcases h with ⟨_, _, rfl⟩ | ⟨_, k, _, _, _, rfl⟩
  · have := Nat.and_le_right (n := out s') (m := n - 1)
    omega
  · exact div_lt_gen _ _ _ (out_lt s') hn
theorem Draw.det {n s v s' v2 s2 : Nat} (h : Draw n s v s') (h2 : Draw n s v2 s2) : v = v2 ∧ s' = s2 := by
  rcases h with ⟨a, e1, e2⟩ | ⟨a, k, e1, g, m, e2⟩
  · rcases h2 with ⟨_, f1, f2⟩ | ⟨b, _⟩
    · have es : s' = s2 := e1.trans f1.symm
      exact ⟨by rw [e2, f2, es], es⟩
    · exact absurd a b
  · rcases h2 with ⟨b, _⟩ | ⟨_, k2, f1, g2, m2, f2⟩
    · exact absurd b a
    · have hk : k = k2 := by
        rcases Nat.lt_trichotomy k k2 with h | h | h
        · exact absurd (by rw [← e1]; exact g) (m2 k h)
        · exact h
        · exact absurd (by rw [← f1]; exact g2) (m k2 h)
      have es : s' = s2 := by rw [e1, hk]; exact f1.symm
      exact ⟨by rw [e2, f2, es], es⟩

theorem cell_al {w : World} {a : Addr} {v : Value} (o : Obj) (h : w.cell? a = some v) : (w.alloc o).cell? a = some v :=
  (World.cell?_alloc_lt w o a (World.block_lt_of_cell? w a h)).trans h

/-- A run of draws below N, N - 1, .. -/
def Run (N s0 T : Nat) (X : Nat → Nat) : Prop := ∃ S : Nat → Nat, S 0 = s0 ∧ ∀ t, t < T → Draw (N - t) (S t) (X t) (S (t + 1))
theorem Run.det {N s0 T : Nat} {X Y : Nat → Nat} (h : Run N s0 T X) (k : Run N s0 T Y) : ∀ t, t < T → X t = Y t := by
  obtain ⟨S, s1, s2⟩ := h
  obtain ⟨U, u1, u2⟩ := k
  have key : ∀ t, t ≤ T → S t = U t := by
    intro t
    induction t with
    | zero => intro _; rw [s1, u1]
    | succ t ih =>
      intro ht
      have e := ih (by omega)
      have a := s2 t (by omega)
      have b := u2 t (by omega)
      rw [e] at a
      exact (a.det b).2
  intro t ht
  have a := s2 t ht
  have b := u2 t ht
  rw [key t (by omega)] at a
  exact (a.det b).1
theorem Run.lt {N s0 T : Nat} {X : Nat → Nat} (h : Run N s0 T X) {t : Nat} (ht : t < T) (hN : T ≤ N) : X t < N - t := by
  obtain ⟨S, s1, s2⟩ := h
  exact (s2 t ht).lt (by omega)

theorem uint64N_any (R B h l n : Nat) (w : World) (hr : RandAt w R B) (hp : PcgAt w B h l) (hRB : R ≠ B) (hn1 : 1 ≤ n) (hn : n ≤ 65536) :
    Calls Try.prog 25 #[.pointer (some ⟨R, 0, none⟩), .int .u64 n] w fun e w' => DrawPost w B h l n e w' := by
  have HC : Hid (Calls Try.prog 28 #[.pointer (some ⟨R, 0, none⟩), .int .u64 n] w fun e w' => DrawPost w B h l n e w') := uint64n_any R B h l n w hr hp hRB hn1 hn
  have h0 : ¬ (n : Int) = 0 := by omega
  clear hr hp hRB
  go_enter Try.func25, Try.ntmps25
  go_wp2_with fail
  refine HC.out.mono ?_
  rintro e w' ⟨v, h', l', rfl, P1, P2, P3⟩
  have HP : Box (Draw n (stN h l) v (stN h' l') ∧ PcgAt w' B h' l' ∧ Keep w w' (fun k => k = B)) := ⟨P1, P2, P3⟩
  clear P1 P2 P3 HC
  go_wp2_with fail
  go_ret
  exact ⟨v, h', l', rfl, HP.out.1, HP.out.2.1, HP.out.2.2⟩

theorem info22 : (Try.prog.info? 22).map (fun i => (i.zero, i.size, i.bytes)) = some (some (.int .u64 0), 1, 8) := by kernel_rfl
theorem info49 : (Try.prog.info? 49).map (fun i => (i.zero, i.size, i.bytes)) = some (some (.slice none 0 0), 1, 24) := by kernel_rfl
theorem make36 (F : Nat) (hn : F + 1 ≤ 1048576) (w : World) : (Instr.makeSlice 36 (.int .i64 ((F : Int) + 1)) (.int .i64 ((F : Int) + 1))).run Try.prog w =
    .ok (.slice (some ⟨w.heap.size, 0, none⟩) (F + 1) (F + 1)) (w.alloc (.cells (madeCells #[.int .u64 0] (F + 1)) 22)) := by
  obtain ⟨i, hi, hzz⟩ := Option.map_eq_some_iff.1 info22
  simp only [Prod.mk.injEq] at hzz
  obtain ⟨hz, hs, hb⟩ := hzz
  have := run_make (P := Try.prog) w 36 22 i _ Try.underlying36 hi hz .i64 .i64 ((F + 1 : Nat) : Int) ((F + 1 : Nat) : Int) (by omega) (Int.le_refl _) (by rw [hb]; omega) (by omega)
  simp only [Int.toNat_natCast, hs, Value.cells, Nat.mul_one] at this
  exact this
theorem make48 (n : Nat) (hn : n ≤ 1048576) (w : World) : (Instr.makeSlice 48 (.int .i64 n) (.int .i64 n)).run Try.prog w =
    .ok (.slice (some ⟨w.heap.size, 0, none⟩) n n) (w.alloc (.cells (madeCells #[.slice none 0 0] n) 49)) := by
  obtain ⟨i, hi, hzz⟩ := Option.map_eq_some_iff.1 info49
  simp only [Prod.mk.injEq] at hzz
  obtain ⟨hz, hs, hb⟩ := hzz
  have := run_make (P := Try.prog) w 48 49 i _ Try.underlying48 hi hz .i64 .i64 n n (by omega) (Int.le_refl _) (by rw [hb]; omega) (by omega)
  simp only [Int.toNat_natCast, hs, Value.cells, Nat.mul_one] at this
  exact this

/-- Between two draws. -/
structure AgL (w wr : World) (X B C N F t s0 : Nat) : Prop where
  row : ∃ (Xs S : Nat → Nat) (c : Array Value) (h' l' : Nat), S 0 = s0 ∧ (∀ i, i < t → Draw (N - i) (S i) (Xs i) (S (i + 1))) ∧ PcgAt wr B h' l' ∧ stN h' l' = S t ∧ wr.heap[X]? = some (.cells c 22 (0, 0)) ∧ c.size = F + 1 ∧ ∀ i, i < t → c[i]? = some (.int .u64 (Xs i))
  cfg : wr.heap[C]? = some (.cells #[.int .i64 N, .int .i64 F] 29 (0, 0))
  k : Keep w wr (fun k => k = B)

theorem AgL.next {w wr w1 : World} {X B C N F t s0 : Nat} {Xs S : Nat → Nat} {c : Array Value} {h' l' v h2 l2 : Nat} (hcfg : wr.heap[C]? = some (.cells #[.int .i64 N, .int .i64 F] 29 (0, 0))) (hk : Keep w wr (fun k => k = B))
    (a1 : S 0 = s0) (a2 : ∀ i, i < t → Draw (N - i) (S i) (Xs i) (S (i + 1))) (a4 : stN h' l' = S t) (a5 : wr.heap[X]? = some (.cells c 22 (0, 0))) (a6 : c.size = F + 1) (a7 : ∀ i, i < t → c[i]? = some (.int .u64 (Xs i)))
    (ht : t < F + 1) (hXB : X ≠ B) (hCB : C ≠ B) (hXw : w.heap.size ≤ X) (hCX : C ≠ X)
    (d : Draw (N - t) (stN h' l') v (stN h2 l2)) (p : PcgAt w1 B h2 l2) (k1 : Keep wr w1 (fun k => k = B)) :
    AgL w (w1.setCell ⟨X, t, none⟩ (.int .u64 v)) X B C N F (t + 1) s0 := by
  have ks := Keep.set w1 ⟨X, t, none⟩ (.int .u64 (v : Int))
  have x1 : w1.heap[X]? = some (.cells c 22 (0, 0)) := (k1.block X (lt_of_heap a5) hXB).trans a5
  refine ⟨⟨fun i => if i = t then v else Xs i, fun i => if i = t + 1 then stN h2 l2 else S i, _, h2, l2, ?_, fun i hi => ?_, ⟨(ks.block B (lt_of_heap p.b) (fun e => hXB (Eq.symm e))).trans p.b, p.h, p.l⟩, by simp, heap_setCell_same w1 X t c 22 (.int .u64 (v : Int)) x1, by simpa using a6, fun i hi => ?_⟩, ?_, ?_⟩
  · simp [a1]
  · by_cases hit : i = t
    · subst hit
      simp only [if_true, if_neg (show ¬ i = i + 1 by omega)]
      rw [← a4]; exact d
    · simp only [if_neg hit, if_neg (show ¬ i = t + 1 by omega), if_neg (show ¬ i + 1 = t + 1 by omega)]
      exact a2 i (by omega)
  · by_cases hit : i = t
    · subst hit
      rw [Array.getElem?_setIfInBounds_self_of_lt (by omega)]; simp
    · rw [Array.getElem?_setIfInBounds_ne (by omega)]
      simp only [if_neg hit]
      exact a7 i (by omega)
  · exact (ks.block C (Nat.lt_of_lt_of_le (lt_of_heap hcfg) k1.size) hCX).trans ((k1.block C (lt_of_heap hcfg) hCB).trans hcfg)
  · exact (hk.trans k1 (fun _ _ h => h)).trans ks (fun i hi e => by have e' : i = X := e; omega)

/-- An agent in memory. -/
structure AgAt (w : World) (A H T X N F id : Nat) (val : ByteArray) (Xs : Nat → Nat) : Prop where
  a : w.cell? ⟨A, 3, none⟩ = some (.slice (some ⟨H, 0, none⟩) N N)
  h : w.cell? ⟨H, id, none⟩ = some (.slice (some ⟨T, 0, none⟩) 1 1)
  t0 : w.cell? ⟨T, 0, none⟩ = some (.int .i64 id)
  t1 : w.cell? ⟨T, 1, none⟩ = some (.string val)
  t2 : w.cell? ⟨T, 2, none⟩ = some (.slice (some ⟨X, 0, none⟩) (F + 1) (F + 1))
  x : ∀ t, t < F + 1 → w.cell? ⟨X, t, none⟩ = some (.int .u64 (Xs t))
theorem cell_keepX {w w' : World} {a : Addr} {v : Value} {P : Nat → Prop} (h : w.cell? a = some v) (k : Keep w w' P) (hP : ¬ P a.block) : w'.cell? a = some v :=
  (World.cell?_of_block (k.block _ (World.block_lt_of_cell? w _ h) hP)).trans h
theorem AgAt.keepX {w w' : World} {A H T X N F id : Nat} {val : ByteArray} {Xs : Nat → Nat} {P : Nat → Prop} (h : AgAt w A H T X N F id val Xs) (k : Keep w w' P) (hP : ∀ b, b < w.heap.size → ¬ P b) : AgAt w' A H T X N F id val Xs :=
  ⟨cell_keepX h.a k (hP _ (World.block_lt_of_cell? w _ h.a)), cell_keepX h.h k (hP _ (World.block_lt_of_cell? w _ h.h)), cell_keepX h.t0 k (hP _ (World.block_lt_of_cell? w _ h.t0)), cell_keepX h.t1 k (hP _ (World.block_lt_of_cell? w _ h.t1)), cell_keepX h.t2 k (hP _ (World.block_lt_of_cell? w _ h.t2)), fun t ht => cell_keepX (h.x t ht) k (hP _ (World.block_lt_of_cell? w _ (h.x t ht)))⟩
def AgPost (w : World) (B s0 N F id : Nat) (val : ByteArray) (e : Ending) (w' : World) : Prop :=
  ∃ A H T X Xs, e = .returned (.pointer (some ⟨A, 0, none⟩)) ∧ AgAt w' A H T X N F id val Xs ∧ Run N s0 (F + 1) Xs ∧ Keep w w' (fun k => k = B)

def oA (N F id H : Nat) : Array Value := #[.int .i64 N, .int .i64 F, .int .i64 id, .slice (some ⟨H, 0, none⟩) N N, .slice none 0 0, .int .i64 0, .bool false, .bool false, .pointer none, .pointer none, .slice none 0 0, .pointer none]
/-- Three blocks made one behind the other. -/
theorem three_made (wr : World) (c1 c2 c3 : Array Value) (t1 t2 t3 : TypeId) :
    (((wr.alloc (.cells c1 t1)).alloc (.cells c2 t2)).alloc (.cells c3 t3)).heap[wr.heap.size]? = some (.cells c1 t1 (0, 0)) ∧ (((wr.alloc (.cells c1 t1)).alloc (.cells c2 t2)).alloc (.cells c3 t3)).heap[wr.heap.size + 1]? = some (.cells c2 t2 (0, 0)) ∧ (((wr.alloc (.cells c1 t1)).alloc (.cells c2 t2)).alloc (.cells c3 t3)).heap[wr.heap.size + 2]? = some (.cells c3 t3 (0, 0)) ∧
    Keep wr (((wr.alloc (.cells c1 t1)).alloc (.cells c2 t2)).alloc (.cells c3 t3)) (fun _ => False) := by
  have k1 := Keep.alloc wr (.cells c1 t1) (fun _ => False)
  have n1 := heap_alloc_new wr (.cells c1 t1)
  have z1 : (wr.alloc (.cells c1 t1)).heap.size = wr.heap.size + 1 := by simp
  obtain ⟨w1, hw1⟩ : ∃ w1, w1 = wr.alloc (.cells c1 t1) := ⟨_, rfl⟩
  rw [← hw1] at k1 n1 z1 ⊢
  have k2 := Keep.alloc w1 (.cells c2 t2) (fun _ => False)
  have n2 := heap_alloc_new w1 (.cells c2 t2)
  have z2 : (w1.alloc (.cells c2 t2)).heap.size = wr.heap.size + 2 := by simp; omega
  rw [z1] at n2
  obtain ⟨w2, hw2⟩ : ∃ w2, w2 = w1.alloc (.cells c2 t2) := ⟨_, rfl⟩
  rw [← hw2] at k2 n2 z2 ⊢
  have k3 := Keep.alloc w2 (.cells c3 t3) (fun _ => False)
  have n3 := heap_alloc_new w2 (.cells c3 t3)
  rw [z2] at n3
  exact ⟨(k3.block _ (by omega) (fun h => h)).trans ((k2.block _ (by omega) (fun h => h)).trans n1), (k3.block _ (by omega) (fun h => h)).trans n2, n3, (k1.trans k2 (fun _ _ h => h)).trans k3 (fun _ _ h => h)⟩

/-- The agent made, behind the draws. -/
theorem agent_made {w wr : World} {X B N F id : Nat} {val : ByteArray} {Xs : Nat → Nat} (hid : id < N) (hk : Keep w wr (fun k => k = B)) (hx : ∀ t, t < F + 1 → wr.cell? ⟨X, t, none⟩ = some (.int .u64 (Xs t))) :
    (((wr.alloc (.cells (madeCells #[.slice none 0 0] N) 49)).alloc (.cells (oA N F id wr.heap.size) 56)).alloc (.cells #[.int .i64 id, .string val, .slice (some ⟨X, 0, none⟩) (F + 1) (F + 1)] 58)).cell? ⟨wr.heap.size, id, none⟩ = some (.slice none 0 0) ∧
    (((wr.alloc (.cells (madeCells #[.slice none 0 0] N) 49)).alloc (.cells (oA N F id wr.heap.size) 56)).alloc (.cells #[.int .i64 id, .string val, .slice (some ⟨X, 0, none⟩) (F + 1) (F + 1)] 58)).frozen? ⟨wr.heap.size, id, none⟩ = false ∧
    AgAt (((wr.alloc (.cells ((madeCells #[.slice none 0 0] N).setIfInBounds id (.slice (some ⟨wr.heap.size + 1 + 1, 0, none⟩) 1 1)) 49)).alloc (.cells (oA N F id wr.heap.size) 56)).alloc (.cells #[.int .i64 id, .string val, .slice (some ⟨X, 0, none⟩) (F + 1) (F + 1)] 58)).drew (wr.heap.size + 1) wr.heap.size (wr.heap.size + 1 + 1) X N F id val Xs ∧
    Keep w (((wr.alloc (.cells ((madeCells #[.slice none 0 0] N).setIfInBounds id (.slice (some ⟨wr.heap.size + 1 + 1, 0, none⟩) 1 1)) 49)).alloc (.cells (oA N F id wr.heap.size) 56)).alloc (.cells #[.int .i64 id, .string val, .slice (some ⟨X, 0, none⟩) (F + 1) (F + 1)] 58)).drew (fun k => k = B) := by
  obtain ⟨m1, _, _, _⟩ := three_made wr (madeCells #[.slice none 0 0] N) (oA N F id wr.heap.size) #[.int .i64 (id : Int), .string val, .slice (some ⟨X, 0, none⟩) (F + 1) (F + 1)] 49 56 58
  obtain ⟨n1, n2, n3, kk⟩ := three_made wr ((madeCells #[.slice none 0 0] N).setIfInBounds id (.slice (some ⟨wr.heap.size + 1 + 1, 0, none⟩) 1 1)) (oA N F id wr.heap.size) #[.int .i64 (id : Int), .string val, .slice (some ⟨X, 0, none⟩) (F + 1) (F + 1)] 49 56 58
  have hsz : (madeCells #[Value.slice none 0 0] N).size = N := size_madeCells _ _
  refine ⟨?_, frozen_of_row _ _ _ _ _ m1, ⟨?_, ?_, ?_, ?_, ?_, fun t ht => ?_⟩, ?_⟩
  · rw [cell_of_row _ _ _ _ _ _ m1]; simp [madeCells, hid, Nat.mod_one]
  · exact (cell_of_row _ _ _ _ _ _ n2).trans rfl
  · refine (cell_of_row _ _ _ _ _ _ n1).trans ?_
    rw [Array.getElem?_setIfInBounds_self_of_lt (by omega)]
  · exact (cell_of_row _ _ _ _ _ _ n3).trans rfl
  · exact (cell_of_row _ _ _ _ _ _ n3).trans rfl
  · exact (cell_of_row _ _ _ _ _ _ n3).trans rfl
  · have h1 := cell_keepX (hx t ht) kk (fun h => h)
    exact h1
  · exact (hk.trans kk (fun _ _ h => h.elim)).trans (Keep.drew _ (fun k => k = B)) (fun _ _ h => h)

set_option maxRecDepth 100000 in
set_option maxHeartbeats 1000000 in
theorem agent_any (R B h l N F id : Nat) (val : ByteArray) (w : World) (hr : RandAt w R B) (hp : PcgAt w B h l) (hRB : R ≠ B) (hF : F < N) (hN : N ≤ 65536) (hid : id < N) :
    Calls Try.prog 21 #[.agg #[.int .i64 N, .int .i64 F], .int .i64 id, .string val, .pointer (some ⟨R, 0, none⟩)] w fun e w' => AgPost w B (stN h l) N F id val e w' := by
  have HP : Hid (PcgAt w B h l) := hp
  have HR : Hid (RandAt w R B) := hr
  have HNE : Hid (R ≠ B) := hRB
  have HBl : Hid (B < w.heap.size) := lt_of_heap hp.b
  have hm1 := make36 F (by omega)
  have hm2 := make48 N (by omega)
  clear hr hp hRB
  go_enter Try.func21, Try.ntmps21
  go_wp2_with fail
  have HA0 : Box (AgL w ((w.alloc (.cells #[.int .i64 N, .int .i64 F] 29)).alloc (.cells (madeCells #[.int .u64 0] (F + 1)) 22)) (w.heap.size + 1) B w.heap.size N F 0 (stN h l)) := ⟨by
    have ka := Keep.alloc w (.cells #[.int .i64 (N : Int), .int .i64 (F : Int)] 29) (fun k => k = B)
    have kb := Keep.alloc (w.alloc (.cells #[.int .i64 (N : Int), .int .i64 (F : Int)] 29)) (.cells (madeCells #[.int .u64 0] (F + 1)) 22) (fun _ => False)
    have ka' := Keep.alloc w (.cells #[.int .i64 (N : Int), .int .i64 (F : Int)] 29) (fun _ => False)
    have h1 := heap_alloc_new w (.cells #[.int .i64 (N : Int), .int .i64 (F : Int)] 29)
    have h2 := heap_alloc_new (w.alloc (.cells #[.int .i64 (N : Int), .int .i64 (F : Int)] 29)) (.cells (madeCells #[.int .u64 0] (F + 1)) 22)
    have hs : (w.alloc (.cells #[.int .i64 (N : Int), .int .i64 (F : Int)] 29)).heap.size = w.heap.size + 1 := by simp
    rw [hs] at h2
    have kk := ka'.trans kb (fun _ _ h => h)
    exact ⟨⟨fun _ => 0, fun _ => stN h l, _, h, l, rfl, fun i hi => by omega, ⟨(kk.block B HBl.out (fun h => h)).trans HP.out.b, HP.out.h, HP.out.l⟩, rfl, h2, size_madeCells _ _, fun i hi => by omega⟩, (kb.block _ (lt_of_heap h1) (fun h => h)).trans h1, kk.mono (fun _ _ h => h.elim)⟩⟩
  clear hm1
  go_loopw [18] (fun i wr => ∃ t : Nat, t ≤ F + 1 ∧ i = .int .i64 t ∧ Box (AgL w wr (w.heap.size + 1) B w.heap.size N F t (stN h l))) (fun i _ => F + 1 - (intOf i).toNat)
  case atStart => exact ⟨0, Nat.zero_le _, rfl, HA0⟩
  case round =>
    clear HA0
    obtain ⟨t, ht, rfl, HA⟩ := hrel
    obtain ⟨⟨Xs, S, c, h', l', a1, a2, a3, a4, a5, a6, a7⟩, hcfg, hk⟩ := HA.out
    by_cases hlt : t < F + 1
    · have q : (t : Int) < (F : Int) + 1 := by omega
      have q2 : (t : Int) < ((F + 1 : Nat) : Int) := by omega
      have c0 : wr.cell? ⟨w.heap.size, 0, none⟩ = some (.int .i64 N) := by rw [cell_of_row _ _ _ _ _ _ hcfg]; rfl
      obtain ⟨n, hn⟩ : ∃ n, n = N - t := ⟨_, rfl⟩
      have eN : (N : Int) - (t : Int) = (n : Int) := by omega
      have HB2 := HBl.out
      have HC : Hid (Calls Try.prog 25 #[.pointer (some ⟨R, 0, none⟩), .int .u64 n] wr fun e w' => DrawPost wr B h' l' n e w') := uint64N_any R B h' l' n wr (HR.out.keep hk HNE.out) a3 HNE.out (by omega) (by omega)
      have HNX : Box (∀ v h2 l2 w1, Draw n (stN h' l') v (stN h2 l2) → PcgAt w1 B h2 l2 → Keep wr w1 (fun k => k = B) → AgL w (w1.setCell ⟨w.heap.size + 1, t, none⟩ (.int .u64 v)) (w.heap.size + 1) B w.heap.size N F (t + 1) (stN h l) ∧ (∃ o, w1.cell? ⟨w.heap.size + 1, t, none⟩ = some o) ∧ w1.frozen? ⟨w.heap.size + 1, t, none⟩ = false) := ⟨fun v h2 l2 w1 d p k1 => by
        rw [hn] at d
        have x1 : w1.heap[w.heap.size + 1]? = some (.cells c 22 (0, 0)) := (k1.block _ (lt_of_heap a5) (by omega)).trans a5
        exact ⟨AgL.next hcfg hk a1 a2 a4 a5 a6 a7 hlt (by omega) (by omega) (by omega) (by omega) d p k1, ⟨c[t]'(by omega), by rw [cell_of_row _ _ _ _ _ _ x1, Array.getElem?_eq_getElem (by omega)]⟩, frozen_of_row _ _ _ _ _ x1⟩⟩
      clear a1 a2 a3 a4 a5 a6 a7 hcfg hk HA hn HB2
      go_wp2_with fail
      refine HC.out.mono ?_
      rintro e w1 ⟨v, h2, l2, rfl, d, p, k1⟩
      obtain ⟨b1, ⟨o, b2⟩, b3⟩ := HNX.out v h2 l2 w1 d p k1
      have HB1 : Box (AgL w (w1.setCell ⟨w.heap.size + 1, t, none⟩ (.int .u64 v)) (w.heap.size + 1) B w.heap.size N F (t + 1) (stN h l)) := ⟨b1⟩
      clear b1 d p k1 HNX HC
      go_wp2_with fail
      go_roundw
      case rel => exact ⟨t + 1, by omega, by go_num, HB1⟩
      case measure => simp [intOf]; omega
    · have hcfg0 : wr.cell? ⟨w.heap.size, 0, none⟩ = some (.int .i64 N) := by rw [cell_of_row _ _ _ _ _ _ hcfg]; rfl
      have hcfg1 : wr.cell? ⟨w.heap.size, 1, none⟩ = some (.int .i64 F) := by rw [cell_of_row _ _ _ _ _ _ hcfg]; rfl
      have a0 := cell_al (.cells (madeCells #[.slice none 0 0] N) 49) hcfg0
      have a01 := cell_al (.cells (madeCells #[.slice none 0 0] N) 49) hcfg1
      have et : t = F + 1 := by omega
      have hx : ∀ i, i < F + 1 → wr.cell? ⟨w.heap.size + 1, i, none⟩ = some (.int .u64 (Xs i)) := fun i hi => by rw [cell_of_row _ _ _ _ _ _ a5]; exact a7 i (by omega)
      have hrun : Run N (stN h l) (F + 1) Xs := ⟨S, a1, fun i hi => a2 i (by omega)⟩
      obtain ⟨y0, f0, P1, P2⟩ := agent_made (val := val) hid hk hx
      have HF : Box (AgAt _ _ _ _ _ N F id val Xs ∧ Keep _ _ _ ∧ Run N (stN h l) (F + 1) Xs) := ⟨P1, P2, hrun⟩
      unfold oA at HF y0 f0
      have qid : (id : Int) < (N : Int) := by omega
      clear a1 a2 a3 a4 a5 a6 a7 hcfg hk hx hrun P1 P2 HA
      go_wp2_with fail
      go_region
      all_goals go_wp2_with fail
      all_goals go_ret
      all_goals exact ⟨_, _, _, _, Xs, rfl, HF.out.1, HF.out.2.2, HF.out.2.1⟩
end Go.Proofs.Qxb6613925a
