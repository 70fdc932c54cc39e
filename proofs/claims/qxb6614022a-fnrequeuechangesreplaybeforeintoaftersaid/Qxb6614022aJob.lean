/-
  A job in memory: what of it the laws can see; (*Job).Status, Task, setTask, setJob.
-/
import Derived.Test.Qxb6614022aPush
namespace Go.Proofs.Qxb6614022a
open Go.RowKit
set_option linter.unusedVariables false
set_option linter.unusedSimpArgs false

structure JD where
  nm : ByteArray
  st : Int
  N : Nat → ByteArray
  S : Nat → Int
  R : Nat → Int
  L : Nat → Int
  Tr : Nat → Int
  Wk : Nat → ByteArray

def JD.setSt (D : JD) (z : Int) : JD := { D with st := z }
def JD.setS (D : JD) (i : Nat) (z : Int) : JD := { D with S := fun k => if k = i then z else D.S k }
def JD.setL (D : JD) (i : Nat) (z : Int) : JD := { D with L := fun k => if k = i then z else D.L k }

structure Tk (D : JD) (ct : Array Value) (G : Nat → Value) (i : Nat) : Prop where
  c0 : ct[i * 8]? = some (.string (D.N i))
  c1 : ct[i * 8 + 1]? = some (.int .i64 (D.S i))
  c2 : ct[i * 8 + 2]? = some (.int .i64 (D.R i))
  c3 : ct[i * 8 + 3]? = some (.int .i64 (D.L i))
  c4 : ct[i * 8 + 4]? = some (.int .i64 (D.Tr i))
  c5 : ct[i * 8 + 5]? = some (.string (D.Wk i))
  c6 : ∃ z, ct[i * 8 + 6]? = some (.int .i64 z)
  c7 : ct[i * 8 + 7]? = some (G i)

def jcells (nm : ByteArray) (st : Int) (TB n : Nat) (rv : Value) (thr a c f : Int) (soft : Value) : Array Value :=
  #[.string nm, .int .i64 thr, .int .i64 st, .slice (some ⟨TB, 0, none⟩) n n, rv, soft, .int .i64 a, .int .i64 c, .int .i64 f]

structure Jb (w : World) (lo JB TB n : Nat) (G : Nat → Value) (D : JD) (m : Nat) (F : Nat → Prop) : Prop where
  job : ∃ thr a c f o len cap soft, w.heap[JB]? = some (.cells (jcells D.nm D.st TB n (.slice o len cap) thr a c f soft) 69 (0, 0)) ∧ Rdy w lo (.slice o len cap) len ∧ len ≤ m ∧ (∀ g, (Value.slice o len cap).ownBlock = some g → F g ∧ g ≠ JB ∧ g ≠ TB)
  tasks : ∃ ct, w.heap[TB]? = some (.cells ct 71 (0, 0)) ∧ ct.size = n * 8 ∧ ∀ i, i < n → Tk D ct G i
  fJ : F JB
  fT : F TB
  ne : JB ≠ TB
  lt : ∀ k, F k → lo ≤ k ∧ k < w.heap.size
  thn : ∀ i, i < n → ∃ o l c xs, G i = .slice o l c ∧ w.ownsRow lo 3 1 (G i) l xs ∧ l ≤ 1099511627776 ∧ (∀ u ∈ xs, ∃ k : Nat, k < n ∧ u = .int .i64 k) ∧ ∀ g, (G i).ownBlock = some g → ¬ F g

/-- What a call leaves of everything else, and how its own blocks may grow. -/
def Step (w w' : World) (F F' : Nat → Prop) : Prop := Keep w w' F ∧ ∀ k, F' k → F k ∨ w.heap.size ≤ k
theorem Step.refl (w : World) (F : Nat → Prop) : Step w w F F := ⟨Keep.refl _ _, fun _ h => Or.inl h⟩
theorem Step.trans {a b c : World} {F G H : Nat → Prop} (h : Step a b F G) (k : Step b c G H) : Step a c F H :=
  ⟨h.1.trans k.1 (fun i hi hg => (h.2 i hg).elim id (fun hn => by omega)), fun i hi => by
    rcases k.2 i hi with h1 | h1
    · exact h.2 i h1
    · exact Or.inr (Nat.le_trans h.1.size h1)⟩
theorem Step.of {w w' : World} {F : Nat → Prop} (h : Keep w w' (fun _ => False)) : Step w w' F F := ⟨h.mono (fun _ _ h => h.elim), fun _ h => Or.inl h⟩
theorem Step.keep {w w' : World} {F : Nat → Prop} (h : Keep w w' F) : Step w w' F F := ⟨h, fun _ h => Or.inl h⟩

theorem own_kept {w w' : World} {lo l : Nat} {v : Value} {xs : List Value} {X : Nat → Prop} (h : w.ownsRow lo 3 1 v l xs) (k : Keep w w' X) (hX : ∀ g, v.ownBlock = some g → ¬ X g) : w'.ownsRow lo 3 1 v l xs := by
  refine ⟨h.1, ?_⟩
  rcases h.2 with h2 | ⟨g, cap, cur, rfl, h4, h5, h6⟩
  · exact Or.inl h2
  · exact Or.inr ⟨g, cap, cur, rfl, h4, (k.block g (lt_of_heap h5) (hX g rfl)).trans h5, h6⟩

section
variable {w w' : World} {lo JB TB n m : Nat} {G : Nat → Value} {D : JD} {F : Nat → Prop}

theorem Jb.thn_kept (h : Jb w lo JB TB n G D m F) (k : Keep w w' F) : ∀ i, i < n → ∃ o l c xs, G i = .slice o l c ∧ w'.ownsRow lo 3 1 (G i) l xs ∧ l ≤ 1099511627776 ∧ (∀ u ∈ xs, ∃ k : Nat, k < n ∧ u = .int .i64 k) ∧ ∀ g, (G i).ownBlock = some g → ¬ F g := by
  intro i hi
  obtain ⟨o, l, c, xs, h1, h2, h3, h4, h5⟩ := h.thn i hi
  exact ⟨o, l, c, xs, h1, own_kept h2 k h5, h3, h4, h5⟩

theorem Jb.keep (h : Jb w lo JB TB n G D m F) (k : Keep w w' (fun _ => False)) : Jb w' lo JB TB n G D m F := by
  obtain ⟨thr, a, c, f, o, len, cap, soft, h1, h2, h3, h4⟩ := h.job
  obtain ⟨ct, t1, t2⟩ := h.tasks
  refine ⟨⟨thr, a, c, f, o, len, cap, soft, (k.block JB (lt_of_heap h1) id).trans h1, h2.kept k (fun _ _ => id), h3, h4⟩, ⟨ct, (k.block TB (lt_of_heap t1) id).trans t1, t2⟩, h.fJ, h.fT, h.ne, fun b hb => ⟨(h.lt b hb).1, Nat.lt_of_lt_of_le (h.lt b hb).2 k.size⟩, h.thn_kept (k.mono (fun _ _ h => h.elim))⟩

/-- The job's own block written anew. -/
theorem Jb.reJ (h : Jb w lo JB TB n G D m F) (k : Keep w w' (fun b => b = JB)) {thr a c f st' : Int} {o : Option Addr} {len cap m' : Nat} {soft : Value}
    (hb : w'.heap[JB]? = some (.cells (jcells D.nm st' TB n (.slice o len cap) thr a c f soft) 69 (0, 0))) (hr : Rdy w lo (.slice o len cap) len) (hm : len ≤ m')
    (hF : ∀ g, (Value.slice o len cap).ownBlock = some g → F g ∧ g ≠ JB ∧ g ≠ TB) : Jb w' lo JB TB n G (D.setSt st') m' F := by
  obtain ⟨ct, t1, t2, t3⟩ := h.tasks
  refine ⟨⟨thr, a, c, f, o, len, cap, soft, hb, hr.kept k (fun g hg => (hF g hg).2.1), hm, hF⟩, ⟨ct, (k.block TB (lt_of_heap t1) (fun e => h.ne e.symm)).trans t1, t2, fun i hi => ?_⟩, h.fJ, h.fT, h.ne, fun b hb => ⟨(h.lt b hb).1, Nat.lt_of_lt_of_le (h.lt b hb).2 k.size⟩, h.thn_kept (k.mono (fun _ _ e => by rw [e]; exact h.fJ))⟩
  have := t3 i hi
  exact ⟨this.c0, this.c1, this.c2, this.c3, this.c4, this.c5, this.c6, this.c7⟩

/-- The tasks' block written anew. -/
theorem Jb.reT (h : Jb w lo JB TB n G D m F) (k : Keep w w' (fun b => b = TB)) {ct : Array Value} {D' : JD} (hb : w'.heap[TB]? = some (.cells ct 71 (0, 0))) (hs : ct.size = n * 8) (ht : ∀ i, i < n → Tk D' ct G i) (hn : D'.nm = D.nm) (hst : D'.st = D.st) :
    Jb w' lo JB TB n G D' m F := by
  obtain ⟨thr, a, c, f, o, len, cap, soft, h1, h2, h3, h4⟩ := h.job
  refine ⟨⟨thr, a, c, f, o, len, cap, soft, ?_, h2.kept k (fun g hg => (h4 g hg).2.2), h3, h4⟩, ⟨ct, hb, hs, ht⟩, h.fJ, h.fT, h.ne, fun b hb => ⟨(h.lt b hb).1, Nat.lt_of_lt_of_le (h.lt b hb).2 k.size⟩, h.thn_kept (k.mono (fun _ _ e => by rw [e]; exact h.fT))⟩
  rw [k.block JB (lt_of_heap h1) h.ne, hn, hst]; exact h1

theorem Tk.other {ct : Array Value} {i j f : Nat} {v : Value} (h : Tk D ct G i) (hij : i ≠ j) (hf : f < 8) {D' : JD} (e : D'.N i = D.N i ∧ D'.S i = D.S i ∧ D'.R i = D.R i ∧ D'.L i = D.L i ∧ D'.Tr i = D.Tr i ∧ D'.Wk i = D.Wk i) :
    Tk D' (ct.setIfInBounds (j * 8 + f) v) G i := by
  obtain ⟨e1, e2, e3, e4, e5, e6⟩ := e
  refine ⟨?_, ?_, ?_, ?_, ?_, ?_, ?_, ?_⟩
  · rw [Array.getElem?_setIfInBounds_ne (by omega), e1]; exact h.c0
  · rw [Array.getElem?_setIfInBounds_ne (by omega), e2]; exact h.c1
  · rw [Array.getElem?_setIfInBounds_ne (by omega), e3]; exact h.c2
  · rw [Array.getElem?_setIfInBounds_ne (by omega), e4]; exact h.c3
  · rw [Array.getElem?_setIfInBounds_ne (by omega), e5]; exact h.c4
  · rw [Array.getElem?_setIfInBounds_ne (by omega), e6]; exact h.c5
  · rw [Array.getElem?_setIfInBounds_ne (by omega)]; exact h.c6
  · rw [Array.getElem?_setIfInBounds_ne (by omega)]; exact h.c7

theorem Jb.setS (h : Jb w lo JB TB n G D m F) {i : Nat} (hi : i < n) (z : Int) : Jb (w.setCell ⟨TB, i * 8 + 1, none⟩ (.int .i64 z)) lo JB TB n G (D.setS i z) m F := by
  obtain ⟨ct, t1, t2, t3⟩ := h.tasks
  refine h.reT (Keep.set w ⟨TB, i * 8 + 1, none⟩ _) (heap_setCell_same w TB (i * 8 + 1) ct 71 _ t1) (by simpa using t2) (fun k hk => ?_) rfl rfl
  by_cases hki : k = i
  · subst hki
    have t := t3 k hk
    refine ⟨?_, ?_, ?_, ?_, ?_, ?_, ?_, ?_⟩
    · rw [Array.getElem?_setIfInBounds_ne (by omega)]; exact t.c0
    · rw [Array.getElem?_setIfInBounds_self_of_lt (by omega)]; simp [JD.setS]
    · rw [Array.getElem?_setIfInBounds_ne (by omega)]; exact t.c2
    · rw [Array.getElem?_setIfInBounds_ne (by omega)]; exact t.c3
    · rw [Array.getElem?_setIfInBounds_ne (by omega)]; exact t.c4
    · rw [Array.getElem?_setIfInBounds_ne (by omega)]; exact t.c5
    · rw [Array.getElem?_setIfInBounds_ne (by omega)]; exact t.c6
    · rw [Array.getElem?_setIfInBounds_ne (by omega)]; exact t.c7
  · exact (t3 k hk).other hki (by omega) ⟨rfl, by simp [JD.setS, hki], rfl, rfl, rfl, rfl⟩

theorem Jb.setL (h : Jb w lo JB TB n G D m F) {i : Nat} (hi : i < n) (z : Int) : Jb (w.setCell ⟨TB, i * 8 + 3, none⟩ (.int .i64 z)) lo JB TB n G (D.setL i z) m F := by
  obtain ⟨ct, t1, t2, t3⟩ := h.tasks
  refine h.reT (Keep.set w ⟨TB, i * 8 + 3, none⟩ _) (heap_setCell_same w TB (i * 8 + 3) ct 71 _ t1) (by simpa using t2) (fun k hk => ?_) rfl rfl
  by_cases hki : k = i
  · subst hki
    have t := t3 k hk
    refine ⟨?_, ?_, ?_, ?_, ?_, ?_, ?_, ?_⟩
    · rw [Array.getElem?_setIfInBounds_ne (by omega)]; exact t.c0
    · rw [Array.getElem?_setIfInBounds_ne (by omega)]; exact t.c1
    · rw [Array.getElem?_setIfInBounds_ne (by omega)]; exact t.c2
    · rw [Array.getElem?_setIfInBounds_self_of_lt (by omega)]; simp [JD.setL]
    · rw [Array.getElem?_setIfInBounds_ne (by omega)]; exact t.c4
    · rw [Array.getElem?_setIfInBounds_ne (by omega)]; exact t.c5
    · rw [Array.getElem?_setIfInBounds_ne (by omega)]; exact t.c6
    · rw [Array.getElem?_setIfInBounds_ne (by omega)]; exact t.c7
  · exact (t3 k hk).other hki (by omega) ⟨rfl, rfl, rfl, by simp [JD.setL, hki], rfl, rfl⟩

theorem Jb.setWait (h : Jb w lo JB TB n G D m F) {i : Nat} (hi : i < n) (z : Int) : Jb (w.setCell ⟨TB, i * 8 + 6, none⟩ (.int .i64 z)) lo JB TB n G D m F := by
  obtain ⟨ct, t1, t2, t3⟩ := h.tasks
  refine h.reT (Keep.set w ⟨TB, i * 8 + 6, none⟩ _) (heap_setCell_same w TB (i * 8 + 6) ct 71 _ t1) (by simpa using t2) (fun k hk => ?_) rfl rfl
  by_cases hki : k = i
  · subst hki
    have t := t3 k hk
    refine ⟨?_, ?_, ?_, ?_, ?_, ?_, ?_, ?_⟩
    · rw [Array.getElem?_setIfInBounds_ne (by omega)]; exact t.c0
    · rw [Array.getElem?_setIfInBounds_ne (by omega)]; exact t.c1
    · rw [Array.getElem?_setIfInBounds_ne (by omega)]; exact t.c2
    · rw [Array.getElem?_setIfInBounds_ne (by omega)]; exact t.c3
    · rw [Array.getElem?_setIfInBounds_ne (by omega)]; exact t.c4
    · rw [Array.getElem?_setIfInBounds_ne (by omega)]; exact t.c5
    · exact ⟨z, by rw [Array.getElem?_setIfInBounds_self_of_lt (by omega)]⟩
    · rw [Array.getElem?_setIfInBounds_ne (by omega)]; exact t.c7
  · exact (t3 k hk).other hki (by omega) ⟨rfl, rfl, rfl, rfl, rfl, rfl⟩

theorem Jb.setCnt (h : Jb w lo JB TB n G D m F) (j : Nat) (hj : j = 6 ∨ j = 7 ∨ j = 8) (z : Int) : Jb (w.setCell ⟨JB, j, none⟩ (.int .i64 z)) lo JB TB n G D m F := by
  obtain ⟨thr, a, c, f, o, len, cap, soft, h1, h2, h3, h4⟩ := h.job
  have hb := heap_setCell_same w JB j _ 69 (.int .i64 z) h1
  have key : Jb (w.setCell ⟨JB, j, none⟩ (.int .i64 z)) lo JB TB n G (D.setSt D.st) m F := by
    rcases hj with rfl | rfl | rfl
    · exact h.reJ (Keep.set w ⟨JB, 6, none⟩ _) (thr := thr) (a := z) (c := c) (f := f) (soft := soft) (hb.trans (by simp [jcells])) h2 h3 h4
    · exact h.reJ (Keep.set w ⟨JB, 7, none⟩ _) (thr := thr) (a := a) (c := z) (f := f) (soft := soft) (hb.trans (by simp [jcells])) h2 h3 h4
    · exact h.reJ (Keep.set w ⟨JB, 8, none⟩ _) (thr := thr) (a := a) (c := c) (f := z) (soft := soft) (hb.trans (by simp [jcells])) h2 h3 h4
  exact key

theorem Jb.setSt (h : Jb w lo JB TB n G D m F) (z : Int) : Jb (w.setCell ⟨JB, 2, none⟩ (.int .i64 z)) lo JB TB n G (D.setSt z) m F := by
  obtain ⟨thr, a, c, f, o, len, cap, soft, h1, h2, h3, h4⟩ := h.job
  exact h.reJ (Keep.set w ⟨JB, 2, none⟩ _) (thr := thr) (a := a) (c := c) (f := f) (soft := soft) ((heap_setCell_same w JB 2 _ 69 (.int .i64 z) h1).trans (by simp [jcells])) h2 h3 h4

theorem Jb.setSoft (h : Jb w lo JB TB n G D m F) (v : Value) : Jb (w.setCell ⟨JB, 5, none⟩ v) lo JB TB n G D m F := by
  obtain ⟨thr, a, c, f, o, len, cap, soft, h1, h2, h3, h4⟩ := h.job
  exact h.reJ (Keep.set w ⟨JB, 5, none⟩ _) (st' := D.st) (thr := thr) (a := a) (c := c) (f := f) (soft := v) ((heap_setCell_same w JB 5 _ 69 v h1).trans (by simp [jcells])) h2 h3 h4

/-- The cells that a walk reads. -/
structure JC (w : World) (JB TB n : Nat) (D : JD) (rv : Value) : Prop where
  c0 : w.cell? ⟨JB, 0, none⟩ = some (.string D.nm)
  c2 : w.cell? ⟨JB, 2, none⟩ = some (.int .i64 D.st)
  c3 : w.cell? ⟨JB, 3, none⟩ = some (.slice (some ⟨TB, 0, none⟩) n n)
  c4 : w.cell? ⟨JB, 4, none⟩ = some rv
  c5 : ∃ v, w.cell? ⟨JB, 5, none⟩ = some v
  c6 : ∃ z, w.cell? ⟨JB, 6, none⟩ = some (.int .i64 z)
  c7 : ∃ z, w.cell? ⟨JB, 7, none⟩ = some (.int .i64 z)
  c8 : ∃ z, w.cell? ⟨JB, 8, none⟩ = some (.int .i64 z)
  fz : ∀ j, w.frozen? ⟨JB, j, none⟩ = false

theorem Jb.jc (h : Jb w lo JB TB n G D m F) : ∃ o len cap, JC w JB TB n D (.slice o len cap) ∧ Rdy w lo (.slice o len cap) len ∧ len ≤ m ∧ (∀ g, (Value.slice o len cap).ownBlock = some g → F g ∧ g ≠ JB ∧ g ≠ TB) := by
  obtain ⟨thr, a, c, f, o, len, cap, soft, h1, h2, h3, h4⟩ := h.job
  refine ⟨o, len, cap, ⟨?_, ?_, ?_, ?_, ⟨soft, ?_⟩, ⟨a, ?_⟩, ⟨c, ?_⟩, ⟨f, ?_⟩, fun j => frozen_of_row _ _ _ _ _ h1⟩, h2, h3, h4⟩
  all_goals rw [cell_of_row _ _ _ _ _ _ h1]; rfl

structure TC (w : World) (TB : Nat) (D : JD) (i : Nat) (v : Value) : Prop where
  c0 : w.cell? ⟨TB, i * 8, none⟩ = some (.string (D.N i))
  c1 : w.cell? ⟨TB, i * 8 + 1, none⟩ = some (.int .i64 (D.S i))
  c2 : w.cell? ⟨TB, i * 8 + 2, none⟩ = some (.int .i64 (D.R i))
  c3 : w.cell? ⟨TB, i * 8 + 3, none⟩ = some (.int .i64 (D.L i))
  c4 : w.cell? ⟨TB, i * 8 + 4, none⟩ = some (.int .i64 (D.Tr i))
  c5 : w.cell? ⟨TB, i * 8 + 5, none⟩ = some (.string (D.Wk i))
  c6 : ∃ z, w.cell? ⟨TB, i * 8 + 6, none⟩ = some (.int .i64 z)
  c7 : w.cell? ⟨TB, i * 8 + 7, none⟩ = some v
  fz : ∀ j, w.frozen? ⟨TB, j, none⟩ = false

theorem Jb.tc (h : Jb w lo JB TB n G D m F) {i : Nat} (hi : i < n) : TC w TB D i (G i) := by
  obtain ⟨ct, t1, t2, t3⟩ := h.tasks
  have t := t3 i hi
  obtain ⟨z, hz⟩ := t.c6
  refine ⟨?_, ?_, ?_, ?_, ?_, ?_, ⟨z, ?_⟩, ?_, fun j => frozen_of_row _ _ _ _ _ t1⟩
  all_goals rw [cell_of_row _ _ _ _ _ _ t1]
  · exact t.c0
  · exact t.c1
  · exact t.c2
  · exact t.c3
  · exact t.c4
  · exact t.c5
  · exact hz
  · exact t.c7
end
end Go.Proofs.Qxb6614022a
