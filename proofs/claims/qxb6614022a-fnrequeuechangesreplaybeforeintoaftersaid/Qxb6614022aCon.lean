/-
  engine.Resume: what it builds.
-/
import Derived.Test.Qxb6614022aClone
import Derived.Deep.DeepCutAuto
namespace Go.Proofs.Qxb6614022a
open Go.RowKit
set_option linter.unusedVariables false
set_option linter.unusedSimpArgs false

theorem info71 : (Try.prog.info? 71).map (fun i => (i.zero, i.size, i.bytes)) = some (some (.agg #[.string ⟨#[]⟩, .int .i64 0, .int .i64 0, .int .i64 0, .int .i64 0, .string ⟨#[]⟩, .int .i64 0, .slice none 0 0]), 8, 96) := by kernel_rfl
def z71 : Array Value := #[.string ⟨#[]⟩, .int .i64 0, .int .i64 0, .int .i64 0, .int .i64 0, .string ⟨#[]⟩, .int .i64 0, .slice none 0 0]
theorem make71 (n : Nat) (hn : n ≤ 1048576) (w : World) : (Instr.makeSlice 66 (.int .i64 n) (.int .i64 n)).run Try.prog w =
    .ok (.slice (some ⟨w.heap.size, 0, none⟩) n n) (w.alloc (.cells (madeCells z71 (n * 8)) 71)) := by
  obtain ⟨i, hi, hzz⟩ := Option.map_eq_some_iff.1 info71
  simp only [Prod.mk.injEq] at hzz
  obtain ⟨hz, hs, hb⟩ := hzz
  have := run_make (P := Try.prog) w 66 71 i _ Try.underlying66 hi hz .i64 .i64 n n (by omega) (Int.le_refl _) (by rw [hb]; omega) (by omega)
  simp only [Int.toNat_natCast, hs, Value.cells] at this
  exact this

theorem IntsAt.keep {w w' : World} {o : Option Addr} {l : Nat} {X : Nat → Int} (h : IntsAt w o l X) (k : Keep w w' (fun _ => False)) : IntsAt w' o l X := fun hl => by
  obtain ⟨ad, e, hc⟩ := h hl
  exact ⟨ad, e, fun j hj => (World.cell?_of_block (k.block _ (World.block_lt_of_cell? w _ (hc j hj)) id)).trans (hc j hj)⟩

/-- The job file's data, and the state's, as Resume reads them. -/
structure RA where
  nm : ByteArray
  thr : Int
  N : Nat → ByteArray
  Co : Nat → Option Addr
  Cn : Nat → Nat
  Cc : Nat → Nat
  Ao : Nat → Option Addr
  An : Nat → Nat
  Ac : Nat → Nat
  AX : Nat → Nat → Nat
  R : Nat → Int

structure DefAt (w : World) (DB QB n : Nat) (o : Option Addr) (A : RA) : Prop where
  d : w.heap[DB]? = some (.cells #[.string A.nm, .int .i64 A.thr, .slice o n n] 64 (0, 0))
  o : 0 < n → o = some ⟨QB, 0, none⟩
  t : ∀ i, i < n → w.cell? ⟨QB, i * 4, none⟩ = some (.string (A.N i)) ∧ w.cell? ⟨QB, i * 4 + 1, none⟩ = some (.slice (A.Co i) (A.Cn i) (A.Cc i)) ∧ w.cell? ⟨QB, i * 4 + 2, none⟩ = some (.slice (A.Ao i) (A.An i) (A.Ac i)) ∧ w.cell? ⟨QB, i * 4 + 3, none⟩ = some (.int .i64 (A.R i))
  a : ∀ i, i < n → IntsAt w (A.Ao i) (A.An i) (fun j => (A.AX i j : Int))
  l : ∀ i, i < n → A.An i ≤ 65536
  x : ∀ i, i < n → ∀ j, j < A.An i → A.AX i j < n

theorem cell_keep {w w' : World} {a : Addr} {v : Value} (h : w.cell? a = some v) (k : Keep w w' (fun _ => False)) : w'.cell? a = some v :=
  (World.cell?_of_block (k.block _ (World.block_lt_of_cell? w _ h) id)).trans h

theorem DefAt.keep {w w' : World} {DB QB n : Nat} {o : Option Addr} {A : RA} (h : DefAt w DB QB n o A) (k : Keep w w' (fun _ => False)) : DefAt w' DB QB n o A :=
  ⟨(k.block DB (lt_of_heap h.d) id).trans h.d, h.o, fun i hi => ⟨cell_keep (h.t i hi).1 k, cell_keep (h.t i hi).2.1 k, cell_keep (h.t i hi).2.2.1 k, cell_keep (h.t i hi).2.2.2 k⟩, fun i hi => (h.a i hi).keep k, h.l, h.x⟩

/-- The tasks' states: what Resume reads of them. -/
structure StAt (w : World) (SB n ns : Nat) (o : Option Addr) (S L Tr : Nat → Int) (Wk : Nat → ByteArray) : Prop where
  o : 0 < n → o = some ⟨SB, 0, none⟩
  le : n ≤ ns
  t : ∀ i, i < n → w.cell? ⟨SB, i * 4, none⟩ = some (.int .i64 (S i)) ∧ w.cell? ⟨SB, i * 4 + 1, none⟩ = some (.int .i64 (L i)) ∧ w.cell? ⟨SB, i * 4 + 2, none⟩ = some (.int .i64 (Tr i)) ∧ w.cell? ⟨SB, i * 4 + 3, none⟩ = some (.string (Wk i))
theorem StAt.keep {w w' : World} {SB n ns : Nat} {o : Option Addr} {S L Tr : Nat → Int} {Wk : Nat → ByteArray} (h : StAt w SB n ns o S L Tr Wk) (k : Keep w w' (fun _ => False)) : StAt w' SB n ns o S L Tr Wk :=
  ⟨h.o, h.le, fun i hi => ⟨cell_keep (h.t i hi).1 k, cell_keep (h.t i hi).2.1 k, cell_keep (h.t i hi).2.2.1 k, cell_keep (h.t i hi).2.2.2 k⟩⟩

/-- What stands behind the job's making. -/
structure Made (w wx : World) (JB TB n : Nat) (nm : ByteArray) (thr st : Int) (soft : Value) : Prop where
  j : wx.heap[JB]? = some (.cells (jcells nm st TB n (.slice none 0 0) thr 0 0 0 soft) 69 (0, 0))
  t : wx.heap[TB]? = some (.cells (madeCells z71 (n * 8)) 71 (0, 0))
  gj : w.heap.size ≤ JB
  gt : w.heap.size ≤ TB
  ne : JB ≠ TB
  k : Keep w wx (fun _ => False)

theorem Keep.of_drew {a b : World} {F : Nat → Prop} (h : Keep a.drew b F) : Keep a b F := ⟨h.os, h.tape, h.output, h.size, h.block⟩

theorem made1 {w0 w5 : World} {n : Nat} {nm : ByteArray} {thr st : Int} {soft : Value} (hk : Keep (w0.alloc (.cells (madeCells z71 (n * 8)) 71)) w5 (fun _ => False)) :
    Made w0 (w5.alloc (.cells (jcells nm st w0.heap.size n (.slice none 0 0) thr 0 0 0 soft) 69)) w5.heap.size w0.heap.size n nm thr st soft := by
  have h1 := heap_alloc_new w0 (.cells (madeCells z71 (n * 8)) 71)
  have h2 := (hk.block _ (lt_of_heap h1) id).trans h1
  have h3 := lt_of_heap h2
  refine ⟨heap_alloc_new w5 _, ((Keep.alloc w5 _ (fun _ => False)).block _ h3 id).trans h2, by omega, Nat.le_refl _, by omega, ((Keep.alloc w0 _ _).trans hk (fun _ _ h => h)).trans (Keep.alloc _ _ (fun _ => False)) (fun _ _ h => h)⟩

theorem made2 {w0 w5 : World} {n : Nat} {nm : ByteArray} {thr st : Int} {soft : Value} (hk : Keep w0 w5 (fun _ => False)) :
    Made w0 ((w5.alloc (.cells (madeCells z71 (n * 8)) 71)).alloc (.cells (jcells nm st w5.heap.size n (.slice none 0 0) thr 0 0 0 soft) 69)) (w5.heap.size + 1) w5.heap.size n nm thr st soft := by
  have h1 := heap_alloc_new w5 (.cells (madeCells z71 (n * 8)) 71)
  have h2 := heap_alloc_new (w5.alloc (.cells (madeCells z71 (n * 8)) 71)) (.cells (jcells nm st w5.heap.size n (.slice none 0 0) thr 0 0 0 soft) 69)
  have hs : (w5.alloc (.cells (madeCells z71 (n * 8)) 71)).heap.size = w5.heap.size + 1 := by simp
  rw [hs] at h2
  have := hk.size
  exact ⟨h2, ((Keep.alloc _ _ (fun _ => False)).block _ (lt_of_heap h1) id).trans h1, by omega, hk.size, by omega, (hk.trans (Keep.alloc _ _ (fun _ => False)) (fun _ _ h => h)).trans (Keep.alloc _ _ (fun _ => False)) (fun _ _ h => h)⟩

/-- The job while its first k tasks are laid. -/
def DK (A : RA) (st : Int) (S L Tr : Nat → Int) (Wk : Nat → ByteArray) (k : Nat) : JD :=
  { nm := A.nm, st := st, N := fun i => if i < k then A.N i else ⟨#[]⟩, S := fun i => if i < k then S i else 0, R := fun i => if i < k then A.R i else 0, L := fun i => if i < k then L i else 0, Tr := fun i => if i < k then Tr i else 0, Wk := fun i => if i < k then Wk i else ⟨#[]⟩ }

structure Con (w wr : World) (JB TB n : Nat) (D : JD) (b : Nat) (G : Nat → Value) (F : Nat → Prop) : Prop where
  jb : Jb wr w.heap.size JB TB n G D 0 F
  k : Keep w wr (fun _ => False)
  ap : ∀ i j, i < n → j < n → i ≠ j → ∀ g, (G i).ownBlock = some g → (G j).ownBlock ≠ some g
  ln : ∀ i, i < n → ∀ o l c, G i = .slice o l c → l ≤ b

theorem made_get {n i j : Nat} (hi : i < n) (hj : j < 8) : (madeCells z71 (n * 8))[i * 8 + j]? = z71[j]? := by
  have hlt : i * 8 + j < n * 8 := by omega
  have hm : (i * 8 + j) % 8 = j := by omega
  have hs : z71.size = 8 := rfl
  have e : (madeCells z71 (n * 8))[i * 8 + j]? = some z71[j]! := by
    simp [madeCells, hlt, hs, hm]
  rw [e]
  have hj' : j = 0 ∨ j = 1 ∨ j = 2 ∨ j = 3 ∨ j = 4 ∨ j = 5 ∨ j = 6 ∨ j = 7 := by omega
  rcases hj' with rfl | rfl | rfl | rfl | rfl | rfl | rfl | rfl <;> rfl

theorem Made.con {w wx : World} {JB TB n : Nat} {A : RA} {st : Int} {soft : Value} (h : Made w wx JB TB n A.nm A.thr st soft) (S L Tr : Nat → Int) (Wk : Nat → ByteArray) :
    Con w wx JB TB n (DK A st S L Tr Wk 0) 0 (fun _ => .slice none 0 0) (fun k => k = JB ∨ k = TB) := by
  have nof : ∀ g, (Value.slice none 0 0).ownBlock = some g → False := fun g e => by cases e
  refine ⟨⟨⟨A.thr, 0, 0, 0, none, 0, 0, soft, h.j, ⟨[], World.ownsRow_nil _ _ _ _, fun u hu => by simp at hu⟩, Nat.le_refl _, fun g e => (nof g e).elim⟩, ⟨_, h.t, size_madeCells _ _, fun i hi => ?_⟩, Or.inl rfl, Or.inr rfl, h.ne, fun k hk => ?_, fun i hi => ⟨none, 0, 0, [], rfl, World.ownsRow_nil _ _ _ _, by omega, fun u hu => by simp at hu, fun g e => (nof g e).elim⟩⟩, h.k, fun _ _ _ _ _ g e => (nof g e).elim, fun _ _ _ _ _ e => by cases e; omega⟩
  · refine ⟨?_, ?_, ?_, ?_, ?_, ?_, ⟨0, ?_⟩, ?_⟩
    · exact made_get (j := 0) hi (by omega)
    · exact made_get (j := 1) hi (by omega)
    · exact made_get (j := 2) hi (by omega)
    · exact made_get (j := 3) hi (by omega)
    · exact made_get (j := 4) hi (by omega)
    · exact made_get (j := 5) hi (by omega)
    · exact made_get (j := 6) hi (by omega)
    · exact made_get (j := 7) hi (by omega)
  · rcases hk with rfl | rfl
    · exact ⟨h.gj, lt_of_heap h.j⟩
    · exact ⟨h.gt, lt_of_heap h.t⟩

theorem Keep.drew6 (w : World) (F : Nat → Prop) : Keep w w.drew.drew.drew.drew.drew.drew F := ⟨rfl, rfl, rfl, Nat.le_refl _, fun _ _ _ => rfl⟩

theorem DK_other (A : RA) (st : Int) (S L Tr : Nat → Int) (Wk : Nat → ByteArray) {k i : Nat} (h : i ≠ k) :
    (DK A st S L Tr Wk (k + 1)).N i = (DK A st S L Tr Wk k).N i ∧ (DK A st S L Tr Wk (k + 1)).S i = (DK A st S L Tr Wk k).S i ∧ (DK A st S L Tr Wk (k + 1)).R i = (DK A st S L Tr Wk k).R i ∧ (DK A st S L Tr Wk (k + 1)).L i = (DK A st S L Tr Wk k).L i ∧ (DK A st S L Tr Wk (k + 1)).Tr i = (DK A st S L Tr Wk k).Tr i ∧ (DK A st S L Tr Wk (k + 1)).Wk i = (DK A st S L Tr Wk k).Wk i := by
  have e : (i < k + 1) = (i < k) := propext ⟨fun h' => by omega, fun h' => by omega⟩
  simp only [DK, e, and_self]

theorem fill_tk {A : RA} {st : Int} {S L Tr : Nat → Int} {Wk : Nat → ByteArray} {k n : Nat} {ct : Array Value} {G : Nat → Value} (hk : k < n) (hs : ct.size = n * 8) (h : ∀ i, i < n → Tk (DK A st S L Tr Wk k) ct G i) :
    ∀ i, i < n → Tk (DK A st S L Tr Wk (k + 1)) ((((((ct.setIfInBounds (k * 8) (.string (A.N k))).setIfInBounds (k * 8 + 2) (.int .i64 (A.R k))).setIfInBounds (k * 8 + 1) (.int .i64 (S k))).setIfInBounds (k * 8 + 3) (.int .i64 (L k))).setIfInBounds (k * 8 + 4) (.int .i64 (Tr k))).setIfInBounds (k * 8 + 5) (.string (Wk k))) G i := by
  intro i hi
  have t := h i hi
  by_cases hik : i = k
  · subst hik
    have s1 : ∀ (c : Array Value) (a b : Nat) (v : Value), a ≠ b → (c.setIfInBounds a v)[b]? = c[b]? := fun c a b v hab => Array.getElem?_setIfInBounds_ne hab
    refine ⟨?_, ?_, ?_, ?_, ?_, ?_, ?_, ?_⟩
    · rw [s1 _ _ _ _ (by omega), s1 _ _ _ _ (by omega), s1 _ _ _ _ (by omega), s1 _ _ _ _ (by omega), s1 _ _ _ _ (by omega), Array.getElem?_setIfInBounds_self_of_lt (by first | omega | (simp; omega))]; simp [DK]
    · rw [s1 _ _ _ _ (by omega), s1 _ _ _ _ (by omega), s1 _ _ _ _ (by omega), Array.getElem?_setIfInBounds_self_of_lt (by first | omega | (simp; omega))]; simp [DK]
    · rw [s1 _ _ _ _ (by omega), s1 _ _ _ _ (by omega), s1 _ _ _ _ (by omega), s1 _ _ _ _ (by omega), Array.getElem?_setIfInBounds_self_of_lt (by first | omega | (simp; omega))]; simp [DK]
    · rw [s1 _ _ _ _ (by omega), s1 _ _ _ _ (by omega), Array.getElem?_setIfInBounds_self_of_lt (by first | omega | (simp; omega))]; simp [DK]
    · rw [s1 _ _ _ _ (by omega), Array.getElem?_setIfInBounds_self_of_lt (by first | omega | (simp; omega))]; simp [DK]
    · rw [Array.getElem?_setIfInBounds_self_of_lt (by first | omega | (simp; omega))]; simp [DK]
    · obtain ⟨z, hz⟩ := t.c6
      exact ⟨z, by rw [s1 _ _ _ _ (by omega), s1 _ _ _ _ (by omega), s1 _ _ _ _ (by omega), s1 _ _ _ _ (by omega), s1 _ _ _ _ (by omega), s1 _ _ _ _ (by omega)]; exact hz⟩
    · rw [s1 _ _ _ _ (by omega), s1 _ _ _ _ (by omega), s1 _ _ _ _ (by omega), s1 _ _ _ _ (by omega), s1 _ _ _ _ (by omega), s1 _ _ _ _ (by omega)]; exact t.c7
  · have same : ∀ D : JD, D.N i = D.N i ∧ D.S i = D.S i ∧ D.R i = D.R i ∧ D.L i = D.L i ∧ D.Tr i = D.Tr i ∧ D.Wk i = D.Wk i := fun _ => ⟨rfl, rfl, rfl, rfl, rfl, rfl⟩
    have u0 := t.other (j := k) (f := 0) (v := .string (A.N k)) hik (by omega) (same _)
    have u1 := u0.other (j := k) (f := 2) (v := .int .i64 (A.R k)) hik (by omega) (same _)
    have u2 := u1.other (j := k) (f := 1) (v := .int .i64 (S k)) hik (by omega) (same _)
    have u3 := u2.other (j := k) (f := 3) (v := .int .i64 (L k)) hik (by omega) (same _)
    have u4 := u3.other (j := k) (f := 4) (v := .int .i64 (Tr k)) hik (by omega) (same _)
    exact u4.other (j := k) (f := 5) (v := .string (Wk k)) hik (by omega) (DK_other A st S L Tr Wk hik)

theorem Con.fill {w wr : World} {JB TB n k b : Nat} {A : RA} {st : Int} {S L Tr : Nat → Int} {Wk : Nat → ByteArray} {G : Nat → Value} {F : Nat → Prop} (h : Con w wr JB TB n (DK A st S L Tr Wk k) b G F) (hk : k < n) :
    Con w ((((((wr.setCell ⟨TB, k * 8, none⟩ (.string (A.N k))).setCell ⟨TB, k * 8 + 2, none⟩ (.int .i64 (A.R k))).setCell ⟨TB, k * 8 + 1, none⟩ (.int .i64 (S k))).setCell ⟨TB, k * 8 + 3, none⟩ (.int .i64 (L k))).setCell ⟨TB, k * 8 + 4, none⟩ (.int .i64 (Tr k))).setCell ⟨TB, k * 8 + 5, none⟩ (.string (Wk k))) JB TB n (DK A st S L Tr Wk (k + 1)) b G F := by
  obtain ⟨ct, t1, t2, t3⟩ := h.jb.tasks
  have e1 := heap_setCell_same wr TB (k * 8) ct 71 (.string (A.N k)) t1
  have e2 := heap_setCell_same _ TB (k * 8 + 2) _ 71 (.int .i64 (A.R k)) e1
  have e3 := heap_setCell_same _ TB (k * 8 + 1) _ 71 (.int .i64 (S k)) e2
  have e4 := heap_setCell_same _ TB (k * 8 + 3) _ 71 (.int .i64 (L k)) e3
  have e5 := heap_setCell_same _ TB (k * 8 + 4) _ 71 (.int .i64 (Tr k)) e4
  have e6 := heap_setCell_same _ TB (k * 8 + 5) _ 71 (.string (Wk k)) e5
  have kk : Keep wr _ (fun b => b = TB) := (((((Keep.set wr ⟨TB, k * 8, none⟩ (.string (A.N k))).trans (Keep.set _ ⟨TB, k * 8 + 2, none⟩ (.int .i64 (A.R k))) (fun _ _ h => h)).trans (Keep.set _ ⟨TB, k * 8 + 1, none⟩ (.int .i64 (S k))) (fun _ _ h => h)).trans (Keep.set _ ⟨TB, k * 8 + 3, none⟩ (.int .i64 (L k))) (fun _ _ h => h)).trans (Keep.set _ ⟨TB, k * 8 + 4, none⟩ (.int .i64 (Tr k))) (fun _ _ h => h)).trans (Keep.set _ ⟨TB, k * 8 + 5, none⟩ (.string (Wk k))) (fun _ _ h => h)
  have hT := (h.jb.lt TB h.jb.fT).1
  refine ⟨h.jb.reT kk e6 (by simpa using t2) (fill_tk hk t2 t3) rfl rfl, ?_, h.ap, h.ln⟩
  exact h.k.trans kk (fun i hi e => by omega)

theorem Con.keep {w wr w' : World} {JB TB n b : Nat} {D : JD} {G : Nat → Value} {F : Nat → Prop} (h : Con w wr JB TB n D b G F) (k : Keep wr w' (fun _ => False)) : Con w w' JB TB n D b G F :=
  ⟨h.jb.keep k, h.k.trans k (fun _ _ h => h), h.ap, h.ln⟩
theorem Con.le {w wr : World} {JB TB n b b' : Nat} {D : JD} {G : Nat → Value} {F : Nat → Prop} (h : Con w wr JB TB n D b G F) (hb : b ≤ b') : Con w wr JB TB n D b' G F :=
  ⟨h.jb, h.k, h.ap, fun i hi o l c e => Nat.le_trans (h.ln i hi o l c e) hb⟩

theorem own_lt {w : World} {lo JB TB n m : Nat} {G : Nat → Value} {D : JD} {F : Nat → Prop} (h : Jb w lo JB TB n G D m F) {i g : Nat} (hi : i < n) (hg : (G i).ownBlock = some g) : g < w.heap.size := h.gb i hi g hg

/-- One entry appended to the list of those that wait on task kk. -/
theorem Con.app {w wr w1 : World} {JB TB n b kk l c gg cap : Nat} {D : JD} {G : Nat → Value} {F : Nat → Prop} {o : Option Addr} {xs : List Value} {k : Nat} (h : Con w wr JB TB n D b G F) (hkk : kk < n) (hk : k < n) (hG : G kk = .slice o l c)
    (hxs : ∀ u ∈ xs, ∃ k : Nat, k < n ∧ u = .int .i64 k) (hl : l ≤ b) (hb : b + 1 ≤ 1099511627776)
    (ho : w1.ownsRow w.heap.size 3 1 (.slice (some ⟨gg, 0, none⟩) (l + 1) cap) (l + 1) (xs ++ [.int .i64 k])) (hK : Keep wr w1 (fun q => (G kk).ownBlock = some q)) (hat : (G kk).ownBlock = some gg ∨ wr.heap.size ≤ gg) :
    Con w (w1.setCell ⟨TB, kk * 8 + 7, none⟩ (.slice (some ⟨gg, 0, none⟩) (l + 1) cap)) JB TB n D (b + 1) (fun i => if i = kk then .slice (some ⟨gg, 0, none⟩) (l + 1) cap else G i) F := by
  obtain ⟨thr, a, cc, f, o', len', cap', soft, h1, h2, h3, h4⟩ := h.jb.job
  obtain ⟨ct, t1, t2, t3⟩ := h.jb.tasks
  obtain ⟨_, _, _, _, _, own0, _, _, nF0⟩ := h.jb.thn kk hkk
  have lT := h.jb.lt TB h.jb.fT
  have nF : ∀ q, (G kk).ownBlock = some q → ¬ F q := nF0
  have ggF : ¬ F gg := by
    rcases hat with e | e
    · exact nF gg e
    · intro hf; have := (h.jb.lt gg hf).2; omega
  have ggT : gg ≠ TB := fun e => ggF (by rw [e]; exact h.jb.fT)
  have t1' : w1.heap[TB]? = some (.cells ct 71 (0, 0)) := (hK.block TB lT.2 (fun e => nF TB e h.jb.fT)).trans t1
  have kS := Keep.set w1 ⟨TB, kk * 8 + 7, none⟩ (.slice (some ⟨gg, 0, none⟩) (l + 1) cap)
  have kA : Keep wr _ (fun q => (G kk).ownBlock = some q ∨ q = TB) := (hK.mono (fun _ _ e => Or.inl e)).trans kS (fun _ _ e => Or.inr e)
  refine ⟨⟨⟨thr, a, cc, f, o', len', cap', soft, (kA.block JB (lt_of_heap h1) (fun e => ?_)).trans h1, h2.kept kA (fun g hg e => ?_), h3, h4⟩, ⟨_, heap_setCell_same w1 TB (kk * 8 + 7) ct 71 _ t1', by simpa using t2, fun i hi => ?_⟩, h.jb.fJ, h.jb.fT, h.jb.ne, fun q hq => ⟨(h.jb.lt q hq).1, Nat.lt_of_lt_of_le (h.jb.lt q hq).2 kA.size⟩, fun i hi => ?_⟩, ?_, fun i j hi hj hij g e1 e2 => ?_, fun i hi o2 l2 c2 e => ?_⟩
  · rcases e with e | e
    · exact nF JB e h.jb.fJ
    · exact h.jb.ne e
  · rcases e with e | e
    · exact nF g e (h4 g hg).1
    · exact (h4 g hg).2.2 e
  · have t := t3 i hi
    by_cases hik : i = kk
    · subst hik
      refine ⟨?_, ?_, ?_, ?_, ?_, ?_, ?_, ?_⟩
      · rw [Array.getElem?_setIfInBounds_ne (by omega)]; exact t.c0
      · rw [Array.getElem?_setIfInBounds_ne (by omega)]; exact t.c1
      · rw [Array.getElem?_setIfInBounds_ne (by omega)]; exact t.c2
      · rw [Array.getElem?_setIfInBounds_ne (by omega)]; exact t.c3
      · rw [Array.getElem?_setIfInBounds_ne (by omega)]; exact t.c4
      · rw [Array.getElem?_setIfInBounds_ne (by omega)]; exact t.c5
      · rw [Array.getElem?_setIfInBounds_ne (by omega)]; exact t.c6
      · rw [Array.getElem?_setIfInBounds_self_of_lt (by omega)]; simp
    · refine ⟨?_, ?_, ?_, ?_, ?_, ?_, ?_, ?_⟩
      · rw [Array.getElem?_setIfInBounds_ne (by omega)]; exact t.c0
      · rw [Array.getElem?_setIfInBounds_ne (by omega)]; exact t.c1
      · rw [Array.getElem?_setIfInBounds_ne (by omega)]; exact t.c2
      · rw [Array.getElem?_setIfInBounds_ne (by omega)]; exact t.c3
      · rw [Array.getElem?_setIfInBounds_ne (by omega)]; exact t.c4
      · rw [Array.getElem?_setIfInBounds_ne (by omega)]; exact t.c5
      · rw [Array.getElem?_setIfInBounds_ne (by omega)]; exact t.c6
      · rw [Array.getElem?_setIfInBounds_ne (by omega)]; simp only [if_neg hik]; exact t.c7
  · by_cases hik : i = kk
    · simp only [if_pos hik]
      refine ⟨_, l + 1, cap, xs ++ [.int .i64 k], rfl, own_kept ho kS (fun g hg e => ?_), by omega, fun u hu => ?_, fun g hg => ?_⟩
      · have e2 : gg = g := Option.some.inj hg
        exact ggT (by rw [e2]; exact e)
      · rcases List.mem_append.1 hu with hu | hu
        · exact hxs u hu
        · exact ⟨k, hk, by simpa using hu⟩
      · have e2 : gg = g := Option.some.inj hg
        rw [← e2]; exact ggF
    · simp only [if_neg hik]
      obtain ⟨o2, l2, c2, xs2, i1, i2, i3, i4, i5⟩ := h.jb.thn i hi
      refine ⟨o2, l2, c2, xs2, i1, own_kept i2 kA (fun g hg e => ?_), i3, i4, i5⟩
      rcases e with e | e
      · exact h.ap i kk hi hkk hik g hg e
      · exact i5 g hg (by rw [e]; exact h.jb.fT)
  · refine h.k.trans kA (fun q hq e => ?_)
    rcases e with e | e
    · have := (own0.lt q e).1; omega
    · omega
  · by_cases hik : i = kk
    · have hjk : j ≠ kk := fun e => hij (hik.trans e.symm)
      simp only [if_pos hik] at e1
      simp only [if_neg hjk] at e2
      have e3 : gg = g := Option.some.inj e1
      rcases hat with e | e
      · exact h.ap kk j hkk hj (fun e => hjk e.symm) gg e (by rw [e3]; exact e2)
      · have := own_lt h.jb hj e2; omega
    · simp only [if_neg hik] at e1
      by_cases hjk : j = kk
      · simp only [if_pos hjk] at e2
        have e3 : gg = g := Option.some.inj e2
        rcases hat with e | e
        · exact h.ap i kk hi hkk hik g e1 (by rw [← e3]; exact e)
        · have := own_lt h.jb hi e1; omega
      · simp only [if_neg hjk] at e2
        exact h.ap i j hi hj hij g e1 e2
  · by_cases hik : i = kk
    · simp only [if_pos hik] at e
      cases e; omega
    · simp only [if_neg hik] at e
      have := h.ln i hi o2 l2 c2 e; omega
end Go.Proofs.Qxb6614022a
