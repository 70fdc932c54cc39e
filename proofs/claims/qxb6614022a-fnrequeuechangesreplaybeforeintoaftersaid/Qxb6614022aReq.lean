/-
  (*Job).requeueTasks, Requeue.
-/
import Derived.Test.Qxb6614022aAband
import Derived.Laws.AppendOwnNone
namespace Go.Proofs.Qxb6614022a
open Go.RowKit
set_option linter.unusedVariables false
set_option linter.unusedSimpArgs false

theorem info46 : (Try.prog.info? 46).map (fun i => (i.zero, i.size, i.bytes)) = some (some (.agg #[.int .i64 0, .string ⟨#[]⟩, .int .i64 0, .int .i64 0, .int .i64 0, .int .i64 0, .string ⟨#[]⟩, .int .i64 0, .int .i64 0]), 9, 88) := by kernel_rfl

/-- The job once the first k tasks have been looked at by a requeue. -/
def JD.rq (D : JD) (e : Int) (k : Nat) : JD :=
  { D with S := fun i => if i < k ∧ reqB e (D.S i) = true then 1 else D.S i, L := fun i => if i < k ∧ reqB e (D.S i) = true then D.R i else D.L i }
def rqC (D : JD) (i : Nat) : List Value := [.int .i64 i, .string (D.N i), .int .i64 (D.S i), .int .i64 1, .int .i64 (D.R i), .int .i64 (D.Tr i), .string (D.Wk i), .int .i64 0, .int .i64 0]
def rqs (D : JD) (e : Int) (k : Nat) : List Nat := (List.range k).filter (fun i => reqB e (D.S i))
def chs (D : JD) (l : List Nat) : List Value := l.flatMap (rqC D)

theorem rqs_yes {D : JD} {e : Int} {k : Nat} (h : reqB e (D.S k) = true) : rqs D e (k + 1) = rqs D e k ++ [k] := by
  simp [rqs, List.range_succ, List.filter_append, h]
theorem rqs_no {D : JD} {e : Int} {k : Nat} (h : reqB e (D.S k) = false) : rqs D e (k + 1) = rqs D e k := by
  simp [rqs, List.range_succ, List.filter_append, h]
theorem rqs_le (D : JD) (e : Int) (k : Nat) : (rqs D e k).length ≤ k := by
  have := List.length_filter_le (fun i => reqB e (D.S i)) (List.range k)
  simpa [rqs] using this

theorem rq_zero (D : JD) (e : Int) : D.rq e 0 = D := by simp [JD.rq]
theorem rq_no {D : JD} {e : Int} {k : Nat} (h : reqB e (D.S k) = false) : D.rq e (k + 1) = D.rq e k := by
  simp only [JD.rq, JD.mk.injEq, true_and, and_true]
  have key : ∀ i, (i < k + 1 ∧ reqB e (D.S i) = true) = (i < k ∧ reqB e (D.S i) = true) := fun i => by
    apply propext
    constructor
    · rintro ⟨h1, h2⟩
      refine ⟨?_, h2⟩
      rcases Nat.lt_or_ge i k with h3 | h3
      · exact h3
      · have : i = k := by omega
        subst this; rw [h] at h2; cases h2
    · rintro ⟨h1, h2⟩; exact ⟨by omega, h2⟩
  refine ⟨funext fun i => ?_, funext fun i => ?_⟩
  · simp only [key]
  · simp only [key]
theorem rq_yes {D : JD} {e : Int} {k : Nat} (h : reqB e (D.S k) = true) : ((D.rq e k).setL k (D.R k)).setS k 1 = D.rq e (k + 1) := by
  simp only [JD.rq, JD.setL, JD.setS, JD.mk.injEq, true_and, and_true]
  have key : ∀ i, i ≠ k → (i < k + 1 ∧ reqB e (D.S i) = true) = (i < k ∧ reqB e (D.S i) = true) := fun i hi => by
    apply propext
    constructor
    · rintro ⟨h1, h2⟩; exact ⟨by omega, h2⟩
    · rintro ⟨h1, h2⟩; exact ⟨by omega, h2⟩
  refine ⟨funext fun i => ?_, funext fun i => ?_⟩
  · by_cases hi : i = k
    · subst hi; simp [h]
    · simp only [if_neg hi, key i hi]
  · by_cases hi : i = k
    · subst hi; simp [h]
    · simp only [if_neg hi, key i hi]

section
variable {w w' : World} {lo JB TB n m : Nat} {G : Nat → Value} {D : JD} {F X : Nat → Prop}
theorem Jb.keepX (h : Jb w lo JB TB n G D m F) (k : Keep w w' X) (hF : ∀ b, F b → ¬ X b) (hG : ∀ i, i < n → ∀ g, (G i).ownBlock = some g → ¬ X g) : Jb w' lo JB TB n G D m F := by
  obtain ⟨thr, a, c, f, o, len, cap, soft, h1, h2, h3, h4⟩ := h.job
  obtain ⟨ct, t1, t2⟩ := h.tasks
  refine ⟨⟨thr, a, c, f, o, len, cap, soft, (k.block JB (lt_of_heap h1) (hF _ h.fJ)).trans h1, h2.kept k (fun g hg => hF g (h4 g hg).1), h3, h4⟩, ⟨ct, (k.block TB (lt_of_heap t1) (hF _ h.fT)).trans t1, t2⟩, h.fJ, h.fT, h.ne, fun b hb => ⟨(h.lt b hb).1, Nat.lt_of_lt_of_le (h.lt b hb).2 k.size⟩, fun i hi => ?_⟩
  obtain ⟨o, l, c, xs, i1, i2, i3, i4, i5⟩ := h.thn i hi
  exact ⟨o, l, c, xs, i1, own_kept i2 k (hG i hi), i3, i4, i5⟩
theorem Jb.gb (h : Jb w lo JB TB n G D m F) : ∀ i, i < n → ∀ g, (G i).ownBlock = some g → g < w.heap.size := fun i hi g hg => by
  obtain ⟨o, l, c, xs, i1, i2, _⟩ := h.thn i hi
  exact (i2.lt g hg).2
end

theorem own9_kept {w w' : World} {lo l : Nat} {v : Value} {xs : List Value} {X : Nat → Prop} (h : w.ownsRow lo 46 9 v l xs) (k : Keep w w' X) (hX : ∀ g, v.ownBlock = some g → ¬ X g) : w'.ownsRow lo 46 9 v l xs := by
  refine ⟨h.1, ?_⟩
  rcases h.2 with h2 | ⟨g, cap, cur, rfl, h4, h5, h6⟩
  · exact Or.inl h2
  · exact Or.inr ⟨g, cap, cur, rfl, h4, (k.block g (lt_of_heap h5) (hX g rfl)).trans h5, h6⟩

/-- What stands between two rounds: the job, and the changes in a row of their own. -/
structure RqIn (w wr : World) (lo JB TB n : Nat) (G : Nat → Value) (D' : JD) (m : Nat) (F F' : Nat → Prop) (v : Value) (l : Nat) (xs : List Value) : Prop where
  jb : Jb wr lo JB TB n G D' m F'
  st : Step w wr F F'
  ow : wr.ownsRow w.heap.size 46 9 v l xs
  nf : ∀ g, v.ownBlock = some g → ¬ F' g

/-- Another call that leaves the changes' row alone. -/
theorem RqIn.step {w wr w2 : World} {lo JB TB n m m' l : Nat} {G : Nat → Value} {D D2 : JD} {F F' F2 : Nat → Prop} {v : Value} {xs : List Value} (h : RqIn w wr lo JB TB n G D m F F' v l xs)
    (j : Jb w2 lo JB TB n G D2 m' F2) (s : Step wr w2 F' F2) : RqIn w w2 lo JB TB n G D2 m' F F2 v l xs :=
  ⟨j, h.st.trans s, own9_kept h.ow s.1 h.nf, fun g hg hf => by
    rcases s.2 g hf with h1 | h1
    · exact h.nf g hg h1
    · have := (h.ow.lt g hg).2; omega⟩

/-- One change appended. -/
theorem RqIn.app {w wr w3 : World} {lo JB TB n m l g cap : Nat} {G : Nat → Value} {D : JD} {F F' : Nat → Prop} {v : Value} {xs news : List Value} (h : RqIn w wr lo JB TB n G D m F F' v l xs)
    (hB : ∀ i, i < n → ∀ g, (G i).ownBlock = some g → g < w.heap.size) {k : Nat}
    (ho : w3.ownsRow w.heap.size 46 9 (.slice (some ⟨g, 0, none⟩) (l + k) cap) (l + k) (xs ++ news)) (hk : wr.grownBy w3 v.ownBlock) (hat : v.ownBlock = some g ∨ g = wr.heap.size) :
    RqIn w w3 lo JB TB n G D m F F' (.slice (some ⟨g, 0, none⟩) (l + k) cap) (l + k) (xs ++ news) := by
  have hK := Keep.grown hk
  have hvw : ∀ b, v.ownBlock = some b → w.heap.size ≤ b ∧ b < wr.heap.size := fun b hb => h.ow.lt b hb
  refine ⟨h.jb.keepX hK (fun b hb e => h.nf b e hb) (fun i hi b hb e => by have := hB i hi b hb; have := (hvw b e).1; omega), ⟨⟨hK.os.trans h.st.1.os, hK.tape.trans h.st.1.tape, hK.output.trans h.st.1.output, Nat.le_trans h.st.1.size hK.size, fun b hb hn => ?_⟩, h.st.2⟩, ho, fun b hb hf => ?_⟩
  · rw [hK.block b (Nat.lt_of_lt_of_le hb h.st.1.size) (fun e => by have := (hvw b e).1; omega)]
    exact h.st.1.block b hb hn
  · have e : g = b := Option.some.inj hb
    subst e
    rcases hat with hat | hat
    · exact h.nf _ hat hf
    · have := (h.jb.lt _ hf).2
      omega

def RqPost (w : World) (lo JB TB n : Nat) (G : Nat → Value) (D' : JD) (m : Nat) (F : Nat → Prop) (l : Nat) (xs : List Value) (e : Ending) (w' : World) : Prop :=
  ∃ v F', e = .returned v ∧ RqIn w w' lo JB TB n G D' m F F' v l xs

set_option maxRecDepth 100000 in
set_option maxHeartbeats 4000000 in
theorem requeueTasks_any {lo JB TB n m : Nat} {G : Nat → Value} {D : JD} {F : Nat → Prop} (en : Int) (w : World) (h : Jb w lo JB TB n G D m F) (hn : n ≤ 65536) :
    Calls Try.prog 31 #[.pointer (some ⟨JB, 0, none⟩), .int .i64 en] w fun e w' => RqPost w lo JB TB n G (D.rq en n) n F (rqs D en n).length (chs D (rqs D en n)) e w' := by
  obtain ⟨i0, hi0, hz0, hz1, hz2⟩ := info_parts info46
  have HJ : Hid (Jb w lo JB TB n G D m F) := h
  have HB : Hid (∀ i, i < n → ∀ g, (G i).ownBlock = some g → g < w.heap.size) := h.gb
  obtain ⟨_, _, _, hc, _⟩ := h.jc
  have c3 := hc.c3
  clear hc h
  go_enter Try.func31, Try.ntmps31
  go_wp2
  clear c3
  go_loopw [5, 13] (fun v i wr => ∃ (k : Nat) (F' : Nat → Prop), k ≤ n ∧ i = .int .i64 k ∧ Hid (RqIn w wr lo JB TB n G (D.rq en k) m F F' v (rqs D en k).length (chs D (rqs D en k)))) (fun _ i _ => n - (intOf i).toNat)
  case atStart => exact ⟨0, F, Nat.zero_le _, rfl, by rw [rq_zero]; exact HJ.out, Step.refl _ _, World.ownsRow_nil _ _ _ _, fun g hg => by cases hg⟩
  case round =>
    obtain ⟨k, F', hk, rfl, HR⟩ := hrel
    by_cases hlt : k < n
    · have t := HR.out.jb.tc hlt
      have hSk : (D.rq en k).S k = D.S k := by simp [JD.rq]
      have hLk : (D.rq en k).L k = D.L k := by simp [JD.rq]
      have t0 : wr.cell? ⟨TB, k * 8, none⟩ = some (.string (D.N k)) := t.c0
      have t1 := t.c1
      rw [hSk] at t1
      have t2 : wr.cell? ⟨TB, k * 8 + 2, none⟩ = some (.int .i64 (D.R k)) := t.c2
      have t3 := t.c3
      rw [hLk] at t3
      have t4 : wr.cell? ⟨TB, k * 8 + 4, none⟩ = some (.int .i64 (D.Tr k)) := t.c4
      have t5 : wr.cell? ⟨TB, k * 8 + 5, none⟩ = some (.string (D.Wk k)) := t.c5
      obtain ⟨z, t6⟩ := t.c6
      have t7 := t.c7
      obtain ⟨o', l, c, xs, hG, _⟩ := HR.out.jb.thn k hlt
      rw [hG] at t7
      have q : (k : Int) < (n : Int) := by omega
      have f3 := t.fz (k * 8 + 3)
      obtain ⟨_, _, _, hc, _⟩ := HR.out.jb.jc
      have c3 := hc.c3
      have lT : TB < wr.heap.size := World.block_lt_of_cell? wr _ t0
      clear t hG hc
      go_wp2_with fail
      refine (requeued_any en (D.S k) _).mono ?_
      rintro e w1 ⟨rfl, hw1⟩
      rw [hw1]
      clear hw1 w1
      cases hb : reqB en (D.S k) with
      | false =>
        go_wp2_with fail
        go_roundw
        case rel =>
          refine ⟨k + 1, F', by omega, by go_num, ?_⟩
          rw [rq_no hb, rqs_no hb]
          exact HR.out.step (HR.out.jb.keep (Keep.alloc _ _ _)) (Step.of (Keep.alloc _ _ _))
        case measure => simp [intOf]; omega
      | true =>
        have u0 := cell_al (.cells #[.string (D.N k), .int .i64 (D.S k), .int .i64 (D.R k), .int .i64 (D.L k), .int .i64 (D.Tr k), .string (D.Wk k), .int .i64 z, .slice o' l c] 71) c3
        have u3 := cell_al (.cells #[.string (D.N k), .int .i64 (D.S k), .int .i64 (D.R k), .int .i64 (D.L k), .int .i64 (D.Tr k), .string (D.Wk k), .int .i64 z, .slice o' l c] 71) t3
        have v3 : (wr.alloc (.cells #[.string (D.N k), .int .i64 (D.S k), .int .i64 (D.R k), .int .i64 (D.L k), .int .i64 (D.Tr k), .string (D.Wk k), .int .i64 z, .slice o' l c] 71)).frozen? ⟨TB, k * 8 + 3, none⟩ = false := (World.frozen?_of_block ((World.grownBy_alloc wr _ none).block TB lT (by simp))).trans f3
        go_wp2_with fail
        go_region
        go_wp2_with fail
        have key : Keep (wr.setCell ⟨TB, k * 8 + 3, none⟩ (.int .i64 (D.R k))) ((wr.setCell ⟨TB, k * 8 + 3, none⟩ (.int .i64 (D.R k))).alloc (.cells #[.string (D.N k), .int .i64 (D.S k), .int .i64 (D.R k), .int .i64 (D.L k), .int .i64 (D.Tr k), .string (D.Wk k), .int .i64 z, .slice o' l c] 71)).drew (fun _ => False) := (Keep.alloc _ _ _).same rfl rfl rfl rfl
        have J1 := (HR.out.jb.setL hlt (D.R k)).keep key
        have S1 : Step wr _ F' F' := (Step.keep (keepF HR.out.jb _ (Or.inr rfl))).trans (Step.of key)
        refine (setTask_any k 1 _ J1 hlt hn).mono ?_
        rintro e w2 ⟨rfl, P1, P2⟩
        rw [rq_yes hb] at P1
        have ech : chgOf ((D.rq en k).setL k (D.R k)) k 1 = .agg #[.int .i64 k, .string (D.N k), .int .i64 (D.S k), .int .i64 1, .int .i64 (D.R k), .int .i64 (D.Tr k), .string (D.Wk k), .int .i64 0, .int .i64 0] := by
          simp [chgOf, JD.setL, JD.rq]
        rw [ech]
        have HQ0 := HR.out.step P1 (S1.trans (Step.keep P2))
        have HQ : Hid (RqIn w w2 lo JB TB n G (D.rq en (k + 1)) m F F' u5 (rqs D en k).length (chs D (rqs D en k))) := HQ0
        have hcnt : (rqs D en k).length ≤ k := rqs_le D en k
        have hbs : w.heap.size ≤ w2.heap.size := HQ0.st.1.size
        have HQ1 : Hid (RqIn w (w2.alloc (.cells #[.int .i64 k, .string (D.N k), .int .i64 (D.S k), .int .i64 1, .int .i64 (D.R k), .int .i64 (D.Tr k), .string (D.Wk k), .int .i64 0, .int .i64 0] 46)) lo JB TB n G (D.rq en (k + 1)) m F F' u5 (rqs D en k).length (chs D (rqs D en k))) := HQ0.step (HQ0.jb.keep (Keep.alloc _ _ _)) (Step.of (Keep.alloc _ _ _))
        clear J1 S1 P1 P2 HQ0 key u0 u3 v3 t0 t1 t2 t3 t4 t5 t6 t7 ech f3 c3
        obtain ⟨len, hlen⟩ : ∃ len, len = (rqs D en k).length := ⟨_, rfl⟩
        rw [← hlen] at hcnt
        go_wp2_with (at_builtin; refine wpList_append_lies _ rfl _ _ _ rfl w.heap.size 46 i0 _ 9 88 Try.underlying36 hi0 hz0 hz1 hz2 rfl (by omega) u5 len (chs D (rqs D en k)) rfl (by rw [hlen]; exact HQ1.out.ow) ⟨w2.heap.size, 0, none⟩ 1 1 (rqC D k) rfl rfl (World.news_of_block (cs := (rqC D k).toArray) (t := 46) (fr := (0, 0)) (heap_alloc_new w2 _)) (by simp [rqC, Value.oneCell']) (by omega) (by unfold maxLen; omega) (by omega) (by simp; omega) (w2.heap.size + 1) (by simp) ?_; intro gg cap w3 hown hgrow hat hlt3)
        go_roundw
        case rel =>
          refine ⟨k + 1, F', by omega, by go_num, ?_⟩
          rw [rqs_yes hb, List.length_append, chs, List.flatMap_append, ← chs, ← hlen]
          have := HQ1.out.app (k := 1) HB.out (by rw [← hlen]; exact hown) hgrow (by simpa using hat)
          rw [← hlen] at this
          have fin : RqIn w w3 lo JB TB n G (D.rq en (k + 1)) m F F' (.slice (some ⟨gg, 0, none⟩) (len + 1) cap) (len + [k].length) (chs D (rqs D en k) ++ List.flatMap (rqC D) [k]) := by simpa using this
          exact fin
        case measure => simp [intOf]; omega
    · obtain ⟨_, _, _, hc, _⟩ := HR.out.jb.jc
      obtain ⟨v5, c5⟩ := hc.c5
      have f5 := hc.fz 5
      clear hc
      go_wp2_with fail
      have J1 := HR.out.jb.setSoft (.slice none 0 0)
      have S1 : Step wr _ F' F' := Step.keep (keepF HR.out.jb (.slice none 0 0) (a := ⟨JB, 5, none⟩) (Or.inl rfl))
      refine (recount_any _ J1 hn).mono ?_
      rintro e w2 ⟨rfl, F2, P1, P2⟩
      have HQ : Hid (RqIn w w2 lo JB TB n G (D.rq en k) n F F2 u5 (rqs D en k).length (chs D (rqs D en k))) := HR.out.step P1 (S1.trans P2)
      clear J1 S1 P1 P2
      go_wp2_with fail
      go_ret
      obtain rfl : k = n := by omega
      exact ⟨_, F2, rfl, HQ.out⟩

def jchgL (D : JD) (to : Int) : List Value := [.int .i64 (-1), .string D.nm, .int .i64 0, .int .i64 0, .int .i64 0, .int .i64 0, .string ⟨#[]⟩, .int .i64 D.st, .int .i64 to]

/-- The job behind a requeue, and its changes. -/
def JD.requeued (D : JD) (n : Nat) : JD := (D.rq D.st n).setSt 2
def requeueL (D : JD) (n : Nat) : List Value := jchgL D 7 ++ chs D (rqs D D.st n) ++ jchgL { D with st := 7 } 2

def ReqPost (w : World) (lo JB TB n : Nat) (G : Nat → Value) (D : JD) (m : Nat) (F : Nat → Prop) (e : Ending) (w' : World) : Prop :=
  ∃ g cap F', e = .returned (.slice (some ⟨g, 0, none⟩) ((rqs D D.st n).length + 2) cap) ∧ RqIn w w' lo JB TB n G (D.requeued n) n F F' (.slice (some ⟨g, 0, none⟩) ((rqs D D.st n).length + 2) cap) ((rqs D D.st n).length + 2) (requeueL D n)

set_option maxHeartbeats 1000000 in
theorem requeue_no {lo JB TB n m : Nat} {G : Nat → Value} {D : JD} {F : Nat → Prop} (w : World) (h : Jb w lo JB TB n G D m F) (he : endedB D.st = false) :
    Calls Try.prog 21 #[.pointer (some ⟨JB, 0, none⟩)] w fun e w' => e = .returned (.slice none 0 0) ∧ w' = w := by
  obtain ⟨_, _, _, hc, _⟩ := h.jc
  have c2 := hc.c2
  have HE := ended_any D.st w
  rw [he] at HE
  clear hc h
  go_enter Try.func21, Try.ntmps21
  go_wp2_with fail
  refine HE.mono ?_
  rintro e w1 ⟨rfl, hw1⟩
  rw [hw1]
  clear hw1 w1
  go_wp2_with fail
  go_ret
  exact ⟨rfl, rfl⟩

set_option maxRecDepth 100000 in
set_option maxHeartbeats 4000000 in
theorem requeue_yes {lo JB TB n m : Nat} {G : Nat → Value} {D : JD} {F : Nat → Prop} (w : World) (h : Jb w lo JB TB n G D m F) (hn : n ≤ 65536) (he : endedB D.st = true) :
    Calls Try.prog 21 #[.pointer (some ⟨JB, 0, none⟩)] w fun e w' => ReqPost w lo JB TB n G D m F e w' := by
  obtain ⟨i0, hi0, hz0, hz1, hz2⟩ := info_parts info46
  have HJ : Hid (Jb w lo JB TB n G D m F) := h
  have HB : Hid (∀ i, i < n → ∀ g, (G i).ownBlock = some g → g < w.heap.size) := h.gb
  obtain ⟨_, _, _, hc, _⟩ := h.jc
  have c2 := hc.c2
  have HE := ended_any D.st w
  rw [he] at HE
  clear hc h
  go_enter Try.func21, Try.ntmps21
  go_wp2_with fail
  refine HE.mono ?_
  rintro e w1 ⟨rfl, hw1⟩
  rw [hw1]
  clear hw1 w1 HE
  go_wp2_with fail
  refine (setJob_any 7 w HJ.out).mono ?_
  rintro e w1 ⟨rfl, P1, P2⟩
  have HJ1 : Hid (Jb w1 lo JB TB n G (D.setSt 7) m F) := P1
  have HK1 : Hid (Keep w w1 F) := P2
  clear P1 P2
  unfold jchgOf
  go_wp2_with fail
  have hw2 : ∃ w2, w2 = w1.alloc (.cells #[.int .i64 (-1), .string D.nm, .int .i64 0, .int .i64 0, .int .i64 0, .int .i64 0, .string ⟨#[]⟩, .int .i64 D.st, .int .i64 7] 46) := ⟨_, rfl⟩
  obtain ⟨w2, hw2⟩ := hw2
  rw [← hw2]
  have HI2 : Hid (RqIn w w2 lo JB TB n G (D.setSt 7) m F F (.slice (some ⟨w1.heap.size, 0, none⟩) 1 1) 1 (jchgL D 7)) := by
    rw [hw2]
    exact ⟨HJ1.out.keep (Keep.alloc _ _ _), (Step.keep HK1.out).trans (Step.of (Keep.alloc _ _ _)), ⟨rfl, Or.inr ⟨w1.heap.size, 1, _, rfl, HK1.out.size, heap_alloc_new w1 _, Nat.le_refl _, by decide, rfl, rfl⟩⟩, fun g hg => by cases hg; exact fresh_not (w' := w1) HJ1.out⟩
  clear hw2 HJ1 HK1
  refine (requeueTasks_any D.st w2 HI2.out.jb hn).mono ?_
  rintro e w3 ⟨v1, F3, rfl, P⟩
  have HP : Hid (RqIn w2 w3 lo JB TB n G ((D.rq D.st n).setSt 7) n F F3 v1 (rqs D D.st n).length (chs D (rqs D D.st n))) := P
  have HI3 : Hid (RqIn w w3 lo JB TB n G ((D.rq D.st n).setSt 7) n F F3 (.slice (some ⟨w1.heap.size, 0, none⟩) 1 1) 1 (jchgL D 7)) := HI2.out.step P.jb P.st
  clear P
  obtain ⟨len, hlen⟩ : ∃ len, len = (rqs D D.st n).length := ⟨_, rfl⟩
  have hcnt : len ≤ n := by rw [hlen]; exact rqs_le D D.st n
  have hbs : w.heap.size ≤ w3.heap.size := HI3.out.st.1.size
  rw [← hlen] at HP
  have HLEN : Hid (len = (rqs D D.st n).length) := hlen
  clear hlen
  have hown1 := HP.out.ow
  rcases hown1.2 with ⟨rfl, hl0⟩ | ⟨g1, cap1, cur1, rfl, _⟩
  · have HI4 : Hid (RqIn w w3 lo JB TB n G ((D.rq D.st n).setSt 7) n F F3 (.slice (some ⟨w1.heap.size, 0, none⟩) 1 1) 1 (jchgL D 7 ++ chs D (rqs D D.st n))) := by
      have e0 : chs D (rqs D D.st n) = [] := List.eq_nil_of_length_eq_zero (by rw [hown1.1, hl0])
      rw [e0, List.append_nil]; exact HI3.out
    clear hown1
    go_wp2_with (at_builtin; refine wpList_append_own_none rfl _ _ _ rfl w.heap.size 46 i0 9 Try.underlying36 hi0 (.slice (some ⟨w1.heap.size, 0, none⟩) 1 1) 1 (jchgL D 7) rfl HI3.out.ow rfl ?_)
    refine (setJob_any 2 w3 HI4.out.jb).mono ?_
    rintro e w5 ⟨rfl, P1, P2⟩
    have HI5 : Hid (RqIn w w5 lo JB TB n G (D.requeued n) n F F3 (.slice (some ⟨w1.heap.size, 0, none⟩) 1 1) 1 (jchgL D 7 ++ chs D (rqs D D.st n))) := HI4.out.step P1 (Step.keep P2)
    clear P1 P2
    have ej : jchgOf ((D.rq D.st n).setSt 7) 2 = .agg #[.int .i64 (-1), .string D.nm, .int .i64 0, .int .i64 0, .int .i64 0, .int .i64 0, .string ⟨#[]⟩, .int .i64 7, .int .i64 2] := rfl
    rw [ej]
    have HI6 : Hid (RqIn w (w5.alloc (.cells #[.int .i64 (-1), .string D.nm, .int .i64 0, .int .i64 0, .int .i64 0, .int .i64 0, .string ⟨#[]⟩, .int .i64 7, .int .i64 2] 46)) lo JB TB n G (D.requeued n) n F F3 (.slice (some ⟨w1.heap.size, 0, none⟩) 1 1) 1 (jchgL D 7 ++ chs D (rqs D D.st n))) := HI5.out.step (HI5.out.jb.keep (Keep.alloc _ _ _)) (Step.of (Keep.alloc _ _ _))
    have hbs5 : w.heap.size ≤ w5.heap.size := HI5.out.st.1.size
    clear ej
    go_wp2_with (at_builtin; refine wpList_append_lies _ rfl _ _ _ rfl w.heap.size 46 i0 _ 9 88 Try.underlying36 hi0 hz0 hz1 hz2 rfl (by omega) (.slice (some ⟨w1.heap.size, 0, none⟩) 1 1) 1 (jchgL D 7 ++ chs D (rqs D D.st n)) rfl HI6.out.ow ⟨w5.heap.size, 0, none⟩ 1 1 (jchgL { D with st := 7 } 2) rfl rfl (World.news_of_block (cs := (jchgL { D with st := 7 } 2).toArray) (t := 46) (fr := (0, 0)) (heap_alloc_new w5 _)) (by simp [jchgL, Value.oneCell']) (by omega) (by unfold maxLen; omega) (by omega) (by simp; omega) (w5.heap.size + 1) (by simp) ?_; intro gg cap3 w6 hown hgrow hat hlt3)
    go_ret
    have fin := HI6.out.app (k := 1) HB.out hown hgrow (by simpa using hat)
    have el : 1 + 1 = (rqs D D.st n).length + 2 := by rw [← HLEN.out]; omega
    rw [el] at fin
    exact ⟨gg, cap3, F3, by rw [← el]; rfl, fin⟩
  · have hone : ∀ u ∈ chs D (rqs D D.st n), u.oneCell' = true := by
      intro u hu
      obtain ⟨i, _, hi⟩ := List.mem_flatMap.1 hu
      simp only [rqC, List.mem_cons, List.not_mem_nil, or_false] at hi
      rcases hi with rfl | rfl | rfl | rfl | rfl | rfl | rfl | rfl | rfl <;> rfl
    have HO : Hid (∀ u ∈ chs D (rqs D D.st n), u.oneCell' = true) := hone
    have HN : Hid (∀ j u, (chs D (rqs D D.st n))[j]? = some u → w3.cell? ((⟨g1, 0, none⟩ : Addr).add j) = some u) := hown1.cells rfl
    have HL : Hid ((chs D (rqs D D.st n)).length = len * 9) := hown1.1
    clear hown1 hone
    go_wp2_with (at_builtin; refine wpList_append_own_at _ rfl _ _ _ rfl w.heap.size 46 i0 _ 9 88 Try.underlying36 hi0 hz0 hz1 hz2 rfl (by omega) (.slice (some ⟨w1.heap.size, 0, none⟩) 1 1) 1 (jchgL D 7) rfl HI3.out.ow ⟨g1, 0, none⟩ len cap1 (chs D (rqs D D.st n)) rfl HL.out HN.out HO.out (by unfold maxLen; omega) (by omega) (by omega) ?_; intro v4 w4 hown4 hgrow4 hnil4 hat4)
    obtain ⟨g, cap, rfl, hg0, hg1⟩ := hown4.form (by omega)
    have HI4 : Hid (RqIn w w4 lo JB TB n G ((D.rq D.st n).setSt 7) n F F3 (.slice (some ⟨g, 0, none⟩) (1 + len) cap) (1 + len) (jchgL D 7 ++ chs D (rqs D D.st n))) :=
      HI3.out.app (k := len) HB.out hown4 hgrow4 (by
        rcases hat4 with h | h
        · exact Or.inl h.symm
        · exact Or.inr (by simpa [Value.ownBlock] using h))
    clear hown4 hgrow4 hnil4 hat4
    go_wp2_with fail
    refine (setJob_any 2 w4 HI4.out.jb).mono ?_
    rintro e w5 ⟨rfl, P1, P2⟩
    have HI5 : Hid (RqIn w w5 lo JB TB n G (D.requeued n) n F F3 (.slice (some ⟨g, 0, none⟩) (1 + len) cap) (1 + len) (jchgL D 7 ++ chs D (rqs D D.st n))) := HI4.out.step P1 (Step.keep P2)
    clear P1 P2
    have ej : jchgOf ((D.rq D.st n).setSt 7) 2 = .agg #[.int .i64 (-1), .string D.nm, .int .i64 0, .int .i64 0, .int .i64 0, .int .i64 0, .string ⟨#[]⟩, .int .i64 7, .int .i64 2] := rfl
    rw [ej]
    have HI6 : Hid (RqIn w (w5.alloc (.cells #[.int .i64 (-1), .string D.nm, .int .i64 0, .int .i64 0, .int .i64 0, .int .i64 0, .string ⟨#[]⟩, .int .i64 7, .int .i64 2] 46)) lo JB TB n G (D.requeued n) n F F3 (.slice (some ⟨g, 0, none⟩) (1 + len) cap) (1 + len) (jchgL D 7 ++ chs D (rqs D D.st n))) := HI5.out.step (HI5.out.jb.keep (Keep.alloc _ _ _)) (Step.of (Keep.alloc _ _ _))
    have hbs5 : w.heap.size ≤ w5.heap.size := HI5.out.st.1.size
    clear ej
    go_wp2_with (at_builtin; refine wpList_append_lies _ rfl _ _ _ rfl w.heap.size 46 i0 _ 9 88 Try.underlying36 hi0 hz0 hz1 hz2 rfl (by omega) (.slice (some ⟨g, 0, none⟩) (1 + len) cap) (1 + len) (jchgL D 7 ++ chs D (rqs D D.st n)) rfl HI6.out.ow ⟨w5.heap.size, 0, none⟩ 1 1 (jchgL { D with st := 7 } 2) rfl rfl (World.news_of_block (cs := (jchgL { D with st := 7 } 2).toArray) (t := 46) (fr := (0, 0)) (heap_alloc_new w5 _)) (by simp [jchgL, Value.oneCell']) (by omega) (by unfold maxLen; omega) (by omega) (by simp; omega) (w5.heap.size + 1) (by simp) ?_; intro gg cap3 w6 hown hgrow hat hlt3)
    go_ret
    have fin := HI6.out.app (k := 1) HB.out hown hgrow (by simpa using hat)
    have el : 1 + len + 1 = (rqs D D.st n).length + 2 := by rw [← HLEN.out]; omega
    rw [el] at fin
    exact ⟨gg, cap3, F3, by rw [← el]; rfl, fin⟩

end Go.Proofs.Qxb6614022a
