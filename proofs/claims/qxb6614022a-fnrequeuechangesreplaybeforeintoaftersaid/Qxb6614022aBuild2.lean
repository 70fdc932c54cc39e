/-
  zzBuild, walked.
-/
import Derived.Test.Qxb6614022aBuild
namespace Go.Proofs.Qxb6614022a
open Go.RowKit
set_option linter.unusedVariables false
set_option linter.unusedSimpArgs false

theorem neq22 (w : World) (a : Option Addr) (n c : Nat) : (binOp .neq 22 (.slice a n c) (.slice none 0 0)).run Try.prog w = .ok (.bool a.isSome) w := by
  cases a <;> simp [go_sem, Try.underlying22]
theorem neq23 (w : World) (a : Option Addr) (n c : Nat) : (binOp .neq 23 (.slice a n c) (.slice none 0 0)).run Try.prog w = .ok (.bool a.isSome) w := by
  cases a <;> simp [go_sem, Try.underlying23]

def tV (Z : ZA) (i f : Nat) : Value := match f with
  | 0 => .string (Z.N i)
  | 1 => .slice (Z.Co i) (Z.Cn i) (Z.Cc i)
  | 2 => .slice (Z.Ao i) (Z.An i) (Z.Ac i)
  | _ => .int .i64 (Z.R i)
def sV (Z : ZA) (i f : Nat) : Value := match f with
  | 0 => .int .i64 (Z.S i)
  | 1 => .int .i64 (Z.L i)
  | 2 => .int .i64 (Z.Tr i)
  | _ => .string (Z.Wk i)

/-- Between two rounds. -/
structure Bld (w wr : World) (t : TypeId) (QB n k : Nat) (V : Nat → Nat → Value) : Prop where
  r : Row4 wr t QB n k V
  b : wr.heap[w.heap.size]? = some (.cells #[.int .i64 0, .slice none 0 0, .slice none 0 0] 32 (0, 0))
  k : Keep w wr (fun _ => False)

theorem Bld.step {w wr : World} {t : TypeId} {QB n k : Nat} {V : Nat → Nat → Value} (h : Bld w wr t QB n k V) (hk : k < n) (hQ : w.heap.size < QB) :
    Bld w ((((wr.setCell ⟨QB, k * 4, none⟩ (V k 0)).setCell ⟨QB, k * 4 + 1, none⟩ (V k 1)).setCell ⟨QB, k * 4 + 2, none⟩ (V k 2)).setCell ⟨QB, k * 4 + 3, none⟩ (V k 3)).drew t QB n (k + 1) V := by
  have hk4 := keep4 wr QB (k * 4) (k * 4 + 1) (k * 4 + 2) (k * 4 + 3) (V k 0) (V k 1) (V k 2) (V k 3)
  refine ⟨(h.r.step hk).keep (Keep.drew _ _), ?_, (h.k.trans hk4 (fun i hi e => by omega)).trans (Keep.drew _ (fun _ => False)) (fun _ _ h => h)⟩
  exact (hk4.block _ (lt_of_heap h.b) (by omega)).trans h.b

theorem fin_cells {w wr : World} (jb : Int) (v1 v2 : Value) (ob : Obj) (hb : wr.heap[w.heap.size]? = some (.cells #[.int .i64 0, .slice none 0 0, .slice none 0 0] 32 (0, 0))) :
    ((((wr.setCell ⟨w.heap.size, 0, none⟩ (.int .i64 jb)).setCell ⟨w.heap.size, 1, none⟩ v1).setCell ⟨w.heap.size, 2, none⟩ v2).alloc ob).cell? ⟨w.heap.size, 0, none⟩ = some (.int .i64 jb) ∧
    ((((wr.setCell ⟨w.heap.size, 0, none⟩ (.int .i64 jb)).setCell ⟨w.heap.size, 1, none⟩ v1).setCell ⟨w.heap.size, 2, none⟩ v2).alloc ob).cell? ⟨w.heap.size, 1, none⟩ = some v1 ∧
    ((((wr.setCell ⟨w.heap.size, 0, none⟩ (.int .i64 jb)).setCell ⟨w.heap.size, 1, none⟩ v1).setCell ⟨w.heap.size, 2, none⟩ v2).alloc ob).cell? ⟨w.heap.size, 2, none⟩ = some v2 ∧
    Keep wr ((((wr.setCell ⟨w.heap.size, 0, none⟩ (.int .i64 jb)).setCell ⟨w.heap.size, 1, none⟩ v1).setCell ⟨w.heap.size, 2, none⟩ v2).alloc ob) (fun b => b = w.heap.size) := by
  have e1 := heap_setCell_same wr w.heap.size 0 _ 32 (.int .i64 jb) hb
  have e2 := heap_setCell_same _ w.heap.size 1 _ 32 v1 e1
  have e3 := heap_setCell_same _ w.heap.size 2 _ 32 v2 e2
  refine ⟨cell_al _ ?_, cell_al _ ?_, cell_al _ ?_, (((Keep.set wr ⟨w.heap.size, 0, none⟩ _).trans (Keep.set _ ⟨w.heap.size, 1, none⟩ _) (fun _ _ h => h)).trans (Keep.set _ ⟨w.heap.size, 2, none⟩ _) (fun _ _ h => h)).trans (Keep.alloc _ _ (fun _ => False)) (fun _ _ h => h.elim)⟩
  all_goals rw [cell_of_row _ _ _ _ _ _ e3]; simp

def BuildPost (w : World) (nm : ByteArray) (thr jb : Int) (nt ns : Nat) (fo : Option Addr) (nf cf : Nat) (Z : ZA) (e : Ending) (w' : World) : Prop :=
  ∃ DB QB SB tq so, e = .returned (.tuple #[.pointer (some ⟨DB, 0, none⟩), .agg #[.int .i64 jb, .slice so ns ns, .slice fo nf cf]]) ∧
    w'.heap[DB]? = some (.cells #[.string nm, .int .i64 thr, .slice tq nt nt] 64 (0, 0)) ∧ (0 < nt → tq = some ⟨QB, 0, none⟩ ∧ Row4 w' 62 QB nt nt (tV Z)) ∧ (0 < ns → so = some ⟨SB, 0, none⟩ ∧ Row4 w' 44 SB ns ns (sV Z)) ∧ Keep w w' (fun _ => False)

set_option maxRecDepth 100000 in
set_option maxHeartbeats 4000000 in
theorem build_ss (nm : ByteArray) (thr jb : Int) (ta sa : Addr) (fo : Option Addr) (nt ct ns cs nf cf : Nat) (Z : ZA) (w : World) (h : ZAt w (some ta) (some sa) fo nt ns nf Z) (h1 : nt ≤ 65536) (h2 : ns ≤ 65536) :
    Calls Try.prog 11 #[.string nm, .int .i64 thr, .slice (some ta) nt ct, .int .i64 jb, .slice (some sa) ns cs, .slice fo nf cf] w fun e w' => BuildPost w nm thr jb nt ns fo nf cf Z e w' := by
  have HZ : Hid (ZAt w (some ta) (some sa) fo nt ns nf Z) := h
  have hm1 := make62 nt (by omega)
  have hm2 := make44 ns (by omega)
  clear h
  go_enter Try.func11, Try.ntmps11
  go_wp2
  have HB0 : Hid (Bld w ((w.alloc (.cells #[.int .i64 0, .slice none 0 0, .slice none 0 0] 32)).alloc (.cells (madeCells z62c (nt * 4)) 62)) 62 (w.heap.size + 1) nt 0 (tV Z)) := by
    have hr := row4_made (w.alloc (.cells #[.int .i64 0, .slice none 0 0, .slice none 0 0] 32)) 62 z62c nt (tV Z)
    have hs : (w.alloc (.cells #[.int .i64 0, .slice none 0 0, .slice none 0 0] 32)).heap.size = w.heap.size + 1 := by simp
    rw [hs] at hr
    have hb := heap_alloc_new w (.cells #[.int .i64 0, .slice none 0 0, .slice none 0 0] 32)
    exact ⟨hr, ((Keep.alloc _ _ (fun _ => False)).block _ (lt_of_heap hb) id).trans hb, (Keep.alloc _ _ _).trans (Keep.alloc _ _ (fun _ => False)) (fun _ _ h => h)⟩
  go_loopw [25] (fun i wr => ∃ k : Nat, k ≤ nt ∧ i = .int .i64 k ∧ Hid (Bld w wr 62 (w.heap.size + 1) nt k (tV Z))) (fun i _ => nt - (intOf i).toNat)
  case atStart => exact ⟨0, Nat.zero_le _, rfl, HB0.out⟩
  case round =>
    clear HB0
    obtain ⟨k, hk, rfl, HB⟩ := hrel
    by_cases hlt : k < nt
    · obtain ⟨ad, e, hc⟩ := (HZ.out.keep HB.out.k).t (by omega)
      cases e
      obtain ⟨q0, q1, q2, q3⟩ := hc k hlt
      obtain ⟨c, r1, r2, r3⟩ := HB.out.r
      have g0 : k * 4 < c.size := by omega
      have g1 : k * 4 + 1 < c.size := by omega
      have g2 : k * 4 + 2 < c.size := by omega
      have g3 : k * 4 + 3 < c.size := by omega
      have y0 : wr.cell? ⟨w.heap.size + 1, k * 4, none⟩ = some c[k * 4] := by rw [cell_of_row _ _ _ _ _ _ r1, Array.getElem?_eq_getElem g0]
      have y1 : wr.cell? ⟨w.heap.size + 1, k * 4 + 1, none⟩ = some c[k * 4 + 1] := by rw [cell_of_row _ _ _ _ _ _ r1, Array.getElem?_eq_getElem g1]
      have y2 : wr.cell? ⟨w.heap.size + 1, k * 4 + 2, none⟩ = some c[k * 4 + 2] := by rw [cell_of_row _ _ _ _ _ _ r1, Array.getElem?_eq_getElem g2]
      have y3 : wr.cell? ⟨w.heap.size + 1, k * 4 + 3, none⟩ = some c[k * 4 + 3] := by rw [cell_of_row _ _ _ _ _ _ r1, Array.getElem?_eq_getElem g3]
      generalize c[k * 4] = o0 at y0
      generalize c[k * 4 + 1] = o1 at y1
      generalize c[k * 4 + 2] = o2 at y2
      generalize c[k * 4 + 3] = o3 at y3
      have f0 : wr.frozen? ⟨w.heap.size + 1, k * 4, none⟩ = false := frozen_of_row _ _ _ _ _ r1
      have f1 : wr.frozen? ⟨w.heap.size + 1, k * 4 + 1, none⟩ = false := frozen_of_row _ _ _ _ _ r1
      have f2 : wr.frozen? ⟨w.heap.size + 1, k * 4 + 2, none⟩ = false := frozen_of_row _ _ _ _ _ r1
      have f3 : wr.frozen? ⟨w.heap.size + 1, k * 4 + 3, none⟩ = false := frozen_of_row _ _ _ _ _ r1
      have q : (k : Int) < (nt : Int) := by omega
      clear hc r1 r2 r3 g0 g1 g2 g3
      go_wp2
      go_region
      go_wp2
      go_roundw
      case rel => exact ⟨k + 1, by omega, by go_num, HB.out.step hlt (Nat.lt_succ_self _)⟩
      case measure => simp [intOf]; omega
    · go_wp2
      have HW1 : Hid (Bld w wr 62 (w.heap.size + 1) nt nt (tV Z)) := by
        have e : k = nt := by omega
        have hb := HB.out
        rw [e] at hb
        exact hb
      have hbs : w.heap.size + 1 < wr.heap.size := by
        obtain ⟨c, r1, _⟩ := HB.out.r
        exact lt_of_heap r1
      obtain ⟨wo, hwo⟩ : ∃ wo, wo = wr := ⟨_, rfl⟩
      rw [← hwo] at HW1 hbs ⊢
      clear hwo HB
      have HB2 : Hid (Bld w (wo.alloc (.cells (madeCells z44c (ns * 4)) 44)) 44 wo.heap.size ns 0 (sV Z) ∧ Row4 (wo.alloc (.cells (madeCells z44c (ns * 4)) 44)) 62 (w.heap.size + 1) nt nt (tV Z)) :=
        ⟨⟨row4_made wo 44 z44c ns (sV Z), ((Keep.alloc wo _ (fun _ => False)).block _ (lt_of_heap HW1.out.b) id).trans HW1.out.b, HW1.out.k.trans (Keep.alloc _ _ (fun _ => False)) (fun _ _ h => h)⟩, HW1.out.r.keep (Keep.alloc _ _ _)⟩
      go_loopw [60] (fun i wr => ∃ k : Nat, k ≤ ns ∧ i = .int .i64 k ∧ Hid (Bld w wr 44 wo.heap.size ns k (sV Z) ∧ Row4 wr 62 (w.heap.size + 1) nt nt (tV Z))) (fun i _ => ns - (intOf i).toNat)
      case atStart => exact ⟨0, Nat.zero_le _, rfl, HB2.out⟩
      case round =>
        clear HB2
        obtain ⟨k, hk, rfl, HB⟩ := hrel
        by_cases hlt : k < ns
        · obtain ⟨ad, e, hc⟩ := (HZ.out.keep HB.out.1.k).s (by omega)
          cases e
          obtain ⟨q0, q1, q2, q3⟩ := hc k hlt
          obtain ⟨c, r1, r2, r3⟩ := HB.out.1.r
          have g0 : k * 4 < c.size := by omega
          have g1 : k * 4 + 1 < c.size := by omega
          have g2 : k * 4 + 2 < c.size := by omega
          have g3 : k * 4 + 3 < c.size := by omega
          have y0 : wr.cell? ⟨wo.heap.size, k * 4, none⟩ = some c[k * 4] := by rw [cell_of_row _ _ _ _ _ _ r1, Array.getElem?_eq_getElem g0]
          have y1 : wr.cell? ⟨wo.heap.size, k * 4 + 1, none⟩ = some c[k * 4 + 1] := by rw [cell_of_row _ _ _ _ _ _ r1, Array.getElem?_eq_getElem g1]
          have y2 : wr.cell? ⟨wo.heap.size, k * 4 + 2, none⟩ = some c[k * 4 + 2] := by rw [cell_of_row _ _ _ _ _ _ r1, Array.getElem?_eq_getElem g2]
          have y3 : wr.cell? ⟨wo.heap.size, k * 4 + 3, none⟩ = some c[k * 4 + 3] := by rw [cell_of_row _ _ _ _ _ _ r1, Array.getElem?_eq_getElem g3]
          generalize c[k * 4] = o0 at y0
          generalize c[k * 4 + 1] = o1 at y1
          generalize c[k * 4 + 2] = o2 at y2
          generalize c[k * 4 + 3] = o3 at y3
          have f0 : wr.frozen? ⟨wo.heap.size, k * 4, none⟩ = false := frozen_of_row _ _ _ _ _ r1
          have f1 : wr.frozen? ⟨wo.heap.size, k * 4 + 1, none⟩ = false := frozen_of_row _ _ _ _ _ r1
          have f2 : wr.frozen? ⟨wo.heap.size, k * 4 + 2, none⟩ = false := frozen_of_row _ _ _ _ _ r1
          have f3 : wr.frozen? ⟨wo.heap.size, k * 4 + 3, none⟩ = false := frozen_of_row _ _ _ _ _ r1
          have q : (k : Int) < (ns : Int) := by omega
          clear hc r1 r2 r3 g0 g1 g2 g3
          go_wp2
          go_region
          go_wp2
          go_roundw
          case rel =>
            refine ⟨k + 1, by omega, by go_num, HB.out.1.step hlt (by omega), ?_⟩
            obtain ⟨c, r1, r2⟩ := HB.out.2
            exact ⟨c, ((keep4 wr wo.heap.size (k * 4) (k * 4 + 1) (k * 4 + 2) (k * 4 + 3) (sV Z k 0) (sV Z k 1) (sV Z k 2) (sV Z k 3)).block _ (lt_of_heap r1) (by omega)).trans r1, r2⟩
          case measure => simp [intOf]; omega
        · have bz := HB.out.1.b
          have b0 : wr.cell? ⟨w.heap.size, 0, none⟩ = some (.int .i64 0) := by rw [cell_of_row _ _ _ _ _ _ bz]; rfl
          have b1 : wr.cell? ⟨w.heap.size, 1, none⟩ = some (.slice none 0 0) := by rw [cell_of_row _ _ _ _ _ _ bz]; rfl
          have b2 : wr.cell? ⟨w.heap.size, 2, none⟩ = some (.slice none 0 0) := by rw [cell_of_row _ _ _ _ _ _ bz]; rfl
          have f0 : wr.frozen? ⟨w.heap.size, 0, none⟩ = false := frozen_of_row _ _ _ _ _ bz
          have f1 : wr.frozen? ⟨w.heap.size, 1, none⟩ = false := frozen_of_row _ _ _ _ _ bz
          have f2 : wr.frozen? ⟨w.heap.size, 2, none⟩ = false := frozen_of_row _ _ _ _ _ bz
          have lb : w.heap.size < wr.heap.size := lt_of_heap bz
          clear bz
          go_wp2
          have hf := fin_cells jb (.slice (some ⟨wo.heap.size, 0, none⟩) ns ns) (.slice fo nf cf) (.cells #[.string nm, .int .i64 thr, .slice (some ⟨w.heap.size + 1, 0, none⟩) nt nt] 64) HB.out.1.b
          obtain ⟨e0, e1, e2, hkf⟩ := hf
          refine bodyPost_ret (by simp [results, Try.results11, go_sem, e0, e1, e2]; try rfl) rfl ?_
          have hkk : k = ns := by omega
          subst hkk
          have hsz : ((((wr.setCell ⟨w.heap.size, 0, none⟩ (.int .i64 jb)).setCell ⟨w.heap.size, 1, none⟩ (.slice (some ⟨wo.heap.size, 0, none⟩) k k)).setCell ⟨w.heap.size, 2, none⟩ (.slice fo nf cf))).heap.size = wr.heap.size := by simp
          have hn64 := heap_alloc_new (((wr.setCell ⟨w.heap.size, 0, none⟩ (.int .i64 jb)).setCell ⟨w.heap.size, 1, none⟩ (.slice (some ⟨wo.heap.size, 0, none⟩) k k)).setCell ⟨w.heap.size, 2, none⟩ (.slice fo nf cf)) (.cells #[.string nm, .int .i64 thr, .slice (some ⟨w.heap.size + 1, 0, none⟩) nt nt] 64)
          rw [hsz] at hn64
          refine ⟨wr.heap.size, w.heap.size + 1, wo.heap.size, _, _, rfl, hn64, fun _ => ⟨rfl, ?_⟩, fun _ => ⟨rfl, ?_⟩, HB.out.1.k.trans hkf (fun i hi e => by omega)⟩
          · obtain ⟨c, r1, r2⟩ := HB.out.2
            exact ⟨c, (hkf.block _ (lt_of_heap r1) (by omega)).trans r1, r2⟩
          · obtain ⟨c, r1, r2⟩ := HB.out.1.r
            exact ⟨c, (hkf.block _ (lt_of_heap r1) (by omega)).trans r1, r2⟩
end Go.Proofs.Qxb6614022a
