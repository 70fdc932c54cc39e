/-
  zzBuild, walked where a slice is nil.
-/
import Derived.Test.Qxb6614022aBuild2
namespace Go.Proofs.Qxb6614022a
open Go.RowKit
set_option linter.unusedVariables false
set_option linter.unusedSimpArgs false

set_option maxRecDepth 100000 in
set_option maxHeartbeats 4000000 in
theorem build_ns (nm : ByteArray) (thr jb : Int) (sa : Addr) (fo : Option Addr) (ns cs nf cf : Nat) (Z : ZA) (w : World) (h : ZAt w none (some sa) fo 0 ns nf Z) (h2 : ns ≤ 65536) :
    Calls Try.prog 11 #[.string nm, .int .i64 thr, .slice none 0 0, .int .i64 jb, .slice (some sa) ns cs, .slice fo nf cf] w fun e w' => BuildPost w nm thr jb 0 ns fo nf cf Z e w' := by
  have HZ : Hid (ZAt w none (some sa) fo 0 ns nf Z) := h
  have hm2 := make44 ns (by omega)
  clear h
  go_enter Try.func11, Try.ntmps11
  go_wp2
  have hbs : w.heap.size < (w.alloc (.cells #[.int .i64 0, .slice none 0 0, .slice none 0 0] 32)).heap.size := by simp
  have hb := heap_alloc_new w (.cells #[.int .i64 0, .slice none 0 0, .slice none 0 0] 32)
  have HB2 : Hid (Bld w ((w.alloc (.cells #[.int .i64 0, .slice none 0 0, .slice none 0 0] 32)).alloc (.cells (madeCells z44c (ns * 4)) 44)) 44 (w.heap.size + 1) ns 0 (sV Z)) := by
    have hr := row4_made (w.alloc (.cells #[.int .i64 0, .slice none 0 0, .slice none 0 0] 32)) 44 z44c ns (sV Z)
    have hs : (w.alloc (.cells #[.int .i64 0, .slice none 0 0, .slice none 0 0] 32)).heap.size = w.heap.size + 1 := by simp
    rw [hs] at hr
    exact ⟨hr, ((Keep.alloc _ _ (fun _ => False)).block _ (lt_of_heap hb) id).trans hb, (Keep.alloc _ _ _).trans (Keep.alloc _ _ (fun _ => False)) (fun _ _ h => h)⟩
  clear hb hbs
  go_loopw [60] (fun i wr => ∃ k : Nat, k ≤ ns ∧ i = .int .i64 k ∧ Hid (Bld w wr 44 (w.heap.size + 1) ns k (sV Z))) (fun i _ => ns - (intOf i).toNat)
  case atStart => exact ⟨0, Nat.zero_le _, rfl, HB2.out⟩
  case round =>
    clear HB2
    obtain ⟨k, hk, rfl, HB⟩ := hrel
    by_cases hlt : k < ns
    · obtain ⟨ad, e, hc⟩ := (HZ.out.keep HB.out.k).s (by omega)
      cases e
      obtain ⟨q0, q1, q2, q3⟩ := hc k hlt
      obtain ⟨c, r1, r2, r3⟩ := HB.out.r
      have g0 : k * 4 < c.size := by omega
      have g1 : k * 4 + 1 < c.size := by omega
      have g2 : k * 4 + 2 < c.size := by omega
      have g3 : k * 4 + 3 < c.size := by omega
      have y0 : wr.cell? ⟨w.heap.size + 1, k * 4, none⟩ = some c[k * 4] := by rw [cell_of_row _ _ _ _ _ _ r1, Array.getElem?_eq_getElem g0]
      have y1 : wr.cell? ⟨w.heap.size + 1, k * 4 + 1, none⟩ = some c[k * 4 + 1] := by rw [cell_of_row _ _ _ _ _ _ r1, Array.getElem?_eq_getElem g1]
      have y2 : wr.cell? ⟨w.heap.size + 1, k * 4 + 2, none⟩ = some c[k * 4 + 2] := by rw [cell_of_row _ _ _ _ _ _ r1, Array.getElem?_eq_getElem g2]
      have y3 : wr.cell? ⟨w.heap.size + 1, k * 4 + 3, none⟩ = some c[k * 4 + 3] := by rw [cell_of_row _ _ _ _ _ _ r1, Array.getElem?_eq_getElem g3]
      generalize c[k * 4] = o0 at y0
      generalize c[k * 4 + 1] = o1 at y1
      generalize c[k * 4 + 2] = o2 at y2
      generalize c[k * 4 + 3] = o3 at y3
      have f0 : wr.frozen? ⟨w.heap.size + 1, k * 4, none⟩ = false := frozen_of_row _ _ _ _ _ r1
      have f1 : wr.frozen? ⟨w.heap.size + 1, k * 4 + 1, none⟩ = false := frozen_of_row _ _ _ _ _ r1
      have f2 : wr.frozen? ⟨w.heap.size + 1, k * 4 + 2, none⟩ = false := frozen_of_row _ _ _ _ _ r1
      have f3 : wr.frozen? ⟨w.heap.size + 1, k * 4 + 3, none⟩ = false := frozen_of_row _ _ _ _ _ r1
      have q : (k : Int) < (ns : Int) := by omega
      clear hc r1 r2 r3 g0 g1 g2 g3
      go_wp2
      go_region
      go_wp2
      go_roundw
      case rel =>
        exact ⟨k + 1, by omega, by go_num, HB.out.step hlt (by omega)⟩
      case measure => simp [intOf]; omega
    · have bz := HB.out.b
      have b0 : wr.cell? ⟨w.heap.size, 0, none⟩ = some (.int .i64 0) := by rw [cell_of_row _ _ _ _ _ _ bz]; rfl
      have b1 : wr.cell? ⟨w.heap.size, 1, none⟩ = some (.slice none 0 0) := by rw [cell_of_row _ _ _ _ _ _ bz]; rfl
      have b2 : wr.cell? ⟨w.heap.size, 2, none⟩ = some (.slice none 0 0) := by rw [cell_of_row _ _ _ _ _ _ bz]; rfl
      have f0 : wr.frozen? ⟨w.heap.size, 0, none⟩ = false := frozen_of_row _ _ _ _ _ bz
      have f1 : wr.frozen? ⟨w.heap.size, 1, none⟩ = false := frozen_of_row _ _ _ _ _ bz
      have f2 : wr.frozen? ⟨w.heap.size, 2, none⟩ = false := frozen_of_row _ _ _ _ _ bz
      have lb : w.heap.size < wr.heap.size := lt_of_heap bz
      clear bz
      go_wp2
      have hf := fin_cells jb (.slice (some ⟨w.heap.size + 1, 0, none⟩) ns ns) (.slice fo nf cf) (.cells #[.string nm, .int .i64 thr, .slice none 0 0] 64) HB.out.b
      obtain ⟨e0, e1, e2, hkf⟩ := hf
      refine bodyPost_ret (by simp [results, Try.results11, go_sem, e0, e1, e2]; try rfl) rfl ?_
      have hkk : k = ns := by omega
      subst hkk
      have hsz : ((((wr.setCell ⟨w.heap.size, 0, none⟩ (.int .i64 jb)).setCell ⟨w.heap.size, 1, none⟩ (.slice (some ⟨w.heap.size + 1, 0, none⟩) k k)).setCell ⟨w.heap.size, 2, none⟩ (.slice fo nf cf))).heap.size = wr.heap.size := by simp
      have hn64 := heap_alloc_new (((wr.setCell ⟨w.heap.size, 0, none⟩ (.int .i64 jb)).setCell ⟨w.heap.size, 1, none⟩ (.slice (some ⟨w.heap.size + 1, 0, none⟩) k k)).setCell ⟨w.heap.size, 2, none⟩ (.slice fo nf cf)) (.cells #[.string nm, .int .i64 thr, .slice none 0 0] 64)
      rw [hsz] at hn64
      refine ⟨wr.heap.size, 0, w.heap.size + 1, _, _, rfl, hn64, fun hh => absurd hh (by omega), fun _ => ⟨rfl, ?_⟩, HB.out.k.trans hkf (fun i hi e => by omega)⟩
      · obtain ⟨c, r1, r2⟩ := HB.out.r
        exact ⟨c, (hkf.block _ (lt_of_heap r1) (by omega)).trans r1, r2⟩

set_option maxRecDepth 100000 in
set_option maxHeartbeats 4000000 in
theorem build_nn (nm : ByteArray) (thr jb : Int) (fo : Option Addr) (nf cf : Nat) (Z : ZA) (w : World) :
    Calls Try.prog 11 #[.string nm, .int .i64 thr, .slice none 0 0, .int .i64 jb, .slice none 0 0, .slice fo nf cf] w fun e w' => BuildPost w nm thr jb 0 0 fo nf cf Z e w' := by
  go_enter Try.func11, Try.ntmps11
  go_wp2
  go_returns
  have hn := heap_alloc_new (w.alloc (.cells #[.int .i64 jb, .slice none 0 0, .slice fo nf cf] 32)) (.cells #[.string nm, .int .i64 thr, .slice none 0 0] 64)
  have hs : (w.alloc (.cells #[.int .i64 jb, .slice none 0 0, .slice fo nf cf] 32)).heap.size = w.heap.size + 1 := by simp
  rw [hs] at hn
  exact ⟨w.heap.size + 1, 0, 0, none, none, rfl, hn, fun hh => absurd hh (by omega), fun hh => absurd hh (by omega), (Keep.alloc _ _ _).trans (Keep.alloc _ _ (fun _ => False)) (fun _ _ h => h)⟩

set_option maxRecDepth 100000 in
set_option maxHeartbeats 4000000 in
theorem build_sn (nm : ByteArray) (thr jb : Int) (ta : Addr) (fo : Option Addr) (nt ct nf cf : Nat) (Z : ZA) (w : World) (hnt : nt = 0) :
    Calls Try.prog 11 #[.string nm, .int .i64 thr, .slice (some ta) nt ct, .int .i64 jb, .slice none 0 0, .slice fo nf cf] w fun e w' => BuildPost w nm thr jb nt 0 fo nf cf Z e w' := by
  have hm1 := make62 nt (by omega)
  have h1 : nt ≤ 65536 := by omega
  have HN : Hid (nt = 0) := hnt
  clear hnt
  go_enter Try.func11, Try.ntmps11
  go_wp2
  go_loopw [25] (fun i wr => ∃ k : Nat, k ≤ nt ∧ i = .int .i64 k ∧ Hid (wr = (w.alloc (.cells #[.int .i64 0, .slice none 0 0, .slice none 0 0] 32)).alloc (.cells (madeCells z62c (nt * 4)) 62))) (fun i _ => nt - (intOf i).toNat)
  case atStart => exact ⟨0, Nat.zero_le _, rfl, rfl⟩
  case round =>
    obtain ⟨k, hk, rfl, HW⟩ := hrel
    by_cases hlt : k < nt
    · exact absurd hlt (by rw [HN.out]; omega)
    · rw [HW.out]
      go_wp2
      go_returns
      have hn := heap_alloc_new ((w.alloc (.cells #[.int .i64 jb, .slice none 0 0, .slice fo nf cf] 32)).alloc (.cells (madeCells z62c (nt * 4)) 62)) (.cells #[.string nm, .int .i64 thr, .slice (some ⟨w.heap.size + 1, 0, none⟩) nt nt] 64)
      have hs : ((w.alloc (.cells #[.int .i64 jb, .slice none 0 0, .slice fo nf cf] 32)).alloc (.cells (madeCells z62c (nt * 4)) 62)).heap.size = w.heap.size + 1 + 1 := by simp
      rw [hs] at hn
      exact ⟨w.heap.size + 1 + 1, 0, 0, _, none, rfl, hn, fun hh => absurd hh (by rw [HN.out]; omega), fun hh => absurd hh (by omega), ((Keep.alloc _ _ _).trans (Keep.alloc _ _ (fun _ => False)) (fun _ _ h => h)).trans (Keep.alloc _ _ (fun _ => False)) (fun _ _ h => h)⟩
end Go.Proofs.Qxb6614022a
