/-
  The law on a requeue's rules.
-/
import Derived.Test.Qxb6614022aRq
import Derived.Test.Qxb6614022aRes
import Derived.Test.Qxb6614022aBy18
import Derived.BigQuiet
import Derived.BigRegion
namespace Go.Proofs.Qxb6614022a
open Go.RowKit
set_option linter.unusedVariables false
set_option linter.unusedSimpArgs false

def cnt5 (b : Bool) (D : JD) (jb : Int) (k : Nat) : Nat := match b with
  | true => (rqs D jb k).length
  | false => 0
theorem cnt5_le (b : Bool) (D : JD) (jb : Int) (k : Nat) : cnt5 b D jb k ≤ k := by
  cases b
  · exact Nat.zero_le _
  · exact rqs_le D jb k

set_option maxRecDepth 100000 in
set_option maxHeartbeats 4000000 in
theorem law5 (nm : ByteArray) (thr jb : Int) (tq so fo : Option Addr) (nt ct ns cs nf cf : Nat) (Z : ZA) (w : World) (h : ZAt w tq so fo nt ns nf Z) (hnm : nm.size ≤ maxLen)
    (ht : tq = none → nt = 0 ∧ ct = 0) (hs : so = none → ns = 0 ∧ cs = 0) (hf : fo = none → nf = 0 ∧ cf = 0) :
    Calls Try.prog 5 #[.string nm, .int .i64 thr, .slice tq nt ct, .int .i64 jb, .slice so ns cs, .slice fo nf cf] w fun e w' => LawPost w e w' := by
  have HZ : Hid (ZAt w tq so fo nt ns nf Z) := h
  have HT : Hid (tq = none → nt = 0 ∧ ct = 0) := ht
  have HSN : Hid (so = none → ns = 0 ∧ cs = 0) := hs
  have HFN : Hid (fo = none → nf = 0 ∧ cf = 0) := hf
  clear h ht hs hf
  go_enter Try.func5, Try.ntmps5
  go_wp2_with fail
  refine (bytes18_any nm thr jb tq so fo nt ct ns cs nf cf Z w HZ.out hnm).mono ?_
  rintro e w1 ⟨b, rfl, hw1⟩
  rw [hw1]
  clear hw1 w1
  cases b with
  | false =>
    go_wp2_with fail
    go_ret
    exact ⟨rfl, Keep.refl _ _⟩
  | true =>
  go_wp2_with fail
  refine (fits_any nm tq so fo nt ct ns cs nf cf Z w HZ.out hnm).mono ?_
  rintro e w1 ⟨b, rfl, K1, B1⟩
  have HK1 : Hid (Keep w w1 (fun _ => False)) := K1
  clear K1
  cases b with
  | false =>
    go_wp2_with fail
    go_ret
    exact ⟨rfl, HK1.out⟩
  | true =>
  obtain ⟨hnt, hns, hnf, hA⟩ := B1 rfl
  have HA : Hid (∀ i, i < nt → Z.An i ≤ 65536) := hA
  clear B1 hA
  go_wp2_with fail
  refine (domain_any tq so fo nt ct ns cs nf Z w1 (HZ.out.keep HK1.out)).mono ?_
  rintro e w2 ⟨b, rfl, hw2, B2⟩
  rw [hw2]
  clear hw2 w2
  cases b with
  | false =>
    go_wp2_with fail
    go_ret
    exact ⟨rfl, HK1.out⟩
  | true =>
  have HD : Hid (nt ≤ ns ∧ ∀ i, i < nt → ∀ j, j < Z.An i → 0 ≤ Z.AX i j ∧ Z.AX i j < nt) := B2 rfl
  clear B2
  have hle : nt ≤ ns := HD.out.1
  go_wp2_with fail
  refine (built_any nm thr jb tq so fo nt ct ns cs nf cf Z w1 (HZ.out.keep HK1.out) hnt hns HA.out HD.out HT.out HSN.out).mono ?_
  rintro e w2 ⟨DB, QB, SB, t2, s2, rfl, b1, b2, K2⟩
  have HDF : Hid (DefAt w2 DB QB nt t2 (toRA nm thr Z)) := b1
  have HST : Hid (StAt w2 SB nt ns s2 Z.S Z.L Z.Tr Z.Wk) := b2
  have HK2 : Hid (Keep w w2 (fun _ => False)) := HK1.out.trans K2 (fun _ _ h => h)
  clear b1 b2 K2 HK1 HA HD HT HSN
  go_wp2_with fail
  have ka : Keep w2 (w2.alloc (.cells #[.int .i64 jb, .slice s2 ns ns, .slice fo nf cf] 32)) (fun _ => False) := Keep.alloc _ _ _
  have HZ2 : Hid (ZAt (w2.alloc (.cells #[.int .i64 jb, .slice s2 ns ns, .slice fo nf cf] 32)) tq so fo nt ns nf Z) := (HZ.out.keep HK2.out).keep ka
  refine (resume_any DB QB SB nt ns ns nf cf t2 s2 fo (toRA nm thr Z) jb Z.S Z.L Z.Tr Z.Wk Z.XF _ (HDF.out.keep ka) (HST.out.keep ka) HZ2.out.f (by omega) HFN.out hnt).mono ?_
  rintro e w3 ⟨lo, lo2, JB, TB, G, F, v, rfl, J1, K3, hlo, ow⟩
  have HK3 : Hid (Keep w w3 (fun _ => False)) := (HK2.out.trans ka (fun _ _ h => h)).trans K3 (fun _ _ h => h)
  have HDF3 : Hid (DefAt w3 DB QB nt t2 (toRA nm thr Z)) := (HDF.out.keep ka).keep K3
  obtain ⟨D, hD⟩ : ∃ D, D = DK (toRA nm thr Z) jb Z.S Z.L Z.Tr Z.Wk nt := ⟨_, rfl⟩
  rw [← hD] at J1 ow
  have HDD : Hid (D = DK (toRA nm thr Z) jb Z.S Z.L Z.Tr Z.Wk nt) := hD
  have HJ : Hid (Jb w3 lo JB TB nt G (D.ab nt) (nt + nt) F) := J1
  obtain ⟨vo, vl, vc, rfl, hvl⟩ : ∃ o l c, v = .slice o l c ∧ l = (act D nt).length := by
    rcases ow.2 with ⟨h, h0⟩ | ⟨g, cap, cur, h, _⟩
    · exact ⟨_, _, _, h, h0.symm⟩
    · exact ⟨_, _, _, h, rfl⟩
  have HVL : Hid (vl = (act D nt).length) := hvl
  have hm := make44 nt (by omega)
  have HLO : Hid (w.heap.size ≤ lo) := Nat.le_trans (HK2.out.trans ka (fun _ _ h => h)).size hlo
  clear hD J1 K3 ow HDF HST HK2 ka HZ2 hvl HDF3 HVL
  obtain ⟨DD, hDD⟩ : ∃ DD, DD = D.ab nt := ⟨_, rfl⟩
  rw [← hDD] at HJ
  have HDA : Hid (DD = (DK (toRA nm thr Z) jb Z.S Z.L Z.Tr Z.Wk nt).ab nt) := by rw [← HDD.out]; exact hDD
  have HST : Hid (DD.st = jb) := by rw [HDA.out]; rfl
  have HNM : Hid (DD.nm = nm) := by rw [HDA.out]; rfl
  clear hDD HDD hlo
  go_wp2_with fail
  refine (zzended_any jb w3).mono ?_
  rintro e w4 ⟨rfl, hw4⟩
  rw [hw4]
  clear hw4 w4
  obtain ⟨b, hb⟩ : ∃ b, b = endedB jb := ⟨_, rfl⟩
  have HB : Hid (b = endedB jb) := hb
  rw [← hb]
  clear hb
  go_wp2_with fail
  cases b with
  | false =>
    have HS0 : Hid (Sav w3 (w3.alloc (.cells (madeCells z44c (nt * 4)) 44)) w3.heap.size nt 0 (wV Z false jb)) := Sav.start w3 nt (wV Z false jb)
    clear hm
    go_loopw [21, 22] (fun a i wr => ∃ k : Nat, k ≤ nt ∧ i = .int .i64 k ∧ a = .int .i64 (cnt5 false DD jb k) ∧ Hid (Sav w3 wr w3.heap.size nt k (wV Z false jb))) (fun _ i _ => nt - (intOf i).toNat)
    case atStart => exact ⟨0, Nat.zero_le _, rfl, rfl, HS0.out⟩
    case round =>
      clear HS0
      obtain ⟨k, hk, rfl, rfl, HS⟩ := hrel
      by_cases hlt : k < nt
      · have hZ3 := HZ.out.keep HK3.out
        obtain ⟨sa, esa, hcs⟩ := (hZ3.keep HS.out.k).s (by omega)
        obtain ⟨ta, eta, hct⟩ := (hZ3.keep HS.out.k).t (by omega)
        subst esa
        subst eta
        obtain ⟨x0, x1, x2, x3⟩ := hcs k (by omega)
        obtain ⟨_, _, _, t3⟩ := hct k hlt
        have lta : (ta.add (k * 4)).block < w3.heap.size := by
          obtain ⟨ta2, e2, hc2⟩ := hZ3.t (by omega)
          cases e2
          exact World.block_lt_of_cell? w3 _ (hc2 k hlt).1
        have q : (k : Int) < (nt : Int) := by omega
        have qs : (k : Int) < (ns : Int) := by omega
        obtain ⟨cnt, hcn⟩ : ∃ c, c = cnt5 false DD jb k := ⟨_, rfl⟩
        have hcnt : cnt ≤ k := by rw [hcn]; exact cnt5_le false DD jb k
        rw [← hcn]
        have HCN : Hid (cnt = cnt5 false DD jb k) := hcn
        have HSA : Hid (DD.S k = preZ (Z.S k)) := by rw [HDA.out]; exact (ab_at nm thr jb Z hlt).2.1
        obtain ⟨⟨o0, y0⟩, ⟨o1, y1⟩, ⟨o2, y2⟩, ⟨o3, y3⟩, f0, f1, f2, f3⟩ := HS.out.cells hlt
        obtain ⟨W4, hW4⟩ : ∃ W4, W4 = ((((wr.setCell ⟨w3.heap.size, k * 4, none⟩ (.int .i64 (preZ (Z.S k)))).setCell ⟨w3.heap.size, k * 4 + 1, none⟩ (.int .i64 (Z.L k))).setCell ⟨w3.heap.size, k * 4 + 2, none⟩ (.int .i64 (Z.Tr k))).setCell ⟨w3.heap.size, k * 4 + 3, none⟩ (.string (Z.Wk k))) := ⟨_, rfl⟩
        have HP : Hid ((false && reqB jb (preZ (Z.S k))) = false → Sav w3 W4 w3.heap.size nt (k + 1) (wV Z false jb)) := fun hb => by rw [hW4]; exact HS.out.wput hlt hb
        have HP2 : Hid ((false && reqB jb (preZ (Z.S k))) = true → Sav w3 ((W4.setCell ⟨w3.heap.size, k * 4, none⟩ (.int .i64 1)).setCell ⟨w3.heap.size, k * 4 + 1, none⟩ (.int .i64 (Z.R k))) w3.heap.size nt (k + 1) (wV Z false jb)) := fun hb => by rw [hW4]; exact HS.out.wput2 hlt hb
        have hk4 : Keep wr W4 (fun q => q = w3.heap.size) := by rw [hW4]; exact keep4 wr w3.heap.size _ _ _ _ _ _ _ _
        have u0 : W4.cell? ⟨w3.heap.size, k * 4, none⟩ = some (.int .i64 (preZ (Z.S k))) := by
          obtain ⟨c, r1, r2, _⟩ := HS.out.r
          have e1 := heap_setCell_same wr w3.heap.size (k * 4) c 44 (.int .i64 (preZ (Z.S k))) r1
          have e2 := heap_setCell_same _ w3.heap.size (k * 4 + 1) _ 44 (.int .i64 (Z.L k)) e1
          have e3 := heap_setCell_same _ w3.heap.size (k * 4 + 2) _ 44 (.int .i64 (Z.Tr k)) e2
          have e4 := heap_setCell_same _ w3.heap.size (k * 4 + 3) _ 44 (.string (Z.Wk k)) e3
          rw [hW4, cell_of_row _ _ _ _ _ _ e4, Array.getElem?_setIfInBounds_ne (by omega), Array.getElem?_setIfInBounds_ne (by omega), Array.getElem?_setIfInBounds_ne (by omega), Array.getElem?_setIfInBounds_self_of_lt (by omega)]
        have g0 : W4.frozen? ⟨w3.heap.size, k * 4, none⟩ = false := by
          obtain ⟨c, r1, r2, _⟩ := HS.out.r
          have e1 := heap_setCell_same wr w3.heap.size (k * 4) c 44 (.int .i64 (preZ (Z.S k))) r1
          have e2 := heap_setCell_same _ w3.heap.size (k * 4 + 1) _ 44 (.int .i64 (Z.L k)) e1
          have e3 := heap_setCell_same _ w3.heap.size (k * 4 + 2) _ 44 (.int .i64 (Z.Tr k)) e2
          have e4 := heap_setCell_same _ w3.heap.size (k * 4 + 3) _ 44 (.string (Z.Wk k)) e3
          rw [hW4]; exact frozen_of_row _ _ _ _ _ e4
        have u1 : (W4.setCell ⟨w3.heap.size, k * 4, none⟩ (.int .i64 1)).cell? ⟨w3.heap.size, k * 4 + 1, none⟩ = some (.int .i64 (Z.L k)) := by
          obtain ⟨c, r1, r2, _⟩ := HS.out.r
          have e1 := heap_setCell_same wr w3.heap.size (k * 4) c 44 (.int .i64 (preZ (Z.S k))) r1
          have e2 := heap_setCell_same _ w3.heap.size (k * 4 + 1) _ 44 (.int .i64 (Z.L k)) e1
          have e3 := heap_setCell_same _ w3.heap.size (k * 4 + 2) _ 44 (.int .i64 (Z.Tr k)) e2
          have e4 := heap_setCell_same _ w3.heap.size (k * 4 + 3) _ 44 (.string (Z.Wk k)) e3
          have e5 := heap_setCell_same _ w3.heap.size (k * 4) _ 44 (.int .i64 1) e4
          rw [hW4, cell_of_row _ _ _ _ _ _ e5, Array.getElem?_setIfInBounds_ne (by omega), Array.getElem?_setIfInBounds_ne (by omega), Array.getElem?_setIfInBounds_ne (by omega), Array.getElem?_setIfInBounds_self_of_lt (by simp; omega)]
        have g1 : (W4.setCell ⟨w3.heap.size, k * 4, none⟩ (.int .i64 1)).frozen? ⟨w3.heap.size, k * 4 + 1, none⟩ = false := by
          obtain ⟨c, r1, r2, _⟩ := HS.out.r
          have e1 := heap_setCell_same wr w3.heap.size (k * 4) c 44 (.int .i64 (preZ (Z.S k))) r1
          have e2 := heap_setCell_same _ w3.heap.size (k * 4 + 1) _ 44 (.int .i64 (Z.L k)) e1
          have e3 := heap_setCell_same _ w3.heap.size (k * 4 + 2) _ 44 (.int .i64 (Z.Tr k)) e2
          have e4 := heap_setCell_same _ w3.heap.size (k * 4 + 3) _ 44 (.string (Z.Wk k)) e3
          have e5 := heap_setCell_same _ w3.heap.size (k * 4) _ 44 (.int .i64 1) e4
          rw [hW4]; exact frozen_of_row _ _ _ _ _ e5
        have t4 : (W4.setCell ⟨w3.heap.size, k * 4, none⟩ (.int .i64 1)).cell? ⟨(ta.add (k * 4)).block, (ta.add (k * 4)).off + 3, none⟩ = some (.int .i64 (Z.R k)) := by
          have k5 : Keep wr (W4.setCell ⟨w3.heap.size, k * 4, none⟩ (.int .i64 1)) (fun q => q = w3.heap.size) := hk4.trans (Keep.set _ ⟨w3.heap.size, k * 4, none⟩ _) (fun _ _ h => h)
          exact (World.cell?_of_block (k5.block _ (World.block_lt_of_cell? wr _ t3) (fun e => by have e' : (ta.add (k * 4)).block = w3.heap.size := e; omega))).trans t3
        have HSV : Hid (∀ px xl xt xw, px = preZ (Z.S k) → xl = Z.L k → xt = Z.Tr k → xw = Z.Wk k → ((((wr.setCell ⟨w3.heap.size, k * 4, none⟩ (.int .i64 px)).setCell ⟨w3.heap.size, k * 4 + 1, none⟩ (.int .i64 xl)).setCell ⟨w3.heap.size, k * 4 + 2, none⟩ (.int .i64 xt)).setCell ⟨w3.heap.size, k * 4 + 3, none⟩ (.string xw)) = W4) := fun _ _ _ _ e0 e1 e2 e3 => by rw [e0, e1, e2, e3]; exact hW4.symm
        obtain ⟨px, hpx⟩ : ∃ px, px = preZ (Z.S k) := ⟨_, rfl⟩
        rw [← hpx] at HP HP2 u0 HSA
        have HPX : Hid (px = preZ (Z.S k)) := hpx
        clear hcs hct hcn hZ3 hk4 hW4 t3 hpx
        go_wp2_with fail
        refine (zzpre_any (Z.S k) _).mono ?_
        rintro e w5 ⟨rfl, hw5⟩
        rw [hw5, ← HPX.out]
        clear hw5 w5
        go_wp2_with fail
        go_region
        rw [HSV.out px (Z.L k) (Z.Tr k) (Z.Wk k) HPX.out rfl rfl rfl]
        go_wp2_with fail
        go_roundw
        case rel => exact ⟨k + 1, by omega, by go_num, by rw [HCN.out]; rfl, (HP.out rfl).keep ⟨rfl, rfl, rfl, Nat.le_refl _, fun _ _ _ => rfl⟩⟩
        case measure => simp [intOf]; omega
      · obtain rfl : k = nt := by omega
        obtain ⟨w4, hw4⟩ : ∃ w4, w4 = wr := ⟨_, rfl⟩
        rw [← hw4] at HS ⊢
        clear hw4
        have HK4 : Hid (Keep w w4 (fun _ => False)) := HK3.out.trans HS.out.k (fun _ _ h => h)
        have HJ4 : Hid (Jb w4 lo JB TB k G DD (k + k) F) := HJ.out.keep HS.out.k
        have HWN : Hid (¬ F w3.heap.size) := fun hf => by have := (HJ.out.lt _ hf).2; omega
        have HR4 : Hid (Row4 w4 44 w3.heap.size k k (wV Z false jb)) := HS.out.r
        clear HJ HK3 HS
        have HE : Hid (endedB DD.st = false) := by rw [HST.out]; exact HB.out.symm
        go_wp2_with fail
        refine (requeue_no w4 HJ4.out HE.out).mono ?_
        rintro e w5 ⟨rfl, hw5⟩
        rw [hw5]
        clear hw5 w5
        have HRD : Hid (∀ wr, Keep w4 wr (fun _ => False) → Calls Try.prog 14 #[.pointer (some ⟨JB, 0, none⟩), .int .i64 jb, .slice (some ⟨w3.heap.size, 0, none⟩) k k] wr fun e w' => ReadsPost wr e w') := by
          intro wr hkr
          have h := reads_any w3.heap.size k (some ⟨w3.heap.size, 0, none⟩) wr (HJ4.out.keep hkr) hnt (fun _ => rfl) (fun i hi => by
            obtain ⟨_, a2, _, a4, a5, a6⟩ := ab_at nm thr jb Z hi
            obtain ⟨b1, b2⟩ := w_false Z jb i
            rw [HDA.out, a2, a4, a5, a6, ← b1, ← b2]
            have r := HR4.out.keep hkr
            exact ⟨row4_cell r hi (f := 0) (by omega), row4_cell r hi (f := 1) (by omega), row4_cell r hi (f := 2) (by omega), row4_cell r hi (f := 3) (by omega)⟩)
          rw [HST.out] at h
          exact h
        go_wp2_with fail
        refine (HRD.out w4 (Keep.refl _ _)).mono ?_
        rintro e w5 ⟨rfl, K5⟩
        have HK5 : Hid (Keep w4 w5 (fun _ => False)) := K5
        clear K5
        go_wp2_with fail
        refine (requeue_no w5 (HJ4.out.keep HK5.out) HE.out).mono ?_
        rintro e w6 ⟨rfl, hw6⟩
        rw [hw6]
        clear hw6 w6
        go_wp2_with fail
        refine (HRD.out w5 HK5.out).mono ?_
        rintro e w6 ⟨rfl, K6⟩
        have HK6 : Hid (Keep w w6 (fun _ => False)) := (HK4.out.trans HK5.out (fun _ _ h => h)).trans K6 (fun _ _ h => h)
        clear K6
        go_wp2_with fail
        go_ret
        exact ⟨rfl, HK6.out⟩
  | true =>
    have HS0 : Hid (Sav w3 (w3.alloc (.cells (madeCells z44c (nt * 4)) 44)) w3.heap.size nt 0 (wV Z true jb)) := Sav.start w3 nt (wV Z true jb)
    clear hm
    go_loopw [21, 22] (fun a i wr => ∃ k : Nat, k ≤ nt ∧ i = .int .i64 k ∧ a = .int .i64 (cnt5 true DD jb k) ∧ Hid (Sav w3 wr w3.heap.size nt k (wV Z true jb))) (fun _ i _ => nt - (intOf i).toNat)
    case atStart => exact ⟨0, Nat.zero_le _, rfl, rfl, HS0.out⟩
    case round =>
      clear HS0
      obtain ⟨k, hk, rfl, rfl, HS⟩ := hrel
      by_cases hlt : k < nt
      · have hZ3 := HZ.out.keep HK3.out
        obtain ⟨sa, esa, hcs⟩ := (hZ3.keep HS.out.k).s (by omega)
        obtain ⟨ta, eta, hct⟩ := (hZ3.keep HS.out.k).t (by omega)
        subst esa
        subst eta
        obtain ⟨x0, x1, x2, x3⟩ := hcs k (by omega)
        obtain ⟨_, _, _, t3⟩ := hct k hlt
        have lta : (ta.add (k * 4)).block < w3.heap.size := by
          obtain ⟨ta2, e2, hc2⟩ := hZ3.t (by omega)
          cases e2
          exact World.block_lt_of_cell? w3 _ (hc2 k hlt).1
        have q : (k : Int) < (nt : Int) := by omega
        have qs : (k : Int) < (ns : Int) := by omega
        obtain ⟨cnt, hcn⟩ : ∃ c, c = cnt5 true DD jb k := ⟨_, rfl⟩
        have hcnt : cnt ≤ k := by rw [hcn]; exact cnt5_le true DD jb k
        rw [← hcn]
        have HCN : Hid (cnt = cnt5 true DD jb k) := hcn
        have HSA : Hid (DD.S k = preZ (Z.S k)) := by rw [HDA.out]; exact (ab_at nm thr jb Z hlt).2.1
        obtain ⟨⟨o0, y0⟩, ⟨o1, y1⟩, ⟨o2, y2⟩, ⟨o3, y3⟩, f0, f1, f2, f3⟩ := HS.out.cells hlt
        obtain ⟨W4, hW4⟩ : ∃ W4, W4 = ((((wr.setCell ⟨w3.heap.size, k * 4, none⟩ (.int .i64 (preZ (Z.S k)))).setCell ⟨w3.heap.size, k * 4 + 1, none⟩ (.int .i64 (Z.L k))).setCell ⟨w3.heap.size, k * 4 + 2, none⟩ (.int .i64 (Z.Tr k))).setCell ⟨w3.heap.size, k * 4 + 3, none⟩ (.string (Z.Wk k))) := ⟨_, rfl⟩
        have HP : Hid ((true && reqB jb (preZ (Z.S k))) = false → Sav w3 W4 w3.heap.size nt (k + 1) (wV Z true jb)) := fun hb => by rw [hW4]; exact HS.out.wput hlt hb
        have HP2 : Hid ((true && reqB jb (preZ (Z.S k))) = true → Sav w3 ((W4.setCell ⟨w3.heap.size, k * 4, none⟩ (.int .i64 1)).setCell ⟨w3.heap.size, k * 4 + 1, none⟩ (.int .i64 (Z.R k))) w3.heap.size nt (k + 1) (wV Z true jb)) := fun hb => by rw [hW4]; exact HS.out.wput2 hlt hb
        have hk4 : Keep wr W4 (fun q => q = w3.heap.size) := by rw [hW4]; exact keep4 wr w3.heap.size _ _ _ _ _ _ _ _
        have u0 : W4.cell? ⟨w3.heap.size, k * 4, none⟩ = some (.int .i64 (preZ (Z.S k))) := by
          obtain ⟨c, r1, r2, _⟩ := HS.out.r
          have e1 := heap_setCell_same wr w3.heap.size (k * 4) c 44 (.int .i64 (preZ (Z.S k))) r1
          have e2 := heap_setCell_same _ w3.heap.size (k * 4 + 1) _ 44 (.int .i64 (Z.L k)) e1
          have e3 := heap_setCell_same _ w3.heap.size (k * 4 + 2) _ 44 (.int .i64 (Z.Tr k)) e2
          have e4 := heap_setCell_same _ w3.heap.size (k * 4 + 3) _ 44 (.string (Z.Wk k)) e3
          rw [hW4, cell_of_row _ _ _ _ _ _ e4, Array.getElem?_setIfInBounds_ne (by omega), Array.getElem?_setIfInBounds_ne (by omega), Array.getElem?_setIfInBounds_ne (by omega), Array.getElem?_setIfInBounds_self_of_lt (by omega)]
        have g0 : W4.frozen? ⟨w3.heap.size, k * 4, none⟩ = false := by
          obtain ⟨c, r1, r2, _⟩ := HS.out.r
          have e1 := heap_setCell_same wr w3.heap.size (k * 4) c 44 (.int .i64 (preZ (Z.S k))) r1
          have e2 := heap_setCell_same _ w3.heap.size (k * 4 + 1) _ 44 (.int .i64 (Z.L k)) e1
          have e3 := heap_setCell_same _ w3.heap.size (k * 4 + 2) _ 44 (.int .i64 (Z.Tr k)) e2
          have e4 := heap_setCell_same _ w3.heap.size (k * 4 + 3) _ 44 (.string (Z.Wk k)) e3
          rw [hW4]; exact frozen_of_row _ _ _ _ _ e4
        have u1 : (W4.setCell ⟨w3.heap.size, k * 4, none⟩ (.int .i64 1)).cell? ⟨w3.heap.size, k * 4 + 1, none⟩ = some (.int .i64 (Z.L k)) := by
          obtain ⟨c, r1, r2, _⟩ := HS.out.r
          have e1 := heap_setCell_same wr w3.heap.size (k * 4) c 44 (.int .i64 (preZ (Z.S k))) r1
          have e2 := heap_setCell_same _ w3.heap.size (k * 4 + 1) _ 44 (.int .i64 (Z.L k)) e1
          have e3 := heap_setCell_same _ w3.heap.size (k * 4 + 2) _ 44 (.int .i64 (Z.Tr k)) e2
          have e4 := heap_setCell_same _ w3.heap.size (k * 4 + 3) _ 44 (.string (Z.Wk k)) e3
          have e5 := heap_setCell_same _ w3.heap.size (k * 4) _ 44 (.int .i64 1) e4
          rw [hW4, cell_of_row _ _ _ _ _ _ e5, Array.getElem?_setIfInBounds_ne (by omega), Array.getElem?_setIfInBounds_ne (by omega), Array.getElem?_setIfInBounds_ne (by omega), Array.getElem?_setIfInBounds_self_of_lt (by simp; omega)]
        have g1 : (W4.setCell ⟨w3.heap.size, k * 4, none⟩ (.int .i64 1)).frozen? ⟨w3.heap.size, k * 4 + 1, none⟩ = false := by
          obtain ⟨c, r1, r2, _⟩ := HS.out.r
          have e1 := heap_setCell_same wr w3.heap.size (k * 4) c 44 (.int .i64 (preZ (Z.S k))) r1
          have e2 := heap_setCell_same _ w3.heap.size (k * 4 + 1) _ 44 (.int .i64 (Z.L k)) e1
          have e3 := heap_setCell_same _ w3.heap.size (k * 4 + 2) _ 44 (.int .i64 (Z.Tr k)) e2
          have e4 := heap_setCell_same _ w3.heap.size (k * 4 + 3) _ 44 (.string (Z.Wk k)) e3
          have e5 := heap_setCell_same _ w3.heap.size (k * 4) _ 44 (.int .i64 1) e4
          rw [hW4]; exact frozen_of_row _ _ _ _ _ e5
        have t4 : (W4.setCell ⟨w3.heap.size, k * 4, none⟩ (.int .i64 1)).cell? ⟨(ta.add (k * 4)).block, (ta.add (k * 4)).off + 3, none⟩ = some (.int .i64 (Z.R k)) := by
          have k5 : Keep wr (W4.setCell ⟨w3.heap.size, k * 4, none⟩ (.int .i64 1)) (fun q => q = w3.heap.size) := hk4.trans (Keep.set _ ⟨w3.heap.size, k * 4, none⟩ _) (fun _ _ h => h)
          exact (World.cell?_of_block (k5.block _ (World.block_lt_of_cell? wr _ t3) (fun e => by have e' : (ta.add (k * 4)).block = w3.heap.size := e; omega))).trans t3
        have HSV : Hid (∀ px xl xt xw, px = preZ (Z.S k) → xl = Z.L k → xt = Z.Tr k → xw = Z.Wk k → ((((wr.setCell ⟨w3.heap.size, k * 4, none⟩ (.int .i64 px)).setCell ⟨w3.heap.size, k * 4 + 1, none⟩ (.int .i64 xl)).setCell ⟨w3.heap.size, k * 4 + 2, none⟩ (.int .i64 xt)).setCell ⟨w3.heap.size, k * 4 + 3, none⟩ (.string xw)) = W4) := fun _ _ _ _ e0 e1 e2 e3 => by rw [e0, e1, e2, e3]; exact hW4.symm
        obtain ⟨px, hpx⟩ : ∃ px, px = preZ (Z.S k) := ⟨_, rfl⟩
        rw [← hpx] at HP HP2 u0 HSA
        have HPX : Hid (px = preZ (Z.S k)) := hpx
        clear hcs hct hcn hZ3 hk4 hW4 t3 hpx
        go_wp2_with fail
        refine (zzpre_any (Z.S k) _).mono ?_
        rintro e w5 ⟨rfl, hw5⟩
        rw [hw5, ← HPX.out]
        clear hw5 w5
        go_wp2_with fail
        go_region
        rw [HSV.out px (Z.L k) (Z.Tr k) (Z.Wk k) HPX.out rfl rfl rfl]
        go_wp2_with fail
        refine (zzreq_any jb px _).mono ?_
        rintro e w5 ⟨rfl, hw5⟩
        rw [hw5]
        clear hw5 w5
        cases hr : reqB jb px with
        | false =>
          rw [hr] at HP
          have HRF : Hid (reqB jb (DD.S k) = false) := by rw [HSA.out]; exact hr
          clear hr
          go_wp2_with fail
          go_roundw
          case rel => exact ⟨k + 1, by omega, by go_num, by rw [HCN.out]; simp only [cnt5, rqs_no HRF.out], (HP.out rfl).keep ⟨rfl, rfl, rfl, Nat.le_refl _, fun _ _ _ => rfl⟩⟩
          case measure => simp [intOf]; omega
        | true =>
          rw [hr] at HP2
          have HRT : Hid (reqB jb (DD.S k) = true) := by rw [HSA.out]; exact hr
          clear hr
          go_wp2_with fail
          go_roundw
          case rel =>
            refine ⟨k + 1, by omega, by go_num, ?_, (HP2.out rfl).keep ⟨rfl, rfl, rfl, Nat.le_refl _, fun _ _ _ => rfl⟩⟩
            rw [HCN.out]
            simp only [cnt5, rqs_yes HRT.out, List.length_append]
            go_num
          case measure => simp [intOf]; omega
      · obtain rfl : k = nt := by omega
        obtain ⟨w4, hw4⟩ : ∃ w4, w4 = wr := ⟨_, rfl⟩
        rw [← hw4] at HS ⊢
        clear hw4
        have HK4 : Hid (Keep w w4 (fun _ => False)) := HK3.out.trans HS.out.k (fun _ _ h => h)
        have HJ4 : Hid (Jb w4 lo JB TB k G DD (k + k) F) := HJ.out.keep HS.out.k
        have HWN : Hid (¬ F w3.heap.size) := fun hf => by have := (HJ.out.lt _ hf).2; omega
        have HR4 : Hid (Row4 w4 44 w3.heap.size k k (wV Z true jb)) := HS.out.r
        clear HJ HK3 HS
        have HE : Hid (endedB DD.st = true) := by rw [HST.out]; exact HB.out.symm
        go_wp2_with fail
        refine (requeue_yes w4 HJ4.out hnt HE.out).mono ?_
        rintro e w5 ⟨g, cap, F5, rfl, P5⟩
        have HI5 : Hid (RqIn w4 w5 lo JB TB k G (DD.requeued k) k F F5 (.slice (some ⟨g, 0, none⟩) ((rqs DD DD.st k).length + 2) cap) ((rqs DD DD.st k).length + 2) (requeueL DD k)) := P5
        have HK5 : Hid (Keep w w5 (fun _ => False)) := HK4.out.trans P5.st.1 (fun i hi hf => by have := (HJ4.out.lt i hf).1; have := HLO.out; omega)
        have HR5 : Hid (Row4 w5 44 w3.heap.size k k (wV Z true jb)) := HR4.out.keepX P5.st.1 HWN.out
        clear P5
        have o := HI5.out.ow
        have f0 := rq_first o 0 _ rfl
        have f1 := rq_first o 1 _ rfl
        have f2 := rq_first o 2 _ rfl
        have f3 := rq_first o 3 _ rfl
        have f4 := rq_first o 4 _ rfl
        have f5 := rq_first o 5 _ rfl
        have f6 := rq_first o 6 _ rfl
        have f7 := rq_first o 7 _ rfl
        have f8 := rq_first o 8 _ rfl
        have l0 : w5.cell? ⟨g, ((rqs DD DD.st k).length + 1) * 9, none⟩ = some (.int .i64 (-1)) := rq_last o 0 _ rfl
        have l1 := rq_last o 1 _ rfl
        have l2 := rq_last o 2 _ rfl
        have l3 := rq_last o 3 _ rfl
        have l4 := rq_last o 4 _ rfl
        have l5 := rq_last o 5 _ rfl
        have l6 := rq_last o 6 _ rfl
        have l7 := rq_last o 7 _ rfl
        have l8 := rq_last o 8 _ rfl
        simp only [HNM.out, HST.out] at f1 f7 l0 l1 l2 l3 l4 l5 l6 l7 l8
        obtain ⟨len, hlen⟩ : ∃ len, len = (rqs DD jb k).length := ⟨_, rfl⟩
        have HLEN : Hid (len = (rqs DD jb k).length) := hlen
        have hle2 : len ≤ k := by rw [hlen]; exact rqs_le DD jb k
        have ecnt : cnt5 true DD jb k = len := hlen.symm
        rw [HST.out, ecnt, ← hlen]
        rw [← hlen] at l0 l1 l2 l3 l4 l5 l6 l7 l8
        clear o hlen ecnt
        go_wp2_with fail
        clear f0 f1 f2 f3 f4 f5 f6 f7 f8 l0 l1 l2 l3 l4 l5 l6 l7 l8
        go_loopw [26, 27] (fun c i wr => ∃ j : Nat, j ≤ k ∧ i = .int .i64 j ∧ c = .int .i64 (((rqs DD jb j).length + 1 : Nat) : Int) ∧ Hid (Keep w5 wr (fun _ => False))) (fun _ i _ => k - (intOf i).toNat)
        case atStart => exact ⟨0, Nat.zero_le _, rfl, rfl, Keep.refl _ _⟩
        case round =>
          obtain ⟨j, hj, rfl, rfl, HR⟩ := hrel
          by_cases hjl : j < k
          · have hZr := (HZ.out.keep HK5.out).keep HR.out
            obtain ⟨sa, esa, hcs⟩ := hZr.s (by omega)
            obtain ⟨ta, eta, hct⟩ := hZr.t (by omega)
            subst esa
            subst eta
            obtain ⟨x0, x1, x2, x3⟩ := hcs j (by omega)
            obtain ⟨t0, _, _, t3⟩ := hct j (by omega)
            have q : (j : Int) < (k : Int) := by omega
            have qs : (j : Int) < (ns : Int) := by omega
            obtain ⟨hN, hS2, hRr, hL, hTr, hWk⟩ := ab_at nm thr jb Z hjl
            rw [← HDA.out] at hN hS2 hRr hL hTr hWk
            obtain ⟨px, hpx⟩ : ∃ px, px = preZ (Z.S j) := ⟨_, rfl⟩
            have HPX : Hid (px = preZ (Z.S j)) := hpx
            rw [← hpx] at hS2
            have HS2 : Hid (DD.S j = px) := hS2
            have hlen : (rqs DD jb j).length ≤ j := rqs_le DD jb j
            cases hr : reqB jb px with
            | false =>
              have HRF : Hid (reqB jb (DD.S j) = false) := by rw [hS2]; exact hr
              have HZR : Hid (Calls Try.prog 20 #[.bool (jb == 8), .int .i64 px] wr fun e w' => e = .returned (.bool false) ∧ w' = wr) := by have h := zzreq_any jb px wr; rw [hr] at h; exact h
              obtain ⟨c, hc⟩ : ∃ c, c = (rqs DD jb j).length + 1 := ⟨_, rfl⟩
              have HC : Hid (c = (rqs DD jb j).length + 1) := hc
              rw [← hc]
              clear hcs hct hZr hS2 hN hL hTr hWk hRr hpx hr hc hlen
              go_wp2_with fail
              refine (zzpre_any (Z.S j) _).mono ?_
              rintro e w6 ⟨rfl, hw6⟩
              rw [hw6, ← HPX.out]
              clear hw6 w6
              go_wp2_with fail
              refine HZR.out.mono ?_
              rintro e w6 ⟨rfl, hw6⟩
              rw [hw6]
              clear hw6 w6
              go_wp2_with fail
              go_roundw
              case rel => exact ⟨j + 1, by omega, by go_num, by rw [HC.out, rqs_no HRF.out], HR.out⟩
              case measure => simp [intOf]; omega
            | true =>
              have HRT : Hid (reqB jb (DD.S j) = true) := by rw [hS2]; exact hr
              have HZR : Hid (Calls Try.prog 20 #[.bool (jb == 8), .int .i64 px] wr fun e w' => e = .returned (.bool true) ∧ w' = wr) := by have h := zzreq_any jb px wr; rw [hr] at h; exact h
              obtain ⟨hcl, hcc⟩ := rq_mid (own9_kept HI5.out.ow HR.out (fun _ _ h => h)) hjl (by rw [HST.out, hS2]; exact hr)
              rw [HST.out] at hcc hcl
              rw [← HLEN.out] at hcl
              obtain ⟨c, hc⟩ : ∃ c, c = (rqs DD jb j).length + 1 := ⟨_, rfl⟩
              have HC : Hid (c = (rqs DD jb j).length + 1) := hc
              rw [← hc] at hcc ⊢
              have c0 : wr.cell? ⟨g, c * 9, none⟩ = some (.int .i64 j) := hcc 0 _ rfl
              have c1 : wr.cell? ⟨g, c * 9 + 1, none⟩ = some (.string (Z.N j)) := (hcc 1 _ rfl).trans (by rw [hN])
              have c2 : wr.cell? ⟨g, c * 9 + 2, none⟩ = some (.int .i64 px) := (hcc 2 _ rfl).trans (by rw [hS2])
              have c3 : wr.cell? ⟨g, c * 9 + 3, none⟩ = some (.int .i64 1) := hcc 3 _ rfl
              have c4 : wr.cell? ⟨g, c * 9 + 4, none⟩ = some (.int .i64 (Z.R j)) := (hcc 4 _ rfl).trans (by rw [hRr])
              have c5 : wr.cell? ⟨g, c * 9 + 5, none⟩ = some (.int .i64 (Z.Tr j)) := (hcc 5 _ rfl).trans (by rw [hTr])
              have c6 : wr.cell? ⟨g, c * 9 + 6, none⟩ = some (.string (Z.Wk j)) := (hcc 6 _ rfl).trans (by rw [hWk])
              have c7 : wr.cell? ⟨g, c * 9 + 7, none⟩ = some (.int .i64 0) := hcc 7 _ rfl
              have c8 : wr.cell? ⟨g, c * 9 + 8, none⟩ = some (.int .i64 0) := hcc 8 _ rfl
              have qc : (c : Int) < ((len + 2 : Nat) : Int) := by omega
              have qc2 : (c : Int) < (len : Int) + 2 := by omega
              have hcle : c ≤ 65537 := by omega
              clear hcs hct hZr hS2 hN hL hTr hWk hRr hpx hr hc hlen hcc hcl
              go_wp2_with fail
              refine (zzpre_any (Z.S j) _).mono ?_
              rintro e w6 ⟨rfl, hw6⟩
              rw [hw6, ← HPX.out]
              clear hw6 w6
              go_wp2_with fail
              refine HZR.out.mono ?_
              rintro e w6 ⟨rfl, hw6⟩
              rw [hw6]
              clear hw6 w6
              generalize Z.N j = xn at *
              generalize Z.R j = xr at *
              generalize Z.Tr j = xt at *
              generalize Z.Wk j = xw at *
              go_wp2_with fail
              go_quiet (fail)
              go_wp2_with fail
              go_roundw
              case rel =>
                refine ⟨j + 1, by omega, by go_num, ?_, HR.out.trans ⟨rfl, rfl, rfl, Nat.le_refl _, fun _ _ _ => rfl⟩ (fun _ _ h => h)⟩
                rw [rqs_yes HRT.out, List.length_append, HC.out]
                go_num
              case measure => simp [intOf]; omega
          · obtain rfl : j = k := by omega
            have HRD : Hid (∀ wx, Keep w5 wx (fun _ => False) → Calls Try.prog 14 #[.pointer (some ⟨JB, 0, none⟩), .int .i64 2, .slice (some ⟨w3.heap.size, 0, none⟩) j j] wx fun e w' => ReadsPost wx e w') := by
              intro wx hkx
              have h := reads_any w3.heap.size j (some ⟨w3.heap.size, 0, none⟩) wx (HI5.out.jb.keep hkx) hnt (fun _ => rfl) (fun i hi => by
                obtain ⟨a2, a4, a5, a6⟩ := requeued_at nm thr jb Z hi
                rw [HDA.out, a2, a4, a5, a6]
                have r := HR5.out.keep hkx
                exact ⟨row4_cell r hi (f := 0) (by omega), row4_cell r hi (f := 1) (by omega), row4_cell r hi (f := 2) (by omega), row4_cell r hi (f := 3) (by omega)⟩)
              have e : (DD.requeued j).st = 2 := rfl
              rw [e] at h
              exact h
            have HE2 : Hid (endedB (DD.requeued j).st = false) := by show endedB 2 = false; decide
            clear HZ
            go_wp2_with fail
            refine (HRD.out wr HR.out).mono ?_
            rintro e w6 ⟨rfl, K6⟩
            have HK6 : Hid (Keep w5 w6 (fun _ => False)) := HR.out.trans K6 (fun _ _ h => h)
            clear K6
            go_wp2_with fail
            refine (requeue_no w6 (HI5.out.jb.keep HK6.out) HE2.out).mono ?_
            rintro e w7 ⟨rfl, hw7⟩
            rw [hw7]
            clear hw7 w7
            go_wp2_with fail
            refine (HRD.out w6 HK6.out).mono ?_
            rintro e w7 ⟨rfl, K7⟩
            have HK7 : Hid (Keep w w7 (fun _ => False)) := (HK5.out.trans HK6.out (fun _ _ h => h)).trans K7 (fun _ _ h => h)
            clear K7
            go_wp2_with fail
            go_ret
            exact ⟨rfl, HK7.out⟩
end Go.Proofs.Qxb6614022a
