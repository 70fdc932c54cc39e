/-
  The law on a requeue's replay, where the job had ended.
-/
import Derived.Test.Qxb6614022aRep2
import Derived.Test.Qxb6614022aRes
import Derived.Test.Qxb6614022aBy22
import Derived.BigQuiet
import Derived.BigRegion
namespace Go.Proofs.Qxb6614022a
open Go.RowKit
set_option linter.unusedVariables false
set_option linter.unusedSimpArgs false

set_option maxRecDepth 100000 in
set_option maxHeartbeats 4000000 in
theorem law6t (nm : ByteArray) (thr jb : Int) (tq so fo : Option Addr) (nt ct ns cs nf cf : Nat) (Z : ZA) (w : World) (h : ZAt w tq so fo nt ns nf Z) (hnm : nm.size ≤ maxLen)
    (ht : tq = none → nt = 0 ∧ ct = 0) (hs : so = none → ns = 0 ∧ cs = 0) (hf : fo = none → nf = 0 ∧ cf = 0) (hen : endedB jb = true) :
    Calls Try.prog 6 #[.string nm, .int .i64 thr, .slice tq nt ct, .int .i64 jb, .slice so ns cs, .slice fo nf cf] w fun e w' => LawPost w e w' := by
  have HZ : Hid (ZAt w tq so fo nt ns nf Z) := h
  have HT : Hid (tq = none → nt = 0 ∧ ct = 0) := ht
  have HSN : Hid (so = none → ns = 0 ∧ cs = 0) := hs
  have HFN : Hid (fo = none → nf = 0 ∧ cf = 0) := hf
  have HEN : Hid (endedB jb = true) := hen
  clear h ht hs hf hen
  go_enter Try.func6, Try.ntmps6
  go_wp2_with fail
  refine (bytes22_any nm thr jb tq so fo nt ct ns cs nf cf Z w HZ.out hnm).mono ?_
  rintro e w1 ⟨b, rfl, hw1⟩
  rw [hw1]
  clear hw1 w1
  cases b with
  | false =>
    go_wp2_with fail
    go_ret
    exact ⟨rfl, Keep.refl _ _⟩
  | true =>
  go_wp2_with fail
  refine (fits_any nm tq so fo nt ct ns cs nf cf Z w HZ.out hnm).mono ?_
  rintro e w1 ⟨b, rfl, K1, B1⟩
  have HK1 : Hid (Keep w w1 (fun _ => False)) := K1
  clear K1
  cases b with
  | false =>
    go_wp2_with fail
    go_ret
    exact ⟨rfl, HK1.out⟩
  | true =>
  obtain ⟨hnt, hns, hnf, hA⟩ := B1 rfl
  have HA : Hid (∀ i, i < nt → Z.An i ≤ 65536) := hA
  clear B1 hA
  go_wp2_with fail
  refine (domain_any tq so fo nt ct ns cs nf Z w1 (HZ.out.keep HK1.out)).mono ?_
  rintro e w2 ⟨b, rfl, hw2, B2⟩
  rw [hw2]
  clear hw2 w2
  cases b with
  | false =>
    go_wp2_with fail
    go_ret
    exact ⟨rfl, HK1.out⟩
  | true =>
  have HD : Hid (nt ≤ ns ∧ ∀ i, i < nt → ∀ j, j < Z.An i → 0 ≤ Z.AX i j ∧ Z.AX i j < nt) := B2 rfl
  clear B2
  have hle : nt ≤ ns := HD.out.1
  go_wp2_with fail
  refine (built_any nm thr jb tq so fo nt ct ns cs nf cf Z w1 (HZ.out.keep HK1.out) hnt hns HA.out HD.out HT.out HSN.out).mono ?_
  rintro e w2 ⟨DB, QB, SB, t2, s2, rfl, b1, b2, K2⟩
  have HDF : Hid (DefAt w2 DB QB nt t2 (toRA nm thr Z)) := b1
  have HST : Hid (StAt w2 SB nt ns s2 Z.S Z.L Z.Tr Z.Wk) := b2
  have HK2 : Hid (Keep w w2 (fun _ => False)) := HK1.out.trans K2 (fun _ _ h => h)
  clear b1 b2 K2 HK1 HA HD HT HSN
  go_wp2_with fail
  have ka : Keep w2 (w2.alloc (.cells #[.int .i64 jb, .slice s2 ns ns, .slice fo nf cf] 32)) (fun _ => False) := Keep.alloc _ _ _
  have HZ2 : Hid (ZAt (w2.alloc (.cells #[.int .i64 jb, .slice s2 ns ns, .slice fo nf cf] 32)) tq so fo nt ns nf Z) := (HZ.out.keep HK2.out).keep ka
  refine (resume_any DB QB SB nt ns ns nf cf t2 s2 fo (toRA nm thr Z) jb Z.S Z.L Z.Tr Z.Wk Z.XF _ (HDF.out.keep ka) (HST.out.keep ka) HZ2.out.f (by omega) HFN.out hnt).mono ?_
  rintro e w3 ⟨lo, lo2, JB, TB, G, F, v, rfl, J1, K3, hlo, ow⟩
  have HK3 : Hid (Keep w w3 (fun _ => False)) := (HK2.out.trans ka (fun _ _ h => h)).trans K3 (fun _ _ h => h)
  have HDF3 : Hid (DefAt w3 DB QB nt t2 (toRA nm thr Z)) := (HDF.out.keep ka).keep K3
  obtain ⟨D, hD⟩ : ∃ D, D = DK (toRA nm thr Z) jb Z.S Z.L Z.Tr Z.Wk nt := ⟨_, rfl⟩
  rw [← hD] at J1 ow
  have HDD : Hid (D = DK (toRA nm thr Z) jb Z.S Z.L Z.Tr Z.Wk nt) := hD
  have HJ : Hid (Jb w3 lo JB TB nt G (D.ab nt) (nt + nt) F) := J1
  obtain ⟨vo, vl, vc, rfl, hvl⟩ : ∃ o l c, v = .slice o l c ∧ l = (act D nt).length := by
    rcases ow.2 with ⟨h, h0⟩ | ⟨g, cap, cur, h, _⟩
    · exact ⟨_, _, _, h, h0.symm⟩
    · exact ⟨_, _, _, h, rfl⟩
  have HVL : Hid (vl = (act D nt).length) := hvl
  have HLO : Hid (w.heap.size ≤ lo) := Nat.le_trans (HK2.out.trans ka (fun _ _ h => h)).size hlo
  clear hD J1 K3 ow HDF HST HK2 ka HZ2 hvl HDF3 HVL
  obtain ⟨DD, hDD⟩ : ∃ DD, DD = D.ab nt := ⟨_, rfl⟩
  rw [← hDD] at HJ
  have HDA : Hid (DD = (DK (toRA nm thr Z) jb Z.S Z.L Z.Tr Z.Wk nt).ab nt) := by rw [← HDD.out]; exact hDD
  have HST : Hid (DD.st = jb) := by rw [HDA.out]; rfl
  have HNM : Hid (DD.nm = nm) := by rw [HDA.out]; rfl
  clear hDD HDD hlo
  go_wp2_with fail
  refine (zzended_any jb w3).mono ?_
  rintro e w4 ⟨rfl, hw4⟩
  rw [hw4, HEN.out]
  clear hw4 w4
  go_wp2_with fail
  go_loopw [20, 21] (fun c i wr => ∃ j : Nat, j ≤ nt ∧ i = .int .i64 j ∧ c = .int .i64 (rqs DD jb j).length ∧ Hid (wr = w3)) (fun _ i _ => nt - (intOf i).toNat)
  case atStart => exact ⟨0, Nat.zero_le _, rfl, rfl, rfl⟩
  case round =>
    obtain ⟨j, hj, rfl, rfl, HW⟩ := hrel
    by_cases hjl : j < nt
    · obtain ⟨sa, esa, hcs⟩ := (HZ.out.keep HK3.out).s (by omega)
      subst esa
      obtain ⟨x0, _⟩ := hcs j (by omega)
      rw [← HW.out] at x0
      have q : (j : Int) < (nt : Int) := by omega
      have qs : (j : Int) < (ns : Int) := by omega
      obtain ⟨px, hpx⟩ : ∃ px, px = preZ (Z.S j) := ⟨_, rfl⟩
      have HPX : Hid (px = preZ (Z.S j)) := hpx
      have hS2 : DD.S j = px := by rw [HDA.out, hpx]; exact (ab_at nm thr jb Z hjl).2.1
      obtain ⟨len, hl⟩ : ∃ len, len = (rqs DD jb j).length := ⟨_, rfl⟩
      have hlen : len ≤ j := by rw [hl]; exact rqs_le DD jb j
      rw [← hl]
      have HL : Hid (len = (rqs DD jb j).length) := hl
      cases hr : reqB jb px with
      | false =>
        have HRF : Hid (reqB jb (DD.S j) = false) := by rw [hS2]; exact hr
        have HZR : Hid (Calls Try.prog 20 #[.bool (jb == 8), .int .i64 px] wr fun e w' => e = .returned (.bool false) ∧ w' = wr) := by have h := zzreq_any jb px wr; rw [hr] at h; exact h
        clear hcs hS2 hpx hr hl
        go_wp2_with fail
        refine (zzpre_any (Z.S j) _).mono ?_
        rintro e w6 ⟨rfl, hw6⟩
        rw [hw6, ← HPX.out]
        clear hw6 w6
        go_wp2_with fail
        refine HZR.out.mono ?_
        rintro e w6 ⟨rfl, hw6⟩
        rw [hw6]
        clear hw6 w6
        go_wp2_with fail
        go_roundw
        case rel => exact ⟨j + 1, by omega, by go_num, by rw [HL.out, rqs_no HRF.out], HW.out⟩
        case measure => simp [intOf]; omega
      | true =>
        have HRT : Hid (reqB jb (DD.S j) = true) := by rw [hS2]; exact hr
        have HZR : Hid (Calls Try.prog 20 #[.bool (jb == 8), .int .i64 px] wr fun e w' => e = .returned (.bool true) ∧ w' = wr) := by have h := zzreq_any jb px wr; rw [hr] at h; exact h
        clear hcs hS2 hpx hr hl
        go_wp2_with fail
        refine (zzpre_any (Z.S j) _).mono ?_
        rintro e w6 ⟨rfl, hw6⟩
        rw [hw6, ← HPX.out]
        clear hw6 w6
        go_wp2_with fail
        refine HZR.out.mono ?_
        rintro e w6 ⟨rfl, hw6⟩
        rw [hw6]
        clear hw6 w6
        go_wp2_with fail
        go_roundw
        case rel =>
          refine ⟨j + 1, by omega, by go_num, ?_, HW.out⟩
          rw [rqs_yes HRT.out, List.length_append, ← HL.out]
          go_num
        case measure => simp [intOf]; omega
    · obtain rfl : j = nt := by omega
      have ew := HW.out
      subst ew
      have hm := make44 j (by omega)
      obtain ⟨len, hlen⟩ : ∃ len, len = (rqs DD jb j).length := ⟨_, rfl⟩
      have HLEN : Hid (len = (rqs DD jb j).length) := hlen
      have hle2 : len ≤ j := by rw [hlen]; exact rqs_le DD jb j
      rw [← hlen]
      clear hlen
      go_wp2_with fail
      refine (status_any wr HJ.out).mono ?_
      rintro e w4 ⟨rfl, hw4⟩
      rw [hw4, HST.out]
      clear hw4 w4
      go_wp2_with fail
      obtain ⟨w3, hw3⟩ : ∃ w3, w3 = wr := ⟨_, rfl⟩
      rw [← hw3] at HJ HK3 ⊢
      have HS0 : Hid (Sav w3 (w3.alloc (.cells (madeCells z44c (j * 4)) 44)) w3.heap.size j 0 (pV Z)) := Sav.start w3 j (pV Z)
      clear hw3 HW hm
      go_loopw [24] (fun i wr => ∃ k : Nat, k ≤ j ∧ i = .int .i64 k ∧ Hid (Sav w3 wr w3.heap.size j k (pV Z))) (fun i _ => j - (intOf i).toNat)
      case atStart => exact ⟨0, Nat.zero_le _, rfl, HS0.out⟩
      case round =>
        clear HS0
        obtain ⟨k, hk, rfl, HS⟩ := hrel
        by_cases hkl : k < j
        · have q : (k : Int) < (j : Int) := by omega
          go_wp2_with fail
          refine (task_any k wr (HJ.out.keep HS.out.k) hkl hnt).mono ?_
          rintro e w5 ⟨rfl, hk5⟩
          rw [HDA.out, stOf_at nm thr jb Z hkl]
          have HS5 : Hid (Sav w3 w5 w3.heap.size j k (pV Z)) := HS.out.keep hk5
          obtain ⟨⟨o0, y0⟩, ⟨o1, y1⟩, ⟨o2, y2⟩, ⟨o3, y3⟩, f0, f1, f2, f3⟩ := HS5.out.cells hkl
          clear hk5
          go_wp2_with fail
          go_roundw
          case rel => exact ⟨k + 1, by omega, by go_num, HS5.out.put hkl⟩
          case measure => simp [intOf]; omega
        · obtain rfl : k = j := by omega
          obtain ⟨w4, hw4⟩ : ∃ w4, w4 = wr := ⟨_, rfl⟩
          rw [← hw4] at HS ⊢
          clear hw4
          have HK4 : Hid (Keep w w4 (fun _ => False)) := HK3.out.trans HS.out.k (fun _ _ h => h)
          have HJ4 : Hid (Jb w4 lo JB TB k G DD (k + k) F) := HJ.out.keep HS.out.k
          have HWN : Hid (¬ F w3.heap.size) := fun hf => by have := (HJ.out.lt _ hf).2; omega
          have HR4 : Hid (Row4 w4 44 w3.heap.size k k (pV Z)) := HS.out.r
          have HE : Hid (endedB DD.st = true) := by rw [HST.out]; exact HEN.out
          clear HJ HK3 HS
          go_wp2_with fail
          refine (requeue_yes w4 HJ4.out hnt HE.out).mono ?_
          rintro e wq ⟨g, cap, F5, rfl, P5⟩
          have HOW : Hid (wq.ownsRow w4.heap.size 46 9 (.slice (some ⟨g, 0, none⟩) ((rqs DD DD.st k).length + 2) cap) ((rqs DD DD.st k).length + 2) (requeueL DD k)) := P5.ow
          have HKQ : Hid (Keep w wq (fun _ => False)) := HK4.out.trans P5.st.1 (fun i hi hf => by have := (HJ4.out.lt i hf).1; have := HLO.out; omega)
          have HJQ : Hid (Jb wq lo JB TB k G (DD.requeued k) k F5) := P5.jb
          have HRQ : Hid (Row4 wq 44 w3.heap.size k k (pV Z)) := HR4.out.keepX P5.st.1 HWN.out
          have HSF : Hid ((DD.requeued k).st = 2) := by show (2 : Int) = 2; rfl
          have HSO : Hid (∀ i, i < k → stOf (DD.requeued k) i = .agg #[.int .i64 (wS Z true jb i), .int .i64 (wL Z true jb i), .int .i64 (Z.Tr i), .string (Z.Wk i)]) := fun i hi => by
            obtain ⟨a2, a4, a5, a6⟩ := requeued_at nm thr jb Z hi
            rw [HDA.out]
            simp only [stOf, a2, a4, a5, a6]
          have HL1 : Hid (w3.heap.size < wq.heap.size) := by
            obtain ⟨c, r1, _⟩ := HRQ.out
            exact lt_of_heap r1
          have es : (rqs DD DD.st k).length = len := by rw [HST.out]; exact HLEN.out.symm
          rw [es]
          have hm2 := make44 k (by omega)
          have hm3 := make56 k (by omega)
          have hm4 := make57 k (by omega)
          clear HK4 HJ4 HR4 P5 es
          go_wp2_with fail
          refine (status_any wq HJQ.out).mono ?_
          rintro e w6 ⟨rfl, hw6⟩
          rw [hw6, HSF.out]
          clear hw6 w6
          go_wp2_with fail
          have HS1 : Hid (Sav wq (wq.alloc (.cells (madeCells z44c (k * 4)) 44)) wq.heap.size k 0 (wV Z true jb)) := Sav.start wq k (wV Z true jb)
          clear hm2
          go_loopw [27] (fun i wr => ∃ j : Nat, j ≤ k ∧ i = .int .i64 j ∧ Hid (Sav wq wr wq.heap.size k j (wV Z true jb))) (fun i _ => k - (intOf i).toNat)
          case atStart => exact ⟨0, Nat.zero_le _, rfl, HS1.out⟩
          case round =>
            clear HS1
            obtain ⟨j, hj, rfl, HS⟩ := hrel
            by_cases hjl : j < k
            · have q : (j : Int) < (k : Int) := by omega
              go_wp2_with fail
              refine (task_any j wr (HJQ.out.keep HS.out.k) hjl hnt).mono ?_
              rintro e w5 ⟨rfl, hk5⟩
              rw [HSO.out j hjl]
              have HS5 : Hid (Sav wq w5 wq.heap.size k j (wV Z true jb)) := HS.out.keep hk5
              obtain ⟨⟨o0, y0⟩, ⟨o1, y1⟩, ⟨o2, y2⟩, ⟨o3, y3⟩, f0, f1, f2, f3⟩ := HS5.out.cells hjl
              clear hk5
              go_wp2_with fail
              go_roundw
              case rel => exact ⟨j + 1, by omega, by go_num, HS5.out.put hjl⟩
              case measure => simp [intOf]; omega
            · obtain rfl : k = j := by omega
              obtain ⟨w6, hw6⟩ : ∃ w6, w6 = wr := ⟨_, rfl⟩
              rw [← hw6] at HS ⊢
              clear hw6
              have HP0 : Hid (Rp wq ((w6.alloc (.cells (madeCells #[.int .i64 0] k) 39)).alloc (.cells (madeCells #[.bool false] k) 4)) w3.heap.size wq.heap.size w6.heap.size (w6.heap.size + 1) k 0 (pV Z) (wV Z true jb) (fun i => .int .i64 (preZ (Z.S i))) (fun _ => .bool false)) := by
                have ka : Keep w6 (w6.alloc (.cells (madeCells #[.int .i64 0] k) 39)) (fun _ => False) := Keep.alloc _ _ _
                have kb : Keep (w6.alloc (.cells (madeCells #[.int .i64 0] k) 39)) ((w6.alloc (.cells (madeCells #[.int .i64 0] k) 39)).alloc (.cells (madeCells #[.bool false] k) 4)) (fun _ => False) := Keep.alloc _ _ _
                have kab := ka.trans kb (fun _ _ h => h)
                have hs : (w6.alloc (.cells (madeCells #[.int .i64 0] k) 39)).heap.size = w6.heap.size + 1 := by simp
                have r4 := row1_made (w6.alloc (.cells (madeCells #[.int .i64 0] k) 39)) 4 (.bool false) k
                rw [hs] at r4
                have hlt : wq.heap.size < w6.heap.size := by
                  obtain ⟨c, r1, _⟩ := HS.out.r
                  exact lt_of_heap r1
                exact ⟨(HRQ.out.keep HS.out.k).keep kab, HS.out.r.keep kab, (row1_made w6 39 (.int .i64 0) k).start.keepX kb id, r4, HS.out.k.trans kab (fun _ _ h => h), HL1.out, Nat.le_refl _, hlt, Nat.lt_succ_self _⟩
              go_wp2_with fail
              clear hm3 hm4
              go_loopw [31] (fun i wr => ∃ j : Nat, j ≤ k ∧ i = .int .i64 j ∧ Hid (Rp wq wr w3.heap.size wq.heap.size w6.heap.size (w6.heap.size + 1) k j (pV Z) (wV Z true jb) (fun i => .int .i64 (preZ (Z.S i))) (fun _ => .bool false))) (fun i _ => k - (intOf i).toNat)
              case atStart => exact ⟨0, Nat.zero_le _, rfl, HP0.out⟩
              case round =>
                clear HP0 HS
                obtain ⟨j, hj, rfl, HR⟩ := hrel
                by_cases hjl : j < k
                · have q : (j : Int) < (k : Int) := by omega
                  have b0 : wr.cell? ⟨w3.heap.size, j * 4, none⟩ = some (.int .i64 (preZ (Z.S j))) := row4_cell HR.out.r1 hjl (f := 0) (by omega)
                  obtain ⟨o, y0⟩ := HR.out.r3.some hjl
                  have f0 := HR.out.r3.fz j
                  go_wp2_with fail
                  go_roundw
                  case rel => exact ⟨j + 1, by omega, by go_num, HR.out.put hjl⟩
                  case measure => simp [intOf]; omega
                · obtain rfl : k = j := by omega
                  go_wp2_with fail
                  obtain ⟨w7, hw7⟩ : ∃ w7, w7 = wr := ⟨_, rfl⟩
                  rw [← hw7] at HR ⊢
                  clear hw7
                  obtain ⟨lq, hlq⟩ : ∃ lq, lq = rqs DD jb k := ⟨_, rfl⟩
                  have HLQ : Hid (lq = rqs DD jb k) := hlq
                  have HR0 : Hid (Rp wq w7 w3.heap.size wq.heap.size w6.heap.size (w6.heap.size + 1) k k (pV Z) (wV Z true jb) (curV Z lq 0) (logV lq 0)) := HR.out.congr (fun i _ => by simp [curV, done_zero]) (fun i _ => by simp [logV, done_zero])
                  clear HR hlq
                  go_loopw [28, 157] (fun cj i wr => ∃ idx : Nat, idx ≤ len + 2 ∧ i = .int .i64 idx ∧ cj = .int .i64 (cjOf jb len idx) ∧ Hid (Rp wq wr w3.heap.size wq.heap.size w6.heap.size (w6.heap.size + 1) k k (pV Z) (wV Z true jb) (curV Z lq idx) (logV lq idx))) (fun _ i _ => len + 2 - (intOf i).toNat)
                  case atStart => exact ⟨0, Nat.zero_le _, rfl, by simp [cjOf], HR0.out⟩
                  case round =>
                    clear HR0
                    obtain ⟨idx, hidx, rfl, rfl, HR⟩ := hrel
                    by_cases hlt : idx < len + 2
                    · have qi : (idx : Int) < (len : Int) + 2 := by omega
                      have qi2 : (idx : Int) < ((len + 2 : Nat) : Int) := by omega
                      have ow := own9_kept HOW.out HR.out.k (fun _ _ h => h)
                      have hrec := rec_any HST.out HNM.out ow HLEN.out hlt
                      rw [← HLQ.out] at hrec
                      obtain ⟨jf, hjf⟩ : ∃ jf, jf = cjOf jb len idx := ⟨_, rfl⟩
                      rw [← hjf] at hrec ⊢
                      have HJF : Hid (jf = cjOf jb len idx) := hjf
                      clear hjf ow
                      rcases hrec with ⟨rc, hdn⟩ | ⟨t, htk, hrt, htn, hdn, hcj, rc⟩
                      · obtain ⟨jt, hjt⟩ : ∃ jt, jt = cjOf jb len (idx + 1) := ⟨_, rfl⟩
                        rw [← hjt] at rc
                        have HJT : Hid (jt = cjOf jb len (idx + 1)) := hjt
                        have HDN : Hid (done lq (idx + 1) = done lq idx) := hdn
                        obtain ⟨c0, c1, c2, c3, c4, c5, c6, c7, c8⟩ := rc
                        have hjj : (jf != jf) = false := by simp
                        clear hjt hdn
                        go_wp2_with fail
                        go_roundw
                        case rel =>
                          refine ⟨idx + 1, by omega, by go_num, by rw [HJT.out], ?_⟩
                          have hk := HR.out.keep (Keep.alloc wr (.cells #[.int .i64 (-1), .string nm, .int .i64 0, .int .i64 0, .int .i64 0, .int .i64 0, .string ⟨#[]⟩, .int .i64 jf, .int .i64 jt] 46) _)
                          exact hk.congr (fun i _ => by simp only [curV, HDN.out]) (fun i _ => by simp only [logV, HDN.out])
                        case measure => simp [intOf]; omega
                      · have qt : (t : Int) < (k : Int) := by omega
                        have qt0 : (0 : Int) ≤ (t : Int) := by omega
                        have qt1 : ¬ ((t : Int) = -1) := by omega
                        have qt2 : ¬ ((t : Int) < 0) := by omega
                        have qt3 : ¬ ((k : Int) ≤ (t : Int)) := by omega
                        obtain ⟨hN, hS2, hRr, hL, hTr, hWk⟩ := ab_at nm thr jb Z htk
                        rw [← HDA.out] at hN hS2 hRr hL hTr hWk
                        have hrp : reqB jb (preZ (Z.S t)) = true := by rw [← hS2]; exact hrt
                        have hwL : wL Z true jb t = Z.R t := by simp [wL, hrp]
                        rw [hN, hS2, hRr, hTr, hWk] at rc
                        obtain ⟨c0, c1, c2, c3, c4, c5, c6, c7, c8⟩ := rc
                        have HDN : Hid (done lq (idx + 1) = done lq idx ++ [t]) := hdn
                        have HCJ : Hid (cjOf jb len (idx + 1) = jf) := hcj
                        obtain ⟨px, hpx⟩ : ∃ px, px = preZ (Z.S t) := ⟨_, rfl⟩
                        obtain ⟨xn, hxn⟩ : ∃ xn, xn = Z.N t := ⟨_, rfl⟩
                        obtain ⟨xr, hxr⟩ : ∃ xr, xr = Z.R t := ⟨_, rfl⟩
                        obtain ⟨xt, hxt⟩ : ∃ xt, xt = Z.Tr t := ⟨_, rfl⟩
                        obtain ⟨xw, hxw⟩ : ∃ xw, xw = Z.Wk t := ⟨_, rfl⟩
                        rw [← hxn] at c1
                        rw [← hpx] at c2
                        rw [← hxr] at c4
                        rw [← hxt] at c5
                        rw [← hxw] at c6
                        obtain ⟨ob, hob⟩ : ∃ ob, ob = Obj.cells #[.int .i64 t, .string xn, .int .i64 px, .int .i64 1, .int .i64 xr, .int .i64 xt, .string xw, .int .i64 0, .int .i64 0] 46 := ⟨_, rfl⟩
                        have HRA : Hid (Rp wq (wr.alloc ob) w3.heap.size wq.heap.size w6.heap.size (w6.heap.size + 1) k k (pV Z) (wV Z true jb) (curV Z lq idx) (logV lq idx)) := HR.out.keep (Keep.alloc wr ob _)
                        have hZa := (HZ.out.keep HKQ.out).keep HRA.out.k
                        obtain ⟨ta, eta, hct⟩ := hZa.t (by omega)
                        subst eta
                        obtain ⟨t0, _, _, _⟩ := hct t htk
                        rw [← hxn] at t0
                        have m0 : (wr.alloc ob).cell? ⟨w6.heap.size, t, none⟩ = some (.int .i64 px) := by
                          have h := HRA.out.r3.cell htk
                          simp only [curV, if_neg htn] at h
                          rw [hpx]; exact h
                        have mf := HRA.out.r3.fz t
                        have a1 : (wr.alloc ob).cell? ⟨wq.heap.size, t * 4 + 1, none⟩ = some (.int .i64 xr) := by
                          have h : _ = some (Value.int .i64 (wL Z true jb t)) := row4_cell HRA.out.r2 htk (f := 1) (by omega)
                          rw [hwL, ← hxr] at h; exact h
                        have a2 : (wr.alloc ob).cell? ⟨wq.heap.size, t * 4 + 2, none⟩ = some (.int .i64 xt) := by rw [hxt]; exact row4_cell HRA.out.r2 htk (f := 2) (by omega)
                        have a3 : (wr.alloc ob).cell? ⟨wq.heap.size, t * 4 + 3, none⟩ = some (.string xw) := by rw [hxw]; exact row4_cell HRA.out.r2 htk (f := 3) (by omega)
                        obtain ⟨lg, g0⟩ := HRA.out.r4.some htk
                        have gf := HRA.out.r4.fz t
                        have ne34 : (⟨w6.heap.size, t, none⟩ : Addr) ≠ ⟨w6.heap.size + 1, t, none⟩ := fun e => by have := congrArg Addr.block e; simp at this
                        have g1 : ((wr.alloc ob).setCell ⟨w6.heap.size, t, none⟩ (.int .i64 1)).cell? ⟨w6.heap.size + 1, t, none⟩ = some lg := (World.cell?_setCell_other _ _ _ _ ne34).trans g0
                        have d0 : (px != px) = false := by simp
                        have d1 : (xr != xr) = false := by simp
                        have d2 : (xt != xt) = false := by simp
                        have HM : Hid (Rp wq (((wr.alloc ob).setCell ⟨w6.heap.size, t, none⟩ (.int .i64 1)).setCell ⟨w6.heap.size + 1, t, none⟩ (.bool true)) w3.heap.size wq.heap.size w6.heap.size (w6.heap.size + 1) k k (pV Z) (wV Z true jb) (fun i => if i = t then .int .i64 1 else curV Z lq idx i) (fun i => if i = t then .bool true else logV lq idx i)) := HRA.out.mend htk (.int .i64 1) (.bool true)
                        subst hob
                        have HTK : Hid (t < k) := htk
                        clear hdn hcj hpx hxn hxr hxt hxw hwL hrp hN hS2 hRr hL hTr hWk hct hZa htn hrt ne34
                        go_wp2_with fail
                        go_quiet (fail)
                        go_wp2_with fail
                        go_quiet (fail)
                        go_wp2_with fail
                        go_roundw
                        case rel =>
                          refine ⟨idx + 1, by omega, by go_num, by rw [HCJ.out], ?_⟩
                          have hk := HM.out.congr (C' := curV Z lq (idx + 1)) (Lg' := logV lq (idx + 1)) (fun i _ => by
                              by_cases hi : i = t
                              · subst hi; simp [curV, HDN.out]
                              · simp [curV, HDN.out, hi]) (fun i _ => by
                              by_cases hi : i = t
                              · subst hi; simp [logV, HDN.out]
                              · simp [logV, HDN.out, hi])
                          exact hk.keep ⟨rfl, rfl, rfl, Nat.le_refl _, fun _ _ _ => rfl⟩
                        case measure => simp [intOf]; omega
                    · have eidx : idx = len + 2 := by omega
                      have ecj : cjOf jb len idx = 2 := by rw [eidx]; simp [cjOf]
                      have edn : done lq idx = lq := done_all lq (by rw [eidx, HLEN.out, HLQ.out]; omega)
                      have HR1 : Hid (Rp wq wr w3.heap.size wq.heap.size w6.heap.size (w6.heap.size + 1) k k (pV Z) (wV Z true jb) (fun i => .int .i64 (if i ∈ lq then 1 else preZ (Z.S i))) (fun i => .bool (decide (i ∈ lq)))) := HR.out.congr (fun i _ => by simp only [curV, edn]) (fun i _ => by simp only [logV, edn])
                      rw [ecj]
                      clear ecj edn HR eidx
                      go_wp2_with fail
                      refine (status_any wr (HJQ.out.keep HR1.out.k)).mono ?_
                      rintro e w8 ⟨rfl, hw8⟩
                      rw [hw8, HSF.out]
                      clear hw8 w8
                      go_wp2_with fail
                      obtain ⟨w9, hw9⟩ : ∃ w9, w9 = wr := ⟨_, rfl⟩
                      rw [← hw9] at HR1 ⊢
                      clear hw9
                      go_loopw [35] (fun i wr => ∃ j : Nat, j ≤ k ∧ i = .int .i64 j ∧ Hid (Rp wq wr w3.heap.size wq.heap.size w6.heap.size (w6.heap.size + 1) k k (pV Z) (wV Z true jb) (fun i => .int .i64 (if i ∈ lq then 1 else preZ (Z.S i))) (fun i => .bool (decide (i ∈ lq))))) (fun i _ => k - (intOf i).toNat)
                      case atStart => exact ⟨0, Nat.zero_le _, rfl, HR1.out⟩
                      case round =>
                        clear HR1
                        obtain ⟨j, hj, rfl, HR⟩ := hrel
                        by_cases hjl : j < k
                        · have q : (j : Int) < (k : Int) := by omega
                          have hS2 : DD.S j = preZ (Z.S j) := by rw [HDA.out]; exact (ab_at nm thr jb Z hjl).2.1
                          have c0 : wr.cell? ⟨w6.heap.size, j, none⟩ = some (.int .i64 (if j ∈ lq then 1 else preZ (Z.S j))) := HR.out.r3.cell hjl
                          have g0 : wr.cell? ⟨w6.heap.size + 1, j, none⟩ = some (.bool (decide (j ∈ lq))) := HR.out.r4.cell hjl
                          have a0 : wr.cell? ⟨wq.heap.size, j * 4, none⟩ = some (.int .i64 (wS Z true jb j)) := row4_cell HR.out.r2 hjl (f := 0) (by omega)
                          have a1 : wr.cell? ⟨wq.heap.size, j * 4 + 1, none⟩ = some (.int .i64 (wL Z true jb j)) := row4_cell HR.out.r2 hjl (f := 1) (by omega)
                          have a2 : wr.cell? ⟨wq.heap.size, j * 4 + 2, none⟩ = some (.int .i64 (Z.Tr j)) := row4_cell HR.out.r2 hjl (f := 2) (by omega)
                          have a3 : wr.cell? ⟨wq.heap.size, j * 4 + 3, none⟩ = some (.string (Z.Wk j)) := row4_cell HR.out.r2 hjl (f := 3) (by omega)
                          have b1 : wr.cell? ⟨w3.heap.size, j * 4 + 1, none⟩ = some (.int .i64 (Z.L j)) := row4_cell HR.out.r1 hjl (f := 1) (by omega)
                          have b2 : wr.cell? ⟨w3.heap.size, j * 4 + 2, none⟩ = some (.int .i64 (Z.Tr j)) := row4_cell HR.out.r1 hjl (f := 2) (by omega)
                          have b3 : wr.cell? ⟨w3.heap.size, j * 4 + 3, none⟩ = some (.string (Z.Wk j)) := row4_cell HR.out.r1 hjl (f := 3) (by omega)
                          cases hr : reqB jb (preZ (Z.S j)) with
                          | true =>
                            have hm : j ∈ lq := by rw [HLQ.out]; exact mem_rqs.2 ⟨hjl, by rw [hS2]; exact hr⟩
                            have e1 : wS Z true jb j = 1 := by simp [wS, hr]
                            rw [if_pos hm] at c0
                            rw [decide_eq_true hm] at g0
                            rw [e1] at a0
                            obtain ⟨xt, hxt⟩ : ∃ xt, xt = Z.Tr j := ⟨_, rfl⟩
                            obtain ⟨xw, hxw⟩ : ∃ xw, xw = Z.Wk j := ⟨_, rfl⟩
                            rw [← hxt] at a2 b2
                            rw [← hxw] at a3 b3
                            have d2 : (xt != xt) = false := by simp
                            clear e1 hxt hxw hm hr hS2
                            go_wp2_with fail
                            go_quiet (fail)
                            go_wp2_with fail
                            go_quiet (fail)
                            go_wp2_with fail
                            go_roundw
                            case rel => exact ⟨j + 1, by omega, by go_num, HR.out.keep ⟨rfl, rfl, rfl, Nat.le_refl _, fun _ _ _ => rfl⟩⟩
                            case measure => simp [intOf]; omega
                          | false =>
                            have hm : j ∉ lq := fun hm => by rw [HLQ.out] at hm; have := (mem_rqs.1 hm).2; rw [hS2, hr] at this; cases this
                            have e1 : wS Z true jb j = preZ (Z.S j) := by simp [wS, hr]
                            have e2 : wL Z true jb j = Z.L j := by simp [wL, hr]
                            rw [if_neg hm] at c0
                            rw [decide_eq_false hm] at g0
                            rw [e1] at a0
                            rw [e2] at a1
                            obtain ⟨px, hpx⟩ : ∃ px, px = preZ (Z.S j) := ⟨_, rfl⟩
                            obtain ⟨xl, hxl⟩ : ∃ xl, xl = Z.L j := ⟨_, rfl⟩
                            obtain ⟨xt, hxt⟩ : ∃ xt, xt = Z.Tr j := ⟨_, rfl⟩
                            obtain ⟨xw, hxw⟩ : ∃ xw, xw = Z.Wk j := ⟨_, rfl⟩
                            rw [← hpx] at c0 a0
                            rw [← hxl] at a1 b1
                            rw [← hxt] at a2 b2
                            rw [← hxw] at a3 b3
                            have d0 : (px != px) = false := by simp
                            have d1 : (xl != xl) = false := by simp
                            have d2 : (xt != xt) = false := by simp
                            clear e1 e2 hpx hxl hxt hxw hm hr hS2
                            go_wp2_with fail
                            go_quiet (fail)
                            go_wp2_with fail
                            go_quiet (fail)
                            go_wp2_with fail
                            go_roundw
                            case rel => exact ⟨j + 1, by omega, by go_num, HR.out.keep ⟨rfl, rfl, rfl, Nat.le_refl _, fun _ _ _ => rfl⟩⟩
                            case measure => simp [intOf]; omega
                        · go_wp2_with fail
                          go_ret
                          exact ⟨rfl, HKQ.out.trans HR.out.k (fun _ _ h => h)⟩
end Go.Proofs.Qxb6614022a
