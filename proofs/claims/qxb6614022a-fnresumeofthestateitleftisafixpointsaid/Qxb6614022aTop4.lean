/-
  The law on the state that a resume leaves.
-/
import Derived.Test.Qxb6614022aSav
import Derived.Test.Qxb6614022aRes
import Derived.Test.Qxb6614022aBy15
import Derived.BigQuiet
namespace Go.Proofs.Qxb6614022a
open Go.RowKit
set_option linter.unusedVariables false
set_option linter.unusedSimpArgs false

set_option maxRecDepth 100000 in
set_option maxHeartbeats 4000000 in
theorem law4 (nm : ByteArray) (thr jb : Int) (tq so fo : Option Addr) (nt ct ns cs nf cf : Nat) (Z : ZA) (w : World) (h : ZAt w tq so fo nt ns nf Z) (hnm : nm.size ≤ maxLen)
    (ht : tq = none → nt = 0 ∧ ct = 0) (hs : so = none → ns = 0 ∧ cs = 0) (hf : fo = none → nf = 0 ∧ cf = 0) :
    Calls Try.prog 4 #[.string nm, .int .i64 thr, .slice tq nt ct, .int .i64 jb, .slice so ns cs, .slice fo nf cf] w fun e w' => LawPost w e w' := by
  have HZ : Hid (ZAt w tq so fo nt ns nf Z) := h
  have HT : Hid (tq = none → nt = 0 ∧ ct = 0) := ht
  have HSN : Hid (so = none → ns = 0 ∧ cs = 0) := hs
  have HFN : Hid (fo = none → nf = 0 ∧ cf = 0) := hf
  clear h ht hs hf
  go_enter Try.func4, Try.ntmps4
  go_wp2_with fail
  refine (bytes15_any nm thr jb tq so fo nt ct ns cs nf cf Z w HZ.out hnm).mono ?_
  rintro e w1 ⟨b, rfl, hw1⟩
  rw [hw1]
  clear hw1 w1
  cases b with
  | false =>
    go_wp2_with fail
    go_ret
    exact ⟨rfl, Keep.refl _ _⟩
  | true =>
  go_wp2_with fail
  refine (fits_any nm tq so fo nt ct ns cs nf cf Z w HZ.out hnm).mono ?_
  rintro e w1 ⟨b, rfl, K1, B1⟩
  have HK1 : Hid (Keep w w1 (fun _ => False)) := K1
  clear K1
  cases b with
  | false =>
    go_wp2_with fail
    go_ret
    exact ⟨rfl, HK1.out⟩
  | true =>
  obtain ⟨hnt, hns, hnf, hA⟩ := B1 rfl
  have HA : Hid (∀ i, i < nt → Z.An i ≤ 65536) := hA
  clear B1 hA
  go_wp2_with fail
  refine (domain_any tq so fo nt ct ns cs nf Z w1 (HZ.out.keep HK1.out)).mono ?_
  rintro e w2 ⟨b, rfl, hw2, B2⟩
  rw [hw2]
  clear hw2 w2
  cases b with
  | false =>
    go_wp2_with fail
    go_ret
    exact ⟨rfl, HK1.out⟩
  | true =>
  have HD : Hid (nt ≤ ns ∧ ∀ i, i < nt → ∀ j, j < Z.An i → 0 ≤ Z.AX i j ∧ Z.AX i j < nt) := B2 rfl
  clear B2
  have hle : nt ≤ ns := HD.out.1
  go_wp2_with fail
  refine (built_any nm thr jb tq so fo nt ct ns cs nf cf Z w1 (HZ.out.keep HK1.out) hnt hns HA.out HD.out HT.out HSN.out).mono ?_
  rintro e w2 ⟨DB, QB, SB, t2, s2, rfl, b1, b2, K2⟩
  have HDF : Hid (DefAt w2 DB QB nt t2 (toRA nm thr Z)) := b1
  have HST : Hid (StAt w2 SB nt ns s2 Z.S Z.L Z.Tr Z.Wk) := b2
  have HK2 : Hid (Keep w w2 (fun _ => False)) := HK1.out.trans K2 (fun _ _ h => h)
  clear b1 b2 K2 HK1 HA HD HT HSN
  go_wp2_with fail
  have ka : Keep w2 (w2.alloc (.cells #[.int .i64 jb, .slice s2 ns ns, .slice fo nf cf] 32)) (fun _ => False) := Keep.alloc _ _ _
  have HZ2 : Hid (ZAt (w2.alloc (.cells #[.int .i64 jb, .slice s2 ns ns, .slice fo nf cf] 32)) tq so fo nt ns nf Z) := (HZ.out.keep HK2.out).keep ka
  refine (resume_any DB QB SB nt ns ns nf cf t2 s2 fo (toRA nm thr Z) jb Z.S Z.L Z.Tr Z.Wk Z.XF _ (HDF.out.keep ka) (HST.out.keep ka) HZ2.out.f (by omega) HFN.out hnt).mono ?_
  rintro e w3 ⟨lo, lo2, JB, TB, G, F, v, rfl, J1, K3, hlo, ow⟩
  have HK3 : Hid (Keep w w3 (fun _ => False)) := (HK2.out.trans ka (fun _ _ h => h)).trans K3 (fun _ _ h => h)
  have HDF3 : Hid (DefAt w3 DB QB nt t2 (toRA nm thr Z)) := (HDF.out.keep ka).keep K3
  obtain ⟨D, hD⟩ : ∃ D, D = DK (toRA nm thr Z) jb Z.S Z.L Z.Tr Z.Wk nt := ⟨_, rfl⟩
  rw [← hD] at J1 ow
  have HDD : Hid (D = DK (toRA nm thr Z) jb Z.S Z.L Z.Tr Z.Wk nt) := hD
  have HJ : Hid (Jb w3 lo JB TB nt G (D.ab nt) (nt + nt) F) := J1
  obtain ⟨vo, vl, vc, rfl, hvl⟩ : ∃ o l c, v = .slice o l c ∧ l = (act D nt).length := by
    rcases ow.2 with ⟨h, h0⟩ | ⟨g, cap, cur, h, _⟩
    · exact ⟨_, _, _, h, h0.symm⟩
    · exact ⟨_, _, _, h, rfl⟩
  have HVL : Hid (vl = (act D nt).length) := hvl
  clear hD J1 K3 hlo ow HDF HST HK2 ka HZ2 hvl
  go_wp2_with fail
  go_loopw [18, 19] (fun a i wr => ∃ k : Nat, k ≤ nt ∧ i = .int .i64 k ∧ a = .int .i64 (act D k).length ∧ Hid (wr = w3)) (fun _ i _ => nt - (intOf i).toNat)
  case atStart => exact ⟨0, Nat.zero_le _, rfl, rfl, rfl⟩
  case round =>
    obtain ⟨k, hk, rfl, rfl, HW⟩ := hrel
    by_cases hlt : k < nt
    · obtain ⟨sa, esa, hcs⟩ := (HZ.out.keep HK3.out).s (by omega)
      subst esa
      obtain ⟨x0, _⟩ := hcs k (by omega)
      rw [← HW.out] at x0
      have q : (k : Int) < (nt : Int) := by omega
      have qs : (k : Int) < (ns : Int) := by omega
      have hlen : (act D k).length ≤ k := act_le D k
      have HS2 : Hid (D.S k = Z.S k) := by rw [HDD.out]; exact (DK_at _ _ _ _ _ _ hlt).2.1
      obtain ⟨x, hx⟩ : ∃ x, x = Z.S k := ⟨_, rfl⟩
      rw [← hx] at x0
      have HX : Hid (x = Z.S k) := hx
      obtain ⟨len, hl⟩ : ∃ len, len = (act D k).length := ⟨_, rfl⟩
      rw [← hl] at hlen ⊢
      have HL : Hid (len = (act D k).length) := hl
      clear hcs hx hl
      by_cases h2 : x = 2
      · go_wp2_with fail
        go_roundw
        case rel =>
          refine ⟨k + 1, by omega, by go_num, ?_, HW.out⟩
          rw [act_yes (by rw [HS2.out, ← HX.out]; exact h2), List.length_append, ← HL.out]
          go_num
        case measure => simp [intOf]; omega
      · go_wp2_with fail
        go_roundw
        case rel =>
          refine ⟨k + 1, by omega, by go_num, ?_, HW.out⟩
          rw [act_no (by rw [HS2.out, ← HX.out]; exact h2), ← HL.out]
        case measure => simp [intOf]; omega
    · obtain rfl : k = nt := by omega
      have ew := HW.out
      subst ew
      rw [← HVL.out]
      have HST : Hid ((D.ab k).st = jb) := by rw [HDD.out]; rfl
      have hst : (jb != jb) = false := by simp
      have hm := make44 k (by omega)
      clear HVL
      go_wp2_with fail
      refine (status_any wr HJ.out).mono ?_
      rintro e w4 ⟨rfl, hw4⟩
      rw [hw4, HST.out]
      clear hw4 w4
      go_wp2_with fail
      obtain ⟨w3, hw3⟩ : ∃ w3, w3 = wr := ⟨_, rfl⟩
      rw [← hw3] at HJ HK3 HDF3 ⊢
      have HS0 : Hid (Sav w3 (w3.alloc (.cells (madeCells z44c (k * 4)) 44)) w3.heap.size k 0 (pV Z)) := Sav.start w3 k (pV Z)
      clear hw3 HW hm
      go_loopw [21] (fun i wr => ∃ j : Nat, j ≤ k ∧ i = .int .i64 j ∧ Hid (Sav w3 wr w3.heap.size k j (pV Z))) (fun i _ => k - (intOf i).toNat)
      case atStart => exact ⟨0, Nat.zero_le _, rfl, HS0.out⟩
      case round =>
        clear HS0
        obtain ⟨j, hj, rfl, HS⟩ := hrel
        by_cases hjl : j < k
        · have q : (j : Int) < (k : Int) := by omega
          have qs : (j : Int) < (ns : Int) := by omega
          go_wp2_with fail
          refine (task_any j wr (HJ.out.keep HS.out.k) hjl hnt).mono ?_
          rintro e w5 ⟨rfl, hk5⟩
          rw [HDD.out, stOf_at nm thr jb Z hjl]
          have HS5 : Hid (Sav w3 w5 w3.heap.size k j (pV Z)) := HS.out.keep hk5
          obtain ⟨⟨o0, y0⟩, ⟨o1, y1⟩, ⟨o2, y2⟩, ⟨o3, y3⟩, f0, f1, f2, f3⟩ := HS5.out.cells hjl
          have HS6 : Hid (Sav w3 ((((w5.setCell ⟨w3.heap.size, j * 4, none⟩ (.int .i64 (preZ (Z.S j)))).setCell ⟨w3.heap.size, j * 4 + 1, none⟩ (.int .i64 (Z.L j))).setCell ⟨w3.heap.size, j * 4 + 2, none⟩ (.int .i64 (Z.Tr j))).setCell ⟨w3.heap.size, j * 4 + 3, none⟩ (.string (Z.Wk j))) w3.heap.size k (j + 1) (pV Z)) := HS5.out.put hjl
          obtain ⟨sa, esa, hcs⟩ := (HZ.out.keep (HK3.out.trans HS6.out.k (fun _ _ h => h))).s (by omega)
          subst esa
          obtain ⟨_, _, x2, x3⟩ := hcs j (by omega)
          have hd2 : (Z.Tr j != Z.Tr j) = false := by simp
          clear hk5 hcs
          go_wp2_with fail
          go_quiet (fail)
          go_wp2_with fail
          go_roundw
          case rel => exact ⟨j + 1, by omega, by go_num, HS6.out.keep ⟨rfl, rfl, rfl, Nat.le_refl _, fun _ _ _ => rfl⟩⟩
          case measure => simp [intOf]; omega
        · obtain rfl : j = k := by omega
          go_wp2_with fail
          refine (status_any wr (HJ.out.keep HS.out.k)).mono ?_
          rintro e w4 ⟨rfl, hw4⟩
          rw [hw4, HST.out]
          clear hw4 w4
          go_wp2_with fail
          have kb : Keep wr (wr.alloc (.cells #[.int .i64 jb, .slice (some ⟨w3.heap.size, 0, none⟩) j j, .slice fo nf cf] 32)) (fun _ => False) := Keep.alloc _ _ _
          have kc : Keep w3 (wr.alloc (.cells #[.int .i64 jb, .slice (some ⟨w3.heap.size, 0, none⟩) j j, .slice fo nf cf] 32)) (fun _ => False) := HS.out.k.trans kb (fun _ _ h => h)
          have st2 : StAt (wr.alloc (.cells #[.int .i64 jb, .slice (some ⟨w3.heap.size, 0, none⟩) j j, .slice fo nf cf] 32)) w3.heap.size j j (some ⟨w3.heap.size, 0, none⟩) (fun i => preZ (Z.S i)) Z.L Z.Tr Z.Wk :=
            ⟨fun _ => rfl, Nat.le_refl _, fun i hi => (HS.out.keep kb).at hi⟩
          refine (resume_any DB QB w3.heap.size j j j nf cf t2 (some ⟨w3.heap.size, 0, none⟩) fo (toRA nm thr Z) jb (fun i => preZ (Z.S i)) Z.L Z.Tr Z.Wk Z.XF _ (HDF3.out.keep kc) st2 ((HZ.out.keep HK3.out).keep kc).f (by omega) HFN.out hnt).mono ?_
          rintro e w7 ⟨lo7, lo8, JB2, TB2, G2, F2, v2, rfl, J2, K7, hlo7, ow7⟩
          obtain ⟨Z2, hZ2⟩ : ∃ Z2, Z2 = { Z with S := fun i => preZ (Z.S i) } := ⟨_, rfl⟩
          have eD : DK (toRA nm thr Z) jb (fun i => preZ (Z.S i)) Z.L Z.Tr Z.Wk j = DK (toRA nm thr Z2) jb Z2.S Z2.L Z2.Tr Z2.Wk j := by rw [hZ2]; rfl
          rw [eD] at J2 ow7
          have ea : act (DK (toRA nm thr Z2) jb Z2.S Z2.L Z2.Tr Z2.Wk j) j = [] := by
            apply List.filter_eq_nil_iff.2
            intro i hi
            have hij : i < j := List.mem_range.1 hi
            rw [(DK_at _ _ _ _ _ _ hij).2.1, hZ2]
            simp only [preZ]
            split <;> simp <;> omega
          rw [ea] at ow7
          obtain ⟨vo7, vc7, rfl⟩ : ∃ o c, v2 = .slice o 0 c := by
            rcases ow7.2 with ⟨h, h0⟩ | ⟨g, cap, cur, h, _⟩
            · exact ⟨_, _, h⟩
            · exact ⟨_, _, h⟩
          have HK7 : Hid (Keep w w7 (fun _ => False)) := (HK3.out.trans kc (fun _ _ h => h)).trans K7 (fun _ _ h => h)
          have HJ7 : Hid (Jb w7 lo JB TB j G (D.ab j) (j + j) F) := (HJ.out.keep kc).keep K7
          have HS7 : Hid (Sav w3 w7 w3.heap.size j j (pV Z)) := (HS.out.keep kb).keep K7
          have HR := reads_any w3.heap.size j (some ⟨w3.heap.size, 0, none⟩) w7 J2 hnt (fun _ => rfl) (fun i hi => by
            obtain ⟨_, a2, _, a4, a5, a6⟩ := ab_at nm thr jb Z2 hi
            rw [a2, a4, a5, a6, hZ2, preZ_idem]
            exact HS7.out.at hi)
          have HR2 : Hid (Calls Try.prog 14 #[.pointer (some ⟨JB2, 0, none⟩), .int .i64 jb, .slice (some ⟨w3.heap.size, 0, none⟩) j j] w7 fun e w' => ReadsPost w7 e w') := HR
          clear HR J2 K7 ow7 kb kc st2 ea eD hZ2 hlo7
          go_wp2_with fail
          refine (status_any w7 HJ7.out).mono ?_
          rintro e w4 ⟨rfl, hw4⟩
          rw [hw4, HST.out]
          clear hw4 w4
          go_wp2_with fail
          refine HR2.out.mono ?_
          rintro e w9 ⟨rfl, K9⟩
          have HK9 : Hid (Keep w w9 (fun _ => False)) := HK7.out.trans K9 (fun _ _ h => h)
          clear K9
          go_wp2_with fail
          go_ret
          exact ⟨rfl, HK9.out⟩
end Go.Proofs.Qxb6614022a
