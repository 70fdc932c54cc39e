/-
  The law on what a resume keeps and abandons.
-/
import Derived.Test.Qxb6614022aRec
import Derived.Test.Qxb6614022aRes
import Derived.Test.Qxb6614022aBy8
import Derived.BigQuiet
namespace Go.Proofs.Qxb6614022a
open Go.RowKit
set_option linter.unusedVariables false
set_option linter.unusedSimpArgs false

set_option maxRecDepth 100000 in
set_option maxHeartbeats 4000000 in
theorem law3 (nm : ByteArray) (thr jb : Int) (tq so fo : Option Addr) (nt ct ns cs nf cf : Nat) (Z : ZA) (w : World) (h : ZAt w tq so fo nt ns nf Z) (hnm : nm.size ≤ maxLen)
    (ht : tq = none → nt = 0 ∧ ct = 0) (hs : so = none → ns = 0 ∧ cs = 0) (hf : fo = none → nf = 0 ∧ cf = 0) :
    Calls Try.prog 3 #[.string nm, .int .i64 thr, .slice tq nt ct, .int .i64 jb, .slice so ns cs, .slice fo nf cf] w fun e w' => LawPost w e w' := by
  have HZ : Hid (ZAt w tq so fo nt ns nf Z) := h
  have HT : Hid (tq = none → nt = 0 ∧ ct = 0) := ht
  have HSN : Hid (so = none → ns = 0 ∧ cs = 0) := hs
  have HFN : Hid (fo = none → nf = 0 ∧ cf = 0) := hf
  clear h ht hs hf
  go_enter Try.func3, Try.ntmps3
  go_wp2_with fail
  refine (bytes8_any nm thr jb tq so fo nt ct ns cs nf cf Z w HZ.out hnm).mono ?_
  rintro e w1 ⟨b, rfl, hw1⟩
  rw [hw1]
  clear hw1 w1
  cases b with
  | false =>
    go_wp2_with fail
    go_ret
    exact ⟨rfl, Keep.refl _ _⟩
  | true =>
  go_wp2_with fail
  refine (fits_any nm tq so fo nt ct ns cs nf cf Z w HZ.out hnm).mono ?_
  rintro e w1 ⟨b, rfl, K1, B1⟩
  have HK1 : Hid (Keep w w1 (fun _ => False)) := K1
  clear K1
  cases b with
  | false =>
    go_wp2_with fail
    go_ret
    exact ⟨rfl, HK1.out⟩
  | true =>
  obtain ⟨hnt, hns, hnf, hA⟩ := B1 rfl
  have HA : Hid (∀ i, i < nt → Z.An i ≤ 65536) := hA
  clear B1 hA
  go_wp2_with fail
  refine (domain_any tq so fo nt ct ns cs nf Z w1 (HZ.out.keep HK1.out)).mono ?_
  rintro e w2 ⟨b, rfl, hw2, B2⟩
  rw [hw2]
  clear hw2 w2
  cases b with
  | false =>
    go_wp2_with fail
    go_ret
    exact ⟨rfl, HK1.out⟩
  | true =>
  have HD : Hid (nt ≤ ns ∧ ∀ i, i < nt → ∀ j, j < Z.An i → 0 ≤ Z.AX i j ∧ Z.AX i j < nt) := B2 rfl
  clear B2
  have hle : nt ≤ ns := HD.out.1
  go_wp2_with fail
  refine (built_any nm thr jb tq so fo nt ct ns cs nf cf Z w1 (HZ.out.keep HK1.out) hnt hns HA.out HD.out HT.out HSN.out).mono ?_
  rintro e w2 ⟨DB, QB, SB, t2, s2, rfl, b1, b2, K2⟩
  have HDF : Hid (DefAt w2 DB QB nt t2 (toRA nm thr Z)) := b1
  have HST : Hid (StAt w2 SB nt ns s2 Z.S Z.L Z.Tr Z.Wk) := b2
  have HK2 : Hid (Keep w w2 (fun _ => False)) := HK1.out.trans K2 (fun _ _ h => h)
  clear b1 b2 K2 HK1 HA HD HT HSN
  go_wp2_with fail
  have ka : Keep w2 (w2.alloc (.cells #[.int .i64 jb, .slice s2 ns ns, .slice fo nf cf] 32)) (fun _ => False) := Keep.alloc _ _ _
  have HZ2 : Hid (ZAt (w2.alloc (.cells #[.int .i64 jb, .slice s2 ns ns, .slice fo nf cf] 32)) tq so fo nt ns nf Z) := (HZ.out.keep HK2.out).keep ka
  refine (resume_any DB QB SB nt ns ns nf cf t2 s2 fo (toRA nm thr Z) jb Z.S Z.L Z.Tr Z.Wk Z.XF _ (HDF.out.keep ka) (HST.out.keep ka) HZ2.out.f (by omega) HFN.out hnt).mono ?_
  rintro e w3 ⟨lo, lo2, JB, TB, G, F, v, rfl, J1, K3, hlo, ow⟩
  have HK3 : Hid (Keep w w3 (fun _ => False)) := (HK2.out.trans ka (fun _ _ h => h)).trans K3 (fun _ _ h => h)
  have HDF3 : Hid (DefAt w3 DB QB nt t2 (toRA nm thr Z)) := (HDF.out.keep ka).keep K3
  obtain ⟨D, hD⟩ : ∃ D, D = DK (toRA nm thr Z) jb Z.S Z.L Z.Tr Z.Wk nt := ⟨_, rfl⟩
  rw [← hD] at J1 ow
  have HDD : Hid (D = DK (toRA nm thr Z) jb Z.S Z.L Z.Tr Z.Wk nt) := hD
  have HJ : Hid (Jb w3 lo JB TB nt G (D.ab nt) (nt + nt) F) := J1
  obtain ⟨vo, vl, vc, rfl, hvl⟩ : ∃ o l c, v = .slice o l c ∧ l = (act D nt).length := by
    rcases ow.2 with ⟨h, h0⟩ | ⟨g, cap, cur, h, _⟩
    · exact ⟨_, _, _, h, h0.symm⟩
    · exact ⟨_, _, _, h, rfl⟩
  have HVL : Hid (vl = (act D nt).length) := hvl
  have HOW : Hid (w3.ownsRow lo2 46 9 (.slice vo vl vc) (act D nt).length (abL D (act D nt))) := ow
  have hm := make44 nt (by omega)
  clear hD J1 K3 hlo ow HDF HST HK2 ka HZ2 hvl
  go_wp2_with fail
  have HS0 : Hid (Sav w3 (w3.alloc (.cells (madeCells z44c (nt * 4)) 44)) w3.heap.size nt 0 (pV Z)) := Sav.start w3 nt (pV Z)
  clear hm
  go_loopw [19, 20] (fun a i wr => ∃ k : Nat, k ≤ nt ∧ i = .int .i64 k ∧ a = .int .i64 (act D k).length ∧ Hid (Sav w3 wr w3.heap.size nt k (pV Z))) (fun _ i _ => nt - (intOf i).toNat)
  case atStart => exact ⟨0, Nat.zero_le _, rfl, rfl, HS0.out⟩
  case round =>
    clear HS0
    obtain ⟨k, hk, rfl, rfl, HS⟩ := hrel
    by_cases hlt : k < nt
    · obtain ⟨sa, esa, hcs⟩ := ((HZ.out.keep HK3.out).keep HS.out.k).s (by omega)
      subst esa
      obtain ⟨x0, x1, x2, x3⟩ := hcs k (by omega)
      have q : (k : Int) < (nt : Int) := by omega
      have qs : (k : Int) < (ns : Int) := by omega
      have hlen : (act D k).length ≤ k := act_le D k
      have HS2 : Hid (D.S k = Z.S k) := by rw [HDD.out]; exact (DK_at _ _ _ _ _ _ hlt).2.1
      obtain ⟨⟨o0, y0⟩, ⟨o1, y1⟩, ⟨o2, y2⟩, ⟨o3, y3⟩, f0, f1, f2, f3⟩ := HS.out.cells hlt
      have HS6 : Hid (Sav w3 ((((wr.setCell ⟨w3.heap.size, k * 4, none⟩ (.int .i64 (preZ (Z.S k)))).setCell ⟨w3.heap.size, k * 4 + 1, none⟩ (.int .i64 (Z.L k))).setCell ⟨w3.heap.size, k * 4 + 2, none⟩ (.int .i64 (Z.Tr k))).setCell ⟨w3.heap.size, k * 4 + 3, none⟩ (.string (Z.Wk k))) w3.heap.size nt (k + 1) (pV Z)) := HS.out.put hlt
      obtain ⟨sa2, esa2, hcs2⟩ := ((HZ.out.keep HK3.out).keep HS6.out.k).s (by omega)
      cases esa2
      obtain ⟨z0, z1, z2, z3⟩ := hcs2 k (by omega)
      generalize hst : Z.S k = x at *
      generalize hlt2 : Z.L k = xl at *
      generalize htr : Z.Tr k = xt at *
      generalize hwk : Z.Wk k = xw at *
      have HX : Hid (Z.S k = x) := hst
      obtain ⟨len, hl⟩ : ∃ len, len = (act D k).length := ⟨_, rfl⟩
      rw [← hl] at hlen ⊢
      have HL : Hid (len = (act D k).length) := hl
      obtain ⟨px, hpx⟩ : ∃ px, px = preZ x := ⟨_, rfl⟩
      rw [← hpx] at HS6 z0 z1 z2 z3
      have HPX : Hid (px = preZ x) := hpx
      clear hcs hcs2 hst hlt2 htr hwk hl hpx
      go_wp2_with fail
      go_region_held3 (fun w' => w'.cell? (sa.add (k * 4)) = some (.int .i64 x) ∧ w'.cell? ⟨(sa.add (k * 4)).block, (sa.add (k * 4)).off + 1, none⟩ = some (.int .i64 xl) ∧ w'.cell? ⟨(sa.add (k * 4)).block, (sa.add (k * 4)).off + 2, none⟩ = some (.int .i64 xt) ∧ w'.cell? ⟨(sa.add (k * 4)).block, (sa.add (k * 4)).off + 3, none⟩ = some (.string xw))
        (first | exact ⟨x0, x1, x2, x3⟩ | exact ⟨z0, z1, z2, z3⟩ | go_keep)
        ((go_at_call 13; refine (zzpre_any x _).mono ?_; rintro e w5 ⟨rfl, rfl⟩; rw [← HPX.out]))
      by_cases h2 : x = 2
      · go_wp2_with fail
        go_roundw
        case rel =>
          refine ⟨k + 1, by omega, by go_num, ?_, HS6.out.keep ⟨rfl, rfl, rfl, Nat.le_refl _, fun _ _ _ => rfl⟩⟩
          rw [act_yes (by rw [HS2.out]; exact h2), List.length_append, ← HL.out]
          go_num
        case measure => simp [intOf]; omega
      · go_wp2_with fail
        go_roundw
        case rel =>
          refine ⟨k + 1, by omega, by go_num, ?_, HS6.out.keep ⟨rfl, rfl, rfl, Nat.le_refl _, fun _ _ _ => rfl⟩⟩
          rw [act_no (by rw [HS2.out]; exact h2), ← HL.out]
        case measure => simp [intOf]; omega
    · obtain rfl : k = nt := by omega
      rw [← HVL.out]
      go_wp2_with fail
      obtain ⟨w4, hw4⟩ : ∃ w4, w4 = wr := ⟨_, rfl⟩
      rw [← hw4] at HS ⊢
      clear hw4
      have HK4 : Hid (Keep w w4 (fun _ => False)) := HK3.out.trans HS.out.k (fun _ _ h => h)
      have HOW4 : Hid (w4.ownsRow lo2 46 9 (.slice vo vl vc) (act D k).length (abL D (act D k))) := own9_kept HOW.out HS.out.k (fun _ _ h => h)
      clear HVL HOW
      go_loopw [21, 22] (fun c i wr => ∃ j : Nat, j ≤ k ∧ i = .int .i64 j ∧ c = .int .i64 (act D j).length ∧ Hid (Keep w4 wr (fun _ => False))) (fun _ i _ => k - (intOf i).toNat)
      case atStart => exact ⟨0, Nat.zero_le _, rfl, rfl, Keep.refl _ _⟩
      case round =>
        obtain ⟨j, hj, rfl, rfl, HR⟩ := hrel
        by_cases hjl : j < k
        · have hZr := (HZ.out.keep HK4.out).keep HR.out
          obtain ⟨sa, esa, hcs⟩ := hZr.s (by omega)
          obtain ⟨ta, eta, hct⟩ := hZr.t (by omega)
          subst esa
          subst eta
          obtain ⟨x0, x1, x2, x3⟩ := hcs j (by omega)
          obtain ⟨t0, _⟩ := hct j (by omega)
          have q : (j : Int) < (k : Int) := by omega
          have qs : (j : Int) < (ns : Int) := by omega
          have hlen : (act D j).length ≤ j := act_le D j
          have hat := DK_at (toRA nm thr Z) jb Z.S Z.L Z.Tr Z.Wk hjl
          rw [← HDD.out] at hat
          obtain ⟨hN, hS2, _, hL, hTr, hWk⟩ := hat
          have HS2 : Hid (D.S j = Z.S j) := hS2
          by_cases h2 : Z.S j = 2
          · obtain ⟨hcl, g, eg, hcc⟩ := ch_at (own9_kept HOW4.out HR.out (fun _ _ h => h)) hjl (hS2.trans h2)
            subst eg
            have c0 : wr.cell? ⟨g, (act D j).length * 9, none⟩ = some (.int .i64 j) := hcc 0 _ rfl
            have c1 : wr.cell? ⟨g, (act D j).length * 9 + 1, none⟩ = some (.string (Z.N j)) := (hcc 1 _ rfl).trans (by rw [hN]; rfl)
            have c2 : wr.cell? ⟨g, (act D j).length * 9 + 2, none⟩ = some (.int .i64 2) := (hcc 2 _ rfl).trans (by rw [hS2, h2])
            have c3 : wr.cell? ⟨g, (act D j).length * 9 + 3, none⟩ = some (.int .i64 1) := hcc 3 _ rfl
            have c4 : wr.cell? ⟨g, (act D j).length * 9 + 4, none⟩ = some (.int .i64 (Z.L j)) := (hcc 4 _ rfl).trans (by rw [hL])
            have c5 : wr.cell? ⟨g, (act D j).length * 9 + 5, none⟩ = some (.int .i64 (Z.Tr j)) := (hcc 5 _ rfl).trans (by rw [hTr])
            have c6 : wr.cell? ⟨g, (act D j).length * 9 + 6, none⟩ = some (.string (Z.Wk j)) := (hcc 6 _ rfl).trans (by rw [hWk])
            have c7 : wr.cell? ⟨g, (act D j).length * 9 + 7, none⟩ = some (.int .i64 0) := hcc 7 _ rfl
            have c8 : wr.cell? ⟨g, (act D j).length * 9 + 8, none⟩ = some (.int .i64 0) := hcc 8 _ rfl
            rw [h2] at x0
            have HH2 : Hid (Z.S j = 2) := h2
            obtain ⟨len, hl⟩ : ∃ len, len = (act D j).length := ⟨_, rfl⟩
            rw [← hl] at hlen hcl c0 c1 c2 c3 c4 c5 c6 c7 c8 ⊢
            have HL : Hid (len = (act D j).length) := hl
            have qc : (len : Int) < (vl : Int) := by omega
            generalize Z.N j = xn at *
            generalize Z.L j = xl at *
            generalize Z.Tr j = xt at *
            generalize Z.Wk j = xw at *
            clear hcs hct hZr h2 hl hcc hS2 hN hL hTr hWk
            go_wp2_with fail
            go_quiet (fail)
            go_wp2_with fail
            go_roundw
            case rel =>
              refine ⟨j + 1, by omega, by go_num, ?_, HR.out.trans ⟨rfl, rfl, rfl, Nat.le_refl _, fun _ _ _ => rfl⟩ (fun _ _ h => h)⟩
              rw [act_yes (HS2.out.trans HH2.out), List.length_append, ← HL.out]
              go_num
            case measure => simp [intOf]; omega
          · have HN2 : Hid (D.S j ≠ 2) := by rw [hS2]; exact h2
            generalize Z.S j = x at *
            clear hcs hct hZr hS2 hN hL hTr hWk
            go_wp2_with fail
            go_roundw
            case rel => exact ⟨j + 1, by omega, by go_num, by rw [act_no HN2.out], HR.out⟩
            case measure => simp [intOf]; omega
        · obtain rfl : j = k := by omega
          have HR1 := reads_any w3.heap.size j (some ⟨w3.heap.size, 0, none⟩) wr (HJ.out.keep (HS.out.k.trans HR.out (fun _ _ h => h))) hnt (fun _ => rfl) (fun i hi => by
            obtain ⟨_, a2, _, a4, a5, a6⟩ := ab_at nm thr jb Z hi
            rw [HDD.out, a2, a4, a5, a6]
            exact (HS.out.keep HR.out).at hi)
          have HST : (D.ab j).st = jb := by rw [HDD.out]; rfl
          rw [HST] at HR1
          have HR2 : Hid (Calls Try.prog 14 #[.pointer (some ⟨JB, 0, none⟩), .int .i64 jb, .slice (some ⟨w3.heap.size, 0, none⟩) j j] wr fun e w' => ReadsPost wr e w') := HR1
          clear HR1 HST
          go_wp2_with fail
          refine HR2.out.mono ?_
          rintro e w9 ⟨rfl, K9⟩
          have HK9 : Hid (Keep w w9 (fun _ => False)) := (HK4.out.trans HR.out (fun _ _ h => h)).trans K9 (fun _ _ h => h)
          clear K9
          go_wp2_with fail
          go_ret
          exact ⟨rfl, HK9.out⟩
end Go.Proofs.Qxb6614022a
