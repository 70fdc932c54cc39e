/-
  engine.Resume, all tries cut off.
-/
import Derived.Test.Qxb6614022aReg
namespace Go.Proofs.Qxb6614022a
open Go.RowKit
set_option linter.unusedVariables false
set_option linter.unusedSimpArgs false


attribute [local go_sem] eql65

set_option maxRecDepth 100000 in
set_option maxHeartbeats 4000000 in
theorem resume_any (DB QB SB n ns cs nf cf : Nat) (tq so fo : Option Addr) (A : RA) (st : Int) (S L Tr : Nat → Int) (Wk : Nat → ByteArray) (XF : Nat → Int) (w : World)
    (hD : DefAt w DB QB n tq A) (hS : StAt w SB n ns so S L Tr Wk) (hF : IntsAt w fo nf XF) (hf : nf ≤ 1048576) (hfn : fo = none → nf = 0 ∧ cf = 0) (hn : n ≤ 65536) :
    Calls Try.prog 12 #[.pointer (some ⟨DB, 0, none⟩), .agg #[.int .i64 st, .slice so ns cs, .slice fo nf cf], .nilFunc] w fun e w' => ResPost w n (DK A st S L Tr Wk n) e w' := by
  obtain ⟨w0, hw0⟩ : ∃ w0, w0 = w.alloc (.cells #[.int .i64 st, .slice so ns cs, .slice fo nf cf] 32) := ⟨_, rfl⟩
  have k0 : Keep w w0 (fun _ => False) := by rw [hw0]; exact Keep.alloc _ _ _
  have HD : Hid (DefAt w0 DB QB n tq A) := hD.keep k0
  have HS : Hid (StAt w0 SB n ns so S L Tr Wk) := hS.keep k0
  have HF : Hid (IntsAt w0 fo nf XF) := hF.keep k0
  have HK0 : Hid (Keep w w0 (fun _ => False)) := k0
  have HFN : Hid (fo = none → nf = 0 ∧ cf = 0) := hfn
  have hb := heap_alloc_new w (.cells #[.int .i64 st, .slice so ns cs, .slice fo nf cf] 32)
  rw [← hw0] at hb
  have b0 : w0.cell? ⟨w.heap.size, 0, none⟩ = some (.int .i64 st) := by rw [cell_of_row _ _ _ _ _ _ hb]; rfl
  have b1 : w0.cell? ⟨w.heap.size, 1, none⟩ = some (.slice so ns cs) := by rw [cell_of_row _ _ _ _ _ _ hb]; rfl
  have b2 : w0.cell? ⟨w.heap.size, 2, none⟩ = some (.slice fo nf cf) := by rw [cell_of_row _ _ _ _ _ _ hb]; rfl
  have hd := HD.out.d
  have d0 : w0.cell? ⟨DB, 0, none⟩ = some (.string A.nm) := by rw [cell_of_row _ _ _ _ _ _ hd]; rfl
  have d1 : w0.cell? ⟨DB, 1, none⟩ = some (.int .i64 A.thr) := by rw [cell_of_row _ _ _ _ _ _ hd]; rfl
  have d2 : w0.cell? ⟨DB, 2, none⟩ = some (.slice tq n n) := by rw [cell_of_row _ _ _ _ _ _ hd]; rfl
  have hmk := make71 n (by omega)
  obtain ⟨i3, hi3, hz30, hz31, hz32⟩ := info_parts info3
  obtain ⟨i4, hi4, hz40, hz41, hz42⟩ := info_parts info46
  clear hD hS hF hfn k0 hd hb
  go_enter Try.func12, Try.ntmps12
  go_upto_region 1 with fail
  rw [← hw0]
  clear hw0
  go_cut [8] (fun v8 wx => ∃ JB TB o4 l4 c4, v8 = .pointer (some ⟨JB, 0, none⟩) ∧ Hid (Made w0 wx JB TB n A.nm A.thr st (.slice o4 l4 c4)))
  case first =>
    go_region_held3 (fun w' => w'.cell? ⟨w.heap.size, 0, none⟩ = some (.int .i64 st) ∧ w'.cell? ⟨w.heap.size, 2, none⟩ = some (.slice fo nf cf) ∧ w'.cell? ⟨DB, 0, none⟩ = some (.string A.nm) ∧ w'.cell? ⟨DB, 1, none⟩ = some (.int .i64 A.thr) ∧ w'.cell? ⟨DB, 2, none⟩ = some (.slice tq n n))
      (first | go_keep | exact ⟨s0, s2, e0, e1, e2⟩ | exact ⟨cell_al _ s0, cell_al _ s2, cell_al _ e0, cell_al _ e1, cell_al _ e2⟩ | exact ⟨cell_al _ b0, cell_al _ b2, cell_al _ d0, cell_al _ d1, cell_al _ d2⟩ | exact ⟨cell_al _ (cell_al _ s0), cell_al _ (cell_al _ s2), cell_al _ (cell_al _ e0), cell_al _ (cell_al _ e1), cell_al _ (cell_al _ e2)⟩)
      ((go_at_call 26; refine (clone_any fo nf cf XF _ (HF.out.keep (by first | exact (Keep.refl w0 _).same rfl rfl rfl rfl | exact (Keep.alloc w0 (.cells (madeCells z71 (n * 8)) 71) _).same rfl rfl rfl rfl)) hf HFN.out).mono ?_; rintro e w5 ⟨o4, l4, c4, rfl, hk⟩; have s0 := cell_keep (a := ⟨w.heap.size, 0, none⟩) (v := .int .i64 st) (by first | exact b0 | exact cell_al _ b0) hk; have s2 := cell_keep (a := ⟨w.heap.size, 2, none⟩) (v := .slice fo nf cf) (by first | exact b2 | exact cell_al _ b2) hk; have e0 := cell_keep (a := ⟨DB, 0, none⟩) (v := .string A.nm) (by first | exact d0 | exact cell_al _ d0) hk; have e1 := cell_keep (a := ⟨DB, 1, none⟩) (v := .int .i64 A.thr) (by first | exact d1 | exact cell_al _ d1) hk; have e2 := cell_keep (a := ⟨DB, 2, none⟩) (v := .slice tq n n) (by first | exact d2 | exact cell_al _ d2) hk))
    · go_wp2_with fail
      go_meet
      exact ⟨w5.heap.size, w0.heap.size, o4, l4, c4, rfl, made1 hk.of_drew⟩
    · go_wp2_with fail
      go_meet
      exact ⟨w5.heap.size + 1, w5.heap.size, o4, l4, c4, rfl, made2 hk.of_drew⟩
  case rest =>
    obtain ⟨JB, TB, o4, l4, c4, rfl, HM⟩ := hcut
    have HC0 : Hid (Con w0 _ JB TB n (DK A st S L Tr Wk 0) 0 (fun _ => .slice none 0 0) (fun k => k = JB ∨ k = TB)) := HM.out.con S L Tr Wk
    have d2x := cell_keep d2 HM.out.k
    have HB1 : Hid (w0.cell? ⟨w.heap.size, 1, none⟩ = some (.slice so ns cs)) := b1
    clear b0 b1 b2 d0 d1 d2 hmk HF HFN HM
    go_wp2_with fail
    clear d2x
    go_loopw [42] (fun i wr => ∃ (k : Nat) (G : Nat → Value) (F : Nat → Prop), k ≤ n ∧ i = .int .i64 k ∧ Hid (Con w0 wr JB TB n (DK A st S L Tr Wk k) (k * 65536) G F)) (fun i _ => n - (intOf i).toNat)
    case atStart => exact ⟨0, _, _, Nat.zero_le _, rfl, by rw [Nat.zero_mul]; exact HC0.out⟩
    case round =>
      clear HC0
      obtain ⟨k, G, F, hk, rfl, HC⟩ := hrel
      by_cases hlt : k < n
      · have hDw := HD.out.keep HC.out.k
        have hSw := HS.out.keep HC.out.k
        obtain ⟨q0, q1, q2, q3⟩ := hDw.t k hlt
        obtain ⟨ao, hao⟩ : ∃ ao, ao = A.Ao k := ⟨_, rfl⟩
        rw [← hao] at q2
        have HAO : Hid (IntsAt w0 ao (A.An k) (fun j => (A.AX k j : Int))) := by rw [hao]; exact HD.out.a k hlt
        clear hao
        obtain ⟨r0, r1, r2, r3⟩ := hSw.t k hlt
        have eq := hDw.o (by omega)
        subst eq
        have es := hSw.o (by omega)
        subst es
        have b1 := cell_keep HB1.out HC.out.k
        have hAl := hDw.l k hlt
        have hns := hSw.le
        have q : (k : Int) < (n : Int) := by omega
        have qs : (k : Int) < (ns : Int) := by omega
        have HDw : Hid (DefAt wr DB QB n (some ⟨QB, 0, none⟩) A) := hDw
        have t := HC.out.jb.tc hlt
        obtain ⟨_, _, _, hc, _⟩ := HC.out.jb.jc
        have c3 := hc.c3
        obtain ⟨ob, hob⟩ : ∃ ob, ob = Obj.cells #[.string (A.N k), .slice (A.Co k) (A.Cn k) (A.Cc k), .slice ao (A.An k) (A.Ac k), .int .i64 (A.R k)] 62 := ⟨_, rfl⟩
        have lT : TB < wr.heap.size := World.block_lt_of_cell? wr _ t.c0
        have lJ : JB < wr.heap.size := World.block_lt_of_cell? wr _ c3
        have neT : JB ≠ TB := HC.out.jb.ne
        have t0 := cell_al ob t.c0
        have t1 := cell_al ob t.c1
        have t2 := cell_al ob t.c2
        have t3 := cell_al ob t.c3
        have t4 := cell_al ob t.c4
        have t5 := cell_al ob t.c5
        have cc3 := cell_al ob c3
        have bb1 := cell_al ob b1
        have rr0 := cell_al ob r0
        have rr1 := cell_al ob r1
        have rr2 := cell_al ob r2
        have rr3 := cell_al ob r3
        have a0 := t.c0
        have a1 := t.c1
        have a2 := t.c2
        have a3 := t.c3
        have a4 := t.c4
        have a5 := t.c5
        have af0 := t.fz (k * 8)
        have af1 := t.fz (k * 8 + 1)
        have af2 := t.fz (k * 8 + 2)
        have af3 := t.fz (k * 8 + 3)
        have af4 := t.fz (k * 8 + 4)
        have af5 := t.fz (k * 8 + 5)
        have tf : ∀ j, (wr.alloc ob).frozen? ⟨TB, j, none⟩ = false := fun j => (World.frozen?_of_block ((World.grownBy_alloc wr ob none).block TB lT (by simp))).trans (t.fz j)
        have tf0 := tf (k * 8)
        have tf1 := tf (k * 8 + 1)
        have tf2 := tf (k * 8 + 2)
        have tf3 := tf (k * 8 + 3)
        have tf4 := tf (k * 8 + 4)
        have tf5 := tf (k * 8 + 5)
        have lD : w0.heap.size ≤ TB := (HC.out.jb.lt TB HC.out.jb.fT).1
        have lS : SB < w0.heap.size := World.block_lt_of_cell? w0 _ (HS.out.t k hlt).1
        have lB : w.heap.size < w0.heap.size := World.block_lt_of_cell? w0 _ HB1.out
        have lS2 : SB < wr.heap.size := World.block_lt_of_cell? wr _ r0
        have lB2 : w.heap.size < wr.heap.size := World.block_lt_of_cell? wr _ b1
        have n1 : TB ≠ SB := by omega
        have n2 : TB ≠ w.heap.size := by omega
        have n3 : SB ≠ TB := by omega
        have n4 : w.heap.size ≠ TB := by omega
        subst hob
        clear t hc tf hDw hSw
        go_wp2_with fail
        go_region
        go_wp2_with fail
        go_region
        go_wp2_with fail
        go_region
        go_wp2_with fail
        go_region
        go_wp2_with fail
        go_region
        go_wp2_with fail
        go_region
        go_wp2_with fail
        have HC1 : Hid (Con w0 (((((((wr.setCell ⟨TB, k * 8, none⟩ (.string (A.N k))).setCell ⟨TB, k * 8 + 2, none⟩ (.int .i64 (A.R k))).setCell ⟨TB, k * 8 + 1, none⟩ (.int .i64 (S k))).setCell ⟨TB, k * 8 + 3, none⟩ (.int .i64 (L k))).setCell ⟨TB, k * 8 + 4, none⟩ (.int .i64 (Tr k))).setCell ⟨TB, k * 8 + 5, none⟩ (.string (Wk k))).alloc (.cells #[.string (A.N k), .slice (A.Co k) (A.Cn k) (A.Cc k), .slice ao (A.An k) (A.Ac k), .int .i64 (A.R k)] 62)).drew.drew.drew.drew.drew.drew JB TB n (DK A st S L Tr Wk (k + 1)) (k * 65536) G F) :=
          (HC.out.fill hlt).keep ((Keep.alloc _ (.cells #[.string (A.N k), .slice (A.Co k) (A.Cn k) (A.Cc k), .slice ao (A.An k) (A.Ac k), .int .i64 (A.R k)] 62) _).trans (Keep.drew6 _ _) (fun _ _ h => h))
        clear t0 t1 t2 t3 t4 t5 cc3 bb1 rr0 rr1 rr2 rr3 a0 a1 a2 a3 a4 a5 af0 af1 af2 af3 af4 af5 tf0 tf1 tf2 tf3 tf4 tf5 c3 b1 r0 r1 r2 r3 q0 q1 q2 q3 lT lJ lD lS lB lS2 lB2 n1 n2 n3 n4 neT
        go_loopw [120] (fun i wr => ∃ (j : Nat) (G : Nat → Value) (F : Nat → Prop), j ≤ A.An k ∧ i = .int .i64 j ∧ Hid (Con w0 wr JB TB n (DK A st S L Tr Wk (k + 1)) (k * 65536 + j) G F)) (fun i _ => A.An k - (intOf i).toNat)
        case atStart =>
          refine ⟨0, G, F, Nat.zero_le _, rfl, ?_⟩
          exact HC1.out.le (by omega)
        case round =>
          clear HC HC1 HDw
          obtain ⟨j, G, F, hj, rfl, HC⟩ := hrel
          by_cases hjl : j < A.An k
          · obtain ⟨ad, eao, hcj⟩ := (HAO.out.keep HC.out.k) (by omega)
            subst eao
            have x1 := hcj j hjl
            obtain ⟨kk, hkke⟩ : ∃ kk, kk = A.AX k j := ⟨_, rfl⟩
            have hkk : kk < n := by rw [hkke]; exact HD.out.x k hlt j hjl
            have x1' : wr.cell? (ad.add j) = some (.int .i64 kk) := by rw [x1, hkke]
            clear x1 hcj hkke
            obtain ⟨_, _, _, hc, _⟩ := HC.out.jb.jc
            have c3 := hc.c3
            have t := HC.out.jb.tc hkk
            obtain ⟨o, l, c, xs, hG, hown, _, hxs, _⟩ := HC.out.jb.thn kk hkk
            have hlb : l ≤ k * 65536 + j := HC.out.ln kk hkk o l c hG
            have t7 := t.c7
            rw [hG] at t7 hown
            have f7 := t.fz (kk * 8 + 7)
            have lT : TB < wr.heap.size := World.block_lt_of_cell? wr _ t7
            have lJ : JB < wr.heap.size := World.block_lt_of_cell? wr _ c3
            have nT : (Value.slice o l c).ownBlock ≠ some TB := fun e => by
              obtain ⟨_, _, _, _, _, _, _, _, nf⟩ := HC.out.jb.thn kk hkk
              exact nf TB (by rw [hG]; exact e) HC.out.jb.fT
            have nJ : (Value.slice o l c).ownBlock ≠ some JB := fun e => by
              obtain ⟨_, _, _, _, _, _, _, _, nf⟩ := HC.out.jb.thn kk hkk
              exact nf JB (by rw [hG]; exact e) HC.out.jb.fJ
            have lw0 : w0.heap.size ≤ wr.heap.size := HC.out.k.size
            have hq1 : (j : Int) < (A.An k : Int) := by omega
            have hq2 : (kk : Int) < (n : Int) := by omega
            have hnn : l + 1 ≤ maxLen := by unfold maxLen; omega
            have hbb : (l + 1) * 8 ≤ 140737488355328 := by omega
            have HG : Hid (G kk = .slice o l c) := hG
            have HXS : Hid (∀ u ∈ xs, ∃ k : Nat, k < n ∧ u = .int .i64 k) := hxs
            clear hc t hG hxs
            go_wp2_with fail
            have t7a := cell_al (.cells #[.int .i64 k] 3) t7
            have hneJT : (⟨TB, kk * 8 + 7, none⟩ : Addr) ≠ ⟨JB, 3, none⟩ := fun e => HC.out.jb.ne (congrArg Addr.block e).symm
            refine region14 JB TB n kk k l w0.heap.size o c xs i3 wr hi3 hz30 hz31 hz32 c3 t7 f7 hown lT lJ nT nJ lw0 hkk hn (by omega) hneJT ?_
            intro gg cap w1 v124 v125 v126 v127 v128 v129 v130 v131 v132 v133 v134 v135 v136 v137 v138 v139 v140 v141 hown1 hgrow hat
            have hx := HC.out.app (k := k) hkk hlt HG.out HXS.out hlb (by omega) hown1 (by rw [HG.out]; exact (Keep.alloc wr (.cells #[.int .i64 k] 3) _).trans (Keep.grown hgrow).of_drew (fun _ _ h => h)) (by
              rw [HG.out]
              rcases hat with h | h
              · exact Or.inl h
              · exact Or.inr (by omega))
            have e1 : k * 65536 + (j + 1) = k * 65536 + j + 1 := by omega
            have HX : Hid (Con w0 (w1.setCell ⟨TB, kk * 8 + 7, none⟩ (.slice (some ⟨gg, 0, none⟩) (l + 1) cap)) JB TB n (DK A st S L Tr Wk (k + 1)) (k * 65536 + (j + 1)) (fun i => if i = kk then .slice (some ⟨gg, 0, none⟩) (l + 1) cap else G i) F) := by rw [e1]; exact hx
            clear hx e1 hown1 hgrow hat t7a c3 t7 f7 hown nT nJ hneJT
            go_wp2_with fail
            go_roundw
            case rel => exact ⟨j + 1, _, F, by omega, by go_num, HX⟩
            case measure => simp [intOf]; omega
          · go_wp2_with fail
            go_roundw
            case rel => exact ⟨k + 1, G, F, by omega, by go_num, HC.out.le (by omega)⟩
            case measure => simp [intOf]; omega
      · obtain rfl : k = n := by omega
        have lJ0 : w0.heap.size ≤ JB := (HC.out.jb.lt JB HC.out.jb.fJ).1
        clear HD HS HB1
        go_wp2_with fail
        refine (recount_any _ HC.out.jb hn).mono ?_
        rintro e wb ⟨rfl, FB, P1, P2⟩
        obtain ⟨D, hD⟩ : ∃ D, D = DK A st S L Tr Wk k := ⟨_, rfl⟩
        rw [← hD] at P1
        have HDD : Hid (D = DK A st S L Tr Wk k) := hD
        have HJ : Hid (Jb wb w0.heap.size JB TB k G D k FB) := P1
        have HB : Hid (∀ i, i < k → ∀ g, (G i).ownBlock = some g → g < wb.heap.size) := P1.gb
        have HKB : Hid (Keep w wb (fun _ => False)) := HK0.out.trans (HC.out.k.trans P2.1 (fun i hi e => by have := (HC.out.jb.lt i e).1; omega)) (fun _ _ h => h)
        have HLO : Hid (w.heap.size ≤ w0.heap.size) := HK0.out.size
        clear hD P1 P2 HC HK0 lJ0
        obtain ⟨_, _, _, hc, _⟩ := HJ.out.jc
        have c3 := hc.c3
        clear hc
        go_wp2_with fail
        clear c3
        go_loopw [13, 151] (fun v i wr => ∃ (j : Nat) (F' : Nat → Prop), j ≤ k ∧ i = .int .i64 j ∧ Hid (RqIn wb wr w0.heap.size JB TB k G (D.ab j) (k + j) FB F' v (act D j).length (abL D (act D j)))) (fun _ i _ => k - (intOf i).toNat)
        case atStart => exact ⟨0, FB, Nat.zero_le _, rfl, by rw [ab_zero]; exact HJ.out, Step.refl _ _, World.ownsRow_nil _ _ _ _, fun g hg => by cases hg⟩
        case round =>
          obtain ⟨j, F', hj, rfl, HR⟩ := hrel
          by_cases hjl : j < k
          · have t := HR.out.jb.tc hjl
            have hSk : (D.ab j).S j = D.S j := by simp [JD.ab]
            have t0 : wr.cell? ⟨TB, j * 8, none⟩ = some (.string (D.N j)) := t.c0
            have t1 := t.c1
            rw [hSk] at t1
            have t2 : wr.cell? ⟨TB, j * 8 + 2, none⟩ = some (.int .i64 (D.R j)) := t.c2
            have t3 : wr.cell? ⟨TB, j * 8 + 3, none⟩ = some (.int .i64 (D.L j)) := t.c3
            have t4 : wr.cell? ⟨TB, j * 8 + 4, none⟩ = some (.int .i64 (D.Tr j)) := t.c4
            have t5 : wr.cell? ⟨TB, j * 8 + 5, none⟩ = some (.string (D.Wk j)) := t.c5
            obtain ⟨z, t6⟩ := t.c6
            have t7 := t.c7
            obtain ⟨o', l, c, xs, hG, _⟩ := HR.out.jb.thn j hjl
            rw [hG] at t7
            have q : (j : Int) < (k : Int) := by omega
            obtain ⟨sj, hsj⟩ : ∃ sj, sj = D.S j := ⟨_, rfl⟩
            rw [← hsj] at t1
            have HSJ : Hid (sj = D.S j) := hsj
            have HSA : Hid ((D.ab j).S j = D.S j) := hSk
            clear hsj hSk t hG
            by_cases h2 : sj = 2
            · subst h2
              go_wp2_with fail
              refine (abandon_any j _ (HR.out.jb.keep (Keep.alloc _ _ _)) hjl hn (by omega) (HSA.out.trans HSJ.out.symm)).mono ?_
              rintro e w2 ⟨b, F2, rfl, P1, P2, P3, P4, P5⟩
              rw [ab_yes HSJ.out.symm] at P4
              have ech : chgC (D.ab j) j 1 = chgC D j 1 := by simp [chgC, JD.ab]
              rw [ech] at P1
              have HQ0 := HR.out.step P4 ((Step.of (Keep.alloc _ _ _)).trans P5)
              have HQ : Hid (RqIn wb w2 w0.heap.size JB TB k G (D.ab (j + 1)) (k + j + 1) FB F2 u13 (act D j).length (abL D (act D j))) := HQ0
              have hcnt : (act D j).length ≤ j := act_le D j
              have hbs : wb.heap.size ≤ w2.heap.size := HQ0.st.1.size
              have hP1 : Hid (w2.heap[b]? = some (.cells (chgC D j 1) 46 (0, 0))) := P1
              clear P1 P2 P3 P4 P5 HQ0 ech t0 t1 t2 t3 t4 t5 t6 t7
              obtain ⟨len, hlen⟩ : ∃ len, len = (act D j).length := ⟨_, rfl⟩
              rw [← hlen] at hcnt
              go_wp2_with (at_builtin; refine wpList_append_lies _ rfl _ _ _ rfl wb.heap.size 46 i4 _ 9 88 Try.underlying36 hi4 hz40 hz41 hz42 rfl (by omega) u13 len (abL D (act D j)) rfl (by rw [hlen]; exact HQ.out.ow) ⟨b, 0, none⟩ 1 1 (chgC D j 1).toList rfl rfl (World.news_of_block (cs := (chgC D j 1)) (t := 46) (fr := (0, 0)) hP1.out) (by simp [chgC, Value.oneCell']) (by omega) (by unfold maxLen; omega) (by omega) (by omega) w2.heap.size rfl ?_; intro gg cap w3 hown hgrow hat hlt3)
              go_roundw
              case rel =>
                refine ⟨j + 1, F2, by omega, by go_num, ?_⟩
                rw [act_yes HSJ.out.symm, List.length_append, abL, List.flatMap_append, ← abL, ← hlen]
                have := HQ.out.app (k := 1) HB.out (by rw [← hlen]; exact hown) hgrow hat
                rw [← hlen] at this
                have fin : RqIn wb w3 w0.heap.size JB TB k G (D.ab (j + 1)) (k + j + 1) FB F2 (.slice (some ⟨gg, 0, none⟩) (len + 1) cap) (len + [j].length) (abL D (act D j) ++ List.flatMap (fun i => (chgC D i 1).toList) [j]) := by simpa using this
                exact fin
              case measure => simp [intOf]; omega
            · have HN2 : Hid (D.S j ≠ 2) := by rw [← HSJ.out]; exact h2
              go_wp2_with fail
              go_roundw
              case rel =>
                refine ⟨j + 1, F', by omega, by go_num, ?_⟩
                rw [ab_no HN2.out, act_no HN2.out]
                suffices h3 : RqIn wb _ w0.heap.size JB TB k G (D.ab j) (k + j) FB F' u13 (act D j).length (abL D (act D j)) from ⟨h3.jb.le (by omega), h3.st, h3.ow, h3.nf⟩
                exact HR.out.step (HR.out.jb.keep (Keep.alloc _ _ _)) (Step.of (Keep.alloc _ _ _))
              case measure => simp [intOf]; omega
          · go_wp2_with fail
            obtain rfl : j = k := by omega
            refine bodyPost_ret (by simp [results, Try.results12, go_sem]; try rfl) rfl ?_
            have h4 := HR.out
            have h5 := h4.jb
            rw [HDD.out] at h4 h5
            exact ⟨w0.heap.size, wb.heap.size, JB, TB, G, F', u13, rfl, h5, HKB.out.trans h4.st.1 (fun i hi e => by have := (HJ.out.lt i e).1; have := HLO.out; omega), HLO.out, h4.ow⟩
end Go.Proofs.Qxb6614022a
