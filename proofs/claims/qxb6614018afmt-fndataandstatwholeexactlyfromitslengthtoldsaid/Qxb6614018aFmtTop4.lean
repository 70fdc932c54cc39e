/-
  The walk of FnDataAndStatWholeExactlyFromItsLength.
-/
import Derived.Test.Qxb6614018aFmtTop3
namespace Go.Proofs.Qxb6614018aFmt
open Go.RowKit Go.Stop
set_option linter.unusedVariables false
set_option linter.unusedSimpArgs false

attribute [local go_sem] eql22 neq22

theorem need_app (P T : List Int) (h : 4 ≤ P.length) : needB (P ++ T) = needB P ∧ needN (P ++ T) = needN P := by
  have e : rd32 (some (P ++ T)) = rd32 (some P) := rd32_app P T h
  have h1 : needB (P ++ T) = needB P := by
    unfold needB
    rw [e]
    simp only [List.length_append, show (4 ≤ P.length + T.length) = True from by simp; omega, h]
  exact ⟨h1, by unfold needN; rw [e, h1]⟩

theorem cut_none (A : List Int) (k : Nat) (hk : k ≤ A.length) (h : nx 68 (bufS (some (A.take k))) = none) :
    needB A = false ∨ (needB A = true ∧ (k : Int) < needN A) := by
  have hl : (A.take k).length = k := by rw [List.length_take]; omega
  by_cases h4 : 4 ≤ k
  · have e := need_app (A.take k) (A.drop k) (by omega)
    rw [List.take_append_drop] at e
    rcases reply_cases (A.take k) with ⟨_, h1 | ⟨h1, h2⟩⟩ | ⟨_, _, lr, hx, _⟩
    · exact Or.inl (e.1.trans h1)
    · exact Or.inr ⟨e.1.trans h1, by rw [e.2]; rw [hl] at h2; exact h2⟩
    · rw [h] at hx; cases hx
  · cases hB : needB A with
    | false => exact Or.inl rfl
    | true =>
      refine Or.inr ⟨rfl, ?_⟩
      unfold needN
      rw [hB]
      simp only [if_true]
      split <;> omega

theorem cut_some (A : List Int) (k : Nat) (hk : k ≤ A.length) (lr : List Int) (h : nx 68 (bufS (some (A.take k))) = some lr) :
    needB A = true ∧ needN A ≤ (k : Int) := by
  have hl : (A.take k).length = k := by rw [List.length_take]; omega
  rcases reply_cases (A.take k) with ⟨h', _⟩ | ⟨_, n, _, _, hB, hN, hle, _, _⟩
  · rw [h] at h'; cases h'
  · rw [hl] at hle
    have e := need_app (A.take k) (A.drop k) (by omega)
    rw [List.take_append_drop] at e
    exact ⟨e.1.trans hB, by rw [e.2, hN]; omega⟩

set_option maxRecDepth 100000 in
set_option maxHeartbeats 4000000 in
theorem fn4_walk (F : Interp) (ao : Option Addr) (A : List Int) (ca k : Nat) (a0 : Addr) (s0 : ByteArray) (w : World) (hF : F.answers w.tape)
    (hg : w.cell? ⟨0, 0, none⟩ = some (.iface 64 (.pointer (some a0)))) (ht : w.cell? a0 = some (.string s0))
    (hA : ArgAt w ao ca A) (sA : Small A) (hlen : A.length ≤ 1048576) (hk : k ≤ A.length) :
    Calls Tryf.prog 4 #[.slice ao A.length ca, .int .i64 k] w fun e w' => e = .returned (.bool true) ∧ Below w.heap.size w w' := by
  obtain ⟨na, HNA⟩ : ∃ n, Hid (A.length = n) := ⟨_, rfl⟩
  rw [HNA.out] at hlen hk ⊢
  have hmk1 := run_make_row' (P := Tryf.prog) 22 5 (.int .u8 0) 1 Tryf.underlying22 info5 rfl .i64 .i64 na (by omega) (by omega)
  obtain ⟨CA, HCA⟩ : ∃ C : List Value, Hid (C = A.map (Value.int .u8)) := ⟨_, rfl⟩
  have lCA : Hid (CA.length = na) := by show _ = _; rw [HCA.out, List.length_map, HNA.out]
  have oCA : Hid (∀ v ∈ CA, v.oneCell' = true) := by show ∀ _, _; rw [HCA.out]; exact one_u8 A
  have HA : Hid (ArgAt w ao ca A) := hA
  have hdec : decide (na ≤ 1048576) = true := by simpa using hlen
  clear hA
  go_enter Tryf.func4, Tryf.ntmps4
  go_upto_if 31 with (go_at_call 10; refine (bytes10_any _ _ _ _ _ (by omega)).mono ?_; rintro e w' ⟨rfl, hw'⟩; rw [hw', hdec]; clear hw' w')
  clear hdec
  go_cut [0] (fun vm wc => ∃ M0, Msg wc vm M0 A ∧ M0 < wc.heap.size ∧ Below w.heap.size w wc)
  case first =>
    rcases HA.out with ⟨h1, h2, h3⟩ | ⟨ad, h1, hA⟩
    · subst h1
      have HN0 : Hid (na = 0 ∧ A = [] ∧ ca = 0) := ⟨by have := HNA.out; rw [h2] at this; exact this.symm, h2, h3⟩
      clear hmk1 h2 h3
      go_wp2_with fail
      go_meet
      case rel =>
        obtain ⟨h1, h2, h3⟩ := HN0.out
        exact ⟨0, Or.inr ⟨by rw [h1, h3], h2⟩, World.block_lt_of_cell? w _ hg, Below.refl _ _⟩
    · subst h1
      have HAd : Hid (∀ j v, CA[j]? = some v → w.cell? (ad.add j) = some v) := by
        intro j v hj
        rw [HCA.out] at hj
        exact hA j v hj
      clear hA
      go_wp2_with (refine wpList_copy_g rfl (.tmp 35) (.tmp 36) 22 22 rfl 5 Tryf.underlying22 size5 _ _ _ _ _ _ rfl rfl w.heap.size 0 (madeCells #[.int .u8 0] na).toList 5 (heap_alloc_new w _) CA (by rw [lCA.out]; exact (Nat.min_self _).symm) (fun _ => ⟨rfl, ad, rfl, fun j v hj => cell_al _ (HAd.out j v hj)⟩) (by rw [lCA.out, Array.length_toList, size_madeCells]; omega) oCA.out ?_; intro w1 HM1 hg1)
      go_meet
      case rel =>
        have h1 := HM1.out
        rw [splice_all _ _ (by rw [lCA.out, Array.length_toList, size_madeCells]), HCA.out] at h1
        refine ⟨w.heap.size, Or.inl ⟨na, by rw [HNA.out], by rw [HNA.out]; exact Nat.le_refl _, by omega, bytes_of_row h1⟩, lt_of_heap h1, ?_⟩
        exact ((Below.refl _ w).alloc (Nat.le_refl _) _).grown hg1 (by simp) (fun k hk => by cases hk; exact Nat.le_refl _)
  case rest =>
    obtain ⟨wa, rfl⟩ : ∃ x : World, x = wc := ⟨_, rfl⟩
    obtain ⟨M0, hM, hMl, hB0⟩ := hcut
    have HM : Hid (Msg wa u0 M0 A) := hM
    clear hM hmk1
    go_upto_region 11 with fail
    go_cut [0, 6] (fun vm vp wd => wa = wd ∧ (∃ av cv, vm = .slice av na cv) ∧ Msg wa vm M0 A ∧ Msg wa vp M0 (A.take k))
    case first =>
      rcases HM.out with ⟨cap, h0, h1, h2, h3⟩ | ⟨h0, h1⟩
      · rw [HNA.out] at h0 h1
        have HB : Hid (BytesAt wa M0 0 A) := h3
        have hkc : k ≤ cap := by omega
        subst h0
        clear h3 HM
        go_wp2_with fail
        all_goals
          go_meet
          case rel =>
            have hkl : (A.take k).length = k := by rw [List.length_take]; have := HNA.out; omega
            refine ⟨rfl, ⟨_, _, rfl⟩, Or.inl ⟨cap, by rw [HNA.out], by rw [HNA.out]; exact h1, h2, HB.out⟩, Or.inl ⟨cap, by rw [hkl], by rw [hkl]; omega, h2, fun j hj => ?_⟩⟩
            rw [hkl] at hj
            have := HB.out j (by have := HNA.out; omega)
            rw [this]
            congr 2
            simp only [List.getD_eq_getElem?_getD, List.getElem?_take]
            rw [if_pos hj]
      · have hna : na = 0 := by have := HNA.out; rw [h1] at this; exact this.symm
        have hk0 : k = 0 := by omega
        have HZ : Hid (na = 0 ∧ k = 0 ∧ A = []) := ⟨hna, hk0, h1⟩
        subst h0
        have hki : (k : Int) ≤ 0 := by omega
        clear hna h1 HM
        subst hk0
        go_wp2_with fail
        all_goals
          go_meet
          case rel =>
            obtain ⟨z1, z2, z3⟩ := HZ.out
            exact ⟨rfl, ⟨none, 0, by rw [z1]⟩, Or.inr ⟨rfl, z3⟩, Or.inr ⟨rfl, by rw [z3]; rfl⟩⟩
    case rest =>
      obtain ⟨hwd, ⟨av, cv, hvm⟩, hMa, hMp⟩ := hcut
      subst hwd hvm
      obtain ⟨pv, pc, hvp, _⟩ := hMp.slice
      rw [show (A.take k).length = k from by rw [List.length_take]; have := HNA.out; omega] at hvp
      subst hvp
      have sP : Small (A.take k) := fun x hx => sA x (List.mem_of_mem_take hx)
      have hg' : wa.cell? ⟨0, 0, none⟩ = some (.iface 64 (.pointer (some a0))) := (hB0.cell (p := ⟨0, 0, none⟩) (World.block_lt_of_cell? w _ hg)).trans hg
      have ht' : wa.cell? a0 = some (.string s0) := (hB0.cell (World.block_lt_of_cell? w _ ht)).trans ht
      have hF' : F.answers wa.tape := by rw [hB0.tape]; exact hF
      clear HM HA oCA lCA HCA hg ht hF
      go_wp2_with (first | (go_at_call 7; refine (newdec_any _ _ _ _).mono ?_; rintro e w' ⟨rfl, rfl⟩))
      refine (decode_any F M0 _ (A.take k) a0 s0 wa hF' hMp hMl sP hg' ht').mono ?_
      rintro e w1 ⟨v1, ev1, st1, rfl, hA1, k1⟩
      obtain ⟨one1, _, ⟨p1, n1, c1, hv1⟩, hev1⟩ := hA1.one
      obtain ⟨x0, x1, x2, x3, x4, x5, x6, x7, x8, x9, x10, hst1⟩ := hA1.lit
      subst hv1 hst1
      have kX : w1.grownBy ((w1.alloc (.cells #[.int .i64 0, .int .i64 0, .int .i64 0, .int .i64 0, .int .i32 0, .int .i32 0, .int .i32 0, .int .i64 0, .int .i32 0, .int .i32 0, .int .i64 0] 25)).setRow w1.heap.size #[.int .i64 x0, .int .i64 x1, .int .i64 x2, .int .i64 x3, .int .i32 x4, .int .i32 x5, .int .i32 x6, .int .i64 x7, .int .i32 x8, .int .i32 x9, .int .i64 x10]) none := setRow_grown (galloc _ _ _) _ _ (Or.inl (Nat.le_refl _))
      have hS1 := setRow_heap _ w1.heap.size _ #[.int .i64 x0, .int .i64 x1, .int .i64 x2, .int .i64 x3, .int .i32 x4, .int .i32 x5, .int .i32 x6, .int .i64 x7, .int .i32 x8, .int .i32 x9, .int .i64 x10] 25 (0, 0) (heap_alloc_new w1 (.cells #[.int .i64 0, .int .i64 0, .int .i64 0, .int .i64 0, .int .i32 0, .int .i32 0, .int .i32 0, .int .i64 0, .int .i32 0, .int .i32 0, .int .i64 0] 25))
      have kk := gtrans k1 kX
      have hA1' := hA1.ofHeap (kX.block M0 (Nat.lt_of_lt_of_le hMl k1.size) (by simp))
      have hMa' := hMa.ofHeap (kk.block M0 hMl (by simp))
      have hM0' := Nat.lt_of_lt_of_le hMl kk.size
      have hWW' := hB0.grown kk hB0.size (fun k hk => by cases hk)
      have hg2' := kk.cell hg' (by simp)
      have ht2' := kk.cell ht' (by simp)
      have hF2' : F.answers ((w1.alloc (.cells #[.int .i64 0, .int .i64 0, .int .i64 0, .int .i64 0, .int .i32 0, .int .i32 0, .int .i32 0, .int .i64 0, .int .i32 0, .int .i32 0, .int .i64 0] 25)).setRow w1.heap.size #[.int .i64 x0, .int .i64 x1, .int .i64 x2, .int .i64 x3, .int .i32 x4, .int .i32 x5, .int .i32 x6, .int .i64 x7, .int .i32 x8, .int .i32 x9, .int .i64 x10]).tape := by rw [kk.tape]; exact hF'
      clear hA1 hMa hMp hMl hB0 hg' ht' hF' k1 kk kX
      go_wp2_with (first | (go_at_call 7; refine (newdec_any _ _ _ _).mono ?_; rintro e w' ⟨rfl, rfl⟩) | (refine wpList_store_row rfl 25 _ _ rfl w1.heap.size #[.int .i64 x0, .int .i64 x1, .int .i64 x2, .int .i64 x3, .int .i32 x4, .int .i32 x5, .int .i32 x6, .int .i64 x7, .int .i32 x8, .int .i32 x9, .int .i64 x10] rfl rfl 25 _ (heap_alloc_new w1 _) info25 rfl one1 ?_))
      have hsz : w1.heap.size + 1 = ((w1.alloc (.cells #[.int .i64 0, .int .i64 0, .int .i64 0, .int .i64 0, .int .i32 0, .int .i32 0, .int .i32 0, .int .i64 0, .int .i32 0, .int .i32 0, .int .i64 0] 25)).setRow w1.heap.size #[.int .i64 x0, .int .i64 x1, .int .i64 x2, .int .i64 x3, .int .i32 x4, .int .i32 x5, .int .i32 x6, .int .i64 x7, .int .i32 x8, .int .i32 x9, .int .i64 x10]).heap.size := by simp
      rw [hsz]
      clear hsz
      generalize ((w1.alloc (.cells #[.int .i64 0, .int .i64 0, .int .i64 0, .int .i64 0, .int .i32 0, .int .i32 0, .int .i32 0, .int .i64 0, .int .i32 0, .int .i32 0, .int .i64 0] 25)).setRow w1.heap.size #[.int .i64 x0, .int .i64 x1, .int .i64 x2, .int .i64 x3, .int .i32 x4, .int .i32 x5, .int .i32 x6, .int .i64 x7, .int .i32 x8, .int .i32 x9, .int .i64 x10]) = w2 at *
      obtain ⟨B1, hB1⟩ : ∃ b, b = w1.heap.size := ⟨_, rfl⟩
      rw [← hB1] at hS1 ⊢
      clear hB1
      refine (decode_any F M0 _ A a0 s0 w2 hF2' hMa' hM0' sA hg2' ht2').mono ?_
      rintro e w3 ⟨v2, ev2, st2, rfl, hA2, k2⟩
      obtain ⟨one2, _, ⟨p2, n2, c2, hv2⟩, hev2⟩ := hA2.one
      obtain ⟨y0, y1, y2, y3, y4, y5, y6, y7, y8, y9, y10, hst2⟩ := hA2.lit
      subst hv2 hst2
      have kX : w3.grownBy ((w3.alloc (.cells #[.int .i64 0, .int .i64 0, .int .i64 0, .int .i64 0, .int .i32 0, .int .i32 0, .int .i32 0, .int .i64 0, .int .i32 0, .int .i32 0, .int .i64 0] 25)).setRow w3.heap.size #[.int .i64 y0, .int .i64 y1, .int .i64 y2, .int .i64 y3, .int .i32 y4, .int .i32 y5, .int .i32 y6, .int .i64 y7, .int .i32 y8, .int .i32 y9, .int .i64 y10]) none := setRow_grown (galloc _ _ _) _ _ (Or.inl (Nat.le_refl _))
      have hS2 := setRow_heap _ w3.heap.size _ #[.int .i64 y0, .int .i64 y1, .int .i64 y2, .int .i64 y3, .int .i32 y4, .int .i32 y5, .int .i32 y6, .int .i64 y7, .int .i32 y8, .int .i32 y9, .int .i64 y10] 25 (0, 0) (heap_alloc_new w3 (.cells #[.int .i64 0, .int .i64 0, .int .i64 0, .int .i64 0, .int .i32 0, .int .i32 0, .int .i32 0, .int .i64 0, .int .i32 0, .int .i32 0, .int .i64 0] 25))
      have kk := gtrans k2 kX
      have hA1 := hA1'.ofHeap (kk.block M0 hM0' (by simp))
      have hA2' := hA2.ofHeap (kX.block M0 (Nat.lt_of_lt_of_le hM0' k2.size) (by simp))
      have hMa := hMa'.ofHeap (kk.block M0 hM0' (by simp))
      have hM0 := Nat.lt_of_lt_of_le hM0' kk.size
      have hWW := hWW'.grown kk hWW'.size (fun k hk => by cases hk)
      have hS1' := (kk.block B1 (lt_of_heap hS1) (by simp)).trans hS1
      clear hA1' hA2 hMa' hM0' hWW' hg2' ht2' hF2' k2 kk kX hS1
      go_wp2_with (first | (refine wpList_store_row rfl 25 _ _ rfl w3.heap.size #[.int .i64 y0, .int .i64 y1, .int .i64 y2, .int .i64 y3, .int .i32 y4, .int .i32 y5, .int .i32 y6, .int .i64 y7, .int .i32 y8, .int .i32 y9, .int .i64 y10] rfl rfl 25 _ (heap_alloc_new w3 _) info25 rfl one2 ?_))
      generalize ((w3.alloc (.cells #[.int .i64 0, .int .i64 0, .int .i64 0, .int .i64 0, .int .i32 0, .int .i32 0, .int .i32 0, .int .i64 0, .int .i32 0, .int .i32 0, .int .i64 0] 25)).setRow w3.heap.size #[.int .i64 y0, .int .i64 y1, .int .i64 y2, .int .i64 y3, .int .i32 y4, .int .i32 y5, .int .i32 y6, .int .i64 y7, .int .i32 y8, .int .i32 y9, .int .i64 y10]) = w4 at *
      obtain ⟨B2, hB2⟩ : ∃ b, b = w3.heap.size := ⟨_, rfl⟩
      rw [← hB2] at hS2 ⊢
      clear hB2
      have HS1 : Hid (w4.heap[B1]? = some (.cells #[.int .i64 x0, .int .i64 x1, .int .i64 x2, .int .i64 x3, .int .i32 x4, .int .i32 x5, .int .i32 x6, .int .i64 x7, .int .i32 x8, .int .i32 x9, .int .i64 x10] 25 (0, 0))) := hS1'
      have HS2 : Hid (w4.heap[B2]? = some (.cells #[.int .i64 y0, .int .i64 y1, .int .i64 y2, .int .i64 y3, .int .i32 y4, .int .i32 y5, .int .i32 y6, .int .i64 y7, .int .i32 y8, .int .i32 y9, .int .i64 y10] 25 (0, 0))) := hS2
      have HA1 : Hid (Answer w4 M0 (some (A.take k)) (.slice p1 n1 c1) ev1 #[.int .i64 x0, .int .i64 x1, .int .i64 x2, .int .i64 x3, .int .i32 x4, .int .i32 x5, .int .i32 x6, .int .i64 x7, .int .i32 x8, .int .i32 x9, .int .i64 x10]) := hA1
      have HA2 : Hid (Answer w4 M0 (some A) (.slice p2 n2 c2) ev2 #[.int .i64 y0, .int .i64 y1, .int .i64 y2, .int .i64 y3, .int .i32 y4, .int .i32 y5, .int .i32 y6, .int .i64 y7, .int .i32 y8, .int .i32 y9, .int .i64 y10]) := hA2'
      have HMa : Hid (Msg w4 (.slice av na cv) M0 A) := hMa
      have HM0 : Hid (M0 < w4.heap.size) := hM0
      have HWW : Hid (Below w.heap.size w w4) := hWW
      have HAP : Hid (A = A.take k ++ A.drop k) := (List.take_append_drop k A).symm
      clear hS1' hS2 hA1 hA2' hMa hM0 hWW one1 one2
      cases hr : nx 68 (bufS (some (A.take k))) with
      | none =>
        have hN := cut_none A k (by rw [HNA.out]; exact hk) hr
        obtain ⟨e1, e2, b1, e3⟩ : Value.slice p1 n1 c1 = .slice none 0 0 ∧ #[.int .i64 x0, .int .i64 x1, .int .i64 x2, .int .i64 x3, .int .i32 x4, .int .i32 x5, .int .i32 x6, .int .i64 x7, .int .i32 x8, .int .i32 x9, .int .i64 x10] = zeroStat ∧ ∃ b, ev1 = .iface 59 (.pointer (some b)) := by
          have h := HA1.out
          unfold Answer at h
          rw [hr] at h
          exact h
        subst e3
        simp only [Value.slice.injEq] at e1
        obtain ⟨rfl, rfl, rfl⟩ := e1
        obtain ⟨r0, r1, r2, r3, r4, r5, r6, r7, r8, r9, r10⟩ : x0 = 0 ∧ x1 = 0 ∧ x2 = 0 ∧ x3 = 0 ∧ x4 = 0 ∧ x5 = 0 ∧ x6 = 0 ∧ x7 = 0 ∧ x8 = 0 ∧ x9 = 0 ∧ x10 = 0 := by simpa [zeroStat] using e2
        subst r0 r1 r2 r3 r4 r5 r6 r7 r8 r9 r10
        have HN : Hid (needB A = false ∨ (needB A = true ∧ (k : Int) < needN A)) := hN
        clear hr e2 hN hev1 HA1
        rcases hev2 with h | ⟨b2, h⟩
        · subst h
          have qy0 : w4.cell? ⟨B2, 0, none⟩ = some (.int .i64 y0) := cell_of_row _ _ _ _ _ _ HS2.out
          have qy1 : w4.cell? ⟨B2, 1, none⟩ = some (.int .i64 y1) := cell_of_row _ _ _ _ _ _ HS2.out
          have qy2 : w4.cell? ⟨B2, 2, none⟩ = some (.int .i64 y2) := cell_of_row _ _ _ _ _ _ HS2.out
          have qy3 : w4.cell? ⟨B2, 3, none⟩ = some (.int .i64 y3) := cell_of_row _ _ _ _ _ _ HS2.out
          have qy4 : w4.cell? ⟨B2, 4, none⟩ = some (.int .i32 y4) := cell_of_row _ _ _ _ _ _ HS2.out
          have qy5 : w4.cell? ⟨B2, 5, none⟩ = some (.int .i32 y5) := cell_of_row _ _ _ _ _ _ HS2.out
          have qy6 : w4.cell? ⟨B2, 6, none⟩ = some (.int .i32 y6) := cell_of_row _ _ _ _ _ _ HS2.out
          have qy7 : w4.cell? ⟨B2, 7, none⟩ = some (.int .i64 y7) := cell_of_row _ _ _ _ _ _ HS2.out
          have qy8 : w4.cell? ⟨B2, 8, none⟩ = some (.int .i32 y8) := cell_of_row _ _ _ _ _ _ HS2.out
          have qy9 : w4.cell? ⟨B2, 9, none⟩ = some (.int .i32 y9) := cell_of_row _ _ _ _ _ _ HS2.out
          have qy10 : w4.cell? ⟨B2, 10, none⟩ = some (.int .i64 y10) := cell_of_row _ _ _ _ _ _ HS2.out
          go_region_held3 (fun w' => w'.cell? ⟨B2, 0, none⟩ = some (.int .i64 y0) ∧ w'.cell? ⟨B2, 1, none⟩ = some (.int .i64 y1) ∧ w'.cell? ⟨B2, 2, none⟩ = some (.int .i64 y2) ∧ w'.cell? ⟨B2, 3, none⟩ = some (.int .i64 y3) ∧ w'.cell? ⟨B2, 4, none⟩ = some (.int .i32 y4) ∧ w'.cell? ⟨B2, 5, none⟩ = some (.int .i32 y5) ∧ w'.cell? ⟨B2, 6, none⟩ = some (.int .i32 y6) ∧ w'.cell? ⟨B2, 7, none⟩ = some (.int .i64 y7) ∧ w'.cell? ⟨B2, 8, none⟩ = some (.int .i32 y8) ∧ w'.cell? ⟨B2, 9, none⟩ = some (.int .i32 y9) ∧ w'.cell? ⟨B2, 10, none⟩ = some (.int .i64 y10)) (first | go_keep | (refine ⟨?_, ?_, ?_, ?_, ?_, ?_, ?_, ?_, ?_, ?_, ?_⟩ <;> exact hg5.cell (by assumption) (by simp))) ((go_at_call 8; refine (rec_any M0 _ _ .nilIface _ A _ _ (by exact HMa.out) sA (by exact HM0.out) (by exact HA2.out) rfl).mono ?_; rintro e w5 ⟨rfl, hg5⟩))
          have k5 := gtrans (gdrew w4 none) hg5
          have T1 : Hid (w5.heap[B1]? = some (.cells #[.int .i64 0, .int .i64 0, .int .i64 0, .int .i64 0, .int .i32 0, .int .i32 0, .int .i32 0, .int .i64 0, .int .i32 0, .int .i32 0, .int .i64 0] 25 (0, 0))) := (k5.block B1 (lt_of_heap HS1.out) (by simp)).trans HS1.out
          have TM : Hid (Msg w5 (.slice av na cv) M0 A) := HMa.out.ofHeap (k5.block M0 HM0.out (by simp))
          have RB : Hid (Below w.heap.size w w5) := HWW.out.grown k5 HWW.out.size (fun k hk => by cases hk)
          have px0 : w5.cell? ⟨B1, 0, none⟩ = some (.int .i64 0) := cell_of_row _ _ _ _ _ _ T1.out
          have px1 : w5.cell? ⟨B1, 1, none⟩ = some (.int .i64 0) := cell_of_row _ _ _ _ _ _ T1.out
          have px2 : w5.cell? ⟨B1, 2, none⟩ = some (.int .i64 0) := cell_of_row _ _ _ _ _ _ T1.out
          have px3 : w5.cell? ⟨B1, 3, none⟩ = some (.int .i64 0) := cell_of_row _ _ _ _ _ _ T1.out
          have px4 : w5.cell? ⟨B1, 4, none⟩ = some (.int .i32 0) := cell_of_row _ _ _ _ _ _ T1.out
          have px5 : w5.cell? ⟨B1, 5, none⟩ = some (.int .i32 0) := cell_of_row _ _ _ _ _ _ T1.out
          have px6 : w5.cell? ⟨B1, 6, none⟩ = some (.int .i32 0) := cell_of_row _ _ _ _ _ _ T1.out
          have px7 : w5.cell? ⟨B1, 7, none⟩ = some (.int .i64 0) := cell_of_row _ _ _ _ _ _ T1.out
          have px8 : w5.cell? ⟨B1, 8, none⟩ = some (.int .i32 0) := cell_of_row _ _ _ _ _ _ T1.out
          have px9 : w5.cell? ⟨B1, 9, none⟩ = some (.int .i32 0) := cell_of_row _ _ _ _ _ _ T1.out
          have px10 : w5.cell? ⟨B1, 10, none⟩ = some (.int .i64 0) := cell_of_row _ _ _ _ _ _ T1.out
          clear hg5 k5 qy0 qy1 qy2 qy3 qy4 qy5 qy6 qy7 qy8 qy9 qy10
          go_wp2_with fail
          refine (need_any _ A w5 TM.out.len TM.out.sl sA).mono ?_
          rintro e w6 ⟨rfl, m6, rfl⟩
          rcases HN.out with hB | ⟨hB, hlt⟩
          all_goals
            rw [hB]
            clear hB
            go_wp2_with fail
            go_ret
            exact ⟨rfl, RB.out.grown (grown_drewN w5 m6 none) RB.out.size (fun k hk => by cases hk)⟩
        · subst h
          have qy0 : w4.cell? ⟨B2, 0, none⟩ = some (.int .i64 y0) := cell_of_row _ _ _ _ _ _ HS2.out
          have qy1 : w4.cell? ⟨B2, 1, none⟩ = some (.int .i64 y1) := cell_of_row _ _ _ _ _ _ HS2.out
          have qy2 : w4.cell? ⟨B2, 2, none⟩ = some (.int .i64 y2) := cell_of_row _ _ _ _ _ _ HS2.out
          have qy3 : w4.cell? ⟨B2, 3, none⟩ = some (.int .i64 y3) := cell_of_row _ _ _ _ _ _ HS2.out
          have qy4 : w4.cell? ⟨B2, 4, none⟩ = some (.int .i32 y4) := cell_of_row _ _ _ _ _ _ HS2.out
          have qy5 : w4.cell? ⟨B2, 5, none⟩ = some (.int .i32 y5) := cell_of_row _ _ _ _ _ _ HS2.out
          have qy6 : w4.cell? ⟨B2, 6, none⟩ = some (.int .i32 y6) := cell_of_row _ _ _ _ _ _ HS2.out
          have qy7 : w4.cell? ⟨B2, 7, none⟩ = some (.int .i64 y7) := cell_of_row _ _ _ _ _ _ HS2.out
          have qy8 : w4.cell? ⟨B2, 8, none⟩ = some (.int .i32 y8) := cell_of_row _ _ _ _ _ _ HS2.out
          have qy9 : w4.cell? ⟨B2, 9, none⟩ = some (.int .i32 y9) := cell_of_row _ _ _ _ _ _ HS2.out
          have qy10 : w4.cell? ⟨B2, 10, none⟩ = some (.int .i64 y10) := cell_of_row _ _ _ _ _ _ HS2.out
          go_region_held3 (fun w' => w'.cell? ⟨B2, 0, none⟩ = some (.int .i64 y0) ∧ w'.cell? ⟨B2, 1, none⟩ = some (.int .i64 y1) ∧ w'.cell? ⟨B2, 2, none⟩ = some (.int .i64 y2) ∧ w'.cell? ⟨B2, 3, none⟩ = some (.int .i64 y3) ∧ w'.cell? ⟨B2, 4, none⟩ = some (.int .i32 y4) ∧ w'.cell? ⟨B2, 5, none⟩ = some (.int .i32 y5) ∧ w'.cell? ⟨B2, 6, none⟩ = some (.int .i32 y6) ∧ w'.cell? ⟨B2, 7, none⟩ = some (.int .i64 y7) ∧ w'.cell? ⟨B2, 8, none⟩ = some (.int .i32 y8) ∧ w'.cell? ⟨B2, 9, none⟩ = some (.int .i32 y9) ∧ w'.cell? ⟨B2, 10, none⟩ = some (.int .i64 y10)) (first | go_keep | (refine ⟨?_, ?_, ?_, ?_, ?_, ?_, ?_, ?_, ?_, ?_, ?_⟩ <;> exact hg5.cell (by assumption) (by simp))) ((go_at_call 8; refine (rec_any M0 _ _ (.iface 59 (.pointer (some b2))) _ A _ _ (by exact HMa.out) sA (by exact HM0.out) (by exact HA2.out) rfl).mono ?_; rintro e w5 ⟨rfl, hg5⟩))
          have k5 := gtrans (gdrew w4 none) hg5
          have T1 : Hid (w5.heap[B1]? = some (.cells #[.int .i64 0, .int .i64 0, .int .i64 0, .int .i64 0, .int .i32 0, .int .i32 0, .int .i32 0, .int .i64 0, .int .i32 0, .int .i32 0, .int .i64 0] 25 (0, 0))) := (k5.block B1 (lt_of_heap HS1.out) (by simp)).trans HS1.out
          have TM : Hid (Msg w5 (.slice av na cv) M0 A) := HMa.out.ofHeap (k5.block M0 HM0.out (by simp))
          have RB : Hid (Below w.heap.size w w5) := HWW.out.grown k5 HWW.out.size (fun k hk => by cases hk)
          have px0 : w5.cell? ⟨B1, 0, none⟩ = some (.int .i64 0) := cell_of_row _ _ _ _ _ _ T1.out
          have px1 : w5.cell? ⟨B1, 1, none⟩ = some (.int .i64 0) := cell_of_row _ _ _ _ _ _ T1.out
          have px2 : w5.cell? ⟨B1, 2, none⟩ = some (.int .i64 0) := cell_of_row _ _ _ _ _ _ T1.out
          have px3 : w5.cell? ⟨B1, 3, none⟩ = some (.int .i64 0) := cell_of_row _ _ _ _ _ _ T1.out
          have px4 : w5.cell? ⟨B1, 4, none⟩ = some (.int .i32 0) := cell_of_row _ _ _ _ _ _ T1.out
          have px5 : w5.cell? ⟨B1, 5, none⟩ = some (.int .i32 0) := cell_of_row _ _ _ _ _ _ T1.out
          have px6 : w5.cell? ⟨B1, 6, none⟩ = some (.int .i32 0) := cell_of_row _ _ _ _ _ _ T1.out
          have px7 : w5.cell? ⟨B1, 7, none⟩ = some (.int .i64 0) := cell_of_row _ _ _ _ _ _ T1.out
          have px8 : w5.cell? ⟨B1, 8, none⟩ = some (.int .i32 0) := cell_of_row _ _ _ _ _ _ T1.out
          have px9 : w5.cell? ⟨B1, 9, none⟩ = some (.int .i32 0) := cell_of_row _ _ _ _ _ _ T1.out
          have px10 : w5.cell? ⟨B1, 10, none⟩ = some (.int .i64 0) := cell_of_row _ _ _ _ _ _ T1.out
          clear hg5 k5 qy0 qy1 qy2 qy3 qy4 qy5 qy6 qy7 qy8 qy9 qy10
          go_wp2_with fail
          refine (need_any _ A w5 TM.out.len TM.out.sl sA).mono ?_
          rintro e w6 ⟨rfl, m6, rfl⟩
          rcases HN.out with hB | ⟨hB, hlt⟩
          all_goals
            rw [hB]
            clear hB
            go_wp2_with fail
            go_ret
            exact ⟨rfl, RB.out.grown (grown_drewN w5 m6 none) RB.out.size (fun k hk => by cases hk)⟩
      | some lr =>
        obtain ⟨hB, hN⟩ := cut_some A k (by rw [HNA.out]; exact hk) lr hr
        have e3 : ev1 = .nilIface := by
          have h := HA1.out
          unfold Answer at h
          rw [hr] at h
          exact h.2.2
        subst e3
        obtain ⟨e1, e2, d1, d2⟩ := Answer.whole (B := A.drop k) HA1.out (by rw [List.take_append_drop]; exact HA2.out)
        subst e1
        obtain ⟨r0, r1, r2, r3, r4, r5, r6, r7, r8, r9, r10⟩ : x0 = y0 ∧ x1 = y1 ∧ x2 = y2 ∧ x3 = y3 ∧ x4 = y4 ∧ x5 = y5 ∧ x6 = y6 ∧ x7 = y7 ∧ x8 = y8 ∧ x9 = y9 ∧ x10 = y10 := by have := e2.symm; simpa using this
        subst r0 r1 r2 r3 r4 r5 r6 r7 r8 r9 r10
        have HB : Hid (needB A = true) := hB
        have HNN : Hid (needN A ≤ (k : Int)) := hN
        have D1 : Hid (Data w4 M0 (.slice p1 n1 c1) (bufD (some (A.take k)))) := d1
        have D2 : Hid (Data w4 M0 (.slice p2 n2 c2) (bufD (some (A.take k)))) := d2
        clear hr hB hN e2 d1 d2 hev1 hev2
        have qy0 : w4.cell? ⟨B2, 0, none⟩ = some (.int .i64 x0) := cell_of_row _ _ _ _ _ _ HS2.out
        have qy1 : w4.cell? ⟨B2, 1, none⟩ = some (.int .i64 x1) := cell_of_row _ _ _ _ _ _ HS2.out
        have qy2 : w4.cell? ⟨B2, 2, none⟩ = some (.int .i64 x2) := cell_of_row _ _ _ _ _ _ HS2.out
        have qy3 : w4.cell? ⟨B2, 3, none⟩ = some (.int .i64 x3) := cell_of_row _ _ _ _ _ _ HS2.out
        have qy4 : w4.cell? ⟨B2, 4, none⟩ = some (.int .i32 x4) := cell_of_row _ _ _ _ _ _ HS2.out
        have qy5 : w4.cell? ⟨B2, 5, none⟩ = some (.int .i32 x5) := cell_of_row _ _ _ _ _ _ HS2.out
        have qy6 : w4.cell? ⟨B2, 6, none⟩ = some (.int .i32 x6) := cell_of_row _ _ _ _ _ _ HS2.out
        have qy7 : w4.cell? ⟨B2, 7, none⟩ = some (.int .i64 x7) := cell_of_row _ _ _ _ _ _ HS2.out
        have qy8 : w4.cell? ⟨B2, 8, none⟩ = some (.int .i32 x8) := cell_of_row _ _ _ _ _ _ HS2.out
        have qy9 : w4.cell? ⟨B2, 9, none⟩ = some (.int .i32 x9) := cell_of_row _ _ _ _ _ _ HS2.out
        have qy10 : w4.cell? ⟨B2, 10, none⟩ = some (.int .i64 x10) := cell_of_row _ _ _ _ _ _ HS2.out
        go_region_held3 (fun w' => w'.cell? ⟨B2, 0, none⟩ = some (.int .i64 x0) ∧ w'.cell? ⟨B2, 1, none⟩ = some (.int .i64 x1) ∧ w'.cell? ⟨B2, 2, none⟩ = some (.int .i64 x2) ∧ w'.cell? ⟨B2, 3, none⟩ = some (.int .i64 x3) ∧ w'.cell? ⟨B2, 4, none⟩ = some (.int .i32 x4) ∧ w'.cell? ⟨B2, 5, none⟩ = some (.int .i32 x5) ∧ w'.cell? ⟨B2, 6, none⟩ = some (.int .i32 x6) ∧ w'.cell? ⟨B2, 7, none⟩ = some (.int .i64 x7) ∧ w'.cell? ⟨B2, 8, none⟩ = some (.int .i32 x8) ∧ w'.cell? ⟨B2, 9, none⟩ = some (.int .i32 x9) ∧ w'.cell? ⟨B2, 10, none⟩ = some (.int .i64 x10)) (first | go_keep | (refine ⟨?_, ?_, ?_, ?_, ?_, ?_, ?_, ?_, ?_, ?_, ?_⟩ <;> exact hg5.cell (by assumption) (by simp))) ((go_at_call 8; refine (rec_any M0 _ _ .nilIface _ A _ _ (by exact HMa.out) sA (by exact HM0.out) (by exact HA2.out) rfl).mono ?_; rintro e w5 ⟨rfl, hg5⟩))
        have k5 := gtrans (gdrew w4 none) hg5
        have T1 : Hid (w5.heap[B1]? = some (.cells #[.int .i64 x0, .int .i64 x1, .int .i64 x2, .int .i64 x3, .int .i32 x4, .int .i32 x5, .int .i32 x6, .int .i64 x7, .int .i32 x8, .int .i32 x9, .int .i64 x10] 25 (0, 0))) := (k5.block B1 (lt_of_heap HS1.out) (by simp)).trans HS1.out
        have T2 : Hid (w5.heap[B2]? = some (.cells #[.int .i64 x0, .int .i64 x1, .int .i64 x2, .int .i64 x3, .int .i32 x4, .int .i32 x5, .int .i32 x6, .int .i64 x7, .int .i32 x8, .int .i32 x9, .int .i64 x10] 25 (0, 0))) := (k5.block B2 (lt_of_heap HS2.out) (by simp)).trans HS2.out
        have TM : Hid (Msg w5 (.slice av na cv) M0 A) := HMa.out.ofHeap (k5.block M0 HM0.out (by simp))
        have RB : Hid (Below w.heap.size w w5) := HWW.out.grown k5 HWW.out.size (fun k hk => by cases hk)
        have DD1 : Hid (Data w5 M0 (.slice p1 n1 c1) (bufD (some (A.take k)))) := D1.out.ofHeap (k5.block M0 HM0.out (by simp))
        have DD2 : Hid (Data w5 M0 (.slice p2 n2 c2) (bufD (some (A.take k)))) := D2.out.ofHeap (k5.block M0 HM0.out (by simp))
        have hp1 := DD1.out.isNone
        have hp2 := DD2.out.isNone
        have HL : Hid (((bufD (some (A.take k))).getD []).length ≤ 1048576) := by have := bufD_len (A.take k); have := HNA.out; rw [List.length_take] at *; show _ ≤ _; omega
        generalize (bufD (some (A.take k))).isNone = bn at hp1 hp2
        have px0 : w5.cell? ⟨B1, 0, none⟩ = some (.int .i64 x0) := cell_of_row _ _ _ _ _ _ T1.out
        have px1 : w5.cell? ⟨B1, 1, none⟩ = some (.int .i64 x1) := cell_of_row _ _ _ _ _ _ T1.out
        have px2 : w5.cell? ⟨B1, 2, none⟩ = some (.int .i64 x2) := cell_of_row _ _ _ _ _ _ T1.out
        have px3 : w5.cell? ⟨B1, 3, none⟩ = some (.int .i64 x3) := cell_of_row _ _ _ _ _ _ T1.out
        have px4 : w5.cell? ⟨B1, 4, none⟩ = some (.int .i32 x4) := cell_of_row _ _ _ _ _ _ T1.out
        have px5 : w5.cell? ⟨B1, 5, none⟩ = some (.int .i32 x5) := cell_of_row _ _ _ _ _ _ T1.out
        have px6 : w5.cell? ⟨B1, 6, none⟩ = some (.int .i32 x6) := cell_of_row _ _ _ _ _ _ T1.out
        have px7 : w5.cell? ⟨B1, 7, none⟩ = some (.int .i64 x7) := cell_of_row _ _ _ _ _ _ T1.out
        have px8 : w5.cell? ⟨B1, 8, none⟩ = some (.int .i32 x8) := cell_of_row _ _ _ _ _ _ T1.out
        have px9 : w5.cell? ⟨B1, 9, none⟩ = some (.int .i32 x9) := cell_of_row _ _ _ _ _ _ T1.out
        have px10 : w5.cell? ⟨B1, 10, none⟩ = some (.int .i64 x10) := cell_of_row _ _ _ _ _ _ T1.out
        have py0 : w5.cell? ⟨B2, 0, none⟩ = some (.int .i64 x0) := cell_of_row _ _ _ _ _ _ T2.out
        have py1 : w5.cell? ⟨B2, 1, none⟩ = some (.int .i64 x1) := cell_of_row _ _ _ _ _ _ T2.out
        have py2 : w5.cell? ⟨B2, 2, none⟩ = some (.int .i64 x2) := cell_of_row _ _ _ _ _ _ T2.out
        have py3 : w5.cell? ⟨B2, 3, none⟩ = some (.int .i64 x3) := cell_of_row _ _ _ _ _ _ T2.out
        have py4 : w5.cell? ⟨B2, 4, none⟩ = some (.int .i32 x4) := cell_of_row _ _ _ _ _ _ T2.out
        have py5 : w5.cell? ⟨B2, 5, none⟩ = some (.int .i32 x5) := cell_of_row _ _ _ _ _ _ T2.out
        have py6 : w5.cell? ⟨B2, 6, none⟩ = some (.int .i32 x6) := cell_of_row _ _ _ _ _ _ T2.out
        have py7 : w5.cell? ⟨B2, 7, none⟩ = some (.int .i64 x7) := cell_of_row _ _ _ _ _ _ T2.out
        have py8 : w5.cell? ⟨B2, 8, none⟩ = some (.int .i32 x8) := cell_of_row _ _ _ _ _ _ T2.out
        have py9 : w5.cell? ⟨B2, 9, none⟩ = some (.int .i32 x9) := cell_of_row _ _ _ _ _ _ T2.out
        have py10 : w5.cell? ⟨B2, 10, none⟩ = some (.int .i64 x10) := cell_of_row _ _ _ _ _ _ T2.out
        have tt0 : (x0 == x0) = true := by simp
        have tt1 : (x1 == x1) = true := by simp
        have tt2 : (x2 == x2) = true := by simp
        have tt3 : (x3 == x3) = true := by simp
        have tt4 : (x4 == x4) = true := by simp
        have tt5 : (x5 == x5) = true := by simp
        have tt6 : (x6 == x6) = true := by simp
        have tt7 : (x7 == x7) = true := by simp
        have tt8 : (x8 == x8) = true := by simp
        have tt9 : (x9 == x9) = true := by simp
        have tt10 : (x10 == x10) = true := by simp
        clear hg5 k5 qy0 qy1 qy2 qy3 qy4 qy5 qy6 qy7 qy8 qy9 qy10
        go_wp2_with fail
        refine (need_any _ A w5 TM.out.len TM.out.sl sA).mono ?_
        rintro e w6 ⟨rfl, m6, rfl⟩
        obtain ⟨nn, hnn⟩ : ∃ nn, needN A = nn := ⟨_, rfl⟩
        have hle : nn ≤ (k : Int) := by rw [← hnn]; exact HNN.out
        rw [HB.out, hnn]
        clear hnn
        go_wp2_with fail
        refine (same_any _ _ ((bufD (some (A.take k))).getD []) _ (by exact DD1.out.sl) (by exact DD2.out.sl) HL.out).mono ?_
        rintro e w7 ⟨rfl, m7, rfl⟩
        go_wp2_with fail
        go_ret
        exact ⟨rfl, RB.out.grown (grown_drewN w5 (m6 + m7) none) RB.out.size (fun k hk => by cases hk)⟩
end Go.Proofs.Qxb6614018aFmt
