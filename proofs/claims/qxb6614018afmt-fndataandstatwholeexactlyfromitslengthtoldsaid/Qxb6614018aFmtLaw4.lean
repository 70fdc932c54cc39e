/-
  The law's own helper zzb1IsRecordOf.
-/
import Derived.Test.Qxb6614018aFmtLaw3
namespace Go.Proofs.Qxb6614018aFmt
open Go.RowKit Go.Stop
set_option linter.unusedVariables false
set_option linter.unusedSimpArgs false

attribute [local go_sem] eql22 neq22

theorem reply_cases (L : List Int) :
    (nx 68 (bufS (some L)) = none ∧ (needB L = false ∨ (needB L = true ∧ (L.length : Int) < needN L))) ∨
    (∃ r n : Nat, ∃ lr, nx 68 (bufS (some L)) = some lr ∧ needB L = true ∧ needN L = 72 + n ∧ 72 + n ≤ L.length ∧ bufS (some L) = some (L.drop (4 + n)) ∧
      ((rd32 (some L) = -1 ∧ n = 0 ∧ bufD (some L) = none) ∨ (rd32 (some L) = n ∧ bufD (some L) = some ((L.drop 4).take n)))) := by
  obtain ⟨r, hr⟩ : ∃ r, rd32 (some L) = r := ⟨_, rfl⟩
  by_cases h4 : 4 ≤ L.length
  · have e4 : nx 4 (some L) = some (L.drop 4) := by simp only [nx, if_pos h4]
    by_cases hlo : r < -1
    · left
      have e1 : lenB (some L) = false := by simp only [lenB, e4, hr]; rw [if_pos (by omega)]
      have e2 : lenS (some L) = none := by simp only [lenS, e4, hr]; rw [if_pos (by omega)]
      refine ⟨?_, Or.inl ?_⟩
      · simp [bufS, e1, e2, nx]
      · simp [needB, hr]; omega
    · have hB : needB L = true := by simp [needB, hr, h4]; omega
      by_cases hm1 : r = -1
      · subst hm1
        have e1 : lenB (some L) = false := by simp only [lenB, e4, hr]; rfl
        have e2 : lenS (some L) = some (L.drop 4) := by simp only [lenS, e4, hr]; rfl
        have eS : bufS (some L) = some (L.drop 4) := by simp [bufS, e1, e2]
        have eD : bufD (some L) = none := by simp [bufD, e1]
        have eN : needN L = 72 := by simp [needN, hB, hr]
        by_cases h72 : 72 ≤ L.length
        · right
          refine ⟨0, 0, (L.drop 4).drop 68, ?_, hB, by rw [eN]; rfl, h72, eS, Or.inl ⟨hr, rfl, eD⟩⟩
          rw [eS]; simp only [nx]; rw [if_pos (by rw [List.length_drop]; omega)]
        · left
          refine ⟨?_, Or.inr ⟨hB, by rw [eN]; omega⟩⟩
          rw [eS]; simp only [nx]; rw [if_neg (by rw [List.length_drop]; omega)]
      · obtain ⟨n, rfl⟩ : ∃ n : Nat, r = n := ⟨r.toNat, by omega⟩
        have e1 : lenB (some L) = true := by simp only [lenB, e4, hr]; rw [if_neg (by omega)]
        have e2 : lenS (some L) = some (L.drop 4) := by simp only [lenS, e4, hr]; rw [if_neg (by omega)]
        have e3 : lenN (some L) = n := by simp only [lenN, e4, hr]; rw [if_neg (by omega)]
        have eS : bufS (some L) = nx n (some (L.drop 4)) := by simp [bufS, e1, e2, e3]
        have eD : bufD (some L) = tk n (some (L.drop 4)) := by simp [bufD, e1, e2, e3]
        have eN : needN L = 72 + n := by
          simp only [needN, hB, hr, if_true]
          split <;> omega
        have eX : nx 68 (bufS (some L)) = nx (n + 68) (some (L.drop 4)) := by rw [eS, nx_nx]
        by_cases h72 : 72 + n ≤ L.length
        · right
          refine ⟨0, n, (L.drop 4).drop (n + 68), ?_, hB, eN, h72, ?_, Or.inr ⟨hr, ?_⟩⟩
          · rw [eX]; simp only [nx]; rw [if_pos (by rw [List.length_drop]; omega)]
          · rw [eS, nx_drop n 4 L (by omega)]
          · rw [eD]; simp only [tk]; rw [if_pos (by rw [List.length_drop]; omega)]
        · left
          refine ⟨?_, Or.inr ⟨hB, by rw [eN]; omega⟩⟩
          rw [eX]; simp only [nx]; rw [if_neg (by rw [List.length_drop]; omega)]
  · left
    refine ⟨?_, Or.inl (by simp [needB]; omega)⟩
    have e4 : nx 4 (some L) = none := by simp only [nx, if_neg h4]
    have e1 : lenB (some L) = false := by simp only [lenB, e4]
    have e2 : lenS (some L) = none := by simp only [lenS, e4]
    simp [bufS, e1, e2, nx]

theorem need_any (v : Value) (L : List Int) (w : World) (hm : L.length ≤ 1048576) (hv : Sl w v L) (hs : Small L) :
    Calls Tryf.prog 11 #[v] w fun e w' =>
      e = .returned (.tuple #[.int .i64 (needN L), .bool (needB L)]) ∧ ∃ n, w' = w.drewN n := by
  obtain ⟨ao, c, rfl, h⟩ := hv
  by_cases h4 : L.length < 4
  · exact need_short ao c L w h4
  · obtain ⟨M, o, rfl, hb⟩ := h (by intro e; subst e; simp at h4)
    exact need_long M o c L w (by omega) hm hb hs

theorem Sl.grown {w w' : World} {v : Value} {L : List Int} (h : Sl w v L) (hg : w.grownBy w' none) : Sl w' v L := by
  obtain ⟨ao, c, rfl, h⟩ := h
  exact ⟨ao, c, rfl, fun hn => by obtain ⟨M, o, e, hb⟩ := h hn; exact ⟨M, o, e, fun i hi => hg.cell (hb i hi) (by simp)⟩⟩

set_option maxHeartbeats 400000 in
theorem rec_fail (v : Value) (L : List Int) (w : World) (hm : L.length ≤ 1048576) (hv : Sl w v L) (hs : Small L) (hr : nx 68 (bufS (some L)) = none) :
    Calls Tryf.prog 8 #[v, .slice none 0 0, .agg zeroStat, .bool true] w fun e w' => e = .returned (.bool true) ∧ w.grownBy w' none := by
  have HR : Hid (needB L = false ∨ (needB L = true ∧ (L.length : Int) < needN L)) := by
    rcases reply_cases L with h | ⟨_, _, lr, h, _⟩
    · exact h.2
    · rw [hr] at h; cases h
  have hv' := hv
  obtain ⟨ao, c, rfl, _⟩ := hv'
  go_enter Tryf.func8, Tryf.ntmps8
  rw [zeroStat]
  go_wp2_with fail
  refine (need_any _ L _ hm (by exact hv.grown (galloc _ _ _)) hs).mono ?_
  rintro e w1 ⟨rfl, m, rfl⟩
  clear hv hr
  rcases HR.out with hB | ⟨hB, hN⟩
  · rw [hB]
    go_wp2_with fail
    go_ret
    exact ⟨rfl, grown_alloc_drewN _ _ _ _⟩
  · rw [hB]
    clear hB
    go_wp2_with fail
    go_ret
    exact ⟨rfl, grown_alloc_drewN _ _ _ _⟩

set_option maxHeartbeats 1000000 in
theorem rec_ok (M o cap : Nat) (v : Value) (L : List Int) (lr : List Int) (w : World) (hm : L.length ≤ 1048576) (hcap : cap ≤ 1048576) (hlc : L.length ≤ cap) (hb : BytesAt w M o L) (hs : Small L) (hMl : M < w.heap.size)
    (hr : nx 68 (bufS (some L)) = some lr) (hd : Data w M v (bufD (some L))) :
    Calls Tryf.prog 8 #[.slice (some ⟨M, o, none⟩) L.length cap, v, .agg (statV (bufS (some L))), .bool false] w fun e w' => e = .returned (.bool true) ∧ w.grownBy w' none := by
  obtain ⟨n, hB, hN, hle, hS, hcases⟩ : ∃ n : Nat, needB L = true ∧ needN L = 72 + n ∧ 72 + n ≤ L.length ∧ bufS (some L) = some (L.drop (4 + n)) ∧
      ((rd32 (some L) = -1 ∧ n = 0 ∧ bufD (some L) = none) ∨ (rd32 (some L) = n ∧ bufD (some L) = some ((L.drop 4).take n))) := by
    rcases reply_cases L with h | ⟨_, n, lr, _, h⟩
    · rw [hr] at h; cases h.1
    · exact ⟨n, h⟩
  rw [hS]
  obtain ⟨x0, x1, x2, x3, x4, x5, x6, x7, x8, x9, x10, hst⟩ : ∃ x0 x1 x2 x3 x4 x5 x6 x7 x8 x9 x10 : Int, statV (some (L.drop (4 + n))) = #[.int .i64 x0, .int .i64 x1, .int .i64 x2, .int .i64 x3, .int .i32 x4, .int .i32 x5, .int .i32 x6, .int .i64 x7, .int .i32 x8, .int .i32 x9, .int .i64 x10] := ⟨_, _, _, _, _, _, _, _, _, _, _, rfl⟩
  have hcall := fun W hW hW2 => statAt_any M o cap (4 + n) L W (by omega) hm hW hs hW2
  rw [hst] at hcall ⊢
  have HC : Hid (∀ W, BytesAt W M o L → M < W.heap.size → Calls Tryf.prog 13 #[.slice (some ⟨M, o, none⟩) L.length cap, .int .i64 ((4 + n : Nat) : Int)] W fun e w' => e = .returned (.agg #[.int .i64 x0, .int .i64 x1, .int .i64 x2, .int .i64 x3, .int .i32 x4, .int .i32 x5, .int .i32 x6, .int .i64 x7, .int .i32 x8, .int .i32 x9, .int .i64 x10]) ∧ W.grownBy w' none) := hcall
  clear hcall hst
  obtain ⟨ao, nv, cv, hv⟩ := hd.slice
  subst hv
  have hgA := galloc w (.cells #[.int .i64 x0, .int .i64 x1, .int .i64 x2, .int .i64 x3, .int .i32 x4, .int .i32 x5, .int .i32 x6, .int .i64 x7, .int .i32 x8, .int .i32 x9, .int .i64 x10] 25) none
  have hbA : BytesAt (w.alloc (.cells #[.int .i64 x0, .int .i64 x1, .int .i64 x2, .int .i64 x3, .int .i32 x4, .int .i32 x5, .int .i32 x6, .int .i64 x7, .int .i32 x8, .int .i32 x9, .int .i64 x10] 25)) M o L := fun j hj => hgA.cell (hb j hj) (by simp)
  have hdA : Data (w.alloc (.cells #[.int .i64 x0, .int .i64 x1, .int .i64 x2, .int .i64 x3, .int .i32 x4, .int .i32 x5, .int .i32 x6, .int .i64 x7, .int .i32 x8, .int .i32 x9, .int .i64 x10] 25)) M (.slice ao nv cv) (bufD (some L)) := hd.ofHeap (hgA.block M hMl (by simp))
  have HN : Hid (needN L = 72 + n) := hN
  have HBB : Hid (needB L = true) := hB
  have HS : Hid (bufS (some L) = some (L.drop (4 + n))) := hS
  have HCC : Hid ((rd32 (some L) = -1 ∧ n = 0 ∧ bufD (some L) = none) ∨ (rd32 (some L) = n ∧ bufD (some L) = some ((L.drop 4).take n))) := hcases
  clear hN hB hS hcases hr
  go_enter Tryf.func8, Tryf.ntmps8
  go_wp2_with fail
  refine (need_long M o cap L _ (by omega) hm (by exact hbA) hs).mono ?_
  rintro e w1 ⟨rfl, m, rfl⟩
  rw [HN.out, HBB.out]
  go_wp2_with fail
  have HW : Hid (IntKind.i64.wrap (72 + (n : Int) - 68) = ((4 + n : Nat) : Int)) := by show _ = _; rw [IntKind.wrap_i64]; omega
  go_region_held3 (fun w' => w'.cell? ⟨w.heap.size, 0, none⟩ = some (.int .i64 x0) ∧ w'.cell? ⟨w.heap.size, 1, none⟩ = some (.int .i64 x1) ∧ w'.cell? ⟨w.heap.size, 2, none⟩ = some (.int .i64 x2) ∧ w'.cell? ⟨w.heap.size, 3, none⟩ = some (.int .i64 x3) ∧ w'.cell? ⟨w.heap.size, 4, none⟩ = some (.int .i32 x4) ∧ w'.cell? ⟨w.heap.size, 5, none⟩ = some (.int .i32 x5) ∧ w'.cell? ⟨w.heap.size, 6, none⟩ = some (.int .i32 x6) ∧ w'.cell? ⟨w.heap.size, 7, none⟩ = some (.int .i64 x7) ∧ w'.cell? ⟨w.heap.size, 8, none⟩ = some (.int .i32 x8) ∧ w'.cell? ⟨w.heap.size, 9, none⟩ = some (.int .i32 x9) ∧ w'.cell? ⟨w.heap.size, 10, none⟩ = some (.int .i64 x10)) (first | go_keep | (refine ⟨?_, ?_, ?_, ?_, ?_, ?_, ?_, ?_, ?_, ?_, ?_⟩ <;> exact hg2.cell (by simp) (by simp))) ((go_at_call 13; rw [HW.out]; refine (HC.out _ (by exact hbA) (by simp; omega)).mono ?_; rintro e w2 ⟨rfl, hg2⟩))
  go_wp2_with fail
  have hgB := gtrans (grown_alloc_drewN w _ _ none) hg2
  have hb2 : BytesAt w2 M o L := fun j hj => hgB.cell (hb j hj) (by simp)
  have hd2 : Data w2 M (.slice ao nv cv) (bufD (some L)) := hd.ofHeap (hgB.block M hMl (by simp))
  clear hg2 hbA hdA hgA
  refine (be32_at' _ M o cap 0 L w2 rfl (by omega) hm hb2 hs).mono ?_
  rintro e w3 ⟨rfl, m3, rfl⟩
  rw [List.drop_zero]
  have hb3 : BytesAt (w2.drewN m3) M o L := hb2
  have hg3 : w.grownBy (w2.drewN m3) none := gtrans hgB (grown_drewN _ _ _)
  have hd3 : Data (w2.drewN m3) M (.slice ao nv cv) (bufD (some L)) := hd2.ofHeap rfl
  clear hd2 hb2
  generalize w2.drewN m3 = w4 at *
  rcases HCC.out with ⟨h1, h2, h3⟩ | ⟨h1, h3⟩
  · rw [h1]
    rw [h3] at hd3
    have hv : Value.slice ao nv cv = .slice none 0 0 := hd3
    simp only [Value.slice.injEq] at hv
    obtain ⟨rfl, rfl, rfl⟩ := hv
    clear h1 h2 h3 hd3
    go_wp2_with fail
    go_ret
    exact ⟨rfl, hg3⟩
  · rw [h1]
    rw [h3] at hd3
    have hq : ((n : Int) == -1) = false := by simp
    clear h1 h3
    go_wp2_with fail
    obtain ⟨od, he, hbd⟩ := hd3
    have hll : ((L.drop 4).take n).length = n := by rw [List.length_take, List.length_drop]; omega
    have s1 : Sl w4 (.slice ao nv cv) ((L.drop 4).take n) := by
      simp only [Value.slice.injEq] at he
      obtain ⟨rfl, rfl, rfl⟩ := he
      exact ⟨_, _, rfl, fun _ => ⟨M, od, rfl, hbd⟩⟩
    have s2 : Sl w4 (.slice (some ⟨M, o + 4, none⟩) n (cap - 4)) ((L.drop 4).take n) := by
      refine ⟨some ⟨M, o + 4, none⟩, cap - 4, by rw [hll], fun _ => ⟨M, o + 4, rfl, fun j hj => ?_⟩⟩
      rw [hll] at hj
      have := hb3 (4 + j) (by omega)
      rw [Nat.add_assoc, this]
      congr 2
      simp only [List.getD_eq_getElem?_getD, List.getElem?_take]
      rw [if_pos hj, List.getElem?_drop]
    refine (same_any _ _ _ w4 s1 s2 (by rw [hll]; omega)).mono ?_
    rintro e w5 ⟨rfl, m5, rfl⟩
    clear he hll s1 s2 hbd
    go_wp2_with fail
    go_ret
    exact ⟨rfl, gtrans hg3 (grown_drewN _ _ _)⟩

#print axioms rec_ok
#print axioms rec_fail
end Go.Proofs.Qxb6614018aFmt
