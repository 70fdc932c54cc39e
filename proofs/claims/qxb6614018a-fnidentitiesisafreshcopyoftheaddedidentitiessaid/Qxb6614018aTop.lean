/-
  FnIdentitiesIsAFreshCopyOfTheAddedIdentities, walked.
-/
import Derived.Test.Qxb6614018aAre
namespace Go.Proofs.Qxb6614018a
open Go.RowKit
set_option linter.unusedVariables false
set_option linter.unusedSimpArgs false
attribute [local go_sem] eql26 eql29

def TopPost (w : World) (e : Ending) (w' : World) : Prop := e = .returned (.bool true) ∧ w.grownBy w' none
theorem TopPost.no (w : World) : TopPost w (.returned (.bool true)) w := ⟨rfl, grefl _ _⟩

theorem take_get {c cur : Array Value} {m i : Nat} (h : cur.toList.take m = c.toList) (hi : i < m) : cur[i]? = c[i]? := by
  rw [← Array.getElem?_toList, ← Array.getElem?_toList, ← h, List.getElem?_take_of_lt hi]

theorem Items.take {w : World} {base : Nat} {T : Nat → Int} {S : Nat → ByteArray} {A : Nat → Option Addr} {X : Nat → List Int} {c cur : Array Value} {n : Nat}
    (h : Items w base T S A X c n) (ht : cur.toList.take (n * 3) = c.toList) : Items w base T S A X cur n := fun i hi => by
  rw [take_get ht (by omega), take_get ht (by omega), take_get ht (by omega)]
  exact h i hi

theorem Items.one {w : World} {base : Nat} {T : Nat → Int} {S : Nat → ByteArray} {A : Nat → Option Addr} {X : Nat → List Int} {c : Array Value} {n : Nat}
    (h : Items w base T S A X c n) (hc : c.size = n * 3) : ∀ u ∈ c.toList, u.oneCell' = true := by
  intro u hu
  obtain ⟨j, hj, rfl⟩ := List.getElem_of_mem hu
  rw [Array.length_toList, hc] at hj
  obtain ⟨h1, h2, v, h3, h4⟩ := h (j / 3) (by omega)
  obtain ⟨bo, cc, hv, _⟩ := h4
  have hm : j % 3 = 0 ∨ j % 3 = 1 ∨ j % 3 = 2 := by omega
  rcases hm with hm | hm | hm
  · have e : j / 3 * 3 = j := by omega
    rw [e] at h1
    have : c.toList[j] = .int .i32 (T (j / 3)) := by
      rw [Array.getElem_toList]; exact Option.some.inj ((Array.getElem?_eq_getElem (by omega)).symm.trans h1)
    rw [this]; rfl
  · have e : j / 3 * 3 + 1 = j := by omega
    rw [e] at h2
    have : c.toList[j] = .string (S (j / 3)) := by
      rw [Array.getElem_toList]; exact Option.some.inj ((Array.getElem?_eq_getElem (by omega)).symm.trans h2)
    rw [this]; rfl
  · have e : j / 3 * 3 + 2 = j := by omega
    rw [e] at h3
    have : c.toList[j] = v := by
      rw [Array.getElem_toList]; exact Option.some.inj ((Array.getElem?_eq_getElem (by omega)).symm.trans h3)
    rw [this, hv]; rfl

/-- What the overwriting loop keeps of the copy's own block. -/
def Over (w wr : World) (g m n k : Nat) : Prop :=
  ∃ c' : Array Value, wr.heap[g]? = some (.cells c' 34 (0, 0)) ∧ c'.size = m ∧ (∀ i, k ≤ i → i < n → ∃ t, c'[i * 3]? = some (.int .i32 t)) ∧ w.grownBy wr (some g)
theorem over_step {w wr : World} {g m n k : Nat} (u0 u1 u2 : Value) (h : Over w wr g m n k) :
    Over w (((wr.setCell ⟨g, k * 3, none⟩ u0).setCell ⟨g, k * 3 + 1, none⟩ u1).setCell ⟨g, k * 3 + 2, none⟩ u2) g m n (k + 1) := by
  obtain ⟨c, h1, h2, h3, h4⟩ := h
  have r0 := heap_setCell_same wr g (k * 3) c 34 u0 h1
  have r1 := heap_setCell_same _ g (k * 3 + 1) _ 34 u1 r0
  have r2 := heap_setCell_same _ g (k * 3 + 2) _ 34 u2 r1
  refine ⟨_, r2, by simp [h2], fun i hi hn => ?_, gtrans h4 (gtrans (gtrans (gset wr ⟨g, k * 3, none⟩ _) (gset _ ⟨g, k * 3 + 1, none⟩ _)) (gset _ ⟨g, k * 3 + 2, none⟩ _))⟩
  rw [Array.getElem?_setIfInBounds_ne (by omega), Array.getElem?_setIfInBounds_ne (by omega), Array.getElem?_setIfInBounds_ne (by omega)]
  exact h3 i (by omega) hn

set_option maxRecDepth 100000 in
set_option maxHeartbeats 2000000 in
theorem top_any (ao bo co : Option Addr) (T : Nat → Int) (S : Nat → ByteArray) (A : Nat → Option Addr) (X : Nat → List Int) (C : Nat → Nat) (nt ns na ct cs cc : Nat) (w : World)
    (hA : Args w ao bo co T S A X C nt ns na) (h1 : nt ≤ 9223372036854775807) (h2 : ns ≤ 9223372036854775807) (h3 : na ≤ 9223372036854775807) :
    Calls Try.prog 3 #[.slice ao nt ct, .slice bo ns cs, .slice co na cc] w fun e w' => TopPost w e w' := by
  have HZ := sizes_any ao bo co T S A X C nt ns na ct cs cc w hA h1 h2 h3
  have HA : Hid (Args w ao bo co T S A X C nt ns na) := hA
  clear hA
  go_enter Try.func3, Try.ntmps3
  go_wp2_with fail
  refine HZ.mono ?_
  rintro e w1 ⟨b, rfl, hw1, hb⟩
  rw [hw1]
  clear hw1 w1
  cases b with
  | false =>
    go_wp2_with fail
    go_ret
    exact TopPost.no w
  | true =>
    obtain ⟨b1, b2, b3, b4, b5⟩ := hb rfl
    have HS : Hid (∀ i, i < ns → (S i).size ≤ 1048576) := b4
    have HX : Hid (∀ i, i < na → (X i).length ≤ 1048576) := b5
    clear hb b4 b5 HZ
    by_cases c1 : nt ≤ 65536
    · by_cases c2 : ns ≤ 65536
      · by_cases c3 : na ≤ 65536
        · by_cases c4 : 4 * nt + 16 * ns + 24 * na ≤ 1048576
          · go_wp2_with fail
            go_loop [7, 8] (fun z i => ∃ (k : Nat) (t : Int), k ≤ ns ∧ i = .int .i64 k ∧ z = .int .i64 t ∧ 0 ≤ t ∧ t ≤ 1048576) (fun _ i => ns - (intOf i).toNat)
            case atStart => exact ⟨0, _, Nat.zero_le _, rfl, rfl, by omega, by omega⟩
            case round =>
              obtain ⟨k, t, hk, rfl, rfl, ht0, ht1⟩ := hrel
              by_cases hlt : k < ns
              · obtain ⟨ad, e, hc⟩ := HA.out.st (by omega)
                subst e
                have hcell := hc k hlt
                have q : (k : Int) < (ns : Int) := by omega
                obtain ⟨u, hl⟩ : ∃ u, u = S k := ⟨_, rfl⟩
                have b1 : u.size ≤ 1048576 := by rw [hl]; exact HS.out k hlt
                rw [← hl] at hcell
                clear hc hl
                by_cases b2 : t + u.size ≤ 1048576
                · go_wp2_with fail
                  go_round
                  case rel => exact ⟨k + 1, _, by omega, by go_num, rfl, by omega, by omega⟩
                  case measure => simp [intOf]; omega
                · go_wp2_with fail
                  go_ret
                  exact TopPost.no w
              · go_wp2_with fail
                go_loop [7, 9] (fun z i => ∃ (k : Nat) (t : Int), k ≤ na ∧ i = .int .i64 k ∧ z = .int .i64 t ∧ 0 ≤ t ∧ t ≤ 1048576) (fun _ i => na - (intOf i).toNat)
                case atStart => exact ⟨0, _, Nat.zero_le _, rfl, rfl, by omega, by omega⟩
                case round =>
                  obtain ⟨k, t, hk, rfl, rfl, ht0, ht1⟩ := hrel
                  by_cases hlt : k < na
                  · obtain ⟨ad, e, hc⟩ := HA.out.au (by omega)
                    subst e
                    have hcell := hc k hlt
                    have q : (k : Int) < (na : Int) := by omega
                    obtain ⟨l, hl⟩ : ∃ l, l = (X k).length := ⟨_, rfl⟩
                    have b1 : l ≤ 1048576 := by rw [hl]; exact HX.out k hlt
                    rw [← hl] at hcell
                    have HLk : Hid (l = (X k).length) := hl
                    clear hc hl
                    by_cases b2 : t + l ≤ 1048576
                    · go_wp2_with fail
                      go_round
                      case rel => exact ⟨k + 1, _, by omega, by go_num, rfl, by omega, by omega⟩
                      case measure => simp [intOf]; omega
                    · go_wp2_with fail
                      go_ret
                      exact TopPost.no w
                  · by_cases d1 : ns = nt
                    · by_cases d2 : na = nt
                      · subst d1
                        subst d2
                        have hq : ((na : Int) != (na : Int)) = false := by simp
                        go_wp2_with fail
                        refine (build_any ao bo co T S A X C na ct cs cc w HA.out c1 HX.out).mono ?_
                        rintro e w1 ⟨rfl, c, B1, B2, B3, B4⟩
                        have HB1 : Hid (w1.heap[w.heap.size]? = some (.cells c 34 (0, 0))) := B1
                        have HB2 : Hid (c.size = na * 3) := B2
                        have HB3 : Hid (Items w1 (w.heap.size + 1) T S A X c na) := B3
                        have HB4 : Hid (w.grownBy w1 none) := B4
                        have HO : Hid (∀ u ∈ c.toList, u.oneCell' = true) := B3.one B2
                        clear B1 B2 B3 B4
                        go_wp2_with fail
                        refine (newconn_any (some ⟨w.heap.size, 0, none⟩) na na w1).mono ?_
                        rintro e w2 ⟨rfl, hw2⟩
                        have HC2 : Hid (w2.heap[w1.heap.size]? = some (.cells (conn (.slice (some ⟨w.heap.size, 0, none⟩) na na)) 53 (0, 0))) := by rw [hw2]; exact heap_alloc_new w1 _
                        have G12 : Hid (w1.grownBy w2 none) := by rw [hw2]; exact galloc _ _ _
                        clear hw2
                        have HL2 : Hid (w2.heap[w.heap.size]? = some (.cells c 34 (0, 0))) := (G12.out.block _ (lt_of_heap HB1.out) (by simp)).trans HB1.out
                        have HNE : Hid (w.heap.size ≠ w1.heap.size) := by
                          have := lt_of_heap HB1.out
                          exact Nat.ne_of_lt this
                        go_wp2_with fail
                        refine (zzident_any w1.heap.size w.heap.size na c w2 HC2.out HL2.out HB2.out HO.out c1 HNE.out).mono ?_
                        rintro e w3 ⟨v, rfl, D1, D2⟩
                        have G23 : Hid (w2.grownBy w3 none) := D2
                        have GW3 : Hid (w.grownBy w3 none) := gtrans HB4.out (gtrans G12.out D2)
                        clear D2
                        rcases D1 with ⟨rfl, hn0⟩ | ⟨hn0, g, cap, cur, rfl, k1, k2, k3, k4, k5⟩
                        · subst hn0
                          go_wp2_with fail
                          refine (are_none ao bo co ct cs cc w3).mono ?_
                          rintro e w4 ⟨rfl, hw4⟩
                          rw [hw4]
                          clear hw4 w4
                          go_wp2_with fail
                          go_loop [13] (fun i => i = .int .i64 0) (fun _ => 0)
                          case atStart => rfl
                          case round =>
                            subst hrel
                            go_wp2_with fail
                            refine (zzident_any w1.heap.size w.heap.size 0 c w3 ((G23.out.block _ (lt_of_heap HC2.out) (by simp)).trans HC2.out) ((G23.out.block _ (lt_of_heap HL2.out) (by simp)).trans HL2.out) HB2.out HO.out c1 HNE.out).mono ?_
                            rintro e w5 ⟨v, rfl, D1, D2⟩
                            have GW5 : Hid (w.grownBy w5 none) := gtrans GW3.out D2
                            clear D2
                            rcases D1 with ⟨rfl, _⟩ | ⟨hn0, _⟩
                            · go_wp2_with fail
                              refine (are_none ao bo co ct cs cc w5).mono ?_
                              rintro e w4 ⟨rfl, hw4⟩
                              rw [hw4]
                              clear hw4 w4
                              go_wp2_with fail
                              go_ret
                              exact ⟨rfl, GW5.out⟩
                            · exact absurd hn0 (by omega)
                        · have K1 : Hid (w2.heap.size ≤ g) := k1
                          have K2 : Hid (w3.heap[g]? = some (.cells cur 34 (0, 0))) := k2
                          have K4 : Hid (cur.size = cap * 3) := k4
                          have K5 : Hid (cur.toList.take (na * 3) = c.toList) := k5
                          have K6 : Hid (Items w3 (w.heap.size + 1) T S A X cur na) := (HB3.out.grown0 (gtrans G12.out G23.out)).take k5
                          clear k1 k2 k4 k5
                          go_wp2_with fail
                          refine (are_some ao bo co T S A X C na ct cs cc g cap (w.heap.size + 1) cur w3 (HA.out.grown GW3.out) c1 hn0 HX.out K2.out K6.out).mono ?_
                          rintro e w4 ⟨rfl, D1⟩
                          have G24 : Hid (w2.grownBy w4 none) := gtrans G23.out D1
                          have K7 : Hid (w4.heap[g]? = some (.cells cur 34 (0, 0))) := (D1.block g (lt_of_heap K2.out) (by simp)).trans K2.out
                          clear D1
                          go_wp2_with fail
                          have hst : Over w4 w4 g (cap * 3) na 0 := ⟨cur, K7.out, K4.out, fun i _ hi => ⟨_, (K6.out i hi).1⟩, grefl _ _⟩
                          have HST : Hid (Over w4 w4 g (cap * 3) na 0) := hst
                          clear hst
                          go_loopw [13] (fun i wr => ∃ k : Nat, k ≤ na ∧ i = .int .i64 k ∧ Hid (Over w4 wr g (cap * 3) na k)) (fun i _ => na - (intOf i).toNat)
                          case atStart => exact ⟨0, Nat.zero_le _, rfl, HST.out⟩
                          case round =>
                            obtain ⟨j, hj, rfl, HR⟩ := hrel
                            by_cases hlt : j < na
                            · obtain ⟨c', o1, o2, o3, o4⟩ := HR.out
                              obtain ⟨t0, z0⟩ := o3 j (Nat.le_refl _) hlt
                              have g1 : j * 3 + 1 < c'.size := by omega
                              have g2 : j * 3 + 2 < c'.size := by omega
                              have y0 : wr.cell? ⟨g, j * 3, none⟩ = some (.int .i32 t0) := by rw [cell_of_row _ _ _ _ _ _ o1]; exact z0
                              have y1 : wr.cell? ⟨g, j * 3 + 1, none⟩ = some c'[j * 3 + 1] := by rw [cell_of_row _ _ _ _ _ _ o1, Array.getElem?_eq_getElem g1]
                              have y2 : wr.cell? ⟨g, j * 3 + 2, none⟩ = some c'[j * 3 + 2] := by rw [cell_of_row _ _ _ _ _ _ o1, Array.getElem?_eq_getElem g2]
                              generalize c'[j * 3 + 1] = p1 at y1
                              generalize c'[j * 3 + 2] = p2 at y2
                              have f0 : wr.frozen? ⟨g, j * 3, none⟩ = false := frozen_of_row _ _ _ _ _ o1
                              have f1 : wr.frozen? ⟨g, j * 3 + 1, none⟩ = false := frozen_of_row _ _ _ _ _ o1
                              have f2 : wr.frozen? ⟨g, j * 3 + 2, none⟩ = false := frozen_of_row _ _ _ _ _ o1
                              have q : (j : Int) < (na : Int) := by omega
                              clear o1 o2 o3 o4 z0 g1 g2
                              go_wp2_with fail
                              go_roundw
                              case rel => exact ⟨j + 1, by omega, by go_num, over_step _ _ _ HR.out⟩
                              case measure => simp [intOf]; omega
                            · go_wp2_with fail
                              obtain ⟨c', o1, o2, o3, o4⟩ := HR.out
                              have G2r : Hid (w2.grownBy wr none) := gjoin G24.out o4 K1.out
                              have GWr : Hid (w.grownBy wr none) := gtrans HB4.out (gtrans G12.out G2r.out)
                              clear o1 o2 o3 o4
                              refine (zzident_any w1.heap.size w.heap.size na c wr ((G2r.out.block _ (lt_of_heap HC2.out) (by simp)).trans HC2.out) ((G2r.out.block _ (lt_of_heap HL2.out) (by simp)).trans HL2.out) HB2.out HO.out c1 HNE.out).mono ?_
                              rintro e w5 ⟨v, rfl, D1, D2⟩
                              have GW5 : Hid (w.grownBy w5 none) := gtrans GWr.out D2
                              have G25 : Hid (w2.grownBy w5 none) := gtrans G2r.out D2
                              clear D2
                              rcases D1 with ⟨_, hn1⟩ | ⟨_, g2, cap2, cur2, rfl, k1, k2, k3, k4, k5⟩
                              · exact absurd hn0 (by omega)
                              · have M2 : Hid (w5.heap[g2]? = some (.cells cur2 34 (0, 0))) := k2
                                have M6 : Hid (Items w5 (w.heap.size + 1) T S A X cur2 na) := (HB3.out.grown0 (gtrans G12.out G25.out)).take k5
                                clear k1 k2 k4 k5
                                go_wp2_with fail
                                refine (are_some ao bo co T S A X C na ct cs cc g2 cap2 (w.heap.size + 1) cur2 w5 (HA.out.grown GW5.out) c1 hn0 HX.out M2.out M6.out).mono ?_
                                rintro e w6 ⟨rfl, D1⟩
                                have GW6 : Hid (w.grownBy w6 none) := gtrans GW5.out D1
                                clear D1
                                go_wp2_with fail
                                go_ret
                                exact ⟨rfl, GW6.out⟩
                      · have hq : ((ns : Int) != (nt : Int)) = false := by rw [d1]; simp
                        have hq2 : ((na : Int) != (nt : Int)) = true := by simp; omega
                        go_wp2_with fail
                        go_ret
                        exact TopPost.no w
                    · have hq : ((ns : Int) != (nt : Int)) = true := by simp; omega
                      go_wp2_with fail
                      go_ret
                      exact TopPost.no w
          · go_wp2_with fail
            go_ret
            exact TopPost.no w
        · go_wp2_with fail
          go_ret
          exact TopPost.no w
      · go_wp2_with fail
        go_ret
        exact TopPost.no w
    · go_wp2_with fail
      go_ret
      exact TopPost.no w
end Go.Proofs.Qxb6614018a
