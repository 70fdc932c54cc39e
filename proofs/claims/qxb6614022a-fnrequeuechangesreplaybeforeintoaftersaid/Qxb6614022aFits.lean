/-
  zzResumeFits.
-/
import Derived.Test.Qxb6614022aArgs
namespace Go.Proofs.Qxb6614022a
open Go.RowKit
set_option linter.unusedVariables false
set_option linter.unusedSimpArgs false

theorem cell_keep1 {w w' : World} {a : Addr} {v : Value} (h : w.cell? a = some v) (k : Keep w w' (fun _ => False)) : w'.cell? a = some v :=
  (World.cell?_of_block (k.block _ (World.block_lt_of_cell? w _ h) id)).trans h

theorem ZAt.keep {w w' : World} {tq so fo : Option Addr} {nt ns nf : Nat} {Z : ZA} (h : ZAt w tq so fo nt ns nf Z) (k : Keep w w' (fun _ => False)) : ZAt w' tq so fo nt ns nf Z where
  t := fun hp => by
    obtain ⟨ad, e, hc⟩ := h.t hp
    exact ⟨ad, e, fun i hi => ⟨cell_keep1 (hc i hi).1 k, cell_keep1 (hc i hi).2.1 k, cell_keep1 (hc i hi).2.2.1 k, cell_keep1 (hc i hi).2.2.2 k⟩⟩
  c := fun i hi hp => by
    obtain ⟨ad, e, hc⟩ := h.c i hi hp
    exact ⟨ad, e, fun j hj => ⟨cell_keep1 (hc j hj).1 k, (hc j hj).2⟩⟩
  a := fun i hi hp => by
    obtain ⟨ad, e, hc⟩ := h.a i hi hp
    exact ⟨ad, e, fun j hj => cell_keep1 (hc j hj) k⟩
  s := fun hp => by
    obtain ⟨ad, e, hc⟩ := h.s hp
    exact ⟨ad, e, fun i hi => ⟨cell_keep1 (hc i hi).1 k, cell_keep1 (hc i hi).2.1 k, cell_keep1 (hc i hi).2.2.1 k, cell_keep1 (hc i hi).2.2.2 k⟩⟩
  f := fun hp => by
    obtain ⟨ad, e, hc⟩ := h.f hp
    exact ⟨ad, e, fun j hj => cell_keep1 (hc j hj) k⟩
  zt := h.zt
  zs := h.zs
  mt := h.mt
  ms := h.ms
  mf := h.mf

def FitsPost (w : World) (nt ns nf : Nat) (Z : ZA) (e : Ending) (w' : World) : Prop :=
  ∃ b, e = .returned (.bool b) ∧ Keep w w' (fun _ => False) ∧ (b = true → nt ≤ 65536 ∧ ns ≤ 65536 ∧ nf ≤ 65536 ∧ ∀ i, i < nt → Z.An i ≤ 65536)
theorem FitsPost.no {w w' : World} {nt ns nf : Nat} {Z : ZA} (k : Keep w w' (fun _ => False)) : FitsPost w nt ns nf Z (.returned (.bool false)) w' := ⟨false, rfl, k, fun h => by cases h⟩

set_option maxRecDepth 100000 in
set_option maxHeartbeats 4000000 in
theorem fits_any (nm : ByteArray) (tq so fo : Option Addr) (nt ct ns cs nf cf : Nat) (Z : ZA) (w : World) (h : ZAt w tq so fo nt ns nf Z) (hnm : nm.size ≤ maxLen) :
    Calls Try.prog 9 #[.string nm, .slice tq nt ct, .slice so ns cs, .slice fo nf cf] w fun e w' => FitsPost w nt ns nf Z e w' := by
  have HZ : Hid (ZAt w tq so fo nt ns nf Z) := h
  have m1 := Nat.le_trans h.mt maxLen_le
  have m2 := Nat.le_trans h.ms maxLen_le
  have m3 := Nat.le_trans h.mf maxLen_le
  have m4 := Nat.le_trans hnm maxLen_le
  clear h hnm
  by_cases a1 : nm.size ≤ 1048576
  · by_cases a2 : nt ≤ 65536
    · by_cases a3 : ns ≤ 65536
      · by_cases a4 : nf ≤ 65536
        · by_cases a5 : nm.size + 8 * nf + 8 * nt + 8 * ns ≤ 1048576
          · go_enter Try.func9, Try.ntmps9
            go_wp2
            go_loopw [9, 50] (fun z i wr => ∃ (k : Nat) (t : Int), k ≤ nt ∧ i = .int .i64 k ∧ z = .int .i64 t ∧ 0 ≤ t ∧ t ≤ 1048576 ∧ Hid (Keep w wr (fun _ => False) ∧ ∀ i, i < k → Z.An i ≤ 65536)) (fun _ i _ => nt - (intOf i).toNat)
            case atStart => exact ⟨0, _, Nat.zero_le _, rfl, rfl, by omega, by omega, Keep.refl _ _, fun i hi => by omega⟩
            case round =>
              obtain ⟨k, t, hk, rfl, rfl, ht0, ht1, HR⟩ := hrel
              by_cases hlt : k < nt
              · obtain ⟨ad, e, hc⟩ := (HZ.out.keep HR.out.1).t (by omega)
                subst e
                obtain ⟨q0, q1, q2, q3⟩ := hc k hlt
                obtain ⟨z1, z2, z3⟩ := HZ.out.zt k hlt
                have z1 := Nat.le_trans z1 maxLen_le
                have z2 := Nat.le_trans z2 maxLen_le
                have z3 := Nat.le_trans z3 maxLen_le
                obtain ⟨u, hu⟩ : ∃ u, u = Z.N k := ⟨_, rfl⟩
                obtain ⟨co, hco⟩ : ∃ u, u = Z.Co k := ⟨_, rfl⟩
                obtain ⟨cn, hcn⟩ : ∃ u, u = Z.Cn k := ⟨_, rfl⟩
                obtain ⟨an, han⟩ : ∃ u, u = Z.An k := ⟨_, rfl⟩
                rw [← hu] at q0 z1
                rw [← hco, ← hcn] at q1
                rw [← han] at q2 z3
                rw [← hcn] at z2
                have HAN : Hid (an = Z.An k) := han
                have HCC : Hid (0 < cn → ∃ ad, co = some ad ∧ ∀ j, j < cn → w.cell? (ad.add j) = some (.string (Z.Cs k j)) ∧ (Z.Cs k j).size ≤ maxLen) := by
                  rw [hcn, hco]; exact HZ.out.c k hlt
                have q : (k : Int) < (nt : Int) := by omega
                have HA : Hid (∀ ob : Obj, Keep w (wr.alloc ob) (fun _ => False)) := fun ob => HR.out.1.trans (Keep.alloc _ _ (fun _ => False)) (fun _ _ h => h)
                clear hc hu hco hcn han
                by_cases b1 : u.size ≤ 1048576
                · by_cases b2 : cn ≤ 65536
                  · by_cases b3 : an ≤ 65536
                    · by_cases b4 : t + (u.size + 8 * cn + 8 * an) ≤ 1048576
                      · go_wp2
                        have hB := heap_alloc_new wr (.cells #[.string u, .slice co cn (Z.Cc k), .slice (Z.Ao k) an (Z.Ac k), .int .i64 (Z.R k)] 49)
                        have HK2 : Hid (Keep w (wr.alloc (.cells #[.string u, .slice co cn (Z.Cc k), .slice (Z.Ao k) an (Z.Ac k), .int .i64 (Z.R k)] 49)) (fun _ => False)) := HA.out _
                        have HB : Hid ((wr.alloc (.cells #[.string u, .slice co cn (Z.Cc k), .slice (Z.Ao k) an (Z.Ac k), .int .i64 (Z.R k)] 49)).cell? ⟨wr.heap.size, 1, none⟩ = some (.slice co cn (Z.Cc k))) := by
                          show _ = _
                          rw [cell_of_row _ _ _ _ _ _ hB]; rfl
                        obtain ⟨wA, hwA⟩ : ∃ wA, wA = wr.alloc (.cells #[.string u, .slice co cn (Z.Cc k), .slice (Z.Ao k) an (Z.Ac k), .int .i64 (Z.R k)] 49) := ⟨_, rfl⟩
                        rw [← hwA] at HB HK2 ⊢
                        clear hB hwA q0 q1 q2 q3 HA
                        go_loopw [9, 93] (fun z i wv => ∃ (j : Nat) (t : Int), j ≤ cn ∧ i = .int .i64 j ∧ z = .int .i64 t ∧ 0 ≤ t ∧ t ≤ 1048576 ∧ Hid (wv = wA)) (fun _ i _ => cn - (intOf i).toNat)
                        case atStart => exact ⟨0, _, Nat.zero_le _, rfl, rfl, by omega, by omega, rfl⟩
                        case round =>
                          obtain ⟨j, t, hj, rfl, rfl, ht0, ht1, HI⟩ := hrel
                          by_cases hjl : j < cn
                          · obtain ⟨bd, e, hc⟩ := HCC.out (by omega)
                            subst e
                            obtain ⟨x1, x2⟩ := hc j hjl
                            have x2 := Nat.le_trans x2 maxLen_le
                            obtain ⟨v, hv⟩ : ∃ v, v = Z.Cs k j := ⟨_, rfl⟩
                            rw [← hv] at x1 x2
                            have x3 := cell_keep1 x1 HK2.out
                            have x4 := HB.out
                            rw [← HI.out] at x3 x4
                            have q1 : (j : Int) < (cn : Int) := by omega
                            have HKv : Hid (Keep w wr (fun _ => False)) := by rw [HI.out]; exact HK2.out
                            clear hc hv x1
                            by_cases d1 : v.size ≤ 1048576
                            · by_cases d2 : t + v.size ≤ 1048576
                              · go_wp2
                                go_roundw
                                case rel => exact ⟨j + 1, _, by omega, by go_num, rfl, by omega, by omega, HI.out⟩
                                case measure => simp [intOf]; omega
                              · go_wp2
                                go_ret
                                exact FitsPost.no HKv.out
                            · go_wp2
                              go_ret
                              exact FitsPost.no HKv.out
                          · have HKv : Hid (Keep w wr (fun _ => False)) := by rw [HI.out]; exact HK2.out
                            go_wp2
                            go_roundw
                            case rel =>
                              refine ⟨k + 1, _, by omega, by go_num, rfl, ht0, ht1, HKv.out, fun i hi => ?_⟩
                              by_cases hik : i = k
                              · rw [hik, ← HAN.out]; exact b3
                              · exact HR.out.2 i (by omega)
                            case measure => simp [intOf]; omega
                      · go_wp2
                        go_ret
                        exact FitsPost.no (HA.out _)
                    · go_wp2
                      go_ret
                      exact FitsPost.no (HA.out _)
                  · go_wp2
                    go_ret
                    exact FitsPost.no (HA.out _)
                · go_wp2
                  go_ret
                  exact FitsPost.no (HA.out _)
              · go_wp2
                have HKo : Hid (Keep w wr (fun _ => False)) := HR.out.1
                have HRo : Hid (∀ i, i < nt → Z.An i ≤ 65536) := fun i hi => HR.out.2 i (by omega)
                obtain ⟨wo, hwo⟩ : ∃ wo, wo = wr := ⟨_, rfl⟩
                rw [← hwo] at HKo ⊢
                clear hwo HR
                go_loopw [9, 117] (fun z i wv => ∃ (j : Nat) (t : Int), j ≤ ns ∧ i = .int .i64 j ∧ z = .int .i64 t ∧ 0 ≤ t ∧ t ≤ 1048576 ∧ Hid (wv = wo)) (fun _ i _ => ns - (intOf i).toNat)
                case atStart => exact ⟨0, _, Nat.zero_le _, rfl, rfl, ht0, ht1, rfl⟩
                case round =>
                  obtain ⟨j, t, hj, rfl, rfl, ht0, ht1, HI⟩ := hrel
                  have HKv : Hid (Keep w wr (fun _ => False)) := by rw [HI.out]; exact HKo.out
                  by_cases hjl : j < ns
                  · obtain ⟨sd, e, hc⟩ := (HZ.out.keep HKv.out).s (by omega)
                    subst e
                    obtain ⟨_, _, _, q3⟩ := hc j hjl
                    have z1 := Nat.le_trans (HZ.out.zs j hjl) maxLen_le
                    obtain ⟨v, hv⟩ : ∃ v, v = Z.Wk j := ⟨_, rfl⟩
                    rw [← hv] at q3 z1
                    have q1 : (j : Int) < (ns : Int) := by omega
                    clear hc hv
                    by_cases d1 : v.size ≤ 1048576
                    · by_cases d2 : t + v.size ≤ 1048576
                      · go_wp2
                        go_roundw
                        case rel => exact ⟨j + 1, _, by omega, by go_num, rfl, by omega, by omega, HI.out⟩
                        case measure => simp [intOf]; omega
                      · go_wp2
                        go_ret
                        exact FitsPost.no HKv.out
                    · go_wp2
                      go_ret
                      exact FitsPost.no HKv.out
                  · go_wp2
                    go_ret
                    exact ⟨true, rfl, HKv.out, fun _ => ⟨a2, a3, a4, HRo.out⟩⟩
          · go_enter Try.func9, Try.ntmps9
            go_wp2
            go_ret
            exact FitsPost.no (Keep.refl _ _)
        · go_enter Try.func9, Try.ntmps9
          go_wp2
          go_ret
          exact FitsPost.no (Keep.refl _ _)
      · go_enter Try.func9, Try.ntmps9
        go_wp2
        go_ret
        exact FitsPost.no (Keep.refl _ _)
    · go_enter Try.func9, Try.ntmps9
      go_wp2
      go_ret
      exact FitsPost.no (Keep.refl _ _)
  · go_enter Try.func9, Try.ntmps9
    go_wp2
    go_ret
    exact FitsPost.no (Keep.refl _ _)
end Go.Proofs.Qxb6614022a
