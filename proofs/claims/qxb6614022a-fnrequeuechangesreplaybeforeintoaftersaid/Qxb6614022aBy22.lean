/-
  The bound on the total length (function 22).
-/
import Derived.Test.Qxb6614022aBy8
namespace Go.Proofs.Qxb6614022a
open Go.RowKit
set_option linter.unusedVariables false
set_option linter.unusedSimpArgs false

set_option maxRecDepth 100000 in
set_option maxHeartbeats 4000000 in
theorem bytes22_any (nm : ByteArray) (thr jb : Int) (tq so fo : Option Addr) (nt ct ns cs nf cf : Nat) (Z : ZA) (w : World) (h : ZAt w tq so fo nt ns nf Z) (hnm : nm.size ≤ maxLen) :
    Calls Try.prog 22 #[.string nm, .int .i64 thr, .slice tq nt ct, .int .i64 jb, .slice so ns cs, .slice fo nf cf] w fun e w' => BytesPost w e w' := by
  have HZ : Hid (ZAt w tq so fo nt ns nf Z) := h
  have m1 := Nat.le_trans h.mt maxLen_le
  have m2 := Nat.le_trans h.ms maxLen_le
  have m3 := Nat.le_trans h.mf maxLen_le
  have m4 := Nat.le_trans hnm maxLen_le
  clear h hnm
  by_cases a1 : nm.size ≤ 1048576
  · by_cases a2 : nt ≤ 1048576
    · by_cases a3 : nm.size + nt ≤ 1048576
      · go_enter Try.func22, Try.ntmps22
        go_wp2
        go_loopw [13, 14] (fun z i wr => ∃ (k : Nat) (t : Int), k ≤ nt ∧ i = .int .i64 k ∧ z = .int .i64 t ∧ 0 ≤ t ∧ t ≤ 1048576 ∧ Hid (wr = w)) (fun _ i _ => nt - (intOf i).toNat)
        case atStart => exact ⟨0, _, Nat.zero_le _, rfl, rfl, by omega, by omega, rfl⟩
        case round =>
          obtain ⟨k, t, hk, rfl, rfl, ht0, ht1, HR⟩ := hrel
          by_cases hlt : k < nt
          · obtain ⟨ad, e, hc⟩ := HZ.out.t (by omega)
            subst e
            obtain ⟨q0, q1, q2, _⟩ := hc k hlt
            obtain ⟨z1, z2, z3⟩ := HZ.out.zt k hlt
            have z1 := Nat.le_trans z1 maxLen_le
            have z2 := Nat.le_trans z2 maxLen_le
            have z3 := Nat.le_trans z3 maxLen_le
            obtain ⟨u, hu⟩ : ∃ u, u = Z.N k := ⟨_, rfl⟩
            obtain ⟨co, hco⟩ : ∃ u, u = Z.Co k := ⟨_, rfl⟩
            obtain ⟨cn, hcn⟩ : ∃ u, u = Z.Cn k := ⟨_, rfl⟩
            obtain ⟨an, han⟩ : ∃ u, u = Z.An k := ⟨_, rfl⟩
            rw [← hu] at q0 z1
            rw [← hco, ← hcn] at q1
            rw [← han] at q2 z3
            rw [← hcn] at z2
            have HCC : Hid (0 < cn → ∃ ad, co = some ad ∧ ∀ j, j < cn → w.cell? (ad.add j) = some (.string (Z.Cs k j)) ∧ (Z.Cs k j).size ≤ maxLen) := by
              rw [hcn, hco]; exact HZ.out.c k hlt
            have HQ : Hid (w.cell? ⟨(ad.add (k * 4)).block, (ad.add (k * 4)).off + 1, none⟩ = some (.slice co cn (Z.Cc k)) ∧ w.cell? ⟨(ad.add (k * 4)).block, (ad.add (k * 4)).off + 2, none⟩ = some (.slice (Z.Ao k) an (Z.Ac k))) := ⟨q1, q2⟩
            have q : (k : Int) < (nt : Int) := by omega
            rw [← HR.out] at q0 q1 q2
            clear hc hu hco hcn han
            by_cases b1 : u.size ≤ 1048576
            · by_cases b2 : t + u.size ≤ 1048576
              · by_cases b3 : cn ≤ 1048576
                · by_cases b4 : t + u.size + cn ≤ 1048576
                  · go_wp2
                    have HRo : Hid (wr = w) := HR
                    clear q0 q1 q2 HR
                    go_loopw [13, 15] (fun z i wv => ∃ (j : Nat) (t : Int), j ≤ cn ∧ i = .int .i64 j ∧ z = .int .i64 t ∧ 0 ≤ t ∧ t ≤ 1048576 ∧ Hid (wv = w)) (fun _ i _ => cn - (intOf i).toNat)
                    case atStart => exact ⟨0, _, Nat.zero_le _, rfl, rfl, by omega, by omega, HRo.out⟩
                    case round =>
                      clear HRo
                      obtain ⟨j, t, hj, rfl, rfl, ht0, ht1, HI⟩ := hrel
                      obtain ⟨q1, q2⟩ := HQ.out
                      rw [← HI.out] at q1 q2
                      by_cases hjl : j < cn
                      · obtain ⟨bd, e, hc⟩ := HCC.out (by omega)
                        subst e
                        obtain ⟨x1, x2⟩ := hc j hjl
                        have x2 := Nat.le_trans x2 maxLen_le
                        obtain ⟨v, hv⟩ : ∃ v, v = Z.Cs k j := ⟨_, rfl⟩
                        rw [← hv] at x1 x2
                        rw [← HI.out] at x1
                        have qj : (j : Int) < (cn : Int) := by omega
                        clear hc hv
                        by_cases d1 : v.size ≤ 1048576
                        · by_cases d2 : t + v.size ≤ 1048576
                          · go_wp2
                            go_roundw
                            case rel => exact ⟨j + 1, _, by omega, by go_num, rfl, by omega, by omega, HI.out⟩
                            case measure => simp [intOf]; omega
                          · go_wp2
                            go_ret
                            exact ⟨_, rfl, HI.out⟩
                        · go_wp2
                          go_ret
                          exact ⟨_, rfl, HI.out⟩
                      · by_cases d1 : an ≤ 1048576
                        · by_cases d2 : t + an ≤ 1048576
                          · go_wp2
                            go_roundw
                            case rel => exact ⟨k + 1, _, by omega, by go_num, rfl, by omega, by omega, HI.out⟩
                            case measure => simp [intOf]; omega
                          · go_wp2
                            go_ret
                            exact ⟨_, rfl, HI.out⟩
                        · go_wp2
                          go_ret
                          exact ⟨_, rfl, HI.out⟩
                  · go_wp2
                    go_ret
                    exact ⟨_, rfl, HR.out⟩
                · go_wp2
                  go_ret
                  exact ⟨_, rfl, HR.out⟩
              · go_wp2
                go_ret
                exact ⟨_, rfl, HR.out⟩
            · go_wp2
              go_ret
              exact ⟨_, rfl, HR.out⟩
          · by_cases c1 : ns ≤ 1048576
            · by_cases c2 : t + ns ≤ 1048576
              · go_wp2
                have HRo : Hid (wr = w) := HR
                clear HR
                go_loopw [13, 16] (fun z i wv => ∃ (j : Nat) (t : Int), j ≤ ns ∧ i = .int .i64 j ∧ z = .int .i64 t ∧ 0 ≤ t ∧ t ≤ 1048576 ∧ Hid (wv = w)) (fun _ i _ => ns - (intOf i).toNat)
                case atStart => exact ⟨0, _, Nat.zero_le _, rfl, rfl, by omega, by omega, HRo.out⟩
                case round =>
                  clear HRo
                  obtain ⟨j, t, hj, rfl, rfl, ht0, ht1, HI⟩ := hrel
                  by_cases hjl : j < ns
                  · obtain ⟨sd, e, hc⟩ := HZ.out.s (by omega)
                    subst e
                    obtain ⟨_, _, _, q3⟩ := hc j hjl
                    have z1 := Nat.le_trans (HZ.out.zs j hjl) maxLen_le
                    obtain ⟨v, hv⟩ : ∃ v, v = Z.Wk j := ⟨_, rfl⟩
                    rw [← hv] at q3 z1
                    rw [← HI.out] at q3
                    have q1 : (j : Int) < (ns : Int) := by omega
                    clear hc hv
                    by_cases d1 : v.size ≤ 1048576
                    · by_cases d2 : t + v.size ≤ 1048576
                      · go_wp2
                        go_roundw
                        case rel => exact ⟨j + 1, _, by omega, by go_num, rfl, by omega, by omega, HI.out⟩
                        case measure => simp [intOf]; omega
                      · go_wp2
                        go_ret
                        exact ⟨_, rfl, HI.out⟩
                    · go_wp2
                      go_ret
                      exact ⟨_, rfl, HI.out⟩
                  · by_cases d1 : nf ≤ 1048576
                    · by_cases d2 : t + nf ≤ 1048576
                      · go_wp2
                        go_ret
                        exact ⟨_, rfl, HI.out⟩
                      · go_wp2
                        go_ret
                        exact ⟨_, rfl, HI.out⟩
                    · go_wp2
                      go_ret
                      exact ⟨_, rfl, HI.out⟩
              · go_wp2
                go_ret
                exact ⟨_, rfl, HR.out⟩
            · go_wp2
              go_ret
              exact ⟨_, rfl, HR.out⟩
      · go_enter Try.func22, Try.ntmps22
        go_wp2
        go_ret
        exact ⟨_, rfl, rfl⟩
    · go_enter Try.func22, Try.ntmps22
      go_wp2
      go_ret
      exact ⟨_, rfl, rfl⟩
  · go_enter Try.func22, Try.ntmps22
    go_wp2
    go_ret
    exact ⟨_, rfl, rfl⟩
end Go.Proofs.Qxb6614022a
