/-
  The three arguments as the walks want them; zzBytes_FnIdentitiesIsAFreshCopyOfTheAddedIdentities.
-/
import Derived.Test.Qxb6614018aClone
namespace Go.Proofs.Qxb6614018a
open Go.RowKit
set_option linter.unusedVariables false
set_option linter.unusedSimpArgs false
attribute [local go_sem] eql26 eql29

/-- The cells behind the three arguments. -/
structure Args (w : World) (ao bo co : Option Addr) (T : Nat → Int) (S : Nat → ByteArray) (A : Nat → Option Addr) (X : Nat → List Int) (C : Nat → Nat) (nt ns na : Nat) : Prop where
  ty : 0 < nt → ∃ ad, ao = some ad ∧ ∀ i, i < nt → w.cell? (ad.add i) = some (.int .i32 (T i))
  st : 0 < ns → ∃ ad, bo = some ad ∧ ∀ i, i < ns → w.cell? (ad.add i) = some (.string (S i))
  au : 0 < na → ∃ ad, co = some ad ∧ ∀ i, i < na → w.cell? (ad.add i) = some (.slice (A i) (X i).length (C i))
  nil : ∀ i, i < na → A i = none → X i = []
  by_ : ∀ i, i < na → 0 < (X i).length → ∃ ad, A i = some ad ∧ ∀ j, j < (X i).length → w.cell? (ad.add j) = some (.int .u8 ((X i).getD j 0))

theorem Args.grown {w w' : World} {ao bo co : Option Addr} {T : Nat → Int} {S : Nat → ByteArray} {A : Nat → Option Addr} {X : Nat → List Int} {C : Nat → Nat} {nt ns na : Nat}
    (h : Args w ao bo co T S A X C nt ns na) (hg : w.grownBy w' none) : Args w' ao bo co T S A X C nt ns na := by
  refine ⟨fun hp => ?_, fun hp => ?_, fun hp => ?_, h.nil, fun i hi hp => ?_⟩
  · obtain ⟨ad, e, hc⟩ := h.ty hp; exact ⟨ad, e, fun i hi => hg.cell (hc i hi) (by simp)⟩
  · obtain ⟨ad, e, hc⟩ := h.st hp; exact ⟨ad, e, fun i hi => hg.cell (hc i hi) (by simp)⟩
  · obtain ⟨ad, e, hc⟩ := h.au hp; exact ⟨ad, e, fun i hi => hg.cell (hc i hi) (by simp)⟩
  · obtain ⟨ad, e, hc⟩ := h.by_ i hi hp; exact ⟨ad, e, fun j hj => hg.cell (hc j hj) (by simp)⟩

theorem ret_bool {a b : Bool} (h : a = b) : Ending.returned (.bool a) = .returned (.bool b) := by rw [h]

def SizesPost (w : World) (S : Nat → ByteArray) (X : Nat → List Int) (nt ns na : Nat) (e : Ending) (w' : World) : Prop :=
  ∃ b, e = .returned (.bool b) ∧ w' = w ∧ (b = true → nt ≤ 1048576 ∧ ns ≤ 1048576 ∧ na ≤ 1048576 ∧ (∀ i, i < ns → (S i).size ≤ 1048576) ∧ (∀ i, i < na → (X i).length ≤ 1048576))
theorem SizesPost.no (w : World) (S : Nat → ByteArray) (X : Nat → List Int) (nt ns na : Nat) : SizesPost w S X nt ns na (.returned (.bool false)) w := ⟨false, rfl, rfl, fun h => by cases h⟩

set_option maxHeartbeats 1000000 in
theorem sizes_any (ao bo co : Option Addr) (T : Nat → Int) (S : Nat → ByteArray) (A : Nat → Option Addr) (X : Nat → List Int) (C : Nat → Nat) (nt ns na ct cs cc : Nat) (w : World)
    (hA : Args w ao bo co T S A X C nt ns na) (h1 : nt ≤ 9223372036854775807) (h2 : ns ≤ 9223372036854775807) (h3 : na ≤ 9223372036854775807)  :
    Calls Try.prog 4 #[.slice ao nt ct, .slice bo ns cs, .slice co na cc] w fun e w' => SizesPost w S X nt ns na e w' := by
  by_cases c1 : nt ≤ 1048576
  · by_cases c2 : ns ≤ 1048576
    · by_cases c3 : nt + ns ≤ 1048576
      · go_enter Try.func4, Try.ntmps4
        go_wp2
        go_loop [7, 8] (fun z i => ∃ (k : Nat) (t : Int), k ≤ ns ∧ i = .int .i64 k ∧ z = .int .i64 t ∧ 0 ≤ t ∧ t ≤ 1048576 ∧ Hid (∀ j, j < k → (S j).size ≤ 1048576)) (fun _ i => ns - (intOf i).toNat)
        case atStart => exact ⟨0, _, Nat.zero_le _, rfl, rfl, by omega, by omega, fun j hj => by omega⟩
        case round =>
          obtain ⟨k, t, hk, rfl, rfl, ht0, ht1, HS⟩ := hrel
          by_cases hlt : k < ns
          · obtain ⟨ad, e, hc⟩ := hA.st (by omega)
            subst e
            have hcell := hc k hlt
            have q : (k : Int) < (ns : Int) := by omega
            obtain ⟨s, hs⟩ : ∃ s, s = S k := ⟨_, rfl⟩
            rw [← hs] at hcell
            have HSk : Hid (s = S k) := hs
            clear hc hs
            by_cases b1 : s.size ≤ 1048576
            · by_cases b2 : t + s.size ≤ 1048576
              · go_wp2
                go_round
                case rel =>
                  refine ⟨k + 1, _, by omega, by go_num, rfl, by omega, by omega, fun j hj => ?_⟩
                  by_cases hjk : j = k
                  · rw [hjk, ← HSk.out]; exact b1
                  · exact HS.out j (by omega)
                case measure => simp [intOf]; omega
              · go_wp2
                go_ret
                exact SizesPost.no _ _ _ _ _ _
            · go_wp2
              go_ret
              exact SizesPost.no _ _ _ _ _ _
          · by_cases c4 : na ≤ 1048576
            · by_cases c5 : t + na ≤ 1048576
              · have HSS : Hid (∀ j, j < ns → (S j).size ≤ 1048576) := fun j hj => HS.out j (by omega)
                go_wp2
                go_loop [7, 9] (fun z i => ∃ (k : Nat) (t : Int), k ≤ na ∧ i = .int .i64 k ∧ z = .int .i64 t ∧ 0 ≤ t ∧ t ≤ 1048576 ∧ Hid (∀ j, j < k → (X j).length ≤ 1048576)) (fun _ i => na - (intOf i).toNat)
                case atStart => exact ⟨0, _, Nat.zero_le _, rfl, rfl, by omega, by omega, fun j hj => by omega⟩
                case round =>
                  obtain ⟨k, t, hk, rfl, rfl, ht0, ht1, HS⟩ := hrel
                  by_cases hlt : k < na
                  · obtain ⟨ad, e, hc⟩ := hA.au (by omega)
                    subst e
                    have hcell := hc k hlt
                    have q : (k : Int) < (na : Int) := by omega
                    obtain ⟨l, hl⟩ : ∃ l, l = (X k).length := ⟨_, rfl⟩
                    rw [← hl] at hcell
                    have HLk : Hid (l = (X k).length) := hl
                    clear hc hl
                    by_cases b1 : l ≤ 1048576
                    · by_cases b2 : t + l ≤ 1048576
                      · go_wp2
                        go_round
                        case rel =>
                          refine ⟨k + 1, _, by omega, by go_num, rfl, by omega, by omega, fun j hj => ?_⟩
                          by_cases hjk : j = k
                          · rw [hjk, ← HLk.out]; exact b1
                          · exact HS.out j (by omega)
                        case measure => simp [intOf]; omega
                      · go_wp2
                        go_ret
                        exact SizesPost.no _ _ _ _ _ _
                    · go_wp2
                      go_ret
                      exact SizesPost.no _ _ _ _ _ _
                  · go_wp2
                    go_ret
                    exact ⟨true, rfl, rfl, fun _ => ⟨c1, c2, c4, HSS.out, fun i hi => HS.out i (by omega)⟩⟩
              · go_wp2
                go_ret
                exact SizesPost.no _ _ _ _ _ _
            · go_wp2
              go_ret
              exact SizesPost.no _ _ _ _ _ _
      · go_enter Try.func4, Try.ntmps4
        go_wp2
        go_ret
        exact SizesPost.no _ _ _ _ _ _
    · go_enter Try.func4, Try.ntmps4
      go_wp2
      go_ret
      exact SizesPost.no _ _ _ _ _ _
  · go_enter Try.func4, Try.ntmps4
    go_wp2
    go_ret
    exact SizesPost.no _ _ _ _ _ _
end Go.Proofs.Qxb6614018a
