/-
  The law at every input.
-/
import Derived.Test.Qxb6613925aLaw
namespace Go.Proofs.Qxb6613925a
open Go.RowKit
set_option linter.unusedVariables false
set_option linter.unusedSimpArgs false

set_option maxRecDepth 100000 in
set_option maxHeartbeats 4000000 in
theorem walk (a0 a1 a2 a3 : Int) (a4 a5 : ByteArray) (a6 a7 : Int) (w4 : a4.size ≤ maxLen) (w5 : a5.size ≤ maxLen) (w6 : 0 ≤ a6 ∧ a6 < 18446744073709551616) (w7 : 0 ≤ a7 ∧ a7 < 18446744073709551616) (w : World) :
    Calls Try.prog 5 #[.int .i64 a0, .int .i64 a1, .int .i64 a2, .int .i64 a3, .string a4, .string a5, .int .u64 a6, .int .u64 a7] w fun e w' => LawPost w e w' := by
  have HBY : Hid (Calls Try.prog 11 #[.int .i64 a0, .int .i64 a1, .int .i64 a2, .int .i64 a3, .string a4, .string a5, .int .u64 a6, .int .u64 a7] w fun e w' => ∃ b, e = .returned (.bool b) ∧ w' = w) := bytes_any a0 a1 a2 a3 a6 a7 a4 a5 w4 w5 w
  have hml : maxLen ≤ 9223372036854775807 := by decide
  by_cases g4 : a4.size ≤ 65536
  case neg =>
    go_enter Try.func5, Try.ntmps5
    go_wp2_with fail
    refine HBY.out.mono ?_
    rintro e w1 ⟨b, rfl, hw1⟩
    rw [hw1]
    clear hw1 w1 HBY
    cases b with
    | false =>
      go_wp2_with fail
      go_ret
      exact ⟨rfl, Keep.refl _ _⟩
    | true =>
      go_wp2_with fail
      go_ret
      exact ⟨rfl, Keep.refl _ _⟩
  by_cases g5 : a5.size ≤ 65536
  case neg =>
    go_enter Try.func5, Try.ntmps5
    go_wp2_with fail
    refine HBY.out.mono ?_
    rintro e w1 ⟨b, rfl, hw1⟩
    rw [hw1]
    clear hw1 w1 HBY
    cases b with
    | false =>
      go_wp2_with fail
      go_ret
      exact ⟨rfl, Keep.refl _ _⟩
    | true =>
      go_wp2_with fail
      go_ret
      exact ⟨rfl, Keep.refl _ _⟩
  by_cases n1 : 1 ≤ a0
  case neg =>
    go_enter Try.func5, Try.ntmps5
    go_wp2_with fail
    refine HBY.out.mono ?_
    rintro e w1 ⟨b, rfl, hw1⟩
    rw [hw1]
    clear hw1 w1 HBY
    cases b with
    | false =>
      go_wp2_with fail
      go_ret
      exact ⟨rfl, Keep.refl _ _⟩
    | true =>
      go_wp2_with fail
      go_ret
      exact ⟨rfl, Keep.refl _ _⟩
  by_cases n2 : a0 ≤ 65536
  case neg =>
    go_enter Try.func5, Try.ntmps5
    go_wp2_with fail
    refine HBY.out.mono ?_
    rintro e w1 ⟨b, rfl, hw1⟩
    rw [hw1]
    clear hw1 w1 HBY
    cases b with
    | false =>
      go_wp2_with fail
      go_ret
      exact ⟨rfl, Keep.refl _ _⟩
    | true =>
      go_wp2_with fail
      go_ret
      exact ⟨rfl, Keep.refl _ _⟩
  by_cases f1 : 0 ≤ a1
  case neg =>
    go_enter Try.func5, Try.ntmps5
    go_wp2_with fail
    refine HBY.out.mono ?_
    rintro e w1 ⟨b, rfl, hw1⟩
    rw [hw1]
    clear hw1 w1 HBY
    cases b with
    | false =>
      go_wp2_with fail
      go_ret
      exact ⟨rfl, Keep.refl _ _⟩
    | true =>
      go_wp2_with fail
      go_ret
      exact ⟨rfl, Keep.refl _ _⟩
  by_cases f2 : a1 < a0
  case neg =>
    go_enter Try.func5, Try.ntmps5
    go_wp2_with fail
    refine HBY.out.mono ?_
    rintro e w1 ⟨b, rfl, hw1⟩
    rw [hw1]
    clear hw1 w1 HBY
    cases b with
    | false =>
      go_wp2_with fail
      go_ret
      exact ⟨rfl, Keep.refl _ _⟩
    | true =>
      go_wp2_with fail
      go_ret
      exact ⟨rfl, Keep.refl _ _⟩
  by_cases i1 : 0 ≤ a2
  case neg =>
    go_enter Try.func5, Try.ntmps5
    go_wp2_with fail
    refine HBY.out.mono ?_
    rintro e w1 ⟨b, rfl, hw1⟩
    rw [hw1]
    clear hw1 w1 HBY
    cases b with
    | false =>
      go_wp2_with fail
      go_ret
      exact ⟨rfl, Keep.refl _ _⟩
    | true =>
      go_wp2_with fail
      go_ret
      exact ⟨rfl, Keep.refl _ _⟩
  by_cases i2 : a2 < a0
  case neg =>
    go_enter Try.func5, Try.ntmps5
    go_wp2_with fail
    refine HBY.out.mono ?_
    rintro e w1 ⟨b, rfl, hw1⟩
    rw [hw1]
    clear hw1 w1 HBY
    cases b with
    | false =>
      go_wp2_with fail
      go_ret
      exact ⟨rfl, Keep.refl _ _⟩
    | true =>
      go_wp2_with fail
      go_ret
      exact ⟨rfl, Keep.refl _ _⟩
  by_cases j1 : 0 ≤ a3
  case neg =>
    go_enter Try.func5, Try.ntmps5
    go_wp2_with fail
    refine HBY.out.mono ?_
    rintro e w1 ⟨b, rfl, hw1⟩
    rw [hw1]
    clear hw1 w1 HBY
    cases b with
    | false =>
      go_wp2_with fail
      go_ret
      exact ⟨rfl, Keep.refl _ _⟩
    | true =>
      go_wp2_with fail
      go_ret
      exact ⟨rfl, Keep.refl _ _⟩
  by_cases j2 : a3 < a0
  case neg =>
    go_enter Try.func5, Try.ntmps5
    go_wp2_with fail
    refine HBY.out.mono ?_
    rintro e w1 ⟨b, rfl, hw1⟩
    rw [hw1]
    clear hw1 w1 HBY
    cases b with
    | false =>
      go_wp2_with fail
      go_ret
      exact ⟨rfl, Keep.refl _ _⟩
    | true =>
      go_wp2_with fail
      go_ret
      exact ⟨rfl, Keep.refl _ _⟩
  obtain ⟨N, rfl⟩ := Int.eq_ofNat_of_zero_le (show 0 ≤ a0 by omega)
  obtain ⟨F, rfl⟩ := Int.eq_ofNat_of_zero_le f1
  obtain ⟨i, rfl⟩ := Int.eq_ofNat_of_zero_le i1
  obtain ⟨i2, rfl⟩ := Int.eq_ofNat_of_zero_le j1
  obtain ⟨s1, rfl⟩ := Int.eq_ofNat_of_zero_le w6.1
  obtain ⟨s2, rfl⟩ := Int.eq_ofNat_of_zero_le w7.1
  exact law N F i i2 s1 s2 a4 a5 g4 g5 (by omega) (by omega) (by omega) (by omega) (by omega) (by omega) w
end Go.Proofs.Qxb6613925a
