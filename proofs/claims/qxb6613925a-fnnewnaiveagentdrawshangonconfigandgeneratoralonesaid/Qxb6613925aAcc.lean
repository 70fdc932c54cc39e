/-
  The law's small helpers.
-/
import Derived.Test.Qxb6613925aAgent
namespace Go.Proofs.Qxb6613925a
open Go.RowKit
set_option linter.unusedVariables false
set_option linter.unusedSimpArgs false

set_option maxRecDepth 100000 in
theorem zzagent_any (R B h l N F id : Nat) (val : ByteArray) (w : World) (hr : RandAt w R B) (hp : PcgAt w B h l) (hRB : R ≠ B) (hF : F < N) (hN : N ≤ 65536) (hid : id < N) :
    Calls Try.prog 12 #[.agg #[.int .i64 N, .int .i64 F], .int .i64 id, .string val, .pointer (some ⟨R, 0, none⟩)] w fun e w' => AgPost w B (stN h l) N F id val e w' := by
  have ka : Keep w (w.alloc (.cells #[.int .i64 (N : Int), .int .i64 (F : Int)] 29)) (fun k => k = B) := Keep.alloc _ _ _
  have kf : Keep w (w.alloc (.cells #[.int .i64 (N : Int), .int .i64 (F : Int)] 29)) (fun _ => False) := Keep.alloc _ _ _
  have HC : Hid (Calls Try.prog 21 #[.agg #[.int .i64 N, .int .i64 F], .int .i64 id, .string val, .pointer (some ⟨R, 0, none⟩)] (w.alloc (.cells #[.int .i64 (N : Int), .int .i64 (F : Int)] 29)) fun e w' => AgPost (w.alloc (.cells #[.int .i64 (N : Int), .int .i64 (F : Int)] 29)) B (stN h l) N F id val e w') :=
    agent_any R B h l N F id val _ (hr.keep ka hRB) ⟨(kf.block _ (lt_of_heap hp.b) (fun h => h)).trans hp.b, hp.h, hp.l⟩ hRB hF hN hid
  have HK : Hid (Keep w (w.alloc (.cells #[.int .i64 (N : Int), .int .i64 (F : Int)] 29)) (fun k => k = B)) := ka
  clear hr hp hRB ka kf
  go_enter Try.func12, Try.ntmps12
  go_wp2_with fail
  refine HC.out.mono ?_
  rintro e w1 ⟨A, H, T, X, Xs, rfl, P1, P2, P3⟩
  have HP : Box (AgAt w1 A H T X N F id val Xs ∧ Run N (stN h l) (F + 1) Xs ∧ Keep w w1 (fun k => k = B)) := ⟨P1, P2, HK.out.trans P3 (fun _ _ h => h)⟩
  clear P1 P2 P3 HC HK
  go_wp2_with fail
  go_ret
  exact ⟨A, H, T, X, Xs, rfl, HP.out.1, HP.out.2.1, HP.out.2.2⟩

section
variable {w : World} {A H T X N F id : Nat} {val : ByteArray} {Xs : Nat → Nat}
theorem heldLen_any (h : AgAt w A H T X N F id val Xs) : Calls Try.prog 14 #[.pointer (some ⟨A, 0, none⟩)] w fun e w' => e = .returned (.int .i64 N) ∧ w' = w := by
  have c := h.a
  clear h
  go_enter Try.func14, Try.ntmps14
  go_wp2
  go_ret
  exact ⟨rfl, rfl⟩
theorem heldRow_any (h : AgAt w A H T X N F id val Xs) (hid : id < N) : Calls Try.prog 15 #[.pointer (some ⟨A, 0, none⟩), .int .i64 id] w fun e w' => e = .returned (.int .i64 1) ∧ w' = w := by
  have c := h.a
  have d := h.h
  have q : (id : Int) < (N : Int) := by omega
  clear h
  go_enter Try.func15, Try.ntmps15
  go_wp2
  go_ret
  exact ⟨rfl, rfl⟩
set_option maxRecDepth 100000 in
theorem tuple_any (h : AgAt w A H T X N F id val Xs) (hid : id < N) : Calls Try.prog 16 #[.pointer (some ⟨A, 0, none⟩), .int .i64 id, .int .i64 0] w fun e w' => e = .returned (.tuple #[.int .i64 id, .string val, .slice (some ⟨X, 0, none⟩) (F + 1) (F + 1)]) ∧ Keep w w' (fun _ => False) := by
  have c := h.a
  have d := h.h
  have e0 := h.t0
  have e1 := h.t1
  have e2 := h.t2
  have q : (id : Int) < (N : Int) := by omega
  clear h
  go_enter Try.func16, Try.ntmps16
  go_wp2
  go_quiet (fail)
  go_wp2
  refine bodyPost_ret (by simp [results, Try.results16, go_sem]; try rfl) rfl ?_
  exact ⟨rfl, (Keep.alloc w (.cells #[.int .i64 (id : Int), .string val, .slice (some ⟨X, 0, none⟩) (F + 1) (F + 1)] 58) _).trans ⟨rfl, rfl, rfl, Nat.le_refl _, fun _ _ _ => rfl⟩ (fun _ _ h => h)⟩
end

set_option maxRecDepth 100000 in
theorem bytes_any (a0 a1 a2 a3 a6 a7 : Int) (a4 a5 : ByteArray) (h4 : a4.size ≤ maxLen) (h5 : a5.size ≤ maxLen) (w : World) :
    Calls Try.prog 11 #[.int .i64 a0, .int .i64 a1, .int .i64 a2, .int .i64 a3, .string a4, .string a5, .int .u64 a6, .int .u64 a7] w fun e w' => ∃ b, e = .returned (.bool b) ∧ w' = w := by
  have hm : maxLen ≤ 9223372036854775807 := by decide
  by_cases c4 : a4.size ≤ 1048576
  · by_cases c5 : a5.size ≤ 1048576
    · by_cases c6 : a4.size + a5.size ≤ 1048576
      · go_enter Try.func11, Try.ntmps11
        go_wp2
        go_ret
        exact ⟨_, rfl, rfl⟩
      · go_enter Try.func11, Try.ntmps11
        go_wp2
        go_ret
        exact ⟨_, rfl, rfl⟩
    · go_enter Try.func11, Try.ntmps11
      go_wp2
      go_ret
      exact ⟨_, rfl, rfl⟩
  · go_enter Try.func11, Try.ntmps11
    go_wp2
    go_ret
    exact ⟨_, rfl, rfl⟩
end Go.Proofs.Qxb6613925a
