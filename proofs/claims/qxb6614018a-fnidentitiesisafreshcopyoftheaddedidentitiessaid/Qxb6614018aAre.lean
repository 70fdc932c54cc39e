/-
  zzb1AreTheIdentities.
-/
import Derived.Test.Qxb6614018aIdent
namespace Go.Proofs.Qxb6614018a
open Go.RowKit
set_option linter.unusedVariables false
set_option linter.unusedSimpArgs false
attribute [local go_sem] eql26 eql29

theorem gsame {a b c : World} {row : Option Nat} (h : a.grownBy b row) (h1 : c.heap = b.heap) (h2 : c.os = b.os) (h3 : c.tape = b.tape) (h4 : c.output = b.output) : a.grownBy c row :=
  ⟨h2.trans h.os, h3.trans h.tape, h4.trans h.output, by rw [h1]; exact h.size, fun i hi hne => by rw [h1]; exact h.block i hi hne⟩

theorem quiet_of2 {P : Program} {f : FuncId} {args : Array Value} {w : World} {a n : Nat} {v : Value}
    (h : Calls P f args (w.drewN (a + n)) fun e w' => e = .returned v ∧ ∃ m, w' = (w.drewN (a + n)).drewN m) : Calls P f args (w.drewN (a + n)) fun e w'' => e = .returned v ∧ ∃ m, w'' = w.drewN (a + m) :=
  h.mono fun _ _ ⟨he, m, hm⟩ => ⟨he, n + m, by rw [hm, World.drewN_drewN, Nat.add_assoc]⟩

set_option maxHeartbeats 400000 in
theorem are_none (ao bo co : Option Addr) (ct cs cc : Nat) (w : World) :
    Calls Try.prog 8 #[.slice none 0 0, .slice ao 0 ct, .slice bo 0 cs, .slice co 0 cc, .int .i64 0, .int .i64 0] w fun e w' => e = .returned (.bool true) ∧ w' = w := by
  go_enter Try.func8, Try.ntmps8
  go_wp2
  go_ret
  exact ⟨rfl, rfl⟩

set_option maxRecDepth 100000 in
set_option maxHeartbeats 1000000 in
theorem are_some (ao bo co : Option Addr) (T : Nat → Int) (S : Nat → ByteArray) (A : Nat → Option Addr) (X : Nat → List Int) (C : Nat → Nat) (n ct cs cc g cap base : Nat) (cur : Array Value) (w : World)
    (hA : Args w ao bo co T S A X C n n n) (hn : n ≤ 65536) (hn0 : 0 < n) (hX : ∀ i, i < n → (X i).length ≤ 1048576)
    (hg : w.heap[g]? = some (.cells cur 34 (0, 0))) (hI : Items w base T S A X cur n) :
    Calls Try.prog 8 #[.slice (some ⟨g, 0, none⟩) n cap, .slice ao n ct, .slice bo n cs, .slice co n cc, .int .i64 0, .int .i64 n] w fun e w' => e = .returned (.bool true) ∧ w.grownBy w' none := by
  have HA : Hid (Args w ao bo co T S A X C n n n) := hA
  have HX : Hid (∀ i, i < n → (X i).length ≤ 1048576) := hX
  have HG : Hid (w.heap[g]? = some (.cells cur 34 (0, 0))) := hg
  have HI : Hid (Items w base T S A X cur n) := hI
  have hq : ((n : Int) == 0) = false := by simp; omega
  have hq2 : ((n : Int) != (n : Int)) = false := by simp
  clear hA hX hg hI
  go_enter Try.func8, Try.ntmps8
  go_wp2
  go_loopw [13] (fun i wr => ∃ k : Nat, k ≤ n ∧ i = .int .i64 k ∧ Hid (w.grownBy wr none)) (fun i _ => n - (intOf i).toNat)
  case atStart => exact ⟨0, Nat.zero_le _, rfl, grefl _ _⟩
  case round =>
    obtain ⟨k, hk, rfl, HR⟩ := hrel
    by_cases hlt : k < n
    · have hAw := HA.out.grown HR.out
      obtain ⟨adT, e, hT⟩ := hAw.ty (by omega)
      subst e
      obtain ⟨adS, e, hS⟩ := hAw.st (by omega)
      subst e
      obtain ⟨adA, e, hAu⟩ := hAw.au (by omega)
      subst e
      have x1 := hT k hlt
      have x2 := hS k hlt
      have x3 := hAu k hlt
      have hX := HX.out k hlt
      have q : (k : Int) < (n : Int) := by omega
      obtain ⟨i1, i2, v, i3, i4⟩ := HI.out k hlt
      have hgw := (HR.out.block g (lt_of_heap HG.out) (by simp)).trans HG.out
      have y0 : wr.cell? ⟨g, k * 3, none⟩ = some (.int .i32 (T k)) := by rw [cell_of_row _ _ _ _ _ _ hgw]; exact i1
      have y1 : wr.cell? ⟨g, k * 3 + 1, none⟩ = some (.string (S k)) := by rw [cell_of_row _ _ _ _ _ _ hgw]; exact i2
      have y2 : wr.cell? ⟨g, k * 3 + 2, none⟩ = some v := by rw [cell_of_row _ _ _ _ _ _ hgw]; exact i3
      have hcl := i4.grown0 HR.out
      have HCL : Hid (Clone wr base v (A k).isNone (X k)) := hcl
      obtain ⟨bv, cv, hv, hb1, _, _, _⟩ := hcl
      subst hv
      have HAw : Hid (Args wr (some adT) (some adS) (some adA) T S A X C n n n) := hAw
      clear hAw hT hS hAu i1 i2 i3 i4 hgw
      have w1 := cell_al (.cells #[.int .i32 (T k), .string (S k), .slice bv (X k).length cv] 34) x1
      have w2 := cell_al (.cells #[.int .i32 (T k), .string (S k), .slice bv (X k).length cv] 34) x2
      have w3 := cell_al (.cells #[.int .i32 (T k), .string (S k), .slice bv (X k).length cv] 34) x3
      have hne1 : (T k != T k) = false := by simp
      have hne3 : (bv.isNone != (A k).isNone) = false := by rw [hb1]; simp
      go_wp2
      go_quiet (fail)
      go_wp2
      go_quiet (fail)
      go_wp2
      have HS1 : Hid (Sl wr (.slice bv (X k).length cv) (X k)) := HCL.out.sl
      have HS2 : Hid (Sl wr (.slice (A k) (X k).length (C k)) (X k)) := ⟨A k, C k, rfl, HAw.out.by_ k hlt⟩
      go_quiet ((go_at_call 11; exact quiet_of2 (same_any (.slice bv (X k).length cv) (.slice (A k) (X k).length (C k)) (X k) _ (HS1.out.grown (gsame (galloc wr (.cells #[.int .i32 (T k), .string (S k), .slice bv (X k).length cv] 34) none) rfl rfl rfl rfl)) (HS2.out.grown (gsame (galloc wr (.cells #[.int .i32 (T k), .string (S k), .slice bv (X k).length cv] 34) none) rfl rfl rfl rfl)) hX)))
      go_wp2
      go_roundw
      case rel => exact ⟨k + 1, by omega, by go_num, gtrans HR.out (gsame (galloc wr (.cells #[.int .i32 (T k), .string (S k), .slice bv (X k).length cv] 34) none) rfl rfl rfl rfl)⟩
      case measure => simp [intOf]; omega
    · go_wp2
      go_ret
      exact ⟨rfl, HR.out⟩
end Go.Proofs.Qxb6614018a
