/-
  THE CARD OF 'zzlaws_client_b1.FnDataAndStatWholeExactlyFromItsLength'.
-/
import Derived.Test.Qxb6614018aFmtBase
import Derived.Test.Qxb6614018aFmtTop4
namespace Go.Proofs.Qxb6614018aFmt
open Go.ChangeShapes Go.WideShapes Go.ChangeAt Go.RowKit Go.Kit
open Go.Extern.Stop Go.Stop Go.Extern
set_option linter.unusedVariables false

theorem fn4_no (a : Option Addr) (la ca : Nat) (k : Int) (w : World) (h : 1048576 < la) (h1 : la ≤ 9223372036854775807) :
    Calls Tryf.prog 4 #[.slice a la ca, .int .i64 k] w fun e w' => e = .returned (.bool true) ∧ w' = w := by
  have hdec : decide (la ≤ 1048576) = false := by simp; omega
  go_enter Tryf.func4, Tryf.ntmps4
  go_wp2_with (go_at_call 10; refine (bytes10_any _ _ _ _ _ h1).mono ?_; rintro e w' ⟨rfl, rfl⟩; rw [hdec])
  go_ret
  exact ⟨rfl, rfl⟩

theorem fn4_neg (a : Option Addr) (la ca : Nat) (k : Int) (w : World) (h : la ≤ 1048576) (hk : k < 0) :
    Calls Tryf.prog 4 #[.slice a la ca, .int .i64 k] w fun e w' => e = .returned (.bool true) ∧ w' = w := by
  have hdec : decide (la ≤ 1048576) = true := by simpa using h
  go_enter Tryf.func4, Tryf.ntmps4
  go_wp2_with (go_at_call 10; refine (bytes10_any _ _ _ _ _ (by omega)).mono ?_; rintro e w' ⟨rfl, rfl⟩; rw [hdec])
  go_ret
  exact ⟨rfl, rfl⟩

theorem fn4_far (a : Option Addr) (la ca : Nat) (k : Int) (w : World) (h : la ≤ 1048576) (hk : (la : Int) < k) :
    Calls Tryf.prog 4 #[.slice a la ca, .int .i64 k] w fun e w' => e = .returned (.bool true) ∧ w' = w := by
  have hdec : decide (la ≤ 1048576) = true := by simpa using h
  have hk0 : 0 ≤ k := by omega
  go_enter Tryf.func4, Tryf.ntmps4
  go_wp2_with (go_at_call 10; refine (bytes10_any _ _ _ _ _ (by omega)).mono ?_; rintro e w' ⟨rfl, rfl⟩; rw [hdec])
  go_ret
  exact ⟨rfl, rfl⟩

theorem fn4_any (F : Interp) (ao : Option Addr) (la ca : Nat) (k : Int) (A : List Int) (a0 : Addr) (s0 : ByteArray) (w : World) (hF : F.answers w.tape)
    (hg : w.cell? ⟨0, 0, none⟩ = some (.iface 64 (.pointer (some a0)))) (ht : w.cell? a0 = some (.string s0))
    (hla : A.length = la) (hA : ArgAt w ao ca A) (sA : Small A) (h1 : la ≤ maxLen) :
    Calls Tryf.prog 4 #[.slice ao la ca, .int .i64 k] w fun e w' => e = .returned (.bool true) ∧ Below w.heap.size w w' := by
  subst hla
  have back : ∀ {R : Calls Tryf.prog 4 #[.slice ao A.length ca, .int .i64 k] w fun e w' => e = .returned (.bool true) ∧ w' = w},
      Calls Tryf.prog 4 #[.slice ao A.length ca, .int .i64 k] w fun e w' => e = .returned (.bool true) ∧ Below w.heap.size w w' := fun {R} =>
    R.mono (by rintro e w' ⟨rfl, rfl⟩; exact ⟨rfl, Below.refl _ _⟩)
  by_cases h : A.length ≤ 1048576
  · by_cases hk0 : k < 0
    · exact back (R := fn4_neg ao A.length ca k w h hk0)
    · by_cases hk1 : (A.length : Int) < k
      · exact back (R := fn4_far ao A.length ca k w h hk1)
      · obtain ⟨n, rfl⟩ : ∃ n : Nat, k = n := ⟨k.toNat, by omega⟩
        exact fn4_walk F ao A ca n a0 s0 w hF hg ht hA sA h (by omega)
  · exact back (R := fn4_no ao A.length ca k w (by omega) h1)

set_option maxRecDepth 100000 in
set_option maxHeartbeats 1600000 in
theorem whole_lifted (os : Os) (started : os.Started) (H : Type) (enc : TypeId × Value → H) :
    ReturnsInTold none {} Tryf.checked os 4 .any Input.okWide ((OpenSpec.ofChange Rows.fnDataAndStatWholeExactlyFromItsLengthSpec).preRow enc Tryf.prog Tryf.f4 [] false Rows.fnDataAndStatWholeExactlyFromItsLengthRow.laid)
      (fun F => ((OpenSpec.ofChange Rows.fnDataAndStatWholeExactlyFromItsLengthSpec).at F).post enc Tryf.prog Tryf.f4 false true false false) (aloneAtReturn Tryf.prog) nothingAlways := by
  refine returnsInTold_of_row (C := Tryf.checked) (s := OpenSpec.ofChange Rows.fnDataAndStatWholeExactlyFromItsLengthSpec) (by kernel_rfl) own started (by kernel_rfl) Tryf.func4
    (OpenSpec.witness_stopped_at (enc := enc) (C := Tryf.checked) false
      ({ World.holding Tryf.prog os ⟨#[.cells #[.string { data := #[109, 101, 115, 115, 97, 103, 101, 32, 101, 110, 100, 115, 32, 105, 110, 115, 105, 100, 101, 32, 97, 32, 102, 105, 101, 108, 100] }] 66], #[], []⟩ with
        heap := (World.holding Tryf.prog os ⟨#[.cells #[.string { data := #[109, 101, 115, 115, 97, 103, 101, 32, 101, 110, 100, 115, 32, 105, 110, 115, 105, 100, 101, 32, 97, 32, 102, 105, 101, 108, 100] }] 66], #[], []⟩).heap.modify 0 fun
          | .cells _ t frozen => .cells #[.iface 64 (.pointer (some ⟨(World.holding Tryf.prog default ⟨#[], #[], []⟩).heap.size, 0, none⟩))] t frozen
          | o => o }) #[.slice none 0 0, .int .i64 0] rfl (by kernel_rfl) (by kernel_rfl) (by kernel_rfl)
      (OpenSpec.preRow_of_B rfl 8 (by kernel_rfl) (by kernel_rfl) (laidMet_of_run (ps := [.cell 0 0, .cell (World.holding Tryf.prog default ⟨#[], #[], []⟩).heap.size 0]) 8 (by kernel_rfl) (by kernel_rfl) (by kernel_rfl)))) ?_
  intro F W base args ds gs before _ hF hval0 hW _ _ _ hL _
  have hval : ∀ (j : Nat) t v, Tryf.f4.params[j]? = some t → args[j]? = some v → Value.okWide Tryf.prog W .any base t v := hval0
  have hW' := hW
  obtain ⟨p, q, hA0, hV0, rfl, hfz, hnd⟩ := hW
  have hA : DataW.TrodAll enc Tryf.prog W 0 (fun _ => true) true Tryf.f4.params.toList args.toList ds p := hA0
  have hV : DataW.TrodVars enc Tryf.prog W (fun _ => true) [vn] gs q := hV0
  rw [Tryf.params4] at hA hval
  obtain ⟨v0, v1, d0, d1, p0, p1, rfl, rfl, rfl, h0, h1⟩ := trodAll_two hA
  obtain ⟨a0, len0, cap0, rfl⟩ := okWide_slice Tryf.underlying22 (hval 0 22 v0 rfl rfl)
  obtain ⟨k, rfl, rfl, rfl, wk⟩ := open_int Tryf.underlying3 (hval 1 3 v1 rfl rfl) h1
  obtain ⟨ae, se, hve, hce⟩ := open_laid hL
  obtain ⟨rfl, rfl⟩ := hV.unique (vars_read1 enc gE gEType Tryf.underlying27 hve trivial _)
  clear hA0 hV0 hval0
  have hg1 : W.cell? ⟨0, 0, none⟩ = some (.iface 64 (.pointer (some ae))) := by simpa using World.var?_cell gE hve 0
  obtain ⟨A, hla, sA, hAA, hma⟩ := open_arg h0
  have hlt0 : ∀ x ∈ p0, x.block < W.heap.size := fun x hx => hW'.lt x (by simp [hx])
  refine (fn4_any F.told a0 len0 cap0 k A ae se W hF hg1 hce hla hAA sA hma).mono fun e W' ⟨he, hB⟩ => ?_
  subst he
  refine ⟨_, rfl, _, _, _, [], p0 ++ [], [.cell 0 0], hW', ?_, ?_, ?_, hB.frame _, fun h => by cases h⟩
  · exact trodAll_mk1 (shut_bool Tryf.underlying4 _)
  · exact trodAll_mk2 (Below.trod laidOut (by kernel_rfl) (of_decide_eq_true (by kernel_rfl)) h0 hB hlt0) (shut_int Tryf.underlying3 wk)
  · exact vars_read1 enc gE gEType Tryf.underlying27 (var?_bel hB gE (World.block_lt_of_cell? W _ hg1) hve) trivial _

/-- THE CARD. -/
theorem whole_proved : Rows.FnDataAndStatWholeExactlyFromItsLengthToldSaid :=
  Claim7.holds_of_told_tied_any_at .later 4 Tryf.f4 "fmt.errorf" [] [] _ _ _ _ _ (by kernel_rfl) rfl rfl rfl laidOut (by kernel_rfl) rfl ⟨rfl, rfl, rfl, rfl, rfl, rfl, rfl⟩ rfl rfl (by kernel_rfl) (by kernel_rfl) Tryf.func4 (by kernel_rfl)
    (of_decide_eq_true (by kernel_rfl)) (of_decide_eq_true (by kernel_rfl)) stops.symm rfl stopKnobs.symm (by kernel_rfl)
    (by kernel_rfl) (by kernel_rfl) (by kernel_rfl) (by kernel_rfl) (by kernel_rfl) (by kernel_rfl) (by kernel_rfl) (by kernel_rfl) (by kernel_rfl) rfl (by kernel_rfl) rfl rfl
    rfl rfl
    rfl (by kernel_rfl) (by kernel_rfl) (by kernel_rfl) (by decide) (by kernel_rfl) fnDataAndStatWholeExactlyFromItsLength_row_tie
    (OpenClaim.moreEntering_of (by kernel_rfl) (by kernel_rfl) (by kernel_rfl) (by kernel_rfl) (by kernel_rfl) (by kernel_rfl) (by kernel_rfl) (by kernel_rfl) (by kernel_rfl) (by kernel_rfl))
    ⟨_, WideRow.started_initial, quiet _⟩
    (fun os started _ H enc _ => whole_lifted os started H enc)
#print axioms whole_proved
end Go.Proofs.Qxb6614018aFmt
