/-
  THE CARD OF 'zzlaws_client_b1.FnDataAndStatIgnoresWhatFollowsTheRecord'.
-/
import Derived.Test.Qxb6614018aFmtBase
namespace Go.Proofs.Qxb6614018aFmt
open Go.ChangeShapes Go.WideShapes Go.ChangeAt Go.RowKit Go.Kit
open Go.Extern.Stop Go.Stop Go.Extern
set_option linter.unusedVariables false

/-- More bytes than the law looks at: it returns true at once. -/
theorem fn3_no (a b : Option Addr) (la ca lb cb : Nat) (w : World) (h : 1048576 < la + lb) (h1 : la ≤ 9223372036854775807) (h2 : lb ≤ 9223372036854775807) :
    Calls Tryf.prog 3 #[.slice a la ca, .slice b lb cb] w fun e w' => e = .returned (.bool true) ∧ w' = w := by
  go_enter Tryf.func3, Tryf.ntmps3
  go_wp2_with (go_at_call 5; refine (bytes5_no _ _ _ _ _ _ _ h h1 h2).mono ?_; rintro e w' ⟨rfl, rfl⟩)
  go_ret
  exact ⟨rfl, rfl⟩

theorem fn3_any (F : Interp) (ao bo : Option Addr) (la ca lb cb : Nat) (A B : List Int) (a0 : Addr) (s0 : ByteArray) (w : World) (hF : F.answers w.tape)
    (hg : w.cell? ⟨0, 0, none⟩ = some (.iface 64 (.pointer (some a0)))) (ht : w.cell? a0 = some (.string s0))
    (hla : A.length = la) (hlb : B.length = lb) (hA : ArgAt w ao ca A) (hB : ArgAt w bo cb B) (sA : Small A) (sB : Small B) (h1 : la ≤ maxLen) (h2 : lb ≤ maxLen) :
    Calls Tryf.prog 3 #[.slice ao la ca, .slice bo lb cb] w fun e w' => e = .returned (.bool true) ∧ Below w.heap.size w w' := by
  subst hla hlb
  by_cases h : A.length + B.length ≤ 1048576
  · exact fn3_walk F ao bo A B ca cb a0 s0 w hF hg ht hA hB sA sB h
  · refine (fn3_no ao bo A.length ca B.length cb w (by omega) h1 h2).mono ?_
    rintro e w' ⟨rfl, rfl⟩
    exact ⟨rfl, Below.refl _ _⟩

set_option maxRecDepth 100000 in
set_option maxHeartbeats 1600000 in
theorem ignores_lifted (os : Os) (started : os.Started) (H : Type) (enc : TypeId × Value → H) :
    ReturnsInTold none {} Tryf.checked os 3 .any Input.okWide ((OpenSpec.ofChange Rows.fnDataAndStatIgnoresWhatFollowsTheRecordSpec).preRow enc Tryf.prog Tryf.f3 [] false Rows.fnDataAndStatIgnoresWhatFollowsTheRecordRow.laid)
      (fun F => ((OpenSpec.ofChange Rows.fnDataAndStatIgnoresWhatFollowsTheRecordSpec).at F).post enc Tryf.prog Tryf.f3 false true false false) (aloneAtReturn Tryf.prog) nothingAlways := by
  refine returnsInTold_of_row (C := Tryf.checked) (s := OpenSpec.ofChange Rows.fnDataAndStatIgnoresWhatFollowsTheRecordSpec) (by kernel_rfl) own started (by kernel_rfl) Tryf.func3
    (OpenSpec.witness_stopped_at (enc := enc) (C := Tryf.checked) false
      ({ World.holding Tryf.prog os ⟨#[.cells #[.string { data := #[109, 101, 115, 115, 97, 103, 101, 32, 101, 110, 100, 115, 32, 105, 110, 115, 105, 100, 101, 32, 97, 32, 102, 105, 101, 108, 100] }] 66], #[], []⟩ with
        heap := (World.holding Tryf.prog os ⟨#[.cells #[.string { data := #[109, 101, 115, 115, 97, 103, 101, 32, 101, 110, 100, 115, 32, 105, 110, 115, 105, 100, 101, 32, 97, 32, 102, 105, 101, 108, 100] }] 66], #[], []⟩).heap.modify 0 fun
          | .cells _ t frozen => .cells #[.iface 64 (.pointer (some ⟨(World.holding Tryf.prog default ⟨#[], #[], []⟩).heap.size, 0, none⟩))] t frozen
          | o => o }) #[.slice none 0 0, .slice none 0 0] rfl (by kernel_rfl) (by kernel_rfl) (by kernel_rfl)
      (OpenSpec.preRow_of_B rfl 8 (by kernel_rfl) (by kernel_rfl) (laidMet_of_run (ps := [.cell 0 0, .cell (World.holding Tryf.prog default ⟨#[], #[], []⟩).heap.size 0]) 8 (by kernel_rfl) (by kernel_rfl) (by kernel_rfl)))) ?_
  intro F W base args ds gs before _ hF hval0 hW _ _ _ hL _
  have hval : ∀ (j : Nat) t v, Tryf.f3.params[j]? = some t → args[j]? = some v → Value.okWide Tryf.prog W .any base t v := hval0
  have hW' := hW
  obtain ⟨p, q, hA0, hV0, rfl, hfz, hnd⟩ := hW
  have hA : DataW.TrodAll enc Tryf.prog W 0 (fun _ => true) true Tryf.f3.params.toList args.toList ds p := hA0
  have hV : DataW.TrodVars enc Tryf.prog W (fun _ => true) [vn] gs q := hV0
  rw [Tryf.params3] at hA hval
  obtain ⟨v0, v1, d0, d1, p0, p1, rfl, rfl, rfl, h0, h1⟩ := trodAll_two hA
  obtain ⟨a0, len0, cap0, rfl⟩ := okWide_slice Tryf.underlying22 (hval 0 22 v0 rfl rfl)
  obtain ⟨a1, len1, cap1, rfl⟩ := okWide_slice Tryf.underlying22 (hval 1 22 v1 rfl rfl)
  obtain ⟨ae, se, hve, hce⟩ := open_laid hL
  obtain ⟨rfl, rfl⟩ := hV.unique (vars_read1 enc gE gEType Tryf.underlying27 hve trivial _)
  clear hA0 hV0 hval0
  have hg1 : W.cell? ⟨0, 0, none⟩ = some (.iface 64 (.pointer (some ae))) := by simpa using World.var?_cell gE hve 0
  obtain ⟨A, hla, sA, hAA, hma⟩ := open_arg h0
  obtain ⟨B, hlb, sB, hBB, hmb⟩ := open_arg h1
  have hlt0 : ∀ x ∈ p0, x.block < W.heap.size := fun x hx => hW'.lt x (by simp [hx])
  have hlt1 : ∀ x ∈ p1, x.block < W.heap.size := fun x hx => hW'.lt x (by simp [hx])
  refine (fn3_any F.told a0 a1 len0 cap0 len1 cap1 A B ae se W hF hg1 hce hla hlb hAA hBB sA sB hma hmb).mono fun e W' ⟨he, hB⟩ => ?_
  subst he
  refine ⟨_, rfl, _, _, _, [], p0 ++ p1, [.cell 0 0], hW', ?_, ?_, ?_, hB.frame _, fun h => by cases h⟩
  · exact trodAll_mk1 (shut_bool Tryf.underlying4 _)
  · exact trodAll_mk2 (Below.trod laidOut (by kernel_rfl) (of_decide_eq_true (by kernel_rfl)) h0 hB hlt0) (Below.trod laidOut (by kernel_rfl) (of_decide_eq_true (by kernel_rfl)) h1 hB hlt1)
  · exact vars_read1 enc gE gEType Tryf.underlying27 (var?_bel hB gE (World.block_lt_of_cell? W _ hg1) hve) trivial _

/-- THE CARD. -/
theorem ignores_proved : Rows.FnDataAndStatIgnoresWhatFollowsTheRecordToldSaid :=
  Claim7.holds_of_told_tied_any_at .later 3 Tryf.f3 "fmt.errorf" [] [] _ _ _ _ _ (by kernel_rfl) rfl rfl rfl laidOut (by kernel_rfl) rfl ⟨rfl, rfl, rfl, rfl, rfl, rfl, rfl⟩ rfl rfl (by kernel_rfl) (by kernel_rfl) Tryf.func3 (by kernel_rfl)
    (of_decide_eq_true (by kernel_rfl)) (of_decide_eq_true (by kernel_rfl)) stops.symm rfl stopKnobs.symm (by kernel_rfl)
    (by kernel_rfl) (by kernel_rfl) (by kernel_rfl) (by kernel_rfl) (by kernel_rfl) (by kernel_rfl) (by kernel_rfl) (by kernel_rfl) (by kernel_rfl) rfl (by kernel_rfl) rfl rfl
    rfl rfl
    rfl (by kernel_rfl) (by kernel_rfl) (by kernel_rfl) (by decide) (by kernel_rfl) fnDataAndStatIgnoresWhatFollowsTheRecord_row_tie
    (OpenClaim.moreEntering_of (by kernel_rfl) (by kernel_rfl) (by kernel_rfl) (by kernel_rfl) (by kernel_rfl) (by kernel_rfl) (by kernel_rfl) (by kernel_rfl) (by kernel_rfl) (by kernel_rfl))
    ⟨_, WideRow.started_initial, quiet _⟩
    (fun os started _ H enc _ => ignores_lifted os started H enc)
#print axioms ignores_proved
end Go.Proofs.Qxb6614018aFmt
