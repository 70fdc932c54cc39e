/-
  THE CARD of FnIdentitiesIsAFreshCopyOfTheAddedIdentities.
-/
import Derived.Test.Qxb6614018aTop
import Derived.ProofKit
import Derived.OpenShut
import Derived.Deep.Strs
import Derived.Deep.Matrix
namespace Go.Proofs.Qxb6614018a
open Go.ChangeShapes Go.WideShapes Go.ChangeAt Go.RowKit Go.Deep
set_option linter.unusedVariables false

theorem own : ownKnob Try.prog.godebug = none := by kernel_rfl
theorem laidOut : laidOutB Try.prog = true := by kernel_rfl
theorem cells21 : Try.prog.cellsOf 21 = 1 := by kernel_rfl
theorem cells9 : Try.prog.cellsOf 9 = 1 := by kernel_rfl
theorem cells26 : Try.prog.cellsOf 26 = 1 := by kernel_rfl
theorem cells5 : Try.prog.cellsOf 5 = 1 := by kernel_rfl

theorem open_t {H : Type} {enc : TypeId × Value → H} {W : World} {d : DataW H} {p : List MemPlace} {ao : Option Addr} {len cap : Nat}
    (h : DataW.Trod enc Try.prog W 0 (fun _ => true) true 22 (.slice ao len cap) d p) :
    ∃ T : Nat → Int, (0 < len → ∃ ad, ao = some ad ∧ ∀ i, i < len → W.cell? (ad.add i) = some (.int .i32 (T i))) ∧ len ≤ maxLen := by
  obtain ⟨fuel, hf⟩ := h
  rcases open_ints Try.underlying22 Try.underlying21 cells21 hf with ⟨hcs, hx⟩ | ⟨a, len', cap', zs, hcs, _, hl, hm, hz, hx, hcell, hwz⟩
  · simp [Value.cells] at hcs
    obtain ⟨rfl, rfl, rfl⟩ := hcs
    exact ⟨fun _ => 0, fun h => absurd h (by omega), by decide⟩
  · simp [Value.cells] at hcs
    obtain ⟨rfl, rfl, rfl⟩ := hcs
    simp only [if_true] at hz
    exact ⟨fun i => zs.getD i 0, fun _ => ⟨a, rfl, fun i hi => hcell i (by omega)⟩, Nat.le_trans hl hm⟩

theorem open_s {H : Type} {enc : TypeId × Value → H} {W : World} {d : DataW H} {p : List MemPlace} {ao : Option Addr} {len cap : Nat}
    (h : DataW.Trod enc Try.prog W 0 (fun _ => true) true 23 (.slice ao len cap) d p) :
    ∃ S : Nat → ByteArray, (0 < len → ∃ ad, ao = some ad ∧ ∀ i, i < len → W.cell? (ad.add i) = some (.string (S i))) ∧ len ≤ maxLen := by
  obtain ⟨fuel, hf⟩ := h
  rcases open_strs Try.underlying23 Try.underlying9 cells9 hf with ⟨hcs, hx⟩ | ⟨a, len', cap', m, Sx, hcs, _, hl, hm, hz, hx, hcell⟩
  · simp [Value.cells] at hcs
    obtain ⟨rfl, rfl, rfl⟩ := hcs
    exact ⟨fun _ => ByteArray.empty, fun h => absurd h (by omega), by decide⟩
  · simp [Value.cells] at hcs
    obtain ⟨rfl, rfl, rfl⟩ := hcs
    simp only [if_true] at hz
    exact ⟨Sx, fun _ => ⟨a, rfl, fun i hi => (hcell i (by omega)).1⟩, Nat.le_trans hl hm⟩

theorem open_b {H : Type} {enc : TypeId × Value → H} {W : World} {d : DataW H} {p : List MemPlace} {ao : Option Addr} {len cap : Nat}
    (h : DataW.Trod enc Try.prog W 0 (fun _ => true) true 24 (.slice ao len cap) d p) :
    ∃ (A : Nat → Option Addr) (X : Nat → List Int) (C : Nat → Nat), (0 < len → ∃ ad, ao = some ad ∧ ∀ i, i < len → W.cell? (ad.add i) = some (.slice (A i) (X i).length (C i))) ∧
      (∀ i, i < len → A i = none → X i = []) ∧ (∀ i, i < len → 0 < (X i).length → ∃ ad, A i = some ad ∧ ∀ j, j < (X i).length → W.cell? (ad.add j) = some (.int .u8 ((X i).getD j 0))) ∧ len ≤ maxLen := by
  obtain ⟨fuel, hf⟩ := h
  rcases open_int_rows Try.underlying24 Try.underlying26 Try.underlying5 cells26 cells5 hf with ⟨hcs, hx⟩ | ⟨a, len', cap', A, L, C, Z, hcs, _, hl, hm, hx, hcell⟩
  · simp [Value.cells] at hcs
    obtain ⟨rfl, rfl, rfl⟩ := hcs
    exact ⟨fun _ => none, fun _ => [], fun _ => 0, fun h => absurd h (by omega), fun i hi => by omega, fun i hi => by omega, by decide⟩
  · simp [Value.cells] at hcs
    obtain ⟨rfl, rfl, rfl⟩ := hcs
    have hX : ∀ i, i < len → ((Z i).take (L i)).length = L i := fun i hi => by
      obtain ⟨_, h1, _, h3, _⟩ := hcell i (by omega)
      rw [List.length_take]; omega
    refine ⟨A, fun i => (Z i).take (L i), C, fun _ => ⟨a, rfl, fun i hi => ?_⟩, fun i hi hA => ?_, fun i hi hp => ?_, Nat.le_trans hl hm⟩
    · show _ = some (Value.slice (A i) ((Z i).take (L i)).length (C i))
      rw [hX i hi]; exact (hcell i (by omega)).1
    · obtain ⟨_, h1, _, h3, _, h5, _⟩ := hcell i (by omega)
      have := h5 hA
      exact List.eq_nil_of_length_eq_zero (by rw [hX i hi]; omega)
    · have hL := hX i hi
      obtain ⟨_, h1, _, h3, _, h5, h6⟩ := hcell i (by omega)
      cases hA : A i with
      | none =>
        have := h5 hA
        exact absurd hp (by show ¬ 0 < ((Z i).take (L i)).length; omega)
      | some ad =>
        refine ⟨ad, rfl, fun j hj => ?_⟩
        have hj2 : j < L i := by rw [← hL]; exact hj
        rw [(h6 ad hA).2 j (by omega)]
        show _ = some (Value.int .u8 (((Z i).take (L i)).getD j 0))
        rw [List.getD_eq_getElem?_getD, List.getD_eq_getElem?_getD, List.getElem?_take_of_lt hj2]

set_option maxRecDepth 100000 in
theorem lifted (os : Os) (started : os.Started) (H : Type) (enc : TypeId × Value → H) :
    ReturnsInHanded {} Try.checked os 3 .any (Rows.fnIdentitiesIsAFreshCopyOfTheAddedIdentitiesSpec.pre6 enc Try.prog Try.f3 Rows.fnIdentitiesIsAFreshCopyOfTheAddedIdentitiesRow.domain false) (Rows.fnIdentitiesIsAFreshCopyOfTheAddedIdentitiesSpec.post enc Try.prog Try.f3 false true false false) := by
  refine returnsInHanded_of_change (C := Try.checked) own started (by kernel_rfl) Try.func3
    (ChangeSpec.witness6 (enc := enc) (C := Try.checked) false ⟨#[], #[.slice none 0 0, .slice none 0 0, .slice none 0 0], []⟩ 8 (by kernel_rfl) (by kernel_rfl) (by kernel_rfl) (by kernel_rfl)) ?_
  intro W base args ds gs before hval0 hW hcnd _
  have hval : ∀ (j : Nat) t v, Try.f3.params[j]? = some t → args[j]? = some v → Value.okWide Try.prog W .any base t v := hval0
  have hW' := hW
  obtain ⟨p, q, hA0, hV, rfl, hfz, hnd⟩ := hW
  have hA : DataW.TrodAll enc Try.prog W 0 (fun _ => true) true Try.f3.params.toList args.toList ds p := hA0
  rw [Try.params3] at hA hval
  obtain ⟨v0, vs0, d0, ds0, p0, q0, hargs, rfl, rfl, h0, r0⟩ := trodAll_cons hA
  obtain ⟨v1, vs1, d1, ds1, p1, q1, rfl, rfl, rfl, h1, r1⟩ := trodAll_cons r0
  obtain ⟨v2, vs2, d2, ds2, p2, q2, rfl, rfl, rfl, h2, r2⟩ := trodAll_cons r1
  obtain ⟨rfl, rfl, rfl⟩ := trodAll_nil r2
  obtain rfl : args = #[v0, v1, v2] := by cases args; simp_all
  obtain ⟨rfl, rfl⟩ := trodVars_none hV
  obtain ⟨a0, len0, cap0, rfl⟩ := okWide_slice Try.underlying22 (hval 0 22 v0 rfl rfl)
  obtain ⟨a1, len1, cap1, rfl⟩ := okWide_slice Try.underlying23 (hval 1 23 v1 rfl rfl)
  obtain ⟨a2, len2, cap2, rfl⟩ := okWide_slice Try.underlying24 (hval 2 24 v2 rfl rfl)
  clear hA0 hval0
  obtain ⟨T, t1, t2⟩ := open_t h0
  obtain ⟨S, s1, s2⟩ := open_s h1
  obtain ⟨A, X, C, x1, x2, x3, x4⟩ := open_b h2
  have hlt0 : ∀ x ∈ p0, x.block < W.heap.size := fun x hx => hW'.lt x (by simp [hx])
  have hlt1 : ∀ x ∈ p1, x.block < W.heap.size := fun x hx => hW'.lt x (by simp [hx])
  have hlt2 : ∀ x ∈ p2, x.block < W.heap.size := fun x hx => hW'.lt x (by simp [hx])
  have hm : maxLen ≤ 9223372036854775807 := by decide
  refine (top_any a0 a1 a2 T S A X C len0 len1 len2 cap0 cap1 cap2 W ⟨t1, s1, x1, x2, x3⟩ (Nat.le_trans t2 hm) (Nat.le_trans s2 hm) (Nat.le_trans x4 hm)).mono fun e W' ⟨he, hg⟩ => ?_
  subst he
  have hB : Below W.heap.size W W' := ⟨hg.os, hg.tape, hg.output, hg.size, fun k hk => hg.block k hk (by simp)⟩
  refine ⟨_, rfl, _, _, _, [], p0 ++ (p1 ++ (p2 ++ [])), [], hW', ?_, ?_, ?_, hB.frame _, fun h => by cases h⟩
  · exact trodAll_mk1 (shut_bool Try.underlying4 _)
  · exact trodAll_cons_mk (Below.trod laidOut (by kernel_rfl) (of_decide_eq_true (by kernel_rfl)) h0 hB hlt0) (trodAll_cons_mk (Below.trod laidOut (by kernel_rfl) (of_decide_eq_true (by kernel_rfl)) h1 hB hlt1) (trodAll_cons_mk (Below.trod laidOut (by kernel_rfl) (of_decide_eq_true (by kernel_rfl)) h2 hB hlt2) trodAll_mk0))
  · exact rfl

theorem over : Rows.fnIdentitiesIsAFreshCopyOfTheAddedIdentitiesRow.holds Try.pinned (OpenSpec.ofChange Rows.fnIdentitiesIsAFreshCopyOfTheAddedIdentitiesSpec) :=
  OpenClaim.holds_of_wide 3 Try.f3 rfl rfl rfl rfl rfl rfl rfl ⟨rfl, rfl, rfl, rfl, rfl⟩ rfl rfl rfl rfl rfl (by kernel_rfl) Try.func3 (by kernel_rfl)
    (of_decide_eq_true (by kernel_rfl)) (by unfold Func.isWrapper; first | (rw [if_pos (by decide +kernel)]; kernel_rfl) | (rw [if_neg (by decide +kernel)]; exact ⟨rfl, rfl⟩))
    (fun os started H enc _ => lifted os started H enc)

/-- THE STATEMENT. -/
theorem identities_proved : Rows.FnIdentitiesIsAFreshCopyOfTheAddedIdentitiesSaid := over
#print axioms identities_proved
end Go.Proofs.Qxb6614018a
