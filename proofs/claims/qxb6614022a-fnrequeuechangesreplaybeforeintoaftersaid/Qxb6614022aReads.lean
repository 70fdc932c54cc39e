/-
  zzReadsAs.
-/
import Derived.Test.Qxb6614022aFns
namespace Go.Proofs.Qxb6614022a
open Go.RowKit
set_option linter.unusedVariables false
set_option linter.unusedSimpArgs false

/-- A list of states that reads as the job does. -/
def Want (w : World) (WB n : Nat) (S L Tr : Nat → Int) (Wk : Nat → ByteArray) : Prop :=
  ∀ i, i < n → w.cell? ⟨WB, i * 4, none⟩ = some (.int .i64 (S i)) ∧ w.cell? ⟨WB, i * 4 + 1, none⟩ = some (.int .i64 (L i)) ∧ w.cell? ⟨WB, i * 4 + 2, none⟩ = some (.int .i64 (Tr i)) ∧ w.cell? ⟨WB, i * 4 + 3, none⟩ = some (.string (Wk i))

theorem cell_keep0 {w w' : World} {a : Addr} {v : Value} (h : w.cell? a = some v) (k : Keep w w' (fun _ => False)) : w'.cell? a = some v :=
  (World.cell?_of_block (k.block _ (World.block_lt_of_cell? w _ h) id)).trans h
theorem Want.keep {w w' : World} {WB n : Nat} {S L Tr : Nat → Int} {Wk : Nat → ByteArray} (h : Want w WB n S L Tr Wk) (k : Keep w w' (fun _ => False)) : Want w' WB n S L Tr Wk :=
  fun i hi => ⟨cell_keep0 (h i hi).1 k, cell_keep0 (h i hi).2.1 k, cell_keep0 (h i hi).2.2.1 k, cell_keep0 (h i hi).2.2.2 k⟩

def ReadsPost (w : World) (e : Ending) (w' : World) : Prop := e = .returned (.bool true) ∧ Keep w w' (fun _ => False)

set_option maxRecDepth 100000 in
set_option maxHeartbeats 1000000 in
theorem reads_any {lo JB TB n m : Nat} {G : Nat → Value} {D : JD} {F : Nat → Prop} (WB c : Nat) (o : Option Addr) (w : World) (h : Jb w lo JB TB n G D m F) (hn : n ≤ 65536) (ho : 0 < n → o = some ⟨WB, 0, none⟩) (hW : Want w WB n D.S D.L D.Tr D.Wk) :
    Calls Try.prog 14 #[.pointer (some ⟨JB, 0, none⟩), .int .i64 D.st, .slice o n c] w fun e w' => ReadsPost w e w' := by
  have HJ : Hid (Jb w lo JB TB n G D m F) := h
  have HW : Hid (Want w WB n D.S D.L D.Tr D.Wk) := hW
  have HO : Hid (0 < n → o = some ⟨WB, 0, none⟩) := ho
  have hst : (D.st != D.st) = false := by simp
  clear h hW ho
  go_enter Try.func14, Try.ntmps14
  go_wp2_with fail
  refine (status_any w HJ.out).mono ?_
  rintro e w1 ⟨rfl, hw1⟩
  rw [hw1]
  clear hw1 w1
  go_wp2_with fail
  go_loopw [14] (fun i wr => ∃ k : Nat, k ≤ n ∧ i = .int .i64 k ∧ Hid (Keep w wr (fun _ => False))) (fun i _ => n - (intOf i).toNat)
  case atStart => exact ⟨0, Nat.zero_le _, rfl, Keep.refl _ _⟩
  case round =>
    obtain ⟨k, hk, rfl, HK⟩ := hrel
    by_cases hlt : k < n
    · have e := HO.out (by omega)
      subst e
      obtain ⟨y0, y1, y2, y3⟩ := (HW.out.keep HK.out) k hlt
      have HJr : Hid (Jb wr lo JB TB n G D m F) := HJ.out.keep HK.out
      have q : (k : Int) < (n : Int) := by omega
      go_wp2_with fail
      go_region_held3 (fun w' => w'.cell? ⟨WB, k * 4, none⟩ = some (.int .i64 (D.S k)) ∧ w'.cell? ⟨WB, k * 4 + 1, none⟩ = some (.int .i64 (D.L k)) ∧ w'.cell? ⟨WB, k * 4 + 2, none⟩ = some (.int .i64 (D.Tr k)) ∧ w'.cell? ⟨WB, k * 4 + 3, none⟩ = some (.string (D.Wk k)))
        (first | go_keep | exact ⟨s0, s1, s2, s3⟩)
        ((go_at_call 17; refine (task_any k _ (HJr.out.keep (Keep.drew wr _)) hlt hn).mono ?_; rintro e w5 ⟨rfl, hk5⟩; have s0 := cell_keep0 (a := ⟨WB, k * 4, none⟩) (v := .int .i64 (D.S k)) (by exact y0) hk5; have s1 := cell_keep0 (a := ⟨WB, k * 4 + 1, none⟩) (v := .int .i64 (D.L k)) (by exact y1) hk5; have s2 := cell_keep0 (a := ⟨WB, k * 4 + 2, none⟩) (v := .int .i64 (D.Tr k)) (by exact y2) hk5; have s3 := cell_keep0 (a := ⟨WB, k * 4 + 3, none⟩) (v := .string (D.Wk k)) (by exact y3) hk5; unfold stOf))
      go_wp2_with fail
      go_roundw
      case rel => exact ⟨k + 1, by omega, by go_num, HK.out.trans (show Keep wr w5 _ from ⟨hk5.os, hk5.tape, hk5.output, hk5.size, hk5.block⟩) (fun _ _ h => h)⟩
      case measure => simp [intOf]; omega
    · go_wp2_with fail
      go_ret
      exact ⟨rfl, HK.out⟩
end Go.Proofs.Qxb6614022a
