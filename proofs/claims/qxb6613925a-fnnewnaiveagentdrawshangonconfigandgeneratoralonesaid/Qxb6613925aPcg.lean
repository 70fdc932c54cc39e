/-
  math/rand/v2's PCG: next, Uint64; Rand.Uint64; bits.Mul64, bits.Add64.
-/
import Derived.Test.Qxb6613925aRows
import Derived.Test.Qxb6613925aMath
import Derived.WalkKit
import Derived.WalkSpells
import Derived.WalkLawsBesides
import Derived.BigQuiet
import Derived.BigRegion
import Derived.Handy
import Derived.Deep.RegionHeld3
import Derived.Laws.Rows
import Derived.Laws.Externs
import Derived.Shelf.Bits.Mul64
namespace Go.Proofs.Qxb6613925a
open Go.RowKit
set_option linter.unusedVariables false
set_option linter.unusedSimpArgs false

theorem lt_of_heap {w : World} {R : Nat} {o : Obj} (h : w.heap[R]? = some o) : R < w.heap.size := by
  rcases Nat.lt_or_ge R w.heap.size with h' | h'
  · exact h'
  · rw [Array.getElem?_eq_none h'] at h; cases h

/-- All old blocks but those of F are as they were. -/
structure Keep (w w' : World) (F : Nat → Prop) : Prop where
  os : w'.os = w.os
  tape : w'.tape = w.tape
  output : w'.output = w.output
  size : w.heap.size ≤ w'.heap.size
  block : ∀ k, k < w.heap.size → ¬ F k → w'.heap[k]? = w.heap[k]?

theorem Keep.refl (w : World) (F : Nat → Prop) : Keep w w F := ⟨rfl, rfl, rfl, Nat.le_refl _, fun _ _ _ => rfl⟩
theorem Keep.mono {w w' : World} {F G : Nat → Prop} (h : Keep w w' F) (hFG : ∀ k, k < w.heap.size → F k → G k) : Keep w w' G :=
  ⟨h.os, h.tape, h.output, h.size, fun k hk hn => h.block k hk (fun hf => hn (hFG k hk hf))⟩
theorem Keep.trans {a b c : World} {F G : Nat → Prop} (h : Keep a b F) (k : Keep b c G) (hG : ∀ i, i < a.heap.size → G i → F i) : Keep a c F :=
  ⟨k.os.trans h.os, k.tape.trans h.tape, k.output.trans h.output, Nat.le_trans h.size k.size, fun i hi hn => (k.block i (Nat.lt_of_lt_of_le hi h.size) (fun hg => hn (hG i hi hg))).trans (h.block i hi hn)⟩
theorem Keep.alloc (w : World) (o : Obj) (F : Nat → Prop) : Keep w (w.alloc o) F :=
  have h := World.grownBy_alloc w o none
  ⟨h.os, h.tape, h.output, h.size, fun k hk _ => h.block k hk (by simp)⟩
theorem Keep.drew (w : World) (F : Nat → Prop) : Keep w w.drew F := ⟨rfl, rfl, rfl, Nat.le_refl _, fun _ _ _ => rfl⟩
theorem Keep.set (w : World) (a : Addr) (u : Value) : Keep w (w.setCell a u) (fun k => k = a.block) :=
  ⟨rfl, rfl, rfl, by simp, fun i _ hne => Below.heap_setCell w _ u i (fun e => hne (by rw [e]))⟩

/-- bits.Add64: the model's own entry. -/
theorem add64 (x y c : Int) (hx : 0 ≤ x) (hy : 0 ≤ y) (hc0 : 0 ≤ c) (hc : c ≤ 1) (w : World) : (callFunc 55 #[.int .u64 x, .int .u64 y, .int .u64 c]).run Try.prog w =
    .ok (.value (.tuple #[.int .u64 ((x + y + c) % 18446744073709551616), .int .u64 ((x + y + c) / 18446744073709551616)])) w := by
  rw [run_callFunc_extern Try.func55 (by kernel_rfl) (by kernel_rfl) (by kernel_rfl) (e := add64Entry) (by kernel_rfl), run_add64 x y c hx hy hc0 hc]
  rfl
theorem add64_0 (x y : Int) (hx : 0 ≤ x) (hy : 0 ≤ y) (w : World) : (callFunc 55 #[.int .u64 x, .int .u64 y, .int .u64 0]).run Try.prog w =
    .ok (.value (.tuple #[.int .u64 ((x + y) % 18446744073709551616), .int .u64 ((x + y) / 18446744073709551616)])) w := by
  simpa using add64 x y 0 hx hy (Int.le_refl 0) (by decide) w

set_option maxHeartbeats 1000000 in
theorem mul64_any (x y : Nat) (hx : x < 18446744073709551616) (hy : y < 18446744073709551616) (w : World) :
    Calls Try.prog 29 #[.int .u64 x, .int .u64 y] w fun e w' => e = .returned (.tuple #[.int .u64 ((x * y / 18446744073709551616 : Nat) : Int), .int .u64 ((x * y % 18446744073709551616 : Nat) : Int)]) ∧ w' = w := by
  obtain ⟨bd, bt, bw, hhi⟩ := Lib.mul64_hi x y hx hy
  have ba := Lib.half_mul_le (a := x / 4294967296) (b := y / 4294967296) (by omega) (by omega)
  have bb := Lib.half_mul_le (a := x / 4294967296) (b := y % 4294967296) (by omega) (by omega)
  have bc := Lib.half_mul_le (a := x % 4294967296) (b := y / 4294967296) (by omega) (by omega)
  have ba' : x / 4294967296 * (y / 4294967296) < 18446744073709551616 := by omega
  have bb' : x / 4294967296 * (y % 4294967296) < 18446744073709551616 := by omega
  have bc' : x % 4294967296 * (y / 4294967296) < 18446744073709551616 := by omega
  have bh1 : x / 4294967296 * (y / 4294967296) + (x / 4294967296 * (y % 4294967296) + x % 4294967296 * (y % 4294967296) / 4294967296) / 4294967296 < 18446744073709551616 := by omega
  have bh : x / 4294967296 * (y / 4294967296) + (x / 4294967296 * (y % 4294967296) + x % 4294967296 * (y % 4294967296) / 4294967296) / 4294967296 + ((x / 4294967296 * (y % 4294967296) + x % 4294967296 * (y % 4294967296) / 4294967296) % 4294967296 + x % 4294967296 * (y / 4294967296)) / 4294967296 < 18446744073709551616 := by omega
  go_enter Try.func29, Try.ntmps29
  go_wp2
  simp only [Mul64.maskN x hx, Mul64.maskN y hy, Mul64.divN, Mul64.mulN, Mul64.addN, Mul64.wrapN _ bd, Mul64.wrapN _ bb', Mul64.wrapN _ bt, Mul64.maskN _ bt, Mul64.wrapN _ bc', Mul64.wrapN _ bw, Mul64.wrapN _ ba', Mul64.wrapN _ bh1, Mul64.wrapN _ bh, Mul64.wrapM (x * y)]
  rw [hhi]
  go_ret2
  exact ⟨rfl, rfl⟩

def nLo (l : Nat) : Nat := (l * 4865540595714422341 % 18446744073709551616 + 1442695040888963407) % 18446744073709551616
def nHi (h l : Nat) : Nat := ((l * 4865540595714422341 / 18446744073709551616 + (h * 4865540595714422341 + l * 2549297995355413924)) % 18446744073709551616 + 6364136223846793005 + (l * 4865540595714422341 % 18446744073709551616 + 1442695040888963407) / 18446744073709551616) % 18446744073709551616

/-- The generator's two words. -/
structure PcgAt (w : World) (B h l : Nat) : Prop where
  b : w.heap[B]? = some (.cells #[.int .u64 h, .int .u64 l] 67 (0, 0))
  h : h < 18446744073709551616
  l : l < 18446744073709551616

def NextPost (w : World) (B h l : Nat) (e : Ending) (w' : World) : Prop :=
  e = .returned (.tuple #[.int .u64 (nHi h l), .int .u64 (nLo l)]) ∧ PcgAt w' B (nHi h l) (nLo l) ∧ Keep w w' (fun k => k = B)

set_option maxRecDepth 100000 in
set_option maxHeartbeats 1000000 in
theorem next_any (B h l : Nat) (w : World) (hp : PcgAt w B h l) :
    Calls Try.prog 54 #[.pointer (some ⟨B, 0, none⟩)] w fun e w' => NextPost w B h l e w' := by
  have HP : Hid (PcgAt w B h l) := hp
  have hh := hp.h
  have hl := hp.l
  have c0 : w.cell? ⟨B, 0, none⟩ = some (.int .u64 h) := by rw [cell_of_row _ _ _ _ _ _ hp.b]; rfl
  have c1 : w.cell? ⟨B, 1, none⟩ = some (.int .u64 l) := by rw [cell_of_row _ _ _ _ _ _ hp.b]; rfl
  have f0 : w.frozen? ⟨B, 0, none⟩ = false := frozen_of_row _ _ _ _ _ hp.b
  have f1 : w.frozen? ⟨B, 1, none⟩ = false := frozen_of_row _ _ _ _ _ hp.b
  clear hp
  go_enter Try.func54, Try.ntmps54
  go_wp2_with fail
  have hm := mul64_any l 4865540595714422341 hl (by omega) w
  obtain ⟨q1, hq1⟩ : ∃ q1 : Int, q1 = ((l * 4865540595714422341 / 18446744073709551616 : Nat) : Int) := ⟨_, rfl⟩
  obtain ⟨r1, hr1⟩ : ∃ r1 : Int, r1 = ((l * 4865540595714422341 % 18446744073709551616 : Nat) : Int) := ⟨_, rfl⟩
  rw [← hq1, ← hr1] at hm
  have HQ1 : Hid (q1 = ((l * 4865540595714422341 / 18446744073709551616 : Nat) : Int)) := hq1
  have HR1 : Hid (r1 = ((l * 4865540595714422341 % 18446744073709551616 : Nat) : Int)) := hr1
  have r0 : 0 ≤ r1 := by omega
  have r2 : r1 < 18446744073709551616 := by omega
  have k0 : 0 ≤ (r1 + 1442695040888963407) / 18446744073709551616 := by omega
  have k1 : (r1 + 1442695040888963407) / 18446744073709551616 ≤ 1 := by omega
  refine hm.mono ?_
  rintro e w1 ⟨rfl, hw1⟩
  rw [hw1]
  clear hw1 w1 hm hq1 hr1
  go_wp2_with fail
  go_region
  obtain ⟨Y, hY⟩ : ∃ Y : Int, Y = IntKind.u64.wrap (q1 + IntKind.u64.wrap (IntKind.u64.wrap ((h : Int) * 4865540595714422341) + IntKind.u64.wrap ((l : Int) * 2549297995355413924))) := ⟨_, rfl⟩
  rw [← hY]
  have HY : Hid (Y = IntKind.u64.wrap (q1 + IntKind.u64.wrap (IntKind.u64.wrap ((h : Int) * 4865540595714422341) + IntKind.u64.wrap ((l : Int) * 2549297995355413924)))) := hY
  have y0 : 0 ≤ Y := by rw [hY, IntKind.wrap_u64]; omega
  have y1 : Y < 18446744073709551616 := by rw [hY, IntKind.wrap_u64]; omega
  clear hY
  go_wp2_with (first | simp only [add64_0 r1 1442695040888963407 r0 (by decide)] | simp only [add64 Y 6364136223846793005 _ y0 (by decide) k0 k1])
  have eL : (r1 + 1442695040888963407) % 18446744073709551616 = ((nLo l : Nat) : Int) := by rw [HR1.out]; unfold nLo; omega
  have eH : (Y + 6364136223846793005 + (r1 + 1442695040888963407) / 18446744073709551616) % 18446744073709551616 = ((nHi h l : Nat) : Int) := by
    have eY : Y = (((l * 4865540595714422341 / 18446744073709551616 + (h * 4865540595714422341 + l * 2549297995355413924)) % 18446744073709551616 : Nat) : Int) := by
      rw [HY.out, HQ1.out, IntKind.wrap_u64, IntKind.wrap_u64, IntKind.wrap_u64, IntKind.wrap_u64]
      have n1 : ∀ a b c : Nat, ((a : Int) + (((b : Int) % 18446744073709551616 + (c : Int) % 18446744073709551616) % 18446744073709551616)) % 18446744073709551616 = (((a + (b + c)) % 18446744073709551616 : Nat) : Int) := fun a b c => by omega
      have n2 := n1 (l * 4865540595714422341 / 18446744073709551616) (h * 4865540595714422341) (l * 2549297995355413924)
      rw [← n2]
      simp only [Int.natCast_mul]
      rfl
    rw [eY, HR1.out]
    unfold nHi
    generalize (l * 4865540595714422341 / 18446744073709551616 + (h * 4865540595714422341 + l * 2549297995355413924)) % 18446744073709551616 = A
    generalize l * 4865540595714422341 % 18446744073709551616 = R
    omega
  rw [eL, eH]
  have hb := HP.out.b
  have e1 := heap_setCell_same w B 1 _ 67 (.int .u64 ((nLo l : Nat) : Int)) hb
  have e2 := heap_setCell_same _ B 0 _ 67 (.int .u64 ((nHi h l : Nat) : Int)) e1
  go_ret2
  refine ⟨rfl, ⟨?_, by unfold nHi; omega, by unfold nLo; omega⟩, ?_⟩
  · exact e2
  · exact ((Keep.set w ⟨B, 1, none⟩ _).trans (Keep.set _ ⟨B, 0, none⟩ _) (fun _ _ h => h)).trans (Keep.drew _ _) (fun _ _ h => h)

/-- The two words as one number, and its steps. -/
def mM : Nat := 340282366920938463463374607431768211456
def stN (h l : Nat) : Nat := h * 18446744073709551616 + l
theorem next_step (h l : Nat) (hh : h < 18446744073709551616) (hl : l < 18446744073709551616) : stN (nHi h l) (nLo l) = gSg mA mC mM (stN h l) := by
  unfold stN nHi nLo gSg mA mC mM
  omega
end Go.Proofs.Qxb6613925a
