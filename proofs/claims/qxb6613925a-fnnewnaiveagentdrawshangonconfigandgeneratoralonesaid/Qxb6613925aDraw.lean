/-
  PCG.Uint64, Rand.Uint64, ZZrng; that a good draw comes.
-/
import Derived.Test.Qxb6613925aPcg
namespace Go.Proofs.Qxb6613925a
open Go.RowKit
set_option linter.unusedVariables false
set_option linter.unusedSimpArgs false

/-- What PCG makes of its two words. -/
def dxZ (x y : Nat) : Int := IntKind.u64.wrap (bits BinOp.xor IntKind.u64 (IntKind.u64.wrap (bits BinOp.xor IntKind.u64 (x : Int) ((x : Int) / 4294967296) * 15750249268501108917)) (IntKind.u64.wrap (bits BinOp.xor IntKind.u64 (x : Int) ((x : Int) / 4294967296) * 15750249268501108917) / 281474976710656) * bits BinOp.or IntKind.u64 (y : Int) 1)
def dx (x y : Nat) : Nat := (dxZ x y).toNat
theorem dx_eq (x y : Nat) : dxZ x y = ((dx x y : Nat) : Int) := by
  have h : 0 ≤ dxZ x y := by unfold dxZ; rw [IntKind.wrap_u64]; omega
  unfold dx
  omega
theorem dx_lt (x y : Nat) : dx x y < 18446744073709551616 := by
  have h : dxZ x y < 18446744073709551616 := by unfold dxZ; rw [IntKind.wrap_u64]; omega
  have := dx_eq x y
  omega
/-- A state whose output is 1. -/
theorem dx_one : dx 10053033840993720478 0 = 1 := by kernel_rfl

def U64Post (w : World) (B h l : Nat) (e : Ending) (w' : World) : Prop :=
  e = .returned (.int .u64 (dx (nHi h l) (nLo l))) ∧ PcgAt w' B (nHi h l) (nLo l) ∧ Keep w w' (fun k => k = B)

set_option maxRecDepth 100000 in
set_option maxHeartbeats 1000000 in
theorem puint64_any (B h l : Nat) (w : World) (hp : PcgAt w B h l) :
    Calls Try.prog 53 #[.pointer (some ⟨B, 0, none⟩)] w fun e w' => U64Post w B h l e w' := by
  have HP : Hid (PcgAt w B h l) := hp
  have hh : nHi h l < 18446744073709551616 := by unfold nHi; omega
  have hl : nLo l < 18446744073709551616 := by unfold nLo; omega
  have hn := next_any B h l w HP.out
  unfold NextPost at hn
  unfold U64Post
  generalize hx : nHi h l = x at *
  generalize hy : nLo l = y at *
  clear hp hx hy
  go_enter Try.func53, Try.ntmps53
  go_wp2_with fail
  refine hn.mono ?_
  rintro e w1 ⟨rfl, P1, P2⟩
  have HQ : Hid (PcgAt w1 B x y ∧ Keep w w1 (fun k => k = B)) := ⟨P1, P2⟩
  clear P1 P2 hn
  go_wp2_with fail
  go_ret
  exact ⟨by rw [← dx_eq]; rfl, HQ.out.1, HQ.out.2⟩

/-- The Rand over the generator. -/
def RandAt (w : World) (R B : Nat) : Prop := w.heap[R]? = some (.cells #[.iface 46 (.pointer (some ⟨B, 0, none⟩))] 65 (0, 0))

theorem m_u64 (a : Addr) (w : World) : (method 63 46 (.pointer (some a)) "Uint64").run Try.prog w = .ok (53, .pointer (some a)) w := by kernel_rfl

set_option maxRecDepth 100000 in
set_option maxHeartbeats 1000000 in
theorem uint64_any (R B h l : Nat) (w : World) (hr : RandAt w R B) (hp : PcgAt w B h l) :
    Calls Try.prog 31 #[.pointer (some ⟨R, 0, none⟩)] w fun e w' => U64Post w B h l e w' := by
  have HP : Hid (PcgAt w B h l) := hp
  have c0 : w.cell? ⟨R, 0, none⟩ = some (.iface 46 (.pointer (some ⟨B, 0, none⟩))) := by rw [cell_of_row _ _ _ _ _ _ hr]; rfl
  clear hp hr
  go_enter Try.func31, Try.ntmps31
  go_wp2_with fail
  refine (puint64_any B h l w HP.out).mono ?_
  rintro e w1 ⟨rfl, P1, P2⟩
  have HQ : Hid (PcgAt w1 B (nHi h l) (nLo l) ∧ Keep w w1 (fun k => k = B)) := ⟨P1, P2⟩
  clear P1 P2
  go_wp2_with fail
  go_ret
  exact ⟨rfl, HQ.out.1, HQ.out.2⟩

def RngPost (w : World) (a b : Nat) (e : Ending) (w' : World) : Prop :=
  ∃ R B, e = .returned (.pointer (some ⟨R, 0, none⟩)) ∧ RandAt w' R B ∧ PcgAt w' B a b ∧ Keep w w' (fun _ => False) ∧ w.heap.size ≤ B ∧ R ≠ B
set_option maxRecDepth 100000 in
theorem zzrng_any (a b : Nat) (ha : a < 18446744073709551616) (hb : b < 18446744073709551616) (w : World) :
    Calls Try.prog 13 #[.int .u64 a, .int .u64 b] w fun e w' => RngPost w a b e w' := by
  go_enter Try.func13, Try.ntmps13
  go_wp2
  go_ret
  have h1 := heap_alloc_new w (.cells #[.int .u64 (a : Int), .int .u64 (b : Int)] 67)
  have h2 := heap_alloc_new (w.alloc (.cells #[.int .u64 (a : Int), .int .u64 (b : Int)] 67)) (.cells #[.iface 46 (.pointer (some ⟨w.heap.size, 0, none⟩))] 65)
  have hs : (w.alloc (.cells #[.int .u64 (a : Int), .int .u64 (b : Int)] 67)).heap.size = w.heap.size + 1 := by simp
  rw [hs] at h2
  have k2 := Keep.alloc (w.alloc (.cells #[.int .u64 (a : Int), .int .u64 (b : Int)] 67)) (.cells #[.iface 46 (.pointer (some ⟨w.heap.size, 0, none⟩))] 65) (fun _ => False)
  exact ⟨w.heap.size + 1, w.heap.size, rfl, h2, ⟨(k2.block _ (lt_of_heap h1) id).trans h1, ha, hb⟩, (Keep.alloc w _ _).trans k2 (fun _ _ h => h), Nat.le_refl _, by omega⟩
end Go.Proofs.Qxb6613925a
