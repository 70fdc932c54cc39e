/-
  The walks of the readers of big-endian numbers: (bigEndian).Uint32, Uint64; zzb1BE32, zzb1BE64.
-/
import Derived.Test.Qxb6614018aFmtRows
import Derived.WalkKit
import Derived.WalkSpells
import Derived.WalkLawsBesides
import Derived.Lib.EndianBits
import Derived.Deep.QuietTactic
import Derived.BigQuiet
namespace Go.Proofs.Qxb6614018aFmt
open Go.RowKit

theorem cell_al {w : World} {a : Addr} {v : Value} (o : Obj) (h : w.cell? a = some v) : (w.alloc o).cell? a = some v :=
  (World.cell?_alloc_lt w o a (World.block_lt_of_cell? w a h)).trans h

theorem ret_int {k : IntKind} {a b : Int} (h : a = b) : Ending.returned (.int k a) = .returned (.int k b) := by rw [h]

theorem grown_drewN (w : World) (n : Nat) (row : Option Nat) : w.grownBy (w.drewN n) row := ⟨rfl, rfl, rfl, Nat.le_refl _, fun _ _ _ => rfl⟩
theorem grown_alloc_drewN (w : World) (o : Obj) (n : Nat) (row : Option Nat) : w.grownBy ((w.alloc o).drewN n) row :=
  ⟨rfl, rfl, rfl, by show _ ≤ (w.alloc o).heap.size; simp, fun k hk _ => Below.heap_alloc w o k hk⟩

/-- The number that a row of bytes spells, the greatest first. -/
def be (l : List Int) : Int := l.foldl (fun a b => a * 256 + b) 0

theorem be_snoc (l : List Int) (b : Int) : be (l ++ [b]) = be l * 256 + b := by simp [be]

theorem pow256_le {j : Nat} (h : j ≤ 7) : (256 : Int) ^ j ≤ 256 ^ 7 := by
  match j, h with
  | 0, _ => decide
  | 1, _ => decide
  | 2, _ => decide
  | 3, _ => decide
  | 4, _ => decide
  | 5, _ => decide
  | 6, _ => decide
  | 7, _ => decide

def Small (l : List Int) : Prop := ∀ x ∈ l, 0 ≤ x ∧ x ≤ 255

def BytesAt (w : World) (M o : Nat) (l : List Int) : Prop := ∀ i, i < l.length → w.cell? ⟨M, o + i, none⟩ = some (.int .u8 (l.getD i 0))

theorem Small.at {l : List Int} (h : Small l) (i : Nat) : 0 ≤ l.getD i 0 ∧ l.getD i 0 ≤ 255 := by
  rcases Nat.lt_or_ge i l.length with hi | hi
  · rw [List.getD_eq_getElem?_getD, List.getElem?_eq_getElem hi]; exact h _ (List.getElem_mem hi)
  · rw [List.getD_eq_getElem?_getD, List.getElem?_eq_none hi]; decide

theorem bits_or_low (x y : Int) (hx₀ : 0 ≤ x) (hx : x % 256 = 0) (hx₁ : x < 18446744073709551616) (hy₀ : 0 ≤ y) (hy : y < 256) : bits .or .u64 x y = x + y :=
  bits_join .u64 64 (by decide) wraps_u64 8 x y hx₀ hx hx₁ hy₀ hy (by omega)
theorem u32_join8 (x y : Int) (hx₀ : 0 ≤ x) (hx : x % 256 = 0) (hx₁ : x < 4294967296) (hy₀ : 0 ≤ y) (hy : y < 256) : bits .or .u32 x y = x + y :=
  bits_join .u32 32 (by decide) wraps_u32 8 x y hx₀ hx hx₁ hy₀ hy (by omega)
theorem u32_join16 (x y : Int) (hx₀ : 0 ≤ x) (hx : x % 65536 = 0) (hx₁ : x < 4294967296) (hy₀ : 0 ≤ y) (hy : y < 65536) : bits .or .u32 x y = x + y :=
  bits_join .u32 32 (by decide) wraps_u32 16 x y hx₀ hx hx₁ hy₀ hy (by omega)
theorem u32_join24 (x y : Int) (hx₀ : 0 ≤ x) (hx : x % 16777216 = 0) (hx₁ : x < 4294967296) (hy₀ : 0 ≤ y) (hy : y < 16777216) : bits .or .u32 x y = x + y :=
  bits_join .u32 32 (by decide) wraps_u32 24 x y hx₀ hx hx₁ hy₀ hy (by omega)

set_option maxHeartbeats 400000 in
theorem u32_any (M o len cap : Nat) (b0 b1 b2 b3 : Int) (w : World) (hn : 4 ≤ len)
    (c0 : w.cell? ⟨M, o, none⟩ = some (.int .u8 b0)) (c1 : w.cell? ⟨M, o + 1, none⟩ = some (.int .u8 b1))
    (c2 : w.cell? ⟨M, o + 2, none⟩ = some (.int .u8 b2)) (c3 : w.cell? ⟨M, o + 3, none⟩ = some (.int .u8 b3))
    (h0 : 0 ≤ b0 ∧ b0 ≤ 255) (h1 : 0 ≤ b1 ∧ b1 ≤ 255) (h2 : 0 ≤ b2 ∧ b2 ≤ 255) (h3 : 0 ≤ b3 ∧ b3 ≤ 255) :
    Calls Tryf.prog 29 #[.agg #[], .slice (some ⟨M, o, none⟩) len cap] w fun e w' =>
      e = .returned (.int .u32 (be [b0, b1, b2, b3])) ∧ w.grownBy w' none := by
  obtain ⟨h00, h01⟩ := h0
  obtain ⟨h10, h11⟩ := h1
  obtain ⟨h20, h21⟩ := h2
  obtain ⟨h30, h31⟩ := h3
  have d0 := cell_al (.cells #[] 61) c0
  have d1 := cell_al (.cells #[] 61) c1
  have d2 := cell_al (.cells #[] 61) c2
  have d3 := cell_al (.cells #[] 61) c3
  have q0 : 0 < len := by omega
  have q1 : (1 : Int) < (len : Int) := by omega
  have q2 : (2 : Int) < (len : Int) := by omega
  have q3 : (3 : Int) < (len : Int) := by omega
  go_enter Tryf.func29, Tryf.ntmps29
  go_wp2
  go_quiet (fail)
  go_wp2
  go_ret
  refine ⟨ret_int ?_, grown_alloc_drewN _ _ _ _⟩
  simp (disch := omega) only [u32_or8, u32_or16, u32_or24]
  simp only [be, List.foldl]
  omega

set_option maxHeartbeats 1000000 in
theorem u64_any (M o len cap : Nat) (b0 b1 b2 b3 b4 b5 b6 b7 : Int) (w : World) (hn : 8 ≤ len)
    (c0 : w.cell? ⟨M, o, none⟩ = some (.int .u8 b0)) (c1 : w.cell? ⟨M, o + 1, none⟩ = some (.int .u8 b1))
    (c2 : w.cell? ⟨M, o + 2, none⟩ = some (.int .u8 b2)) (c3 : w.cell? ⟨M, o + 3, none⟩ = some (.int .u8 b3))
    (c4 : w.cell? ⟨M, o + 4, none⟩ = some (.int .u8 b4)) (c5 : w.cell? ⟨M, o + 5, none⟩ = some (.int .u8 b5))
    (c6 : w.cell? ⟨M, o + 6, none⟩ = some (.int .u8 b6)) (c7 : w.cell? ⟨M, o + 7, none⟩ = some (.int .u8 b7))
    (h0 : 0 ≤ b0 ∧ b0 ≤ 255) (h1 : 0 ≤ b1 ∧ b1 ≤ 255) (h2 : 0 ≤ b2 ∧ b2 ≤ 255) (h3 : 0 ≤ b3 ∧ b3 ≤ 255)
    (h4 : 0 ≤ b4 ∧ b4 ≤ 255) (h5 : 0 ≤ b5 ∧ b5 ≤ 255) (h6 : 0 ≤ b6 ∧ b6 ≤ 255) (h7 : 0 ≤ b7 ∧ b7 ≤ 255) :
    Calls Tryf.prog 28 #[.agg #[], .slice (some ⟨M, o, none⟩) len cap] w fun e w' =>
      e = .returned (.int .u64 (be [b0, b1, b2, b3, b4, b5, b6, b7])) ∧ w.grownBy w' none := by
  obtain ⟨h00, h01⟩ := h0
  obtain ⟨h10, h11⟩ := h1
  obtain ⟨h20, h21⟩ := h2
  obtain ⟨h30, h31⟩ := h3
  obtain ⟨h40, h41⟩ := h4
  obtain ⟨h50, h51⟩ := h5
  obtain ⟨h60, h61⟩ := h6
  obtain ⟨h70, h71⟩ := h7
  have d0 := cell_al (.cells #[] 61) c0
  have d1 := cell_al (.cells #[] 61) c1
  have d2 := cell_al (.cells #[] 61) c2
  have d3 := cell_al (.cells #[] 61) c3
  have d4 := cell_al (.cells #[] 61) c4
  have d5 := cell_al (.cells #[] 61) c5
  have d6 := cell_al (.cells #[] 61) c6
  have d7 := cell_al (.cells #[] 61) c7
  have q0 : 0 < len := by omega
  have q1 : (1 : Int) < (len : Int) := by omega
  have q2 : (2 : Int) < (len : Int) := by omega
  have q3 : (3 : Int) < (len : Int) := by omega
  have q4 : (4 : Int) < (len : Int) := by omega
  have q5 : (5 : Int) < (len : Int) := by omega
  have q6 : (6 : Int) < (len : Int) := by omega
  have q7 : (7 : Int) < (len : Int) := by omega
  go_enter Tryf.func28, Tryf.ntmps28
  go_wp2
  go_quiet (fail)
  go_wp2
  go_ret
  refine ⟨ret_int ?_, grown_alloc_drewN _ _ _ _⟩
  simp (disch := omega) only [u64_or8, u64_or16, u64_or24, u64_or32, u64_or40, u64_or48, u64_or56]
  simp only [be, List.foldl]
  omega

set_option maxHeartbeats 400000 in
theorem be32_any (M o len cap i : Nat) (b0 b1 b2 b3 : Int) (w : World) (hn : i + 4 ≤ len) (hm : len ≤ 1048576)
    (c0 : w.cell? ⟨M, o + i, none⟩ = some (.int .u8 b0)) (c1 : w.cell? ⟨M, o + (i + 1), none⟩ = some (.int .u8 b1))
    (c2 : w.cell? ⟨M, o + (i + 2), none⟩ = some (.int .u8 b2)) (c3 : w.cell? ⟨M, o + (i + 3), none⟩ = some (.int .u8 b3))
    (h0 : 0 ≤ b0 ∧ b0 ≤ 255) (h1 : 0 ≤ b1 ∧ b1 ≤ 255) (h2 : 0 ≤ b2 ∧ b2 ≤ 255) (h3 : 0 ≤ b3 ∧ b3 ≤ 255) :
    Calls Tryf.prog 14 #[.slice (some ⟨M, o, none⟩) len cap, .int .i64 i] w fun e w' =>
      e = .returned (.int .i32 (wrap32 (be [b0, b1, b2, b3]))) ∧ ∃ n, w' = w.drewN n := by
  obtain ⟨h00, h01⟩ := h0
  obtain ⟨h10, h11⟩ := h1
  obtain ⟨h20, h21⟩ := h2
  obtain ⟨h30, h31⟩ := h3
  have q0 : (i : Int) < (len : Int) := by omega
  have q1 : (i : Int) + 1 < (len : Int) := by omega
  have q2 : (i : Int) + 2 < (len : Int) := by omega
  have q3 : (i : Int) + 3 < (len : Int) := by omega
  go_enter Tryf.func14, Tryf.ntmps14
  go_wp2
  go_quiet (fail)
  go_wp2
  go_ret
  refine ⟨ret_int (congrArg wrap32 ?_), nq, rfl⟩
  simp (disch := omega) only [u32_join8, u32_join16, u32_join24]
  simp only [be, List.foldl]
  omega

set_option maxHeartbeats 400000 in
theorem be64_any (M o len cap i : Nat) (l : List Int) (w : World) (hn : i + 8 ≤ len) (hm : len ≤ 1048576) (hl : l.length = 8)
    (hc : BytesAt w M (o + i) l) (hs : Small l) :
    Calls Tryf.prog 18 #[.slice (some ⟨M, o, none⟩) len cap, .int .i64 i] w fun e w' =>
      e = .returned (.int .i64 (wrap64 (be l))) ∧ w' = w := by
  have HL : Hid (l.length = 8) := hl
  clear hl
  go_enter Tryf.func18, Tryf.ntmps18
  go_wp2
  go_loop [5, 6] (fun u k => ∃ j : Nat, j ≤ 8 ∧ k = .int .i64 j ∧ ∃ n : Int, u = .int .u64 n ∧ 0 ≤ n ∧ n < 256 ^ j ∧ n = be (l.take j)) (fun _ k => 8 - (intOf k).toNat)
  case atStart => exact ⟨0, by omega, rfl, 0, rfl, by omega, by decide, by simp [be]⟩
  case round =>
    obtain ⟨j, hj, rfl, n, rfl, hn0, hn1, hn2⟩ := hrel
    have HN : Hid (n = be (l.take j)) := hn2
    clear hn2
    by_cases hlt : j < 8
    · have hcell : w.cell? ⟨M, o + (i + j), none⟩ = some (.int .u8 (l.getD j 0)) := by
        have := hc j (by rw [HL.out]; exact hlt); rw [show o + (i + j) = o + i + j from by omega]; exact this
      have hb := hs.at j
      obtain ⟨b, HB⟩ : ∃ b, Hid (b = l.getD j 0) := ⟨_, rfl⟩
      rw [← HB.out] at hb hcell
      have hn3 : n < 256 ^ 7 := Int.lt_of_lt_of_le hn1 (pow256_le (by omega))
      have hn4 : n < 72057594037927936 := Int.lt_of_lt_of_le hn3 (by decide)
      have hn5 : n * 256 + b < 256 ^ (j + 1) := by rw [Int.pow_succ]; omega
      have HN5 : Hid (n * 256 + b < 256 ^ (j + 1)) := hn5
      have hq : (i : Int) + j < len := by omega
      have hor : bits .or .u64 (n * 256) b = n * 256 + b := bits_or_low _ _ (by omega) (by omega) (by omega) (by omega) (by omega)
      clear hn1 hn3 hc hs hn5
      go_wp2
      go_round
      case rel =>
        refine ⟨j + 1, by omega, by go_num, n * 256 + b, rfl, by omega, HN5.out, ?_⟩
        have := be_snoc (l.take j) b
        rw [HB.out, HN.out]
        rw [← HN.out, HB.out] at this
        rw [← HN.out, ← this]
        congr 1
        rw [List.take_succ_eq_append_getElem (by rw [HL.out]; exact hlt), List.getD_eq_getElem?_getD, List.getElem?_eq_getElem (by rw [HL.out]; exact hlt)]
        rfl
      case measure => simp [intOf]; omega
    · obtain rfl : j = 8 := by omega
      have hn4 : n < 18446744073709551616 := Int.lt_of_lt_of_le hn1 (by decide)
      clear hn1
      go_wp2
      go_ret
      refine ⟨ret_int (congrArg wrap64 ?_), rfl⟩
      rw [HN.out, List.take_of_length_le (by rw [HL.out]; exact Nat.le_refl _)]

#print axioms be64_any
end Go.Proofs.Qxb6614018aFmt
