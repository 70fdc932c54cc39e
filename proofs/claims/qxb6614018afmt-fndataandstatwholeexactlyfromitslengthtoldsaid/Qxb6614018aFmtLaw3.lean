/-
  The law's own helper zzb1StatAt.
-/
import Derived.Test.Qxb6614018aFmtLaw2
namespace Go.Proofs.Qxb6614018aFmt
open Go.RowKit Go.Stop
set_option linter.unusedVariables false
set_option linter.unusedSimpArgs false

theorem be32_at' (x : Int) (M o cap i : Nat) (L : List Int) (w : World) (hx : x = (i : Int)) (hn : i + 4 ≤ L.length) (hm : L.length ≤ 1048576)
    (hc : BytesAt w M o L) (hs : Small L) :
    Calls Tryf.prog 14 #[.slice (some ⟨M, o, none⟩) L.length cap, .int .i64 x] w fun e w' =>
      e = .returned (.int .i32 (rd32 (some (L.drop i)))) ∧ ∃ n, w' = w.drewN n := by
  subst hx; exact be32_at M o cap i L w hn hm hc hs
theorem be64_at' (x : Int) (M o cap i : Nat) (L : List Int) (w : World) (hx : x = (i : Int)) (hn : i + 8 ≤ L.length) (hm : L.length ≤ 1048576)
    (hc : BytesAt w M o L) (hs : Small L) :
    Calls Tryf.prog 18 #[.slice (some ⟨M, o, none⟩) L.length cap, .int .i64 x] w fun e w' =>
      e = .returned (.int .i64 (rd64 (some (L.drop i)))) ∧ w' = w := by
  subst hx; exact be64_at M o cap i L w hn hm hc hs
theorem BytesAt.drewN {w : World} {M o : Nat} {l : List Int} (h : BytesAt w M o l) (n : Nat) : BytesAt (w.drewN n) M o l := h
theorem nx_drop (k i : Nat) (L : List Int) (h : i + k ≤ L.length) : nx k (some (L.drop i)) = some (L.drop (i + k)) := by
  simp only [nx]
  rw [if_pos (by rw [List.length_drop]; omega), List.drop_drop]

set_option maxHeartbeats 1000000 in
theorem statAt_any (M o cap i : Nat) (L : List Int) (w : World) (hn : i + 68 ≤ L.length) (hm : L.length ≤ 1048576)
    (hc : BytesAt w M o L) (hs : Small L) (hMl : M < w.heap.size) :
    Calls Tryf.prog 13 #[.slice (some ⟨M, o, none⟩) L.length cap, .int .i64 i] w fun e w' =>
      e = .returned (.agg (statV (some (L.drop i)))) ∧ w.grownBy w' none := by
  have HL : Hid (i + 68 ≤ L.length ∧ L.length ≤ 1048576) := ⟨hn, hm⟩
  have q : i ≤ 1048576 := by omega
  have HQ : Hid (statV (some (L.drop i)) = #[.int .i64 (rd64 (some (L.drop i))), .int .i64 (rd64 (some (L.drop (i + 8)))), .int .i64 (rd64 (some (L.drop (i + 16)))), .int .i64 (rd64 (some (L.drop (i + 24)))), .int .i32 (rd32 (some (L.drop (i + 32)))), .int .i32 (rd32 (some (L.drop (i + 36)))), .int .i32 (rd32 (some (L.drop (i + 40)))), .int .i64 (rd64 (some (L.drop (i + 44)))), .int .i32 (rd32 (some (L.drop (i + 52)))), .int .i32 (rd32 (some (L.drop (i + 56)))), .int .i64 (rd64 (some (L.drop (i + 60))))]) := by
    show statV _ = _
    simp only [statV, statL]
    rw [nx_drop 8 i L (by omega)]
    rw [nx_drop 16 i L (by omega)]
    rw [nx_drop 24 i L (by omega)]
    rw [nx_drop 32 i L (by omega)]
    rw [nx_drop 36 i L (by omega)]
    rw [nx_drop 40 i L (by omega)]
    rw [nx_drop 44 i L (by omega)]
    rw [nx_drop 52 i L (by omega)]
    rw [nx_drop 56 i L (by omega)]
    rw [nx_drop 60 i L (by omega)]
  go_enter Tryf.func13, Tryf.ntmps13
  go_wp2_with fail
  have hR0 := heap_alloc_new w (.cells zeroStat 25)
  have hg0 := galloc w (.cells zeroStat 25) none
  have hc0 : BytesAt (w.alloc (.cells zeroStat 25)) M o L := fun j hj => hg0.cell (hc j hj) (by simp)
  rw [show (Obj.cells #[.int .i64 0, .int .i64 0, .int .i64 0, .int .i64 0, .int .i32 0, .int .i32 0, .int .i32 0, .int .i64 0, .int .i32 0, .int .i32 0, .int .i64 0] 25) = .cells zeroStat 25 from rfl]
  generalize w.alloc (.cells zeroStat 25) = w0 at *
  clear hn hm
  refine (be64_at' _ M o cap i L _ (by omega) (by have := HL.out; omega) HL.out.2 (by exact hc0) hs).mono ?_
  rintro e w1 ⟨rfl, rfl⟩
  go_wp2_with fail
  refine (be64_at' _ M o cap (i + 8) L _ (by omega) (by have := HL.out; omega) HL.out.2 (by exact hc0) hs).mono ?_
  rintro e w2 ⟨rfl, rfl⟩
  go_wp2_with fail
  refine (be64_at' _ M o cap (i + 16) L _ (by omega) (by have := HL.out; omega) HL.out.2 (by exact hc0) hs).mono ?_
  rintro e w3 ⟨rfl, rfl⟩
  go_wp2_with fail
  refine (be64_at' _ M o cap (i + 24) L _ (by omega) (by have := HL.out; omega) HL.out.2 (by exact hc0) hs).mono ?_
  rintro e w4 ⟨rfl, rfl⟩
  go_wp2_with fail
  refine (be32_at' _ M o cap (i + 32) L _ (by omega) (by have := HL.out; omega) HL.out.2 (by exact hc0) hs).mono ?_
  rintro e w5 ⟨rfl, m4, rfl⟩
  go_wp2_with fail
  refine (be32_at' _ M o cap (i + 36) L _ (by omega) (by have := HL.out; omega) HL.out.2 (by exact hc0) hs).mono ?_
  rintro e w6 ⟨rfl, m5, rfl⟩
  go_wp2_with fail
  refine (be32_at' _ M o cap (i + 40) L _ (by omega) (by have := HL.out; omega) HL.out.2 (by exact hc0) hs).mono ?_
  rintro e w7 ⟨rfl, m6, rfl⟩
  go_wp2_with fail
  refine (be64_at' _ M o cap (i + 44) L _ (by omega) (by have := HL.out; omega) HL.out.2 (by exact hc0) hs).mono ?_
  rintro e w8 ⟨rfl, rfl⟩
  go_wp2_with fail
  refine (be32_at' _ M o cap (i + 52) L _ (by omega) (by have := HL.out; omega) HL.out.2 (by exact hc0) hs).mono ?_
  rintro e w9 ⟨rfl, m8, rfl⟩
  go_wp2_with fail
  refine (be32_at' _ M o cap (i + 56) L _ (by omega) (by have := HL.out; omega) HL.out.2 (by exact hc0) hs).mono ?_
  rintro e w10 ⟨rfl, m9, rfl⟩
  go_wp2_with fail
  refine (be64_at' _ M o cap (i + 60) L _ (by omega) (by have := HL.out; omega) HL.out.2 (by exact hc0) hs).mono ?_
  rintro e w11 ⟨rfl, rfl⟩
  have hone : (statV (some (L.drop i))).all (·.oneCell') = true := statV_one _
  rw [HQ.out] at hone
  go_wp2_with (refine wpList_store_row rfl 25 _ _ rfl w.heap.size #[.int .i64 (rd64 (some (L.drop i))), .int .i64 (rd64 (some (L.drop (i + 8)))), .int .i64 (rd64 (some (L.drop (i + 16)))), .int .i64 (rd64 (some (L.drop (i + 24)))), .int .i32 (rd32 (some (L.drop (i + 32)))), .int .i32 (rd32 (some (L.drop (i + 36)))), .int .i32 (rd32 (some (L.drop (i + 40)))), .int .i64 (rd64 (some (L.drop (i + 44)))), .int .i32 (rd32 (some (L.drop (i + 52)))), .int .i32 (rd32 (some (L.drop (i + 56)))), .int .i64 (rd64 (some (L.drop (i + 60))))] rfl rfl 25 zeroStat (by exact hR0) info25 rfl hone ?_)
  refine bodyPost_ret (results_cell_row rfl _ _ w.heap.size 25 #[.int .i64 (rd64 (some (L.drop i))), .int .i64 (rd64 (some (L.drop (i + 8)))), .int .i64 (rd64 (some (L.drop (i + 16)))), .int .i64 (rd64 (some (L.drop (i + 24)))), .int .i32 (rd32 (some (L.drop (i + 32)))), .int .i32 (rd32 (some (L.drop (i + 36)))), .int .i32 (rd32 (some (L.drop (i + 40)))), .int .i64 (rd64 (some (L.drop (i + 44)))), .int .i32 (rd32 (some (L.drop (i + 52)))), .int .i32 (rd32 (some (L.drop (i + 56)))), .int .i64 (rd64 (some (L.drop (i + 60))))] (0, 0) _ rfl (setRow_heap _ w.heap.size zeroStat #[.int .i64 (rd64 (some (L.drop i))), .int .i64 (rd64 (some (L.drop (i + 8)))), .int .i64 (rd64 (some (L.drop (i + 16)))), .int .i64 (rd64 (some (L.drop (i + 24)))), .int .i32 (rd32 (some (L.drop (i + 32)))), .int .i32 (rd32 (some (L.drop (i + 36)))), .int .i32 (rd32 (some (L.drop (i + 40)))), .int .i64 (rd64 (some (L.drop (i + 44)))), .int .i32 (rd32 (some (L.drop (i + 52)))), .int .i32 (rd32 (some (L.drop (i + 56)))), .int .i64 (rd64 (some (L.drop (i + 60))))] 25 (0, 0) (by exact hR0)) Tryf.underlying25 rfl info25) rfl ⟨by rw [HQ.out], ?_⟩
  refine setRow_grown ?_ _ _ (Or.inl (Nat.le_refl _))
  exact ⟨hg0.os, hg0.tape, hg0.output, hg0.size, hg0.block⟩
end Go.Proofs.Qxb6614018aFmt
