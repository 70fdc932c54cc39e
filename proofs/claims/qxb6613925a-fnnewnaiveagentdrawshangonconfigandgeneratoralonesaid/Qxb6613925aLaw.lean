/-
  The law where its guards let the input by.
-/
import Derived.Test.Qxb6613925aAcc
namespace Go.Proofs.Qxb6613925a
open Go.RowKit
set_option linter.unusedVariables false
set_option linter.unusedSimpArgs false

def LawPost (w : World) (e : Ending) (w' : World) : Prop := e = .returned (.bool true) ∧ Keep w w' (fun _ => False)

set_option maxRecDepth 100000 in
set_option maxHeartbeats 4000000 in
theorem law (N F id id2 s1 s2 : Nat) (a4 a5 : ByteArray) (w4 : a4.size ≤ 65536) (w5 : a5.size ≤ 65536) (hF : F < N) (hN : N ≤ 65536) (hid : id < N) (hid2 : id2 < N) (h1 : s1 < 18446744073709551616) (h2 : s2 < 18446744073709551616) (w : World) :
    Calls Try.prog 5 #[.int .i64 N, .int .i64 F, .int .i64 id, .int .i64 id2, .string a4, .string a5, .int .u64 s1, .int .u64 s2] w fun e w' => LawPost w e w' := by
  have hB := bytes_any N F id id2 s1 s2 a4 a5 (Nat.le_trans w4 (by decide)) (Nat.le_trans w5 (by decide)) w
  have HBY : Hid (Calls Try.prog 11 #[.int .i64 N, .int .i64 F, .int .i64 id, .int .i64 id2, .string a4, .string a5, .int .u64 s1, .int .u64 s2] w fun e w' => ∃ b, e = .returned (.bool b) ∧ w' = w) := hB
  have q1 : (1 : Int) ≤ (N : Int) := by omega
  have q2 : (F : Int) < (N : Int) := by omega
  have q3 : (id : Int) < (N : Int) := by omega
  have q4 : (id2 : Int) < (N : Int) := by omega
  clear hB
  go_enter Try.func5, Try.ntmps5
  go_wp2_with fail
  refine HBY.out.mono ?_
  rintro e w1 ⟨b, rfl, hw1⟩
  rw [hw1]
  clear hw1 w1 HBY
  cases b with
  | false =>
    go_wp2_with fail
    go_ret
    exact ⟨rfl, Keep.refl _ _⟩
  | true =>
  go_wp2_with fail
  obtain ⟨w0, hw0⟩ : ∃ w0, w0 = w.alloc (.cells #[.int .i64 (N : Int), .int .i64 (F : Int)] 29) := ⟨_, rfl⟩
  rw [← hw0]
  have hb := heap_alloc_new w (.cells #[.int .i64 (N : Int), .int .i64 (F : Int)] 29)
  rw [← hw0] at hb
  have c0 : w0.cell? ⟨w.heap.size, 0, none⟩ = some (.int .i64 N) := by rw [cell_of_row _ _ _ _ _ _ hb]; rfl
  have c1 : w0.cell? ⟨w.heap.size, 1, none⟩ = some (.int .i64 F) := by rw [cell_of_row _ _ _ _ _ _ hb]; rfl
  have HK0 : Hid (Keep w w0 (fun _ => False)) := by rw [hw0]; exact Keep.alloc _ _ _
  have hl0 : w.heap.size < w0.heap.size := lt_of_heap hb
  clear hw0 hb
  go_region_held3 (fun w' => w'.cell? ⟨w.heap.size, 0, none⟩ = some (.int .i64 N) ∧ w'.cell? ⟨w.heap.size, 1, none⟩ = some (.int .i64 F))
    (first | exact ⟨c0, c1⟩ | exact ⟨e0, e1⟩ | exact ⟨g0, g1⟩ | go_keep)
    ((first
      | (go_at_call 13; refine (zzrng_any s1 s2 h1 h2 _).mono ?_; rintro e wa ⟨R, B, rfl, hr, hp, hk, hge, hne⟩; have e0 := cell_keepX (a := ⟨w.heap.size, 0, none⟩) (v := .int .i64 N) (by exact c0) hk (fun h => h); have e1 := cell_keepX (a := ⟨w.heap.size, 1, none⟩) (v := .int .i64 F) (by exact c1) hk (fun h => h))
      | (go_at_call 12; refine (zzagent_any R B s1 s2 N F id a4 wa hr hp hne hF hN hid).mono ?_; rintro e wb ⟨A, H, T, X, Xs, rfl, ha, hrun, hkb⟩; have g0 := cell_keepX e0 hkb (by intro h; have h' : w.heap.size = B := h; have hge' : w0.heap.size ≤ B := hge; omega); have g1 := cell_keepX e1 hkb (by intro h; have h' : w.heap.size = B := h; have hge' : w0.heap.size ≤ B := hge; omega))))
  have HA1 : Box (AgAt wb A H T X N F id a4 Xs ∧ Run N (stN s1 s2) (F + 1) Xs) := ⟨ha, hrun⟩
  have HKB : Box (Keep w wb (fun _ => False)) := ⟨(HK0.out.trans (⟨hk.os, hk.tape, hk.output, hk.size, hk.block⟩ : Keep w0 wa (fun _ => False)) (fun _ _ h => h)).trans hkb (fun i hi e => by have e' : i = B := e; have hge' : w0.heap.size ≤ B := hge; omega)⟩
  have HLB : Hid (w.heap.size < wb.heap.size) := World.block_lt_of_cell? wb _ g0
  clear hr hp hk hge hne ha hrun hkb e0 e1 c0 c1
  go_wp2_with fail
  go_region_held3 (fun w' => w'.cell? ⟨w.heap.size, 0, none⟩ = some (.int .i64 N) ∧ w'.cell? ⟨w.heap.size, 1, none⟩ = some (.int .i64 F))
    (first | exact ⟨g0, g1⟩ | exact ⟨e0, e1⟩ | exact ⟨k0, k1⟩ | go_keep)
    ((first
      | (go_at_call 13; refine (zzrng_any s1 s2 h1 h2 _).mono ?_; rintro e wc ⟨R2, B2, rfl, hr, hp, hk, hge, hne⟩; have e0 := cell_keepX (a := ⟨w.heap.size, 0, none⟩) (v := .int .i64 N) (by exact g0) hk (fun h => h); have e1 := cell_keepX (a := ⟨w.heap.size, 1, none⟩) (v := .int .i64 F) (by exact g1) hk (fun h => h))
      | (go_at_call 12; refine (zzagent_any R2 B2 s1 s2 N F id2 a5 wc hr hp hne hF hN hid2).mono ?_; rintro e wd ⟨A2, H2, T2, X2, Ys, rfl, ha, hrun, hkb⟩; have k0 := cell_keepX e0 hkb (by intro h; have h' : w.heap.size = B2 := h; have hge' : wb.heap.size ≤ B2 := hge; have := HLB.out; omega); have k1 := cell_keepX e1 hkb (by intro h; have h' : w.heap.size = B2 := h; have hge' : wb.heap.size ≤ B2 := hge; have := HLB.out; omega))))
  have HA2 : Box (AgAt wd A2 H2 T2 X2 N F id2 a5 Ys ∧ Run N (stN s1 s2) (F + 1) Ys) := ⟨ha, hrun⟩
  have kbc : Keep wb wc (fun _ => False) := ⟨hk.os, hk.tape, hk.output, hk.size, hk.block⟩
  have hge2 : wb.heap.size ≤ B2 := hge
  have kbd : Keep wb wd (fun k => k = B2) := (kbc.mono (fun _ _ h => h.elim)).trans hkb (fun _ _ h => h)
  have HA1d : Box (AgAt wd A H T X N F id a4 Xs ∧ Run N (stN s1 s2) (F + 1) Xs) := ⟨HA1.out.1.keepX kbd (fun b hb e => by have e' : b = B2 := e; omega), HA1.out.2⟩
  have HKD : Box (Keep w wd (fun _ => False)) := ⟨HKB.out.trans kbd (fun i hi e => by have e' : i = B2 := e; have := HLB.out; omega)⟩
  have HXY : Box (∀ t, t < F + 1 → Xs t = Ys t) := ⟨HA1.out.2.det hrun⟩
  clear hr hp hk hge hne ha hrun hkb e0 e1 g0 g1 k0 k1 kbc hge2 kbd HA1 HKB HK0 HLB hl0
  have hNN : ((N : Int) != (N : Int)) = false := by simp
  have hii : ((id : Int) != (id : Int)) = false := by simp
  have hii2 : ((id2 : Int) != (id2 : Int)) = false := by simp
  go_wp2_with fail
  refine (heldLen_any HA1d.out.1).mono ?_
  rintro e w9 ⟨rfl, hw9⟩
  rw [hw9]
  clear hw9 w9
  go_wp2_with fail
  refine (heldLen_any HA2.out.1).mono ?_
  rintro e w9 ⟨rfl, hw9⟩
  rw [hw9]
  clear hw9 w9
  go_wp2_with fail
  refine (heldRow_any HA1d.out.1 hid).mono ?_
  rintro e w9 ⟨rfl, hw9⟩
  rw [hw9]
  clear hw9 w9
  go_wp2_with fail
  refine (heldRow_any HA2.out.1 hid2).mono ?_
  rintro e w9 ⟨rfl, hw9⟩
  rw [hw9]
  clear hw9 w9
  go_wp2_with fail
  refine (tuple_any HA1d.out.1 hid).mono ?_
  rintro e we ⟨rfl, ke⟩
  have HKE : Box (Keep wd we (fun _ => False)) := ⟨ke⟩
  clear ke
  go_wp2_with fail
  refine (tuple_any (HA2.out.1.keepX HKE.out (fun _ _ h => h)) hid2).mono ?_
  rintro e wf ⟨rfl, kf⟩
  have HKF : Box (Keep wd wf (fun _ => False)) := ⟨HKE.out.trans kf (fun _ _ h => h)⟩
  clear kf HKE
  have hFF : (((F : Int) + 1) != ((F : Int) + 1)) = false := by simp
  go_wp2_with fail
  go_loopw [26] (fun i wr => ∃ t : Nat, t ≤ F + 1 ∧ i = .int .i64 t ∧ Box (Keep wf wr (fun _ => False))) (fun i _ => F + 1 - (intOf i).toNat)
  case atStart => exact ⟨0, Nat.zero_le _, rfl, ⟨Keep.refl _ _⟩⟩
  case round =>
    obtain ⟨t, ht, rfl, HR⟩ := hrel
    by_cases hlt : t < F + 1
    · have kdr : Keep wd wr (fun _ => False) := HKF.out.trans HR.out (fun _ _ h => h)
      have x1 := (HA1d.out.1.keepX kdr (fun _ _ h => h)).x t hlt
      have x2 := (HA2.out.1.keepX kdr (fun _ _ h => h)).x t hlt
      rw [← HXY.out t hlt] at x2
      obtain ⟨x, hx⟩ : ∃ x, x = Xs t := ⟨_, rfl⟩
      rw [← hx] at x1 x2
      obtain ⟨n, hn⟩ : ∃ n, n = N - t := ⟨_, rfl⟩
      have hxn : x < n := by rw [hx, hn]; exact HA1d.out.2.lt hlt (by omega)
      have eN : (N : Int) - (t : Int) = (n : Int) := by omega
      have q : (t : Int) ≤ (F : Int) := by omega
      have qa : (t : Int) < (F : Int) + 1 := by omega
      have qb : (t : Int) < ((F + 1 : Nat) : Int) := by omega
      have hxx : ((x : Int) != (x : Int)) = false := by simp
      have hxn2 : decide ((n : Int) ≤ (x : Int)) = false := by simp; omega
      clear hx hn kdr
      go_wp2_with fail
      go_quiet (fail)
      go_wp2_with fail
      go_roundw
      case rel => exact ⟨t + 1, by omega, by go_num, ⟨HR.out.trans ⟨rfl, rfl, rfl, Nat.le_refl _, fun _ _ _ => rfl⟩ (fun _ _ h => h)⟩⟩
      case measure => simp [intOf]; omega
    · go_wp2_with fail
      go_ret
      exact ⟨rfl, (HKD.out.trans HKF.out (fun _ _ h => h)).trans HR.out (fun _ _ h => h)⟩
end Go.Proofs.Qxb6613925a
