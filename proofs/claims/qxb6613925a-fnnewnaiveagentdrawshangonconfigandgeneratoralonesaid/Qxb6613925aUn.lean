/-
  Rand.uint64n: a draw comes, and which.
-/
import Derived.Test.Qxb6613925aDraw
namespace Go.Proofs.Qxb6613925a
open Go.RowKit
set_option linter.unusedVariables false
set_option linter.unusedSimpArgs false

/-- A fact that no arithmetic of the walk looks into. -/
structure Box (p : Prop) : Prop where
  out : p

def out (s : Nat) : Nat := dx (s / 18446744073709551616) (s % 18446744073709551616)
theorem out_st (h l : Nat) (hl : l < 18446744073709551616) : out (stN h l) = dx h l := by
  unfold out stN
  rw [show (h * 18446744073709551616 + l) / 18446744073709551616 = h by omega, show (h * 18446744073709551616 + l) % 18446744073709551616 = l by omega]
def Good (n s : Nat) : Prop := (18446744073709551616 - n) % n ≤ out s * n % 18446744073709551616
def Draw (n s v s' : Nat) : Prop :=
  (n &&& (n - 1) = 0 ∧ s' = gSg mA mC mM s ∧ v = out s' &&& (n - 1)) ∨
  (n &&& (n - 1) ≠ 0 ∧ ∃ k, s' = gItg mA mC mM (k + 1) s ∧ Good n s' ∧ (∀ j, j < k → ¬ Good n (gItg mA mC mM (j + 1) s)) ∧ v = out s' * n / 18446744073709551616)

def DrawPost (w : World) (B h l n : Nat) (e : Ending) (w' : World) : Prop :=
  ∃ v h' l', e = .returned (.int .u64 ((v : Nat) : Int)) ∧ Draw n (stN h l) v (stN h' l') ∧ PcgAt w' B h' l' ∧ Keep w w' (fun k => k = B)

/-- The generator's number in a world. -/
def cellN (w : World) (a : Addr) : Nat := match w.cell? a with
  | some (.int _ z) => z.toNat
  | _ => 0
def stW (w : World) (B : Nat) : Nat := stN (cellN w ⟨B, 0, none⟩) (cellN w ⟨B, 1, none⟩)
theorem PcgAt.c0 {w : World} {B h l : Nat} (hp : PcgAt w B h l) : w.cell? ⟨B, 0, none⟩ = some (.int .u64 h) := by rw [cell_of_row _ _ _ _ _ _ hp.b]; rfl
theorem PcgAt.c1 {w : World} {B h l : Nat} (hp : PcgAt w B h l) : w.cell? ⟨B, 1, none⟩ = some (.int .u64 l) := by rw [cell_of_row _ _ _ _ _ _ hp.b]; rfl
theorem stW_of {w : World} {B h l : Nat} (hp : PcgAt w B h l) : stW w B = stN h l := by
  unfold stW cellN
  rw [hp.c0, hp.c1]
  simp
theorem st_lt {h l : Nat} (hh : h < 18446744073709551616) (hl : l < 18446744073709551616) : stN h l < mM := by unfold stN mM; omega

theorem good_comes (n : Nat) (hn1 : 1 ≤ n) (hn : n ≤ 65536) (s : Nat) (hs : s < mM) : ∃ k, Good n (gItg mA mC mM k s) := by
  obtain ⟨k, hk⟩ := gItg_reach mA mC mM 128 s (stN 10053033840993720478 0) ⟨mA / 4, by unfold mA; omega⟩ ⟨mC / 2, by unfold mC; omega⟩ (by unfold mM; kernel_rfl) hs (st_lt (by omega) (by omega))
  refine ⟨k, ?_⟩
  rw [hk]
  unfold Good
  rw [out_st _ _ (show 0 < 18446744073709551616 by omega), dx_one]
  have h1 : 1 * n % 18446744073709551616 = n := by omega
  rw [h1]
  exact Nat.le_of_lt (Nat.mod_lt (18446744073709551616 - n) (show 0 < n by omega))

theorem gItg_last (a c M n s : Nat) : gItg a c M (n + 1) s = gSg a c M (gItg a c M n s) := by
  induction n generalizing s with
  | zero => rfl
  | succ n ih => exact ih (gSg a c M s)

theorem RandAt.keep {w w' : World} {R B : Nat} (h : RandAt w R B) (k : Keep w w' (fun k => k = B)) (hne : R ≠ B) : RandAt w' R B := (k.block R (lt_of_heap h) hne).trans h

set_option maxRecDepth 100000 in
set_option maxHeartbeats 1000000 in
theorem uint64n_any (R B h l n : Nat) (w : World) (hr : RandAt w R B) (hp : PcgAt w B h l) (hRB : R ≠ B) (hn1 : 1 ≤ n) (hn : n ≤ 65536) :
    Calls Try.prog 28 #[.pointer (some ⟨R, 0, none⟩), .int .u64 n] w fun e w' => DrawPost w B h l n e w' := by
  have HP : Hid (PcgAt w B h l) := hp
  have HR : Hid (RandAt w R B) := hr
  have HNE : Hid (R ≠ B) := hRB
  have HST : Box (stN (nHi h l) (nLo l) = gSg mA mC mM (stN h l)) := ⟨next_step h l hp.h hp.l⟩
  have hand : bits .and .u64 (n : Int) ((n : Int) - 1) = ((n &&& (n - 1) : Nat) : Int) := by
    have h := bits_and_u64_nat n (n - 1) (by omega) (by omega)
    rw [show ((n - 1 : Nat) : Int) = (n : Int) - 1 by omega] at h
    exact h
  obtain ⟨d, hd⟩ : ∃ d, d = dx (nHi h l) (nLo l) := ⟨_, rfl⟩
  have hdl : d < 18446744073709551616 := by rw [hd]; exact dx_lt _ _
  have HD : Hid (d = dx (nHi h l) (nLo l)) := hd
  have HOUT : Hid (out (stN (nHi h l) (nLo l)) = d) := by rw [hd]; exact out_st _ _ (by unfold nLo; omega)
  have hu := uint64_any R B h l w hr hp
  unfold U64Post at hu
  rw [← hd] at hu
  have HU : Hid (Calls Try.prog 31 #[.pointer (some ⟨R, 0, none⟩)] w fun e w' => e = .returned (.int .u64 d) ∧ PcgAt w' B (nHi h l) (nLo l) ∧ Keep w w' (fun k => k = B)) := hu
  clear hr hp hRB hd hu
  by_cases hpow : n &&& (n - 1) = 0
  · rw [hpow] at hand
    have HPOW : Hid (n &&& (n - 1) = 0) := hpow
    have hand2 : bits .and .u64 (d : Int) ((n : Int) - 1) = ((d &&& (n - 1) : Nat) : Int) := by
      have h := bits_and_u64_nat d (n - 1) (by omega) (by omega)
      rw [show ((n - 1 : Nat) : Int) = (n : Int) - 1 by omega] at h
      exact h
    clear hpow
    go_enter Try.func28, Try.ntmps28
    go_wp2_with fail
    refine HU.out.mono ?_
    rintro e w1 ⟨rfl, P1, P2⟩
    have HQ : Hid (PcgAt w1 B (nHi h l) (nLo l) ∧ Keep w w1 (fun k => k = B)) := ⟨P1, P2⟩
    clear P1 P2
    go_wp2_with fail
    go_ret
    exact ⟨d &&& (n - 1), nHi h l, nLo l, rfl, Or.inl ⟨HPOW.out, HST.out, by rw [HOUT.out]⟩, HQ.out.1, HQ.out.2⟩
  · have hne : ¬ ((n &&& (n - 1) : Nat) : Int) = 0 := by omega
    have HPOW : Hid (n &&& (n - 1) ≠ 0) := hpow
    obtain ⟨q, hq⟩ : ∃ q, q = d * n / 18446744073709551616 := ⟨_, rfl⟩
    obtain ⟨r, hr⟩ : ∃ r, r = d * n % 18446744073709551616 := ⟨_, rfl⟩
    have HM : Hid (∀ w, Calls Try.prog 29 #[.int .u64 d, .int .u64 n] w fun e w' => e = .returned (.tuple #[.int .u64 q, .int .u64 r]) ∧ w' = w) := fun w => by rw [hq, hr]; exact mul64_any d n hdl (by omega) w
    have HQ : Hid (q = d * n / 18446744073709551616) := hq
    have HRR : Hid (r = d * n % 18446744073709551616) := hr
    have HRL : Hid (r < 18446744073709551616) := by rw [hr]; exact Nat.mod_lt _ (by decide)
    have HDL : Hid (d < 18446744073709551616) := hdl
    clear hq hr hdl
    go_enter Try.func28, Try.ntmps28
    go_wp2_with fail
    refine HU.out.mono ?_
    rintro e w1 ⟨rfl, P1, P2⟩
    have HPK : Hid (PcgAt w1 B (nHi h l) (nLo l) ∧ Keep w w1 (fun k => k = B)) := ⟨P1, P2⟩
    clear P1 P2
    go_wp2_with fail
    refine (HM.out w1).mono ?_
    rintro e w2 ⟨rfl, hw2⟩
    rw [hw2]
    clear hw2 w2
    by_cases hrn : r < n
    · obtain ⟨T, hT⟩ : ∃ T, T = (18446744073709551616 - n) % n := ⟨_, rfl⟩
      have eT : (IntKind.u64.wrap (-(n : Int))).tmod (n : Int) = (T : Int) := by
        rw [IntKind.wrap_u64, show (-(n : Int)) % 18446744073709551616 = ((18446744073709551616 - n : Nat) : Int) by omega, Int.tmod_eq_emod_of_nonneg (by omega), hT, Int.natCast_emod]
      obtain ⟨mu, hmu⟩ := mu_existsg mA mC mM (by unfold mM; decide) (Good n) (good_comes n hn1 hn)
      have HMU : Box (∀ s, s < mM → ¬ Good n s → mu (gSg mA mC mM s) < mu s) := ⟨hmu⟩
      have HT : Box (T = (18446744073709551616 - n) % n) := ⟨hT⟩
      have HI0 : Box (∃ h' l', PcgAt w1 B h' l' ∧ Keep w w1 (fun k => k = B) ∧ stN h' l' = gItg mA mC mM (0 + 1) (stN h l) ∧ (∀ j, j < 0 → ¬ Good n (gItg mA mC mM (j + 1) (stN h l))) ∧ q = out (stN h' l') * n / 18446744073709551616 ∧ r = out (stN h' l') * n % 18446744073709551616) :=
        ⟨⟨nHi h l, nLo l, HPK.out.1, HPK.out.2, HST.out, fun j hj => by omega, by rw [HOUT.out]; exact HQ.out, by rw [HOUT.out]; exact HRR.out⟩⟩
      have HR1 : Hid (RandAt w R B) := HR.out
      clear hmu hT HQ HRR HRL HPK HOUT HST HM HU HD HDL
      go_wp2_with fail
      clear eT
      go_loopw [5, 6] (fun vq vr wr => ∃ (k q r : Nat), vq = .int .u64 q ∧ vr = .int .u64 r ∧ Box (∃ h' l', PcgAt wr B h' l' ∧ Keep w wr (fun k => k = B) ∧ stN h' l' = gItg mA mC mM (k + 1) (stN h l) ∧ (∀ j, j < k → ¬ Good n (gItg mA mC mM (j + 1) (stN h l))) ∧ q = out (stN h' l') * n / 18446744073709551616 ∧ r = out (stN h' l') * n % 18446744073709551616)) (fun _ _ wr => mu (stW wr B))
      case atStart => exact ⟨0, q, r, rfl, rfl, HI0⟩
      case round =>
        clear HI0
        obtain ⟨k, q, r, rfl, rfl, HI⟩ := hrel
        obtain ⟨h', l', P1, P2, P3, P4, P5, P6⟩ := HI.out
        by_cases hrT : r < T
        · obtain ⟨d, hd⟩ : ∃ d, d = dx (nHi h' l') (nLo l') := ⟨_, rfl⟩
          have hdl : d < 18446744073709551616 := by rw [hd]; exact dx_lt _ _
          have hu := uint64_any R B h' l' wr (HR.out.keep P2 HNE.out) P1
          unfold U64Post at hu
          rw [← hd] at hu
          have HU : Hid (Calls Try.prog 31 #[.pointer (some ⟨R, 0, none⟩)] wr fun e w' => e = .returned (.int .u64 d) ∧ PcgAt w' B (nHi h' l') (nLo l') ∧ Keep wr w' (fun k => k = B)) := hu
          obtain ⟨q2, hq⟩ : ∃ q, q = d * n / 18446744073709551616 := ⟨_, rfl⟩
          obtain ⟨r2, hr⟩ : ∃ r, r = d * n % 18446744073709551616 := ⟨_, rfl⟩
          have HM : Hid (∀ w, Calls Try.prog 29 #[.int .u64 d, .int .u64 n] w fun e w' => e = .returned (.tuple #[.int .u64 q2, .int .u64 r2]) ∧ w' = w) := fun w => by rw [hq, hr]; exact mul64_any d n hdl (by omega) w
          have hng : ¬ Good n (stN h' l') := by unfold Good; rw [← P6, ← HT.out]; omega
          have hout : out (stN (nHi h' l') (nLo l')) = d := by rw [hd]; exact out_st _ _ (by unfold nLo; omega)
          have HN : Box (∀ w2, PcgAt w2 B (nHi h' l') (nLo l') → Keep wr w2 (fun k => k = B) → (∃ h' l', PcgAt w2 B h' l' ∧ Keep w w2 (fun k => k = B) ∧ stN h' l' = gItg mA mC mM (k + 1 + 1) (stN h l) ∧ (∀ j, j < k + 1 → ¬ Good n (gItg mA mC mM (j + 1) (stN h l))) ∧ q2 = out (stN h' l') * n / 18446744073709551616 ∧ r2 = out (stN h' l') * n % 18446744073709551616) ∧ mu (stW w2 B) < mu (stW wr B)) := ⟨fun w2 p2 k2 => by
            refine ⟨⟨nHi h' l', nLo l', p2, P2.trans k2 (fun _ _ h => h), ?_, fun j hj => ?_, by rw [hout]; exact hq, by rw [hout]; exact hr⟩, ?_⟩
            · rw [next_step h' l' P1.h P1.l, P3, ← gItg_last]
            · by_cases hjk : j = k
              · rw [hjk, ← P3]; exact hng
              · exact P4 j (by omega)
            · rw [stW_of p2, stW_of P1, next_step h' l' P1.h P1.l]
              exact HMU.out _ (st_lt P1.h P1.l) hng⟩
          clear hu hq hr hng hout hd hdl P1 P2 P3 P4 P5 P6 HI
          go_wp2_with fail
          refine HU.out.mono ?_
          rintro e w2 ⟨rfl, p1, p2⟩
          have HNN := HN.out w2 p1 p2
          have HB2 : Box (_ ∧ _) := ⟨HNN⟩
          clear p1 p2 HNN
          go_wp2_with fail
          refine (HM.out w2).mono ?_
          rintro e w3 ⟨rfl, hw3⟩
          rw [hw3]
          clear hw3 w3
          go_wp2_with fail
          go_roundw
          case rel => exact ⟨k + 1, q2, r2, rfl, rfl, ⟨HB2.out.1⟩⟩
          case measure => exact HB2.out.2
        · have HFIN : Box (Draw n (stN h l) q (stN h' l') ∧ PcgAt wr B h' l' ∧ Keep w wr (fun k => k = B)) := ⟨Or.inr ⟨HPOW.out, k, P3, by unfold Good; rw [← P6, ← HT.out]; omega, P4, P5⟩, P1, P2⟩
          clear P1 P2 P3 P4 P5 P6 HI
          go_wp2_with fail
          go_ret
          exact ⟨q, h', l', rfl, HFIN.out.1, HFIN.out.2.1, HFIN.out.2.2⟩
    · go_wp2_with fail
      go_ret
      refine ⟨q, nHi h l, nLo l, rfl, Or.inr ⟨HPOW.out, 0, HST.out, ?_, fun j hj => by omega, by rw [HOUT.out]; exact HQ.out⟩, HPK.out.1, HPK.out.2⟩
      unfold Good
      rw [HOUT.out, ← HRR.out]
      have := Nat.mod_lt (18446744073709551616 - n) (show 0 < n by omega)
      omega
end Go.Proofs.Qxb6613925a
