/-
  The law's arguments; zzResumeDomain.
-/
import Derived.Test.Qxb6614022aClone
namespace Go.Proofs.Qxb6614022a
open Go.RowKit
set_option linter.unusedVariables false
set_option linter.unusedSimpArgs false

structure ZA where
  N : Nat → ByteArray
  Co : Nat → Option Addr
  Cn : Nat → Nat
  Cc : Nat → Nat
  Cs : Nat → Nat → ByteArray
  Ao : Nat → Option Addr
  An : Nat → Nat
  Ac : Nat → Nat
  AX : Nat → Nat → Int
  R : Nat → Int
  S : Nat → Int
  L : Nat → Int
  Tr : Nat → Int
  Wk : Nat → ByteArray
  XF : Nat → Int

structure ZAt (w : World) (tq so fo : Option Addr) (nt ns nf : Nat) (Z : ZA) : Prop where
  t : 0 < nt → ∃ ad, tq = some ad ∧ ∀ i, i < nt → w.cell? (ad.add (i * 4)) = some (.string (Z.N i)) ∧ w.cell? ⟨(ad.add (i * 4)).block, (ad.add (i * 4)).off + 1, none⟩ = some (.slice (Z.Co i) (Z.Cn i) (Z.Cc i)) ∧ w.cell? ⟨(ad.add (i * 4)).block, (ad.add (i * 4)).off + 2, none⟩ = some (.slice (Z.Ao i) (Z.An i) (Z.Ac i)) ∧ w.cell? ⟨(ad.add (i * 4)).block, (ad.add (i * 4)).off + 3, none⟩ = some (.int .i64 (Z.R i))
  c : ∀ i, i < nt → 0 < Z.Cn i → ∃ ad, Z.Co i = some ad ∧ ∀ j, j < Z.Cn i → w.cell? (ad.add j) = some (.string (Z.Cs i j)) ∧ (Z.Cs i j).size ≤ maxLen
  a : ∀ i, i < nt → IntsAt w (Z.Ao i) (Z.An i) (Z.AX i)
  s : 0 < ns → ∃ ad, so = some ad ∧ ∀ i, i < ns → w.cell? (ad.add (i * 4)) = some (.int .i64 (Z.S i)) ∧ w.cell? ⟨(ad.add (i * 4)).block, (ad.add (i * 4)).off + 1, none⟩ = some (.int .i64 (Z.L i)) ∧ w.cell? ⟨(ad.add (i * 4)).block, (ad.add (i * 4)).off + 2, none⟩ = some (.int .i64 (Z.Tr i)) ∧ w.cell? ⟨(ad.add (i * 4)).block, (ad.add (i * 4)).off + 3, none⟩ = some (.string (Z.Wk i))
  f : IntsAt w fo nf Z.XF
  zt : ∀ i, i < nt → (Z.N i).size ≤ maxLen ∧ Z.Cn i ≤ maxLen ∧ Z.An i ≤ maxLen
  zs : ∀ i, i < ns → (Z.Wk i).size ≤ maxLen
  mt : nt ≤ maxLen
  ms : ns ≤ maxLen
  mf : nf ≤ maxLen

def DomPost (w : World) (n ns : Nat) (Z : ZA) (e : Ending) (w' : World) : Prop :=
  ∃ b, e = .returned (.bool b) ∧ w' = w ∧ (b = true → n ≤ ns ∧ ∀ i, i < n → ∀ j, j < Z.An i → 0 ≤ Z.AX i j ∧ Z.AX i j < n)

set_option maxRecDepth 100000 in
set_option maxHeartbeats 1000000 in
theorem domain_any (tq so fo : Option Addr) (nt ct ns cs nf : Nat) (Z : ZA) (w : World) (h : ZAt w tq so fo nt ns nf Z) :
    Calls Try.prog 10 #[.slice tq nt ct, .slice so ns cs] w fun e w' => DomPost w nt ns Z e w' := by
  have HZ : Hid (ZAt w tq so fo nt ns nf Z) := h
  have m1 := Nat.le_trans h.mt maxLen_le
  have m2 := Nat.le_trans h.ms maxLen_le
  clear h
  by_cases hle : nt ≤ ns
  · have hd1 : decide (ns < nt) = false := by simp; omega
    have hd2 : decide ((ns : Int) < (nt : Int)) = false := by simp; omega
    go_enter Try.func10, Try.ntmps10
    go_wp2
    go_loopw [18] (fun i wr => ∃ k : Nat, k ≤ nt ∧ i = .int .i64 k ∧ Hid (wr = w ∧ ∀ i, i < k → ∀ j, j < Z.An i → 0 ≤ Z.AX i j ∧ Z.AX i j < nt)) (fun i _ => nt - (intOf i).toNat)
    case atStart => exact ⟨0, Nat.zero_le _, rfl, rfl, fun i hi => by omega⟩
    case round =>
      obtain ⟨k, hk, rfl, HR⟩ := hrel
      by_cases hlt : k < nt
      · obtain ⟨ad, e, ht⟩ := HZ.out.t (by omega)
        subst e
        obtain ⟨_, _, t2, _⟩ := ht k hlt
        obtain ⟨ao, hao⟩ : ∃ ao, ao = Z.Ao k := ⟨_, rfl⟩
        obtain ⟨an, han⟩ : ∃ an, an = Z.An k := ⟨_, rfl⟩
        rw [← hao, ← han, ← HR.out.1] at t2
        have HAO : Hid (IntsAt w ao an (Z.AX k)) := by rw [hao, han]; exact HZ.out.a k hlt
        have hanm : an ≤ 9223372036854775807 := by rw [han]; exact Nat.le_trans (HZ.out.zt k hlt).2.2 maxLen_le
        have HAN : Hid (an = Z.An k) := han
        have q : (k : Int) < (nt : Int) := by omega
        clear hao han ht
        go_wp2
        go_loopw [28] (fun i wr => ∃ j : Nat, j ≤ an ∧ i = .int .i64 j ∧ Hid (wr = w ∧ ∀ q, q < j → 0 ≤ Z.AX k q ∧ Z.AX k q < nt)) (fun i _ => an - (intOf i).toNat)
        case atStart => exact ⟨0, Nat.zero_le _, rfl, HR.out.1, fun q hq => by omega⟩
        case round =>
          obtain ⟨j, hj, rfl, HI⟩ := hrel
          by_cases hjl : j < an
          · obtain ⟨bd, e, hc⟩ := HAO.out (by omega)
            subst e
            have x1 := hc j hjl
            obtain ⟨x, hx⟩ : ∃ x, x = Z.AX k j := ⟨_, rfl⟩
            rw [← hx, ← HI.out.1] at x1
            have HX : Hid (x = Z.AX k j) := hx
            have q1 : (j : Int) < (an : Int) := by omega
            clear hc hx
            by_cases x0 : 0 ≤ x
            · by_cases xn : x < nt
              · go_wp2
                go_roundw
                case rel =>
                  refine ⟨j + 1, by omega, by go_num, HI.out.1, fun q hq => ?_⟩
                  by_cases hqj : q = j
                  · rw [hqj, ← HX.out]; exact ⟨x0, xn⟩
                  · exact HI.out.2 q (by omega)
                case measure => simp [intOf]; omega
              · go_wp2
                go_ret
                exact ⟨false, rfl, HI.out.1, fun h => by cases h⟩
            · go_wp2
              go_ret
              exact ⟨false, rfl, HI.out.1, fun h => by cases h⟩
          · go_wp2
            go_roundw
            case rel =>
              refine ⟨k + 1, by omega, by go_num, HI.out.1, fun i hi q hq => ?_⟩
              by_cases hik : i = k
              · rw [hik] at hq ⊢; rw [← HAN.out] at hq; exact HI.out.2 q (by omega)
              · exact HR.out.2 i (by omega) q hq
            case measure => simp [intOf]; omega
      · go_wp2
        go_ret
        exact ⟨true, rfl, HR.out.1, fun _ => ⟨hle, fun i hi => HR.out.2 i (by omega)⟩⟩
  · go_enter Try.func10, Try.ntmps10
    go_wp2
    go_ret
    exact ⟨false, rfl, rfl, fun h => by cases h⟩
end Go.Proofs.Qxb6614022a
