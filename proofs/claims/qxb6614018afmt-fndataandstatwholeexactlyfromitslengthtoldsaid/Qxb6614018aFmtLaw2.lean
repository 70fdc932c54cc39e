/-
  The law's own helpers: zzb1Need, zzb1StatAt.
-/
import Derived.Test.Qxb6614018aFmtLaw
namespace Go.Proofs.Qxb6614018aFmt
open Go.RowKit Go.Stop
set_option linter.unusedVariables false
set_option linter.unusedSimpArgs false

attribute [local go_sem] eql22 neq22

theorem drop_getD (l : List Int) (a i : Nat) : (l.drop a).getD i 0 = l.getD (a + i) 0 := by
  simp only [List.getD_eq_getElem?_getD, List.getElem?_drop]

theorem be32_at (M o cap i : Nat) (L : List Int) (w : World) (hn : i + 4 ≤ L.length) (hm : L.length ≤ 1048576)
    (hc : BytesAt w M o L) (hs : Small L) :
    Calls Tryf.prog 14 #[.slice (some ⟨M, o, none⟩) L.length cap, .int .i64 i] w fun e w' =>
      e = .returned (.int .i32 (rd32 (some (L.drop i)))) ∧ ∃ n, w' = w.drewN n := by
  have := be32_any M o L.length cap i _ _ _ _ w hn hm (hc i (by omega)) (hc (i + 1) (by omega)) (hc (i + 2) (by omega)) (hc (i + 3) (by omega)) (hs.at i) (hs.at (i + 1)) (hs.at (i + 2)) (hs.at (i + 3))
  have e : rd32 (some (L.drop i)) = wrap32 (be [L.getD i 0, L.getD (i + 1) 0, L.getD (i + 2) 0, L.getD (i + 3) 0]) := by
    simp only [rd32]
    rw [if_pos (by rw [List.length_drop]; omega), take4 _ (by rw [List.length_drop]; omega)]
    simp only [drop_getD, Nat.add_zero]
  rw [e]
  exact this

theorem be64_at (M o cap i : Nat) (L : List Int) (w : World) (hn : i + 8 ≤ L.length) (hm : L.length ≤ 1048576)
    (hc : BytesAt w M o L) (hs : Small L) :
    Calls Tryf.prog 18 #[.slice (some ⟨M, o, none⟩) L.length cap, .int .i64 i] w fun e w' =>
      e = .returned (.int .i64 (rd64 (some (L.drop i)))) ∧ w' = w := by
  have := be64_any M o L.length cap i ((L.drop i).take 8) w hn hm (by rw [List.length_take, List.length_drop]; omega)
    (fun j hj => by
      rw [List.length_take, List.length_drop] at hj
      have := hc (i + j) (by omega)
      rw [Nat.add_assoc, this]
      congr 2
      simp only [List.getD_eq_getElem?_getD, List.getElem?_take]
      rw [if_pos (by omega), List.getElem?_drop])
    (fun x hx => hs x (List.mem_of_mem_drop (List.mem_of_mem_take hx)))
  have e : rd64 (some (L.drop i)) = wrap64 (be ((L.drop i).take 8)) := by
    simp only [rd64]
    rw [if_pos (by rw [List.length_drop]; omega)]
  rw [e]
  exact this

def needB (L : List Int) : Bool := decide (4 ≤ L.length) && decide (-1 ≤ rd32 (some L))
def needN (L : List Int) : Int := if needB L then 72 + (if 0 < rd32 (some L) then rd32 (some L) else 0) else 0

set_option maxHeartbeats 400000 in
theorem need_short (ao : Option Addr) (cap : Nat) (L : List Int) (w : World) (hn : L.length < 4) :
    Calls Tryf.prog 11 #[.slice ao L.length cap] w fun e w' =>
      e = .returned (.tuple #[.int .i64 (needN L), .bool (needB L)]) ∧ ∃ n, w' = w.drewN n := by
  have HB : Hid (needB L = false) := by simp [Hid, needB]; omega
  obtain ⟨n, HN⟩ : ∃ n, Hid (L.length = n) := ⟨_, rfl⟩
  rw [HN.out] at hn ⊢
  go_enter Tryf.func11, Tryf.ntmps11
  go_wp2
  go_ret2
  refine ⟨?_, 0, rfl⟩
  simp [needN, HB.out]

set_option maxHeartbeats 400000 in
theorem need_long (M o cap : Nat) (L : List Int) (w : World) (hn : 4 ≤ L.length) (hm : L.length ≤ 1048576)
    (hc : BytesAt w M o L) (hs : Small L) :
    Calls Tryf.prog 11 #[.slice (some ⟨M, o, none⟩) L.length cap] w fun e w' =>
      e = .returned (.tuple #[.int .i64 (needN L), .bool (needB L)]) ∧ ∃ n, w' = w.drewN n := by
  have hcall := be32_at M o cap 0 L w (by omega) hm hc hs
  rw [List.drop_zero] at hcall
  obtain ⟨r1, r2⟩ := rd32_bd (some L)
  have HB : Hid (needB L = decide (-1 ≤ rd32 (some L))) := by simp [Hid, needB, hn]
  obtain ⟨r, HR⟩ : ∃ r, Hid (rd32 (some L) = r) := ⟨_, rfl⟩
  rw [HR.out] at hcall r1 r2
  have HC := hcall
  clear hcall
  by_cases h1 : r < -1
  · go_enter Tryf.func11, Tryf.ntmps11
    go_wp2_with fail
    refine HC.mono ?_
    rintro e w1 ⟨rfl, m, rfl⟩
    go_wp2_with fail
    go_ret2
    refine ⟨?_, m, rfl⟩
    have : needB L = false := by rw [HB.out, HR.out]; simp; omega
    simp [needN, this]
  · by_cases h2 : 0 < r
    · go_enter Tryf.func11, Tryf.ntmps11
      go_wp2_with fail
      refine HC.mono ?_
      rintro e w1 ⟨rfl, m, rfl⟩
      go_wp2_with fail
      go_ret2
      refine ⟨?_, m, rfl⟩
      have : needB L = true := by rw [HB.out, HR.out]; simp; omega
      simp [needN, this, HR.out, h2]
      omega
    · go_enter Tryf.func11, Tryf.ntmps11
      go_wp2_with fail
      refine HC.mono ?_
      rintro e w1 ⟨rfl, m, rfl⟩
      go_wp2_with fail
      go_ret2
      refine ⟨?_, m, rfl⟩
      have : needB L = true := by rw [HB.out, HR.out]; simp; omega
      simp [needN, this, HR.out]
      omega

end Go.Proofs.Qxb6614018aFmt
