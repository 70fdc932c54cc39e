/-
  The decoder: Int32, Int64, length, Buffer, DecodeStat, DecodeDataReply.
-/
import Derived.Test.Qxb6614018aFmtDec
namespace Go.Proofs.Qxb6614018aFmt
open Go.RowKit Go.Stop
set_option linter.unusedVariables false
set_option linter.unusedSimpArgs false

theorem eql22 (a : Option Addr) (n c : Nat) (w : World) : (binOp .eql 22 (.slice a n c) (.slice none 0 0)).run Tryf.prog w = .ok (.bool a.isNone) w := Lib.run_eql_slice_nil w _ _ a n c 0 0 Tryf.underlying22
theorem neq22 (a : Option Addr) (n c : Nat) (w : World) : (binOp .neq 22 (.slice a n c) (.slice none 0 0)).run Tryf.prog w = .ok (.bool (!a.isNone)) w := run_neq_slice_nil_any w _ _ a n c 0 0 Tryf.underlying22
attribute [local go_sem] eql22 neq22

theorem take4 (l : List Int) (h : 4 ≤ l.length) : l.take 4 = [l.getD 0 0, l.getD 1 0, l.getD 2 0, l.getD 3 0] := by
  match l, h with
  | a :: b :: c :: d :: _, _ => rfl
theorem take8 (l : List Int) (h : 8 ≤ l.length) : l.take 8 = [l.getD 0 0, l.getD 1 0, l.getD 2 0, l.getD 3 0, l.getD 4 0, l.getD 5 0, l.getD 6 0, l.getD 7 0] := by
  match l, h with
  | a :: b :: c :: d :: e :: f :: g :: i :: _, _ => rfl

theorem u32_at (M o cap : Nat) (l : List Int) (w : World) (hl : l.length = 4) (hc : BytesAt w M o l) (hs : Small l) :
    Calls Tryf.prog 29 #[.agg #[], .slice (some ⟨M, o, none⟩) 4 cap] w fun e w' =>
      e = .returned (.int .u32 (be l)) ∧ w.grownBy w' none := by
  have e := take4 l (by omega)
  rw [List.take_of_length_le (by omega)] at e
  have := u32_any M o 4 cap _ _ _ _ w (by omega) (hc 0 (by omega)) (hc 1 (by omega)) (hc 2 (by omega)) (hc 3 (by omega)) (hs.at 0) (hs.at 1) (hs.at 2) (hs.at 3)
  rw [← e] at this
  exact this
theorem u64_at (M o cap : Nat) (l : List Int) (w : World) (hl : l.length = 8) (hc : BytesAt w M o l) (hs : Small l) :
    Calls Tryf.prog 28 #[.agg #[], .slice (some ⟨M, o, none⟩) 8 cap] w fun e w' =>
      e = .returned (.int .u64 (be l)) ∧ w.grownBy w' none := by
  have e := take8 l (by omega)
  rw [List.take_of_length_le (by omega)] at e
  have := u64_any M o 8 cap _ _ _ _ _ _ _ _ w (by omega) (hc 0 (by omega)) (hc 1 (by omega)) (hc 2 (by omega)) (hc 3 (by omega)) (hc 4 (by omega)) (hc 5 (by omega)) (hc 6 (by omega)) (hc 7 (by omega)) (hs.at 0) (hs.at 1) (hs.at 2) (hs.at 3) (hs.at 4) (hs.at 5) (hs.at 6) (hs.at 7)
  rw [← e] at this
  exact this

theorem be_nonneg (l : List Int) (hs : Small l) : 0 ≤ be l := by
  have : ∀ (l : List Int) (a : Int), 0 ≤ a → Small l → 0 ≤ l.foldl (fun a b => a * 256 + b) a := by
    intro l
    induction l with
    | nil => intro a ha _; exact ha
    | cons x l ih => intro a ha h; exact ih _ (by have := (h x (by simp)).1; show 0 ≤ a * 256 + x; omega) (fun y hy => h y (by simp [hy]))
  exact this l 0 (by omega) hs

set_option maxHeartbeats 400000 in
theorem int32_any (D M : Nat) (s : Option (List Int)) (a0 : Addr) (s0 : ByteArray) (w : World) (hE : Env w D M a0 s0) (hS : State w D M s) (hs : SmallS s) :
    Calls Tryf.prog 25 #[.pointer (some ⟨D, 0, none⟩)] w fun e w' =>
      e = .returned (.int .i32 (rd32 s)) ∧ State w' D M (nx 4 s) ∧ w.grownBy w' (some D) := by
  go_enter Tryf.func25, Tryf.ntmps25
  go_wp2_with fail
  refine (take_any D M 4 s a0 s0 _ hE hS).mono ?_
  rintro e w1 ⟨v, rfl, hd, hS1, hg1⟩
  cases ht : tk 4 s with
  | none =>
    rw [ht] at hd
    have hv : v = .slice none 0 0 := hd
    subst hv
    have hr : rd32 s = 0 := by
      cases s with
      | none => rfl
      | some l => simp only [tk] at ht; simp only [rd32]; split at ht; cases ht; rename_i h; rw [if_neg h]
    have HR : Hid (rd32 s = 0) := hr
    clear hd ht hr
    go_wp2_with fail
    go_ret
    exact ⟨ret_int HR.out.symm, hS1, hg1⟩
  | some l' =>
    rw [ht] at hd
    obtain ⟨o, rfl, hb⟩ := hd
    have hl4 : l'.length = 4 ∧ Small l' ∧ rd32 s = wrap32 (be l') := by
      cases s with
      | none => cases ht
      | some l =>
        simp only [tk] at ht
        split at ht
        · rename_i h
          cases ht
          exact ⟨by rw [List.length_take]; omega, fun x hx => hs x (List.mem_of_mem_take hx), by simp only [rd32]; rw [if_pos h]⟩
        · cases ht
    obtain ⟨h4, hsm, hr⟩ := hl4
    have HR : Hid (rd32 s = wrap32 (be l')) := hr
    have H4 : Hid (l'.length = 4) := h4
    have hnn := be_nonneg l' hsm
    rw [h4]
    clear ht hr h4
    go_wp2_with fail
    refine (u32_at M o 4 l' _ H4.out hb hsm).mono ?_
    rintro e w2 ⟨rfl, hg2⟩
    go_wp2_with fail
    go_ret
    exact ⟨ret_int HR.out.symm, hS1.grown hg2, gtrans hg1 (gany hg2 _)⟩

set_option maxHeartbeats 400000 in
theorem int64_any (D M : Nat) (s : Option (List Int)) (a0 : Addr) (s0 : ByteArray) (w : World) (hE : Env w D M a0 s0) (hS : State w D M s) (hs : SmallS s) :
    Calls Tryf.prog 24 #[.pointer (some ⟨D, 0, none⟩)] w fun e w' =>
      e = .returned (.int .i64 (rd64 s)) ∧ State w' D M (nx 8 s) ∧ w.grownBy w' (some D) := by
  go_enter Tryf.func24, Tryf.ntmps24
  go_wp2_with fail
  refine (take_any D M 8 s a0 s0 _ hE hS).mono ?_
  rintro e w1 ⟨v, rfl, hd, hS1, hg1⟩
  cases ht : tk 8 s with
  | none =>
    rw [ht] at hd
    have hv : v = .slice none 0 0 := hd
    subst hv
    have hr : rd64 s = 0 := by
      cases s with
      | none => rfl
      | some l => simp only [tk] at ht; simp only [rd64]; split at ht; cases ht; rename_i h; rw [if_neg h]
    have HR : Hid (rd64 s = 0) := hr
    clear hd ht hr
    go_wp2_with fail
    go_ret
    exact ⟨ret_int HR.out.symm, hS1, hg1⟩
  | some l' =>
    rw [ht] at hd
    obtain ⟨o, rfl, hb⟩ := hd
    have hl4 : l'.length = 8 ∧ Small l' ∧ rd64 s = wrap64 (be l') := by
      cases s with
      | none => cases ht
      | some l =>
        simp only [tk] at ht
        split at ht
        · rename_i h
          cases ht
          exact ⟨by rw [List.length_take]; omega, fun x hx => hs x (List.mem_of_mem_take hx), by simp only [rd64]; rw [if_pos h]⟩
        · cases ht
    obtain ⟨h4, hsm, hr⟩ := hl4
    have HR : Hid (rd64 s = wrap64 (be l')) := hr
    have H4 : Hid (l'.length = 8) := h4
    have hnn := be_nonneg l' hsm
    rw [h4]
    clear ht hr h4
    go_wp2_with fail
    refine (u64_at M o 8 l' _ H4.out hb hsm).mono ?_
    rintro e w2 ⟨rfl, hg2⟩
    go_wp2_with fail
    go_ret
    exact ⟨ret_int HR.out.symm, hS1.grown hg2, gtrans hg1 (gany hg2 _)⟩

/-- As 'State', or the message is nil. -/
def StateW (w : World) (D M : Nat) (s : Option (List Int)) : Prop := State w D M s ∨ (s = some [] ∧ Dec w D (.slice none 0 0) .nilIface)
theorem StateW.grown {w w' : World} {D M : Nat} {s : Option (List Int)} (h : StateW w D M s) (hg : w.grownBy w' none) : StateW w' D M s := by
  rcases h with h | ⟨h0, h⟩
  · exact Or.inl (h.grown hg)
  · exact Or.inr ⟨h0, h.grown hg⟩

set_option maxHeartbeats 400000 in
theorem int32_nil (D t : Nat) (x : Value) (w : World) (h : Dec w D (.slice none 0 0) .nilIface) (hg : w.cell? ⟨0, 0, none⟩ = some (.iface t x)) :
    Calls Tryf.prog 25 #[.pointer (some ⟨D, 0, none⟩)] w fun e w' => e = .returned (.int .i32 0) ∧ w' = w.setCell ⟨D, 1, none⟩ (.iface t x) := by
  go_enter Tryf.func25, Tryf.ntmps25
  go_wp2_with fail
  refine (take_short D t x none 0 0 4 _ h.c0 h.c1 h.f1 hg (by decide)).mono ?_
  rintro e w1 ⟨rfl, rfl⟩
  go_wp2_with fail
  go_ret
  exact ⟨rfl, rfl⟩

theorem int32_w (D M : Nat) (s : Option (List Int)) (a0 : Addr) (s0 : ByteArray) (w : World) (hE : Env w D M a0 s0) (hS : StateW w D M s) (hs : SmallS s) :
    Calls Tryf.prog 25 #[.pointer (some ⟨D, 0, none⟩)] w fun e w' =>
      e = .returned (.int .i32 (rd32 s)) ∧ State w' D M (nx 4 s) ∧ w.grownBy w' (some D) := by
  rcases hS with hS | ⟨rfl, hd⟩
  · exact int32_any D M s a0 s0 w hE hS hs
  · refine (int32_nil D _ _ w hd hE.g).mono ?_
    rintro e w1 ⟨rfl, rfl⟩
    have hg := grown_set w D 1 (.iface 64 (.pointer (some a0)))
    exact ⟨rfl, ⟨_, a0, s0, hd.set1 _, hg.cell hE.t (by simpa using hE.ha), hE.ha⟩, hg⟩

/-- What 'length' answers: the number, whether there is one, and where the decoder stands. -/
def lenN (s : Option (List Int)) : Int := match nx 4 s with
  | none => 0
  | some _ => if rd32 s < 0 then 0 else rd32 s
def lenB (s : Option (List Int)) : Bool := match nx 4 s with
  | none => false
  | some _ => if rd32 s < 0 then false else true
def lenS (s : Option (List Int)) : Option (List Int) := match nx 4 s with
  | none => none
  | some l => if rd32 s < -1 then none else some l

theorem rd32_bd (s : Option (List Int)) : -2147483648 ≤ rd32 s ∧ rd32 s ≤ 2147483647 := by
  cases s with
  | none => simp [rd32]
  | some l =>
    simp only [rd32]
    split
    · unfold wrap32; omega
    · omega

set_option maxHeartbeats 400000 in
theorem length_any (F : Interp) (D M : Nat) (s : Option (List Int)) (what : ByteArray) (a0 : Addr) (s0 : ByteArray) (w : World) (hF : F.answers w.tape) (hE : Env w D M a0 s0) (hS : StateW w D M s) (hs : SmallS s) :
    Calls Tryf.prog 22 #[.pointer (some ⟨D, 0, none⟩), .string what] w fun e w' =>
      e = .returned (.tuple #[.int .i64 (lenN s), .bool (lenB s)]) ∧ State w' D M (lenS s) ∧ w.grownBy w' (some D) := by
  obtain ⟨hb1, hb2⟩ := rd32_bd s
  go_enter Tryf.func22, Tryf.ntmps22
  go_wp2_with fail
  refine (int32_w D M s a0 s0 _ hE hS hs).mono ?_
  rintro e w1 ⟨rfl, hS1, hg1⟩
  cases ht : nx 4 s with
  | none =>
    rw [ht] at hS1
    obtain ⟨v, a, tx, h0, h1, h2⟩ := hS1
    have HR : Hid (lenN s = 0 ∧ lenB s = false ∧ lenS s = none) := by simp [Hid, lenN, lenB, lenS, ht]
    have hc1 := h0.c1
    clear ht
    go_wp2_with fail
    go_ret2
    obtain ⟨r1, r2, r3⟩ := HR.out
    refine ⟨by rw [r1, r2]; rfl, ?_, hg1⟩
    rw [r3]
    exact ⟨v, a, tx, h0, h1, h2⟩
  | some l =>
    rw [ht] at hS1
    obtain ⟨o, cap, h0, h1, h2, h3⟩ := hS1
    have hc1 := h0.c1
    have HT : Hid (nx 4 s = some l) := ht
    clear ht
    by_cases hm1 : rd32 s = -1
    · have hq : (rd32 s == -1) = true := by simp [hm1]
      have HM : Hid (rd32 s = -1) := hm1
      clear hm1
      go_wp2_with fail
      go_ret2
      refine ⟨by simp [lenN, lenB, HT.out, HM.out], ?_, hg1⟩
      rw [show lenS s = some l from by simp [lenS, HT.out, HM.out]]
      exact ⟨o, cap, h0, h1, h2, h3⟩
    · have hq : (rd32 s == -1) = false := by simp [hm1]
      by_cases hneg : rd32 s < 0
      · go_wp2_with fail
        refine (errorf_neg F w1.heap.size what (rd32 s) _ (by show F.answers w1.tape; rw [hg1.tape]; exact hF) (by simp) (by simp)).mono ?_
        rintro e w2 ⟨tx, rfl, rfl⟩
        have k1 : w1.grownBy ((w1.alloc (.cells #[.iface 9 (.string what), .iface 21 (.int .i32 (rd32 s))] 20)).alloc (.cells #[.string tx] 66)).drew none :=
          gtrans (gtrans (galloc _ _ _) (galloc _ _ _)) (gdrew _ _)
        have h0' := h0.grown k1
        have hc1' := h0'.c1
        have hf1' := h0'.f1
        go_wp2_with fail
        go_ret2
        have hlt := h0.lt
        refine ⟨by simp [lenN, lenB, HT.out, hneg], ?_, ?_⟩
        · rw [show lenS s = none from by simp [lenS, HT.out]; omega]
          refine ⟨_, ⟨w1.heap.size + 1, 0, none⟩, tx, h0'.set1 _, ?_, by show w1.heap.size + 1 ≠ D; omega⟩
          refine (World.cell?_setCell_other _ _ _ _ (by intro e; have := congrArg Addr.block e; simp at this; omega)).trans ?_
          have := World.cell?_alloc_new (w1.alloc (.cells #[.iface 9 (.string what), .iface 21 (.int .i32 (rd32 s))] 20)) #[.string tx] 66 0
          rw [World.size_alloc] at this
          exact this
        · exact gtrans (gtrans hg1 (gany k1 _)) (grown_set _ D 1 _)
      · go_wp2_with fail
        go_ret2
        refine ⟨by simp [lenN, lenB, HT.out, Int.not_lt.2 hneg], ?_, hg1⟩
        rw [show lenS s = some l from by simp [lenS, HT.out]; omega]
        exact ⟨o, cap, h0, h1, h2, h3⟩
end Go.Proofs.Qxb6614018aFmt
