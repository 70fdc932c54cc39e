/-
  The decoder: take, Int32, Int64, length, Buffer, DecodeStat, DecodeDataReply.
-/
import Derived.Test.Qxb6614018aFmtEnd
import Derived.Test.Qxb6614018aFmtErrf
namespace Go.Proofs.Qxb6614018aFmt
open Go.RowKit Go.Stop
set_option linter.unusedVariables false
set_option linter.unusedSimpArgs false

/-- The decoder's own block. -/
def Dec (w : World) (D : Nat) (v ev : Value) : Prop := w.heap[D]? = some (.cells #[v, ev] 37 (0, 0))

section
variable {w w' : World} {D : Nat} {v ev u : Value}
theorem Dec.c0 (h : Dec w D v ev) : w.cell? ⟨D, 0, none⟩ = some v := by simp [World.cell?, show w.heap[D]? = _ from h]
theorem Dec.c1 (h : Dec w D v ev) : w.cell? ⟨D, 1, none⟩ = some ev := by simp [World.cell?, show w.heap[D]? = _ from h]
theorem Dec.f0 (h : Dec w D v ev) : w.frozen? ⟨D, 0, none⟩ = false := by simp [World.frozen?, show w.heap[D]? = _ from h]
theorem Dec.f1 (h : Dec w D v ev) : w.frozen? ⟨D, 1, none⟩ = false := by simp [World.frozen?, show w.heap[D]? = _ from h]
theorem Dec.lt (h : Dec w D v ev) : D < w.heap.size := World.block_lt_of_cell? w _ h.c0
theorem Dec.set0 (h : Dec w D v ev) (u : Value) : Dec (w.setCell ⟨D, 0, none⟩ u) D u ev := by
  have h' : w.heap[D]? = _ := h
  simp [Dec, World.setCell, Array.getElem?_modify, h']
theorem Dec.set1 (h : Dec w D v ev) (u : Value) : Dec (w.setCell ⟨D, 1, none⟩ u) D v u := by
  have h' : w.heap[D]? = _ := h
  simp [Dec, World.setCell, Array.getElem?_modify, h']
theorem Dec.grown (h : Dec w D v ev) (hg : w.grownBy w' none) : Dec w' D v ev :=
  (hg.block D h.lt (by simp)).trans h
theorem grown_set (w : World) (D k : Nat) (u : Value) : w.grownBy (w.setCell ⟨D, k, none⟩ u) (some D) :=
  ⟨rfl, rfl, rfl, by simp, fun i _ hne => Below.heap_setCell w _ u i (fun e => hne (by rw [e]))⟩
theorem gtrans {a b c : World} {row : Option Nat} (h : a.grownBy b row) (k : b.grownBy c row) : a.grownBy c row :=
  ⟨k.os.trans h.os, k.tape.trans h.tape, k.output.trans h.output, Nat.le_trans h.size k.size, fun i hi hne => (k.block i (Nat.lt_of_lt_of_le hi h.size) hne).trans (h.block i hi hne)⟩
theorem gany {a c : World} (h : a.grownBy c none) (row : Option Nat) : a.grownBy c row := ⟨h.os, h.tape, h.output, h.size, fun i hi _ => h.block i hi (by simp)⟩
theorem gdrew (w : World) (row : Option Nat) : w.grownBy w.drew row := ⟨rfl, rfl, rfl, Nat.le_refl _, fun _ _ _ => rfl⟩
theorem galloc (w : World) (o : Obj) (row : Option Nat) : w.grownBy (w.alloc o) row := World.grownBy_alloc w o row
end

theorem BytesAt.grown {w w' : World} {M D o : Nat} {l : List Int} (h : BytesAt w M o l) (hg : w.grownBy w' (some D)) (hne : M ≠ D) : BytesAt w' M o l :=
  fun i hi => hg.cell (h i hi) (by simpa using hne)

/-- What does not turn while the decoder reads. -/
structure Env (w : World) (D M : Nat) (a0 : Addr) (s0 : ByteArray) : Prop where
  g : w.cell? ⟨0, 0, none⟩ = some (.iface 64 (.pointer (some a0)))
  t : w.cell? a0 = some (.string s0)
  hD : 0 ≠ D
  hM : M ≠ D
  ha : a0.block ≠ D

theorem Env.grown {w w' : World} {D M : Nat} {a0 : Addr} {s0 : ByteArray} (h : Env w D M a0 s0) (hg : w.grownBy w' (some D)) : Env w' D M a0 s0 :=
  ⟨hg.cell h.g (by simpa using h.hD), hg.cell h.t (by simpa using h.ha), h.hD, h.hM, h.ha⟩

def Live (w : World) (D M : Nat) (l : List Int) : Prop :=
  ∃ o cap, Dec w D (.slice (some ⟨M, o, none⟩) l.length cap) .nilIface ∧ l.length ≤ cap ∧ cap ≤ 1048576 ∧ BytesAt w M o l
def Dead (w : World) (D : Nat) : Prop :=
  ∃ (v : Value) (a : Addr) (s : ByteArray), Dec w D v (.iface 64 (.pointer (some a))) ∧ w.cell? a = some (.string s) ∧ a.block ≠ D

/-- The decoder reads on at these bytes; or it has failed. -/
def State (w : World) (D M : Nat) : Option (List Int) → Prop
  | some l => Live w D M l
  | none => Dead w D

theorem Live.grown {w w' : World} {D M : Nat} {l : List Int} (h : Live w D M l) (hg : w.grownBy w' none) : Live w' D M l := by
  obtain ⟨o, cap, h0, h1, h2, h3⟩ := h
  exact ⟨o, cap, h0.grown hg, h1, h2, fun i hi => hg.cell (h3 i hi) (by simp)⟩
theorem Dead.grown {w w' : World} {D : Nat} (h : Dead w D) (hg : w.grownBy w' none) : Dead w' D := by
  obtain ⟨v, a, s, h0, h1, h2⟩ := h
  exact ⟨v, a, s, h0.grown hg, hg.cell h1 (by simp), h2⟩
theorem State.grown {w w' : World} {D M : Nat} {s : Option (List Int)} (h : State w D M s) (hg : w.grownBy w' none) : State w' D M s := by
  cases s with
  | some l => exact Live.grown h hg
  | none => exact Dead.grown h hg

/-- Behind a read of k bytes. -/
def nx (k : Nat) : Option (List Int) → Option (List Int)
  | some l => if k ≤ l.length then some (l.drop k) else none
  | none => none
def rd32 : Option (List Int) → Int
  | some l => if 4 ≤ l.length then wrap32 (be (l.take 4)) else 0
  | none => 0
def rd64 : Option (List Int) → Int
  | some l => if 8 ≤ l.length then wrap64 (be (l.take 8)) else 0
  | none => 0
def SmallS : Option (List Int) → Prop
  | some l => Small l
  | none => True
theorem SmallS.nx {s : Option (List Int)} (h : SmallS s) (k : Nat) : SmallS (nx k s) := by
  cases s with
  | none => trivial
  | some l =>
    simp only [Qxb6614018aFmt.nx]
    split
    · exact fun x hx => h x (List.mem_of_mem_drop hx)
    · trivial

theorem nx_nx (a b : Nat) (s : Option (List Int)) : nx a (nx b s) = nx (b + a) s := by
  cases s with
  | none => rfl
  | some l =>
    simp only [nx]
    by_cases h : b ≤ l.length
    · rw [if_pos h]
      simp only [nx, List.length_drop, List.drop_drop]
      by_cases h2 : a ≤ l.length - b
      · rw [if_pos h2, if_pos (by omega)]
      · rw [if_neg h2, if_neg (by omega)]
    · rw [if_neg h, if_neg (by omega)]

set_option maxHeartbeats 400000 in
theorem take_dead (D t : Nat) (x : Value) (n : Int) (w : World)
    (h1 : w.cell? ⟨D, 1, none⟩ = some (.iface t x)) :
    Calls Tryf.prog 23 #[.pointer (some ⟨D, 0, none⟩), .int .i64 n] w fun e w' => e = .returned (.slice none 0 0) ∧ w' = w := by
  go_enter Tryf.func23, Tryf.ntmps23
  go_wp2
  go_ret
  exact ⟨rfl, rfl⟩

set_option maxHeartbeats 400000 in
theorem take_short (D t : Nat) (x : Value) (ao : Option Addr) (len cap : Nat) (n : Int) (w : World)
    (h0 : w.cell? ⟨D, 0, none⟩ = some (.slice ao len cap))
    (h1 : w.cell? ⟨D, 1, none⟩ = some .nilIface) (f1 : w.frozen? ⟨D, 1, none⟩ = false)
    (hg : w.cell? ⟨0, 0, none⟩ = some (.iface t x)) (hn : (len : Int) < n) :
    Calls Tryf.prog 23 #[.pointer (some ⟨D, 0, none⟩), .int .i64 n] w fun e w' => e = .returned (.slice none 0 0) ∧ w' = w.setCell ⟨D, 1, none⟩ (.iface t x) := by
  go_enter Tryf.func23, Tryf.ntmps23
  go_wp2
  go_ret
  exact ⟨rfl, rfl⟩

set_option maxHeartbeats 400000 in
theorem take_ok (D : Nat) (M o : Nat) (len cap : Nat) (n : Nat) (w : World)
    (h0 : w.cell? ⟨D, 0, none⟩ = some (.slice (some ⟨M, o, none⟩) len cap)) (f0 : w.frozen? ⟨D, 0, none⟩ = false)
    (h1 : w.cell? ⟨D, 1, none⟩ = some .nilIface) (hn : n ≤ len) (hc : len ≤ cap) (hm : cap ≤ 1048576) :
    Calls Tryf.prog 23 #[.pointer (some ⟨D, 0, none⟩), .int .i64 n] w fun e w' => e = .returned (.slice (some ⟨M, o, none⟩) n n) ∧ 
      ∃ o', (n < len → o' = o + n) ∧ w' = w.setCell ⟨D, 0, none⟩ (.slice (some ⟨M, o', none⟩) (len - n) (cap - n)) := by
  by_cases hcn : cap = n
  · subst hcn
    go_enter Tryf.func23, Tryf.ntmps23
    go_wp2
    go_ret
    exact ⟨rfl, o, by omega, by rw [show len - cap = 0 from by omega, show cap - cap = 0 from by omega]⟩
  · go_enter Tryf.func23, Tryf.ntmps23
    go_wp2
    go_ret
    exact ⟨rfl, o + n, fun _ => rfl, rfl⟩

/-- take in the decoder's own words. -/
def Data (w : World) (M : Nat) (v : Value) : Option (List Int) → Prop
  | some l => ∃ o, v = .slice (some ⟨M, o, none⟩) l.length l.length ∧ BytesAt w M o l
  | none => v = .slice none 0 0
theorem Data.grown {w w' : World} {M D : Nat} {v : Value} {d : Option (List Int)} (h : Data w M v d) (hg : w.grownBy w' (some D)) (hne : M ≠ D) : Data w' M v d := by
  cases d with
  | none => exact h
  | some l => obtain ⟨o, h0, h1⟩ := h; exact ⟨o, h0, h1.grown hg hne⟩

def tk (k : Nat) : Option (List Int) → Option (List Int)
  | some l => if k ≤ l.length then some (l.take k) else none
  | none => none

theorem take_any (D M : Nat) (n : Nat) (s : Option (List Int)) (a0 : Addr) (s0 : ByteArray) (w : World) (hE : Env w D M a0 s0) (hS : State w D M s) :
    Calls Tryf.prog 23 #[.pointer (some ⟨D, 0, none⟩), .int .i64 n] w fun e w' =>
      ∃ v, e = .returned v ∧ Data w' M v (tk n s) ∧ State w' D M (nx n s) ∧ w.grownBy w' (some D) := by
  cases s with
  | none =>
    obtain ⟨v, a, s, h0, h1, h2⟩ := hS
    refine (take_dead D _ _ n w h0.c1).mono ?_
    rintro e w' ⟨rfl, rfl⟩
    exact ⟨_, rfl, rfl, ⟨v, a, s, h0, h1, h2⟩, World.grownBy.refl _ _⟩
  | some l =>
    obtain ⟨o, cap, h0, h1, h2, h3⟩ := hS
    by_cases hk : n ≤ l.length
    · refine (take_ok D M o l.length cap n w h0.c0 h0.f0 h0.c1 hk h1 h2).mono ?_
      rintro e w' ⟨rfl, o', ho', rfl⟩
      have hg := grown_set w D 0 (.slice (some ⟨M, o', none⟩) (l.length - n) (cap - n))
      refine ⟨_, rfl, ?_, ?_, hg⟩
      · simp only [tk, if_pos hk]
        refine ⟨o, by rw [List.length_take, Nat.min_eq_left hk], fun i hi => ?_⟩
        rw [List.length_take] at hi
        have := hg.cell (h3 i (by omega)) (by simpa using hE.hM)
        rw [this]
        simp only [List.getD_eq_getElem?_getD, List.getElem?_take]
        rw [if_pos (by omega)]
      · simp only [nx, if_pos hk, State]
        refine ⟨o', cap - n, ?_, by rw [List.length_drop]; omega, by omega, fun i hi => ?_⟩
        · rw [List.length_drop]; exact h0.set0 _
        · rw [List.length_drop] at hi
          obtain rfl := ho' (by omega)
          have := hg.cell (h3 (n + i) (by omega)) (by simpa using hE.hM)
          rw [Nat.add_assoc, this]
          simp only [List.getD_eq_getElem?_getD, List.getElem?_drop]
    · refine (take_short D _ _ _ _ _ n w h0.c0 h0.c1 h0.f1 hE.g (by omega)).mono ?_
      rintro e w' ⟨rfl, rfl⟩
      have hg := grown_set w D 1 (.iface 64 (.pointer (some a0)))
      refine ⟨_, rfl, ?_, ?_, hg⟩
      · simp only [tk, if_neg hk, Data]
      · simp only [nx, if_neg hk, State]
        exact ⟨_, a0, s0, h0.set1 _, hg.cell hE.t (by simpa using hE.ha), hE.ha⟩

end Go.Proofs.Qxb6614018aFmt
