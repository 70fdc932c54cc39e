/-
  What the four laws share: the arguments built into a job file and a state.
-/
import Derived.Test.Qxb6614022aBuild3
import Derived.Test.Qxb6614022aReads
import Derived.Test.Qxb6614022aResD
namespace Go.Proofs.Qxb6614022a
open Go.RowKit
set_option linter.unusedVariables false
set_option linter.unusedSimpArgs false

theorem build_any (nm : ByteArray) (thr jb : Int) (tq so fo : Option Addr) (nt ct ns cs nf cf : Nat) (Z : ZA) (w : World) (h : ZAt w tq so fo nt ns nf Z) (h1 : nt ≤ 65536) (h2 : ns ≤ 65536) (h3 : nt ≤ ns)
    (ht : tq = none → nt = 0 ∧ ct = 0) (hs : so = none → ns = 0 ∧ cs = 0) :
    Calls Try.prog 11 #[.string nm, .int .i64 thr, .slice tq nt ct, .int .i64 jb, .slice so ns cs, .slice fo nf cf] w fun e w' => BuildPost w nm thr jb nt ns fo nf cf Z e w' := by
  cases tq with
  | none =>
    obtain ⟨rfl, rfl⟩ := ht rfl
    cases so with
    | none =>
      obtain ⟨rfl, rfl⟩ := hs rfl
      exact build_nn nm thr jb fo nf cf Z w
    | some sa => exact build_ns nm thr jb sa fo ns cs nf cf Z w h h2
  | some ta =>
    cases so with
    | none =>
      obtain ⟨rfl, rfl⟩ := hs rfl
      exact build_sn nm thr jb ta fo nt ct nf cf Z w (by omega)
    | some sa => exact build_ss nm thr jb ta sa fo nt ct ns cs nf cf Z w h h1 h2

def toRA (nm : ByteArray) (thr : Int) (Z : ZA) : RA :=
  { nm := nm, thr := thr, N := Z.N, Co := Z.Co, Cn := Z.Cn, Cc := Z.Cc, Ao := Z.Ao, An := Z.An, Ac := Z.Ac, AX := fun i j => (Z.AX i j).toNat, R := Z.R }

theorem row4_cell {w : World} {t : TypeId} {QB n k : Nat} {V : Nat → Nat → Value} (h : Row4 w t QB n k V) {i f : Nat} (hi : i < k) (hf : f < 4) : w.cell? ⟨QB, i * 4 + f, none⟩ = some (V i f) := by
  obtain ⟨c, h1, h2, h3⟩ := h
  rw [cell_of_row _ _ _ _ _ _ h1]
  exact h3 i hi f hf

def Built (w : World) (nm : ByteArray) (thr jb : Int) (nt ns : Nat) (fo : Option Addr) (nf cf : Nat) (Z : ZA) (e : Ending) (w' : World) : Prop :=
  ∃ DB QB SB tq so, e = .returned (.tuple #[.pointer (some ⟨DB, 0, none⟩), .agg #[.int .i64 jb, .slice so ns ns, .slice fo nf cf]]) ∧
    DefAt w' DB QB nt tq (toRA nm thr Z) ∧ StAt w' SB nt ns so Z.S Z.L Z.Tr Z.Wk ∧ Keep w w' (fun _ => False)

theorem built_any (nm : ByteArray) (thr jb : Int) (tq so fo : Option Addr) (nt ct ns cs nf cf : Nat) (Z : ZA) (w : World) (h : ZAt w tq so fo nt ns nf Z) (h1 : nt ≤ 65536) (h2 : ns ≤ 65536)
    (hA : ∀ i, i < nt → Z.An i ≤ 65536) (hd : nt ≤ ns ∧ ∀ i, i < nt → ∀ j, j < Z.An i → 0 ≤ Z.AX i j ∧ Z.AX i j < nt)
    (ht : tq = none → nt = 0 ∧ ct = 0) (hs : so = none → ns = 0 ∧ cs = 0) :
    Calls Try.prog 11 #[.string nm, .int .i64 thr, .slice tq nt ct, .int .i64 jb, .slice so ns cs, .slice fo nf cf] w fun e w' => Built w nm thr jb nt ns fo nf cf Z e w' := by
  refine (build_any nm thr jb tq so fo nt ct ns cs nf cf Z w h h1 h2 hd.1 ht hs).mono ?_
  rintro e w' ⟨DB, QB, SB, t2, s2, rfl, b1, b2, b3, b4⟩
  refine ⟨DB, QB, SB, t2, s2, rfl, ⟨b1, fun hp => (b2 hp).1, fun i hi => ?_, fun i hi hp => ?_, hA, fun i hi j hj => ?_⟩, ⟨fun hp => (b3 (by omega)).1, hd.1, fun i hi => ?_⟩, b4⟩
  · have r := (b2 (by omega)).2
    exact ⟨row4_cell r hi (f := 0) (by omega), row4_cell r hi (f := 1) (by omega), row4_cell r hi (f := 2) (by omega), row4_cell r hi (f := 3) (by omega)⟩
  · obtain ⟨ad, e, hc⟩ := (h.a i hi).keep b4 hp
    refine ⟨ad, e, fun j hj => (hc j hj).trans ?_⟩
    have := (hd.2 i hi j hj).1
    show _ = some (Value.int .i64 ((Z.AX i j).toNat : Int))
    rw [Int.toNat_of_nonneg this]
  · have := hd.2 i hi j hj
    show (Z.AX i j).toNat < nt
    omega
  · have r := (b3 (by omega)).2
    exact ⟨row4_cell r (by omega) (f := 0) (by omega), row4_cell r (by omega) (f := 1) (by omega), row4_cell r (by omega) (f := 2) (by omega), row4_cell r (by omega) (f := 3) (by omega)⟩

/-- What each of the four laws comes to. -/
def LawPost (w : World) (e : Ending) (w' : World) : Prop := e = .returned (.bool true) ∧ Keep w w' (fun _ => False)

theorem DK_at (A : RA) (st : Int) (S L Tr : Nat → Int) (Wk : Nat → ByteArray) {n i : Nat} (h : i < n) :
    (DK A st S L Tr Wk n).N i = A.N i ∧ (DK A st S L Tr Wk n).S i = S i ∧ (DK A st S L Tr Wk n).R i = A.R i ∧ (DK A st S L Tr Wk n).L i = L i ∧ (DK A st S L Tr Wk n).Tr i = Tr i ∧ (DK A st S L Tr Wk n).Wk i = Wk i := by
  simp [DK, h]
end Go.Proofs.Qxb6614022a
