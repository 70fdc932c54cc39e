/-
  The laws' arguments, opened.
-/
import Derived.Test.Qxb6614022aFront
import Derived.ProofKit
import Derived.OpenShut
import Derived.Deep.Strs
import Derived.Deep.Slices
namespace Go.Proofs.Qxb6614022a
open Go.ChangeShapes Go.WideShapes Go.ChangeAt Go.RowKit Go.Deep
set_option linter.unusedVariables false

theorem own : ownKnob Try.prog.godebug = none := by kernel_rfl
theorem laidOut : laidOutB Try.prog = true := by kernel_rfl
theorem cells9 : Try.prog.cellsOf 9 = 1 := by kernel_rfl
theorem cells3 : Try.prog.cellsOf 3 = 1 := by kernel_rfl
theorem cells47 : Try.prog.cellsOf 47 = 1 := by kernel_rfl
theorem cells24 : Try.prog.cellsOf 24 = 1 := by kernel_rfl
theorem cells49 : Try.prog.cellsOf 49 = 4 := by kernel_rfl
theorem cells42 : Try.prog.cellsOf 42 = 4 := by kernel_rfl

section
variable {H : Type} {enc : TypeId × Value → H} {W : World}

theorem open_f {d : DataW H} {p : List MemPlace} {ao : Option Addr} {len cap : Nat} {fuel : Nat}
    (hf : DataW.trod enc Try.prog W 0 (fun _ => true) true fuel 24 [.slice ao len cap] = some (d, p)) :
    ∃ X : Nat → Int, IntsAt W ao len X ∧ len ≤ maxLen ∧ (ao = none → len = 0 ∧ cap = 0) := by
  rcases open_ints Try.underlying24 Try.underlying3 cells3 hf with ⟨hcs, hx⟩ | ⟨a, len', cap', zs, hcs, _, hl, hm, hz, hx, hcell, hwz⟩
  · simp at hcs
    obtain ⟨rfl, rfl, rfl⟩ := hcs
    exact ⟨fun _ => 0, fun h => absurd h (by omega), by decide, fun _ => ⟨rfl, rfl⟩⟩
  · simp at hcs
    obtain ⟨rfl, rfl, rfl⟩ := hcs
    simp only [if_true] at hz
    exact ⟨fun i => zs.getD i 0, fun _ => ⟨a, rfl, fun i hi => hcell i (by omega)⟩, Nat.le_trans hl hm, fun h => by cases h⟩

theorem open_c {x : DataW H × List MemPlace} {cs : List Value} {fuel : Nat}
    (hf : DataW.trod enc Try.prog W 0 (fun _ => true) true fuel 47 cs = some x) :
    ∃ (o : Option Addr) (len cap : Nat) (S : Nat → ByteArray), cs = [.slice o len cap] ∧ len ≤ maxLen ∧ (0 < len → ∃ ad, o = some ad ∧ ∀ j, j < len → W.cell? (ad.add j) = some (.string (S j)) ∧ (S j).size ≤ maxLen) := by
  rcases open_strs Try.underlying47 Try.underlying9 cells9 hf with ⟨hcs, hx⟩ | ⟨a, len', cap', m, Sx, hcs, _, hl, hm, hz, hx, hcell⟩
  · exact ⟨none, 0, 0, fun _ => ByteArray.empty, hcs, by decide, fun h => absurd h (by omega)⟩
  · simp only [if_true] at hz
    exact ⟨some a, len', cap', Sx, hcs, Nat.le_trans hl hm, fun _ => ⟨a, rfl, fun i hi => hcell i (by omega)⟩⟩

theorem open_a {x : DataW H × List MemPlace} {cs : List Value} {fuel : Nat}
    (hf : DataW.trod enc Try.prog W 0 (fun _ => true) true fuel 24 cs = some x) :
    ∃ (o : Option Addr) (len cap : Nat) (X : Nat → Int), cs = [.slice o len cap] ∧ len ≤ maxLen ∧ IntsAt W o len X := by
  rcases open_ints Try.underlying24 Try.underlying3 cells3 hf with ⟨hcs, hx⟩ | ⟨a, len', cap', zs, hcs, _, hl, hm, hz, hx, hcell, hwz⟩
  · exact ⟨none, 0, 0, fun _ => 0, hcs, by decide, fun h => absurd h (by omega)⟩
  · simp only [if_true] at hz
    exact ⟨some a, len', cap', fun i => zs.getD i 0, hcs, Nat.le_trans hl hm, fun _ => ⟨a, rfl, fun i hi => hcell i (by omega)⟩⟩

abbrev TE := ByteArray × Option Addr × Nat × Nat × (Nat → ByteArray) × Option Addr × Nat × Nat × (Nat → Int) × Int
abbrev SE := Int × Int × Int × ByteArray

/-- One task: its four cells. -/
def TkAt (W : World) (a : Addr) (e : TE) : Prop :=
  W.cell? a = some (.string e.1) ∧ W.cell? ⟨a.block, a.off + 1, none⟩ = some (.slice e.2.1 e.2.2.1 e.2.2.2.1) ∧ W.cell? ⟨a.block, a.off + 2, none⟩ = some (.slice e.2.2.2.2.2.1 e.2.2.2.2.2.2.1 e.2.2.2.2.2.2.2.1) ∧ W.cell? ⟨a.block, a.off + 3, none⟩ = some (.int .i64 e.2.2.2.2.2.2.2.2.2) ∧
  (0 < e.2.2.1 → ∃ ad, e.2.1 = some ad ∧ ∀ j, j < e.2.2.1 → W.cell? (ad.add j) = some (.string (e.2.2.2.2.1 j)) ∧ (e.2.2.2.2.1 j).size ≤ maxLen) ∧
  IntsAt W e.2.2.2.2.2.1 e.2.2.2.2.2.2.1 e.2.2.2.2.2.2.2.2.1 ∧ e.1.size ≤ maxLen ∧ e.2.2.1 ≤ maxLen ∧ e.2.2.2.2.2.2.1 ≤ maxLen

theorem four {α : Type} {l : List α} (h : l.length = 4) : ∃ a b c d, l = [a, b, c, d] := by
  match l, h with
  | [a, b, c, d], _ => exact ⟨a, b, c, d, rfl⟩

theorem cells4 {a : Addr} {c0 c1 c2 c3 : Value} (h : W.cells? 0 a 4 = some [c0, c1, c2, c3]) :
    W.cell? a = some c0 ∧ W.cell? ⟨a.block, a.off + 1, none⟩ = some c1 ∧ W.cell? ⟨a.block, a.off + 2, none⟩ = some c2 ∧ W.cell? ⟨a.block, a.off + 3, none⟩ = some c3 := by
  obtain ⟨_, _, hc⟩ := World.cells?_some h
  exact ⟨hc 0 (by omega), hc 1 (by omega), hc 2 (by omega), hc 3 (by omega)⟩

theorem open_task {a : Addr} {cs : List Value} {fuel : Nat} {x : DataW H × List MemPlace} (h1 : W.cells? 0 a 4 = some cs)
    (h2 : DataW.trod enc Try.prog W 0 (fun _ => true) true fuel 49 cs = some x) : ∃ e, TkAt W a e := by
  obtain ⟨xs, n, _, _, hlen, hxl, hf⟩ := DataW.trod_struct Try.underlying49 h2
  rw [cells49] at hlen
  obtain ⟨c0, c1, c2, c3, rfl⟩ := four hlen
  obtain ⟨x0, x1, x2, x3, rfl⟩ := four hxl
  have g0 : DataW.trod enc Try.prog W 0 (fun _ => true) true n 9 [c0] = some x0 := by
    have h : DataW.trod enc Try.prog W 0 (fun _ => true) true n 9 (([c0, c1, c2, c3].drop 0).take (Try.prog.cellsOf 9)) = some x0 := hf 0 _ rfl
    rw [cells9] at h
    exact h
  have g1 : DataW.trod enc Try.prog W 0 (fun _ => true) true n 47 [c1] = some x1 := by
    have h : DataW.trod enc Try.prog W 0 (fun _ => true) true n 47 (([c0, c1, c2, c3].drop 1).take (Try.prog.cellsOf 47)) = some x1 := hf 1 _ rfl
    rw [cells47] at h
    exact h
  have g2 : DataW.trod enc Try.prog W 0 (fun _ => true) true n 24 [c2] = some x2 := by
    have h : DataW.trod enc Try.prog W 0 (fun _ => true) true n 24 (([c0, c1, c2, c3].drop 2).take (Try.prog.cellsOf 24)) = some x2 := hf 2 _ rfl
    rw [cells24] at h
    exact h
  have g3 : DataW.trod enc Try.prog W 0 (fun _ => true) true n 3 [c3] = some x3 := by
    have h : DataW.trod enc Try.prog W 0 (fun _ => true) true n 3 (([c0, c1, c2, c3].drop 3).take (Try.prog.cellsOf 3)) = some x3 := hf 3 _ rfl
    rw [cells3] at h
    exact h
  obtain ⟨s, e0, _, hs⟩ := DataW.trod_string Try.underlying9 g0
  obtain ⟨o1, l1, k1, S1, e1, m1, r1⟩ := open_c g1
  obtain ⟨o2, l2, k2, X2, e2, m2, r2⟩ := open_a g2
  obtain ⟨z, e3, _, _⟩ := DataW.trod_int Try.underlying3 g3
  obtain ⟨y0, y1, y2, y3⟩ := cells4 h1
  simp at e0 e1 e2 e3
  subst e0 e1 e2 e3
  exact ⟨(s, o1, l1, k1, S1, o2, l2, k2, X2, z), y0, y1, y2, y3, r1, r2, hs, m1, m2⟩

/-- One state: its four cells. -/
def SkAt (W : World) (a : Addr) (e : SE) : Prop :=
  W.cell? a = some (.int .i64 e.1) ∧ W.cell? ⟨a.block, a.off + 1, none⟩ = some (.int .i64 e.2.1) ∧ W.cell? ⟨a.block, a.off + 2, none⟩ = some (.int .i64 e.2.2.1) ∧ W.cell? ⟨a.block, a.off + 3, none⟩ = some (.string e.2.2.2) ∧ e.2.2.2.size ≤ maxLen

theorem open_state {a : Addr} {cs : List Value} {fuel : Nat} {x : DataW H × List MemPlace} (h1 : W.cells? 0 a 4 = some cs)
    (h2 : DataW.trod enc Try.prog W 0 (fun _ => true) true fuel 42 cs = some x) : ∃ e, SkAt W a e := by
  obtain ⟨xs, n, _, _, hlen, hxl, hf⟩ := DataW.trod_struct Try.underlying42 h2
  rw [cells42] at hlen
  obtain ⟨c0, c1, c2, c3, rfl⟩ := four hlen
  obtain ⟨x0, x1, x2, x3, rfl⟩ := four hxl
  have g0 : DataW.trod enc Try.prog W 0 (fun _ => true) true n 3 [c0] = some x0 := by
    have h : DataW.trod enc Try.prog W 0 (fun _ => true) true n 3 (([c0, c1, c2, c3].drop 0).take (Try.prog.cellsOf 3)) = some x0 := hf 0 _ rfl
    rw [cells3] at h
    exact h
  have g1 : DataW.trod enc Try.prog W 0 (fun _ => true) true n 3 [c1] = some x1 := by
    have h : DataW.trod enc Try.prog W 0 (fun _ => true) true n 3 (([c0, c1, c2, c3].drop 1).take (Try.prog.cellsOf 3)) = some x1 := hf 1 _ rfl
    rw [cells3] at h
    exact h
  have g2 : DataW.trod enc Try.prog W 0 (fun _ => true) true n 3 [c2] = some x2 := by
    have h : DataW.trod enc Try.prog W 0 (fun _ => true) true n 3 (([c0, c1, c2, c3].drop 2).take (Try.prog.cellsOf 3)) = some x2 := hf 2 _ rfl
    rw [cells3] at h
    exact h
  have g3 : DataW.trod enc Try.prog W 0 (fun _ => true) true n 9 [c3] = some x3 := by
    have h : DataW.trod enc Try.prog W 0 (fun _ => true) true n 9 (([c0, c1, c2, c3].drop 3).take (Try.prog.cellsOf 9)) = some x3 := hf 3 _ rfl
    rw [cells9] at h
    exact h
  obtain ⟨z0, e0, _, _⟩ := DataW.trod_int Try.underlying3 g0
  obtain ⟨z1, e1, _, _⟩ := DataW.trod_int Try.underlying3 g1
  obtain ⟨z2, e2, _, _⟩ := DataW.trod_int Try.underlying3 g2
  obtain ⟨s, e3, _, hs⟩ := DataW.trod_string Try.underlying9 g3
  obtain ⟨y0, y1, y2, y3⟩ := cells4 h1
  simp at e0 e1 e2 e3
  subst e0 e1 e2 e3
  exact ⟨(z0, z1, z2, s), y0, y1, y2, y3, hs⟩

theorem open_tasks {d : DataW H} {p : List MemPlace} {ao : Option Addr} {len cap : Nat} {fuel : Nat}
    (hf : DataW.trod enc Try.prog W 0 (fun _ => true) true fuel 22 [.slice ao len cap] = some (d, p)) :
    ∃ E : Nat → TE, (0 < len → ∃ ad, ao = some ad ∧ ∀ i, i < len → TkAt W (ad.add (i * 4)) (E i)) ∧ len ≤ maxLen ∧ (ao = none → len = 0 ∧ cap = 0) := by
  rcases open_slice Try.underlying22 hf with ⟨hcs, hx⟩ | ⟨a, len', cap', m, n, D, Pl, hcs, _, hl, hm, hmm, hx, hcell⟩
  · simp at hcs
    obtain ⟨rfl, rfl, rfl⟩ := hcs
    exact ⟨fun _ => default, fun h => absurd h (by omega), by decide, fun _ => ⟨rfl, rfl⟩⟩
  · simp at hcs
    obtain ⟨rfl, rfl, rfl⟩ := hcs
    simp only [if_true] at hmm
    rw [cells49] at hcell
    obtain ⟨E, hE⟩ := choose_lt (α := TE) (n := len) (p := fun i e => TkAt W (a.add (i * 4)) e) (fun i hi => by
      obtain ⟨cs', h1, h2⟩ := hcell i (by omega)
      exact open_task h1 h2)
    exact ⟨E, fun _ => ⟨a, rfl, hE⟩, Nat.le_trans hl hm, fun h => by cases h⟩

theorem open_states {d : DataW H} {p : List MemPlace} {ao : Option Addr} {len cap : Nat} {fuel : Nat}
    (hf : DataW.trod enc Try.prog W 0 (fun _ => true) true fuel 23 [.slice ao len cap] = some (d, p)) :
    ∃ E : Nat → SE, (0 < len → ∃ ad, ao = some ad ∧ ∀ i, i < len → SkAt W (ad.add (i * 4)) (E i)) ∧ len ≤ maxLen ∧ (ao = none → len = 0 ∧ cap = 0) := by
  rcases open_slice Try.underlying23 hf with ⟨hcs, hx⟩ | ⟨a, len', cap', m, n, D, Pl, hcs, _, hl, hm, hmm, hx, hcell⟩
  · simp at hcs
    obtain ⟨rfl, rfl, rfl⟩ := hcs
    exact ⟨fun _ => default, fun h => absurd h (by omega), by decide, fun _ => ⟨rfl, rfl⟩⟩
  · simp at hcs
    obtain ⟨rfl, rfl, rfl⟩ := hcs
    simp only [if_true] at hmm
    rw [cells42] at hcell
    obtain ⟨E, hE⟩ := choose_lt (α := SE) (n := len) (p := fun i e => SkAt W (a.add (i * 4)) e) (fun i hi => by
      obtain ⟨cs', h1, h2⟩ := hcell i (by omega)
      exact open_state h1 h2)
    exact ⟨E, fun _ => ⟨a, rfl, hE⟩, Nat.le_trans hl hm, fun h => by cases h⟩

/-- The arguments as the walks want them. -/
theorem open_args {d0 d1 d2 : DataW H} {p0 p1 p2 : List MemPlace} {tq so fo : Option Addr} {nt ct ns cs nf cf f0 f1 f2 : Nat}
    (h0 : DataW.trod enc Try.prog W 0 (fun _ => true) true f0 22 [.slice tq nt ct] = some (d0, p0))
    (h1 : DataW.trod enc Try.prog W 0 (fun _ => true) true f1 23 [.slice so ns cs] = some (d1, p1))
    (h2 : DataW.trod enc Try.prog W 0 (fun _ => true) true f2 24 [.slice fo nf cf] = some (d2, p2)) :
    ∃ Z, ZAt W tq so fo nt ns nf Z ∧ (tq = none → nt = 0 ∧ ct = 0) ∧ (so = none → ns = 0 ∧ cs = 0) ∧ (fo = none → nf = 0 ∧ cf = 0) := by
  obtain ⟨E, t1, t2, t3⟩ := open_tasks h0
  obtain ⟨S, s1, s2, s3⟩ := open_states h1
  obtain ⟨X, x1, x2, x3⟩ := open_f h2
  have tk : ∀ i, i < nt → ∃ ad, TkAt W ad (E i) := fun i hi => by
    obtain ⟨ad, _, h⟩ := t1 (by omega)
    exact ⟨_, h i hi⟩
  have sk : ∀ i, i < ns → ∃ ad, SkAt W ad (S i) := fun i hi => by
    obtain ⟨ad, _, h⟩ := s1 (by omega)
    exact ⟨_, h i hi⟩
  refine ⟨{ N := fun i => (E i).1, Co := fun i => (E i).2.1, Cn := fun i => (E i).2.2.1, Cc := fun i => (E i).2.2.2.1, Cs := fun i => (E i).2.2.2.2.1, Ao := fun i => (E i).2.2.2.2.2.1, An := fun i => (E i).2.2.2.2.2.2.1, Ac := fun i => (E i).2.2.2.2.2.2.2.1, AX := fun i => (E i).2.2.2.2.2.2.2.2.1, R := fun i => (E i).2.2.2.2.2.2.2.2.2, S := fun i => (S i).1, L := fun i => (S i).2.1, Tr := fun i => (S i).2.2.1, Wk := fun i => (S i).2.2.2, XF := X },
    { t := fun hp => ?_, c := fun i hi hp => ?_, a := fun i hi => ?_, s := fun hp => ?_, f := x1, zt := fun i hi => ?_, zs := fun i hi => ?_, mt := t2, ms := s2, mf := x2 }, t3, s3, x3⟩
  · obtain ⟨ad, e, h⟩ := t1 hp
    exact ⟨ad, e, fun i hi => ⟨(h i hi).1, (h i hi).2.1, (h i hi).2.2.1, (h i hi).2.2.2.1⟩⟩
  · obtain ⟨ad, h⟩ := tk i hi
    exact h.2.2.2.2.1 hp
  · obtain ⟨ad, h⟩ := tk i hi
    exact h.2.2.2.2.2.1
  · obtain ⟨ad, e, h⟩ := s1 hp
    exact ⟨ad, e, fun i hi => ⟨(h i hi).1, (h i hi).2.1, (h i hi).2.2.1, (h i hi).2.2.2.1⟩⟩
  · obtain ⟨ad, h⟩ := tk i hi
    exact ⟨h.2.2.2.2.2.2.1, h.2.2.2.2.2.2.2.1, h.2.2.2.2.2.2.2.2⟩
  · obtain ⟨ad, h⟩ := sk i hi
    exact h.2.2.2.2
end
end Go.Proofs.Qxb6614022a
