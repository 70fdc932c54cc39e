/-
  (*Job).recount.
-/
import Derived.Test.Qxb6614022aFns
namespace Go.Proofs.Qxb6614022a
open Go.RowKit
set_option linter.unusedVariables false
set_option linter.unusedSimpArgs false

section
variable {w : World} {lo JB TB n m : Nat} {G : Nat → Value} {D : JD} {F : Nat → Prop}

theorem Rdy.cut {lo len cap : Nat} {o : Option Addr} (h : Rdy w lo (.slice o len cap) len) : Rdy w lo (.slice o 0 cap) 0 := by
  obtain ⟨xs, ⟨h1, h2⟩, h3⟩ := h
  refine ⟨[], ⟨rfl, ?_⟩, fun u hu => by simp at hu⟩
  rcases h2 with ⟨e, _⟩ | ⟨g, c, cur, e, h4, h5, h6, h7, h8, h9⟩
  · cases e; exact Or.inl ⟨rfl, rfl⟩
  · cases e; exact Or.inr ⟨g, cap, cur, rfl, h4, h5, by omega, h7, h8, by simp⟩

theorem Jb.le (h : Jb w lo JB TB n G D m F) {m' : Nat} (hm : m ≤ m') : Jb w lo JB TB n G D m' F := by
  obtain ⟨⟨thr, a, c, f, o, len, cap, soft, h1, h2, h3, h4⟩, t, a1, a2, a3, a4, a5⟩ := h
  exact ⟨⟨thr, a, c, f, o, len, cap, soft, h1, h2, Nat.le_trans h3 hm, h4⟩, t, a1, a2, a3, a4, a5⟩

theorem Jb.cut (h : Jb w lo JB TB n G D m F) {o : Option Addr} {len cap : Nat} (hc : w.cell? ⟨JB, 4, none⟩ = some (.slice o len cap)) (m' : Nat) : Jb (w.setCell ⟨JB, 4, none⟩ (.slice o 0 cap)) lo JB TB n G D m' F := by
  obtain ⟨thr, a, c, f, o', len', cap', soft, h1, h2, h3, h4⟩ := h.job
  rw [cell_of_row _ _ _ _ _ _ h1] at hc
  have e : Value.slice o' len' cap' = .slice o len cap := Option.some.inj hc
  cases e
  exact h.reJ (Keep.set w ⟨JB, 4, none⟩ _) (st' := D.st) (thr := thr) (a := a) (c := c) (f := f) (soft := soft) ((heap_setCell_same w JB 4 _ 69 _ h1).trans (by simp [jcells])) h2.cut (Nat.zero_le _) (fun g hg => h4 g (by cases o <;> exact hg))

theorem keepF (h : Jb w lo JB TB n G D m F) {a : Addr} (v : Value) (ha : a.block = JB ∨ a.block = TB) : Keep w (w.setCell a v) F :=
  (Keep.set w a v).mono (fun k _ e => by
    rcases ha with ha | ha
    · rw [e, ha]; exact h.fJ
    · rw [e, ha]; exact h.fT)

def PushedPost (w : World) (lo JB TB n : Nat) (G : Nat → Value) (D : JD) (m : Nat) (F : Nat → Prop) (e : Ending) (w' : World) : Prop :=
  e = .returned (.tuple #[]) ∧ ∃ F', Jb w' lo JB TB n G D m F' ∧ Step w w' F F'

theorem Jb.push (h : Jb w lo JB TB n G D m F) (hm : m ≤ 1099511627776) (z : Int) :
    Calls Try.prog 33 #[.iface 78 (.pointer (some ⟨JB, 4, none⟩)), .iface 3 (.int .i64 z)] w fun e w' => PushedPost w lo JB TB n G D (m + 1) F e w' := by
  obtain ⟨thr, a, c, f, o, len, cap, soft, h1, h2, h3, h4⟩ := h.job
  obtain ⟨ct, t1, t2, t3⟩ := h.tasks
  have lJ := (h.lt JB h.fJ)
  refine (heappush_any JB lo len cap o _ z w h1 (by rfl) h2 (by omega) (fun e => (h4 JB e).2.1 rfl) (by omega)).mono ?_
  rintro e w' ⟨rfl, g, cap', k1, k2, k3, k4, k5⟩
  have hg : g ≠ TB := by
    rcases k4 with k4 | k4
    · exact (h4 g k4).2.2
    · have := (h.lt TB h.fT).2; omega
  have hgs : g < w'.heap.size := by
    obtain ⟨xs, ⟨_, h | ⟨g', c', cur, e, _, h5, _⟩⟩, _⟩ := k2
    · cases h.1
    · cases e; exact lt_of_heap h5
  have hk : Keep w w' F := k3.mono (fun k _ e => by
    rcases e with e | e
    · rw [e]; exact h.fJ
    · exact (h4 k e).1)
  refine ⟨rfl, fun k => F k ∨ (w.heap.size ≤ k ∧ k = g), ⟨⟨thr, a, c, f, _, len + 1, cap', soft, ?_, k2, by omega, fun g' e => ?_⟩, ⟨ct, ?_, t2, t3⟩, Or.inl h.fJ, Or.inl h.fT, h.ne, fun k hk' => ?_, fun i hi => ?_⟩, ⟨hk, fun k hk' => ?_⟩⟩
  · rw [k1]; simp [jcells]
  · cases e
    refine ⟨?_, k5, hg⟩
    rcases k4 with k4 | k4
    · exact Or.inl (h4 _ k4).1
    · exact Or.inr ⟨k4, rfl⟩
  · rw [k3.block TB (lt_of_heap t1) (fun e => by
      rcases e with e | e
      · exact h.ne e.symm
      · exact (h4 TB e).2.2 rfl)]
    exact t1
  · rcases hk' with hk' | ⟨hk1, rfl⟩
    · exact ⟨(h.lt k hk').1, Nat.lt_of_lt_of_le (h.lt k hk').2 hk.size⟩
    · exact ⟨by omega, hgs⟩
  · obtain ⟨o, l, c, xs, i1, i2, i3, i4, i5⟩ := h.thn i hi
    refine ⟨o, l, c, xs, i1, own_kept i2 hk i5, i3, i4, fun g' e hg' => ?_⟩
    rcases hg' with hg' | ⟨hg', rfl⟩
    · exact i5 g' e hg'
    · have := (i2.lt g' e).2
      omega
  · rcases hk' with hk' | ⟨hk1, _⟩
    · exact Or.inl hk'
    · exact Or.inr hk1
end

def CntPost (w : World) (lo JB TB n : Nat) (G : Nat → Value) (D : JD) (F : Nat → Prop) (e : Ending) (w' : World) : Prop :=
  e = .returned (.tuple #[]) ∧ ∃ F', Jb w' lo JB TB n G D n F' ∧ Step w w' F F'

set_option maxRecDepth 100000 in
set_option maxHeartbeats 4000000 in
theorem recount_any {lo JB TB n m : Nat} {G : Nat → Value} {D : JD} {F : Nat → Prop} (w : World) (h : Jb w lo JB TB n G D m F) (hn : n ≤ 65536) :
    Calls Try.prog 27 #[.pointer (some ⟨JB, 0, none⟩)] w fun e w' => CntPost w lo JB TB n G D F e w' := by
  have HJ : Hid (Jb w lo JB TB n G D m F) := h
  obtain ⟨o, len, cap, hc, hr, hm, hF⟩ := h.jc
  have c3 := hc.c3
  have c4 := hc.c4
  obtain ⟨z6, c6⟩ := hc.c6
  obtain ⟨z7, c7⟩ := hc.c7
  obtain ⟨z8, c8⟩ := hc.c8
  have f4 := hc.fz 4
  have f6 := hc.fz 6
  have f7 := hc.fz 7
  have f8 := hc.fz 8
  have HM : Hid (Rdy w lo (.slice o len cap) len) := hr
  clear hF hc h hr
  go_enter Try.func27, Try.ntmps27
  go_wp2
  go_loopw [31] (fun i wr => ∃ k : Nat, k ≤ n ∧ i = .int .i64 k ∧ Hid (Jb wr lo JB TB n G D 0 F ∧ Keep w wr F)) (fun i _ => n - (intOf i).toNat)
  case atStart =>
    have j1 := HJ.out.setCnt 6 (Or.inl rfl) 0
    have j2 := j1.setCnt 7 (Or.inr (Or.inl rfl)) 0
    have j3 := j2.setCnt 8 (Or.inr (Or.inr rfl)) 0
    have hc4 : (((w.setCell ⟨JB, 6, none⟩ (.int .i64 0)).setCell ⟨JB, 7, none⟩ (.int .i64 0)).setCell ⟨JB, 8, none⟩ (.int .i64 0)).cell? ⟨JB, 4, none⟩ = some (.slice o len cap) := by
      rw [World.cell?_setCell_other _ _ _ _ (by simp), World.cell?_setCell_other _ _ _ _ (by simp), World.cell?_setCell_other _ _ _ _ (by simp)]; exact c4
    exact ⟨0, Nat.zero_le _, rfl, j3.cut hc4 0, (((keepF HJ.out _ (Or.inl rfl)).trans (keepF j1 _ (Or.inl rfl)) (fun _ _ h => h)).trans (keepF j2 _ (Or.inl rfl)) (fun _ _ h => h)).trans (keepF j3 _ (Or.inl rfl)) (fun _ _ h => h)⟩
  case round =>
    obtain ⟨k, hk, rfl, HR⟩ := hrel
    clear c3 c4 c6 c7 c8 f4 f6 f7 f8 HM
    obtain ⟨o2, len2, cap2, hc2, _⟩ := HR.out.1.jc
    have c3 := hc2.c3
    clear hc2
    by_cases hlt : k < n
    · have t := HR.out.1.tc hlt
      obtain ⟨z, t6⟩ := t.c6
      have f6 := t.fz (k * 8 + 6)
      have q : (k : Int) < (n : Int) := by omega
      clear t
      go_wp2
      go_roundw
      case rel => exact ⟨k + 1, by omega, by go_num, HR.out.1.setWait hlt 0, HR.out.2.trans (keepF HR.out.1 _ (Or.inr rfl)) (fun _ _ h => h)⟩
      case measure => simp [intOf]; omega
    · go_wp2
      go_loopw [47] (fun i wr => ∃ k : Nat, k ≤ n ∧ i = .int .i64 k ∧ Hid (Jb wr lo JB TB n G D 0 F ∧ Keep w wr F)) (fun i _ => n - (intOf i).toNat)
      case atStart => exact ⟨0, Nat.zero_le _, rfl, HR.out⟩
      case round =>
        clear HR c3
        obtain ⟨k, hk, rfl, HR⟩ := hrel
        by_cases hlt : k < n
        · have t := HR.out.1.tc hlt
          have t0 := t.c0
          have t1 := t.c1
          have t2 := t.c2
          have t3 := t.c3
          have t4 := t.c4
          have t5 := t.c5
          obtain ⟨z, t6⟩ := t.c6
          have t7 := t.c7
          obtain ⟨o', l, c, xs, hG, hown, hl, hxs, _⟩ := HR.out.1.thn k hlt
          rw [hG] at t7
          have q : (k : Int) < (n : Int) := by omega
          have HA : Hid (∀ ob : Obj, Jb (wr.alloc ob) lo JB TB n G D 0 F ∧ Keep w (wr.alloc ob) F) :=
            fun ob => ⟨HR.out.1.keep (Keep.alloc _ _ _), HR.out.2.trans (Keep.alloc _ _ (fun _ => False)) (fun _ _ h => h.elim)⟩
          have HG : Hid (G k = .slice o' l c) := hG
          clear t hown hxs hG
          by_cases h6 : D.S k = 6
          · have e6 : (D.S k == 6) = true := by simp [h6]
            go_wp2
            go_roundw
            case rel => exact ⟨k + 1, by omega, by go_num, HA.out _⟩
            case measure => simp [intOf]; omega
          · have e6 : (D.S k == 6) = false := by simp [h6]
            go_wp2
            clear t0 t1 t2 t3 t4 t5 t6 t7
            go_loopw [57] (fun i wr => ∃ j : Nat, j ≤ l ∧ i = .int .i64 j ∧ Hid (Jb wr lo JB TB n G D 0 F ∧ Keep w wr F)) (fun i _ => l - (intOf i).toNat)
            case atStart => exact ⟨0, Nat.zero_le _, rfl, HA.out _⟩
            case round =>
              obtain ⟨j, hj, rfl, HI⟩ := hrel
              by_cases hjl : j < l
              · obtain ⟨o2, l2, c2, xs, hG2, hown, hl2, hxs, _⟩ := HI.out.1.thn k hlt
                rw [HG.out] at hG2 hown
                cases hG2
                obtain ⟨hlen, hn0 | ⟨g, cap3, cur, hv, _, hg, _, _, hsz, htk⟩⟩ := hown
                · exact absurd hjl (by omega)
                cases hv
                have hjx : j < xs.length := by omega
                obtain ⟨kk, hkk, hu⟩ := hxs xs[j] (List.getElem_mem hjx)
                have hcj : wr.cell? ⟨g, j, none⟩ = some (.int .i64 kk) := by
                  rw [cell_of_row _ _ _ _ _ _ hg, ← Array.getElem?_toList, ← hu, ← List.getElem?_eq_getElem hjx]
                  conv => rhs; rw [← htk]
                  rw [List.getElem?_take_of_lt (by omega)]
                obtain ⟨_, _, _, hc2, _⟩ := HI.out.1.jc
                have c3 := hc2.c3
                have t := HI.out.1.tc hkk
                obtain ⟨z9, t6⟩ := t.c6
                have f6 := t.fz (kk * 8 + 6)
                have q1 : (j : Int) < (l : Int) := by omega
                have q2 : (kk : Int) < (n : Int) := by omega
                clear hc2 t hxs htk hu hlen hg hsz
                go_wp2
                go_roundw
                case rel => exact ⟨j + 1, by omega, by go_num, HI.out.1.setWait hkk _, HI.out.2.trans (keepF HI.out.1 _ (Or.inr rfl)) (fun _ _ h => h)⟩
                case measure => simp [intOf]; omega
              · go_wp2
                go_roundw
                case rel => exact ⟨k + 1, by omega, by go_num, HI.out⟩
                case measure => simp [intOf]; omega
        · obtain ⟨_, _, _, hc2, _⟩ := HR.out.1.jc
          have c3 := hc2.c3
          clear hc2
          go_wp2
          clear c3
          go_loopw [79] (fun i wr => ∃ (k : Nat) (F' : Nat → Prop), k ≤ n ∧ i = .int .i64 k ∧ Hid (Jb wr lo JB TB n G D k F' ∧ Step w wr F F')) (fun i _ => n - (intOf i).toNat)
          case atStart => exact ⟨0, F, Nat.zero_le _, rfl, HR.out.1, Step.keep HR.out.2⟩
          case round =>
            clear HR
            obtain ⟨k, F', hk, rfl, HR⟩ := hrel
            by_cases hlt : k < n
            · have t := HR.out.1.tc hlt
              have t0 := t.c0
              have t1 := t.c1
              have t2 := t.c2
              have t3 := t.c3
              have t4 := t.c4
              have t5 := t.c5
              obtain ⟨z, t6⟩ := t.c6
              have t7 := t.c7
              obtain ⟨o', l, c, xs, hG, hown, hl, hxs, _⟩ := HR.out.1.thn k hlt
              rw [hG] at t7
              have q : (k : Int) < (n : Int) := by omega
              have HA : Hid (∀ ob : Obj, Jb (wr.alloc ob) lo JB TB n G D k F' ∧ Step w (wr.alloc ob) F F') :=
                fun ob => ⟨HR.out.1.keep (Keep.alloc _ _ _), HR.out.2.trans (Step.of (Keep.alloc _ _ _))⟩
              obtain ⟨_, _, _, hc2, _⟩ := HR.out.1.jc
              obtain ⟨z6, c6⟩ := hc2.c6
              obtain ⟨z7, c7⟩ := hc2.c7
              obtain ⟨z8, c8⟩ := hc2.c8
              have lJ : JB < wr.heap.size := World.block_lt_of_cell? wr _ c6
              have a6 : ∀ ob : Obj, (wr.alloc ob).cell? ⟨JB, 6, none⟩ = some (.int .i64 z6) := fun ob => cell_al ob c6
              have a7 : ∀ ob : Obj, (wr.alloc ob).cell? ⟨JB, 7, none⟩ = some (.int .i64 z7) := fun ob => cell_al ob c7
              have a8 : ∀ ob : Obj, (wr.alloc ob).cell? ⟨JB, 8, none⟩ = some (.int .i64 z8) := fun ob => cell_al ob c8
              have af : ∀ (ob : Obj) (j : Nat), (wr.alloc ob).frozen? ⟨JB, j, none⟩ = false := fun ob j => (World.frozen?_of_block ((World.grownBy_alloc wr ob none).block JB lJ (by simp))).trans (hc2.fz j)
              clear t hown hxs hG hc2 c6 c7 c8
              by_cases h2 : D.S k = 2
              · have e2 : (D.S k == 2) = true := by simp [h2]
                go_wp2
                go_roundw
                case rel => exact ⟨k + 1, F', by omega, by go_num, ((HR.out.1.setCnt 6 (Or.inl rfl) _).le (by omega)).keep (Keep.alloc _ _ _), HR.out.2.trans ((Step.keep (keepF HR.out.1 _ (Or.inl rfl))).trans (Step.of (Keep.alloc _ _ _)))⟩
                case measure => simp [intOf]; omega

              · have e2 : (D.S k == 2) = false := by simp [h2]
                by_cases h6 : D.S k = 6
                · have e6 : (D.S k == 6) = true := by simp [h6]
                  go_wp2
                  go_roundw
                  case rel => exact ⟨k + 1, F', by omega, by go_num, ((HR.out.1.setCnt 7 (Or.inr (Or.inl rfl)) _).le (by omega)).keep (Keep.alloc _ _ _), HR.out.2.trans ((Step.keep (keepF HR.out.1 _ (Or.inl rfl))).trans (Step.of (Keep.alloc _ _ _)))⟩
                  case measure => simp [intOf]; omega

                · have e6 : (D.S k == 6) = false := by simp [h6]
                  by_cases h7 : D.S k = 7
                  · have e7 : (D.S k == 7) = true := by simp [h7]
                    go_wp2
                    go_roundw
                    case rel => exact ⟨k + 1, F', by omega, by go_num, ((HR.out.1.setCnt 8 (Or.inr (Or.inr rfl)) _).le (by omega)).keep (Keep.alloc _ _ _), HR.out.2.trans ((Step.keep (keepF HR.out.1 _ (Or.inl rfl))).trans (Step.of (Keep.alloc _ _ _)))⟩
                    case measure => simp [intOf]; omega

                  · have e7 : (D.S k == 7) = false := by simp [h7]
                    by_cases h1 : D.S k = 1
                    · have e1 : (D.S k == 1) = true := by simp [h1]
                      by_cases hz : z = 0
                      · have ez : (z == 0) = true := by simp [hz]
                        go_wp2_with fail
                        refine ((HA.out _).1.push (by omega) _).mono ?_
                        rintro e w5 ⟨rfl, F5, P1, P2⟩
                        have HP : Hid (Jb w5 lo JB TB n G D (k + 1) F5 ∧ Step w w5 F F5) := ⟨P1, (HA.out _).2.trans P2⟩
                        clear P1 P2
                        go_wp2_with fail
                        go_roundw
                        case rel => exact ⟨k + 1, F5, by omega, by go_num, HP.out⟩
                        case measure => simp [intOf]; omega
                      · have ez : (z == 0) = false := by simp [hz]
                        go_wp2
                        go_roundw
                        case rel => exact ⟨k + 1, F', by omega, by go_num, (HA.out _).1.le (by omega), (HA.out _).2⟩
                        case measure => simp [intOf]; omega

                    · have e1 : (D.S k == 1) = false := by simp [h1]
                      go_wp2
                      go_roundw
                      case rel => exact ⟨k + 1, F', by omega, by go_num, (HA.out _).1.le (by omega), (HA.out _).2⟩
                      case measure => simp [intOf]; omega

            · go_wp2
              go_returns
              obtain rfl : k = n := by omega
              exact ⟨rfl, F', HR.out⟩
end Go.Proofs.Qxb6614022a
