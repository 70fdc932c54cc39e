/-
  ZZdataAndStat; the law's own helpers: zzb1SameBytes, zzb1Need, zzb1StatAt.
-/
import Derived.Test.Qxb6614018aFmtDec5
namespace Go.Proofs.Qxb6614018aFmt
open Go.RowKit Go.Stop
set_option linter.unusedVariables false
set_option linter.unusedSimpArgs false

attribute [local go_sem] eql22 neq22

theorem Data.ofHeap {w w' : World} {M : Nat} {v : Value} {d : Option (List Int)} (h : Data w M v d) (hh : w'.heap[M]? = w.heap[M]?) : Data w' M v d := by
  cases d with
  | none => exact h
  | some l => obtain ⟨o, h0, h1⟩ := h; exact ⟨o, h0, fun i hi => (World.cell?_of_block (w := w) hh).trans (h1 i hi)⟩
theorem Answer.ofHeap {w w' : World} {M : Nat} {s : Option (List Int)} {v ev : Value} {st : Array Value} (h : Answer w M s v ev st) (hh : w'.heap[M]? = w.heap[M]?) : Answer w' M s v ev st := by
  unfold Answer at h ⊢
  split at h
  · exact ⟨h.1.ofHeap hh, h.2⟩
  · exact h

theorem Answer.one {w : World} {M : Nat} {s : Option (List Int)} {v ev : Value} {st : Array Value} (h : Answer w M s v ev st) :
    st.all (·.oneCell') = true ∧ st.size = 11 ∧ (∃ ao n c, v = .slice ao n c) ∧ (ev = .nilIface ∨ ∃ b, ev = .iface 59 (.pointer (some b))) := by
  unfold Answer at h
  split at h
  · obtain ⟨h1, rfl, rfl⟩ := h
    exact ⟨statV_one _, rfl, h1.slice, Or.inl rfl⟩
  · obtain ⟨rfl, rfl, b, rfl⟩ := h
    exact ⟨zeroStat_one, rfl, ⟨_, _, _, rfl⟩, Or.inr ⟨b, rfl⟩⟩

set_option maxHeartbeats 1000000 in
theorem zz_any (F : Interp) (D M : Nat) (s : Option (List Int)) (a0 : Addr) (s0 : ByteArray) (w : World) (hF : F.answers w.tape) (hE : Env w D M a0 s0) (hS : StateW w D M s) (hs : SmallS s) (hD : D < w.heap.size) (hMl : M < w.heap.size) :
    Calls Tryf.prog 6 #[.pointer (some ⟨D, 0, none⟩)] w fun e w' =>
      ∃ v ev st, e = .returned (.tuple #[v, .agg st, ev]) ∧ Answer w' M s v ev st ∧ w.grownBy w' (some D) := by
  go_enter Tryf.func6, Tryf.ntmps6
  go_wp2_with fail
  have hR0 := heap_alloc_new w (.cells zeroStat 25)
  have hg0 := galloc w (.cells zeroStat 25) none
  have hE0 := hE.grown (gany hg0 _)
  have hS0 := hS.grown hg0
  have hD0 : D < (w.alloc (.cells zeroStat 25)).heap.size := by simp; omega
  have hM0 : M < (w.alloc (.cells zeroStat 25)).heap.size := by simp; omega
  rw [show (Obj.cells #[.int .i64 0, .int .i64 0, .int .i64 0, .int .i64 0, .int .i32 0, .int .i32 0, .int .i32 0, .int .i64 0, .int .i32 0, .int .i32 0, .int .i64 0] 25) = .cells zeroStat 25 from rfl]
  generalize w.alloc (.cells zeroStat 25) = w0 at *
  refine (das_any F D M s a0 s0 _ (by rw [hg0.tape]; exact hF) hE0 hS0 hs hD0 hM0).mono ?_
  rintro e w1 ⟨v, ev, st, rfl, hA, hg1⟩
  have hR1 := (hg1.block _ (lt_of_heap hR0) (by simpa using Nat.ne_of_gt hD)).trans hR0
  obtain ⟨h1, h2, ⟨ao, n, c, rfl⟩, h3⟩ := hA.one
  have hi : (Tryf.prog.info? 25).map (·.size) = some st.size := by rw [h2]; exact info25
  have hz : zeroStat.size = st.size := by rw [h2]; rfl
  have H2 : Hid (st.size = 11) := h2
  have HI : Hid ((Tryf.prog.info? 25).map (·.size) = some st.size) := hi
  have HZ : Hid (zeroStat.size = st.size) := hz
  clear h2 hi hz
  rcases h3 with rfl | ⟨b, rfl⟩
  all_goals
    go_wp2_with (refine wpList_store_row rfl 25 _ _ rfl w.heap.size st rfl rfl 25 _ hR1 HI.out HZ.out h1 ?_)
    refine bodyPost_ret (results_tct rfl _ _ w.heap.size 25 st (0, 0) _ rfl (setRow_heap _ _ _ _ _ _ hR1) Tryf.underlying25 rfl HI.out) rfl ⟨_, _, _, rfl, ?_, setRow_grown (gtrans (gany hg0 _) hg1) _ _ (Or.inl (Nat.le_refl _))⟩
    exact hA.ofHeap (setRow_other _ _ _ _ (Nat.ne_of_lt hMl))

/-- A slice value that holds these bytes, up to its length. -/
def Sl (w : World) (v : Value) (l : List Int) : Prop :=
  ∃ ao c, v = .slice ao l.length c ∧ (l ≠ [] → ∃ M o, ao = some ⟨M, o, none⟩ ∧ BytesAt w M o l)

theorem cell_drewN (w : World) (n : Nat) (a : Addr) : (w.drewN n).cell? a = w.cell? a := rfl

set_option maxHeartbeats 400000 in
theorem same_any (v1 v2 : Value) (l : List Int) (w : World) (h1 : Sl w v1 l) (h2 : Sl w v2 l) (hl : l.length ≤ 1048576) :
    Calls Tryf.prog 9 #[v1, v2] w fun e w' => e = .returned (.bool true) ∧ ∃ n, w' = w.drewN n := by
  obtain ⟨ao1, c1, rfl, k1⟩ := h1
  obtain ⟨ao2, c2, rfl, k2⟩ := h2
  have hq : ((l.length : Int) != (l.length : Int)) = false := by simp
  by_cases hn : l = []
  · subst hn
    go_enter Tryf.func9, Tryf.ntmps9
    go_wp2
    refine wp_loop_rounds 1 ?_
    rw [rounds_succ]
    go_wp2
    go_ret
    exact ⟨rfl, 0, rfl⟩
  · obtain ⟨M1, o1, rfl, b1⟩ := k1 hn
    obtain ⟨M2, o2, rfl, b2⟩ := k2 hn
    obtain ⟨n, HN⟩ : ∃ n, Hid (l.length = n) := ⟨_, rfl⟩
    rw [HN.out] at hl hq ⊢
    clear k1 k2
    go_enter Tryf.func9, Tryf.ntmps9
    go_wp2
    go_loopw [5] (fun i wr => ∃ k m : Nat, k ≤ n ∧ i = .int .i64 k ∧ wr = w.drewN m) (fun i _ => n - (intOf i).toNat)
    case atStart => exact ⟨0, 0, Nat.zero_le _, rfl, rfl⟩
    case round =>
      obtain ⟨k, m, hk, rfl, rfl⟩ := hrel
      by_cases hlt : k < n
      · have x1 := b1 k (by rw [HN.out]; exact hlt)
        have x2 := b2 k (by rw [HN.out]; exact hlt)
        obtain ⟨b, HB⟩ : ∃ b, Hid (b = l.getD k 0) := ⟨_, rfl⟩
        rw [← HB.out] at x1 x2
        have hbb : (b != b) = false := by simp
        have q1 : (k : Int) < (n : Int) := by omega
        clear b1 b2
        go_wp2
        go_quiet (fail)
        go_wp2
        go_roundw
        case rel => exact ⟨k + 1, _, by omega, by go_num, rfl⟩
        case measure => simp [intOf]; omega
      · go_wp2
        go_ret
        exact ⟨rfl, m, rfl⟩
end Go.Proofs.Qxb6614018aFmt
