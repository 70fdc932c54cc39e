/-
  The walk of FnDataAndStatIgnoresWhatFollowsTheRecord.
-/
import Derived.Test.Qxb6614018aFmtLaw5
import Derived.Deep.DeepCutAuto
namespace Go.Proofs.Qxb6614018aFmt
open Go.RowKit Go.Stop
set_option linter.unusedVariables false
set_option linter.unusedSimpArgs false

attribute [local go_sem] eql22 neq22

theorem info5 : (Tryf.prog.info? 5).map (fun i => (i.zero, i.size, i.bytes)) = some (some (.int .u8 0), 1, 1) := by kernel_rfl
theorem size5 : (Tryf.prog.info? 5).map (·.size) = some 1 := by kernel_rfl

/-- The cells behind an argument that is a slice of bytes. -/
def ArgAt (w : World) (ao : Option Addr) (c : Nat) (A : List Int) : Prop :=
  (ao = none ∧ A = [] ∧ c = 0) ∨ (∃ ad, ao = some ad ∧ ∀ j v, (A.map (Value.int .u8))[j]? = some v → w.cell? (ad.add j) = some v)

theorem splice_all {α : Type} (cur cs : List α) (h : cs.length = cur.length) : splice cur 0 cs = cs := by
  simp [splice, h]

theorem one_u8 (A : List Int) : ∀ v ∈ A.map (Value.int .u8), v.oneCell' = true := by
  intro v hv
  obtain ⟨x, _, rfl⟩ := List.mem_map.1 hv
  rfl

theorem bytes_of_row {w : World} {M : Nat} {A : List Int} (h : w.heap[M]? = some (.cells (A.map (Value.int .u8)).toArray 5 (0, 0))) : BytesAt w M 0 A := by
  intro i hi
  rw [cell_of_row w M (0 + i) _ _ _ h, Nat.zero_add]
  simp [hi]

theorem splice_two {α : Type} (Z X Y : List α) (h : Z.length = X.length + Y.length) : splice (splice Z 0 X) X.length Y = X ++ Y := by
  simp [splice, h]

theorem Msg.slice {w : World} {v : Value} {M : Nat} {A : List Int} (h : Msg w v M A) : ∃ av cv, v = .slice av A.length cv ∧
    (0 < A.length → ∃ ad, av = some ad ∧ ∀ j v, (A.map (Value.int .u8))[j]? = some v → w.cell? (ad.add j) = some v) := by
  rcases h with ⟨cap, h0, h1, h2, h3⟩ | ⟨rfl, rfl⟩
  · refine ⟨_, cap, h0, fun _ => ⟨_, rfl, fun j v hj => ?_⟩⟩
    have hjl : j < A.length := by
      rcases Nat.lt_or_ge j A.length with h | h
      · exact h
      · rw [List.getElem?_eq_none (by simpa using h)] at hj; cases hj
    have := h3 j hjl
    rw [show (⟨M, 0, none⟩ : Addr).add j = ⟨M, 0 + j, none⟩ from Addr.add_mid M 0 j, this]
    simpa [hjl] using hj
  · exact ⟨none, 0, rfl, fun h => absurd h (by simp)⟩

theorem Answer.whole {w w' : World} {M M' : Nat} {A B : List Int} {v v' ev' : Value} {st st' : Array Value} (h : Answer w M (some A) v .nilIface st) (h' : Answer w' M' (some (A ++ B)) v' ev' st') :
    ev' = .nilIface ∧ st' = st ∧ Data w M v (bufD (some A)) ∧ Data w' M' v' (bufD (some A)) := by
  unfold Answer at h
  split at h
  · rename_i lr hlr
    obtain ⟨h1, h2, _⟩ := h
    obtain ⟨⟨lr', e1⟩, e2, e3⟩ := whole_app A B lr hlr
    unfold Answer at h'
    rw [e1] at h'
    obtain ⟨g1, g2, g3⟩ := h'
    rw [e2] at g1
    rw [e3, ← h2] at g2
    exact ⟨g3, g2, h1, g1⟩
  · obtain ⟨_, _, b, hb⟩ := h
    cases hb

theorem Data.sl {w : World} {M : Nat} {v : Value} {d : Option (List Int)} (h : Data w M v d) : Sl w v (d.getD []) := by
  cases d with
  | none => obtain rfl : v = .slice none 0 0 := h; exact ⟨none, 0, rfl, fun h => absurd rfl h⟩
  | some l => obtain ⟨o, rfl, hb⟩ := h; exact ⟨_, _, rfl, fun _ => ⟨M, o, rfl, hb⟩⟩
theorem Data.isNone {w : World} {M : Nat} {p : Option Addr} {n c : Nat} {d : Option (List Int)} (h : Data w M (.slice p n c) d) : p.isNone = d.isNone := by
  cases d with
  | none =>
    have h' : Value.slice p n c = .slice none 0 0 := h
    simp only [Value.slice.injEq] at h'
    rw [h'.1]; rfl
  | some l =>
    obtain ⟨o, h', _⟩ := h
    simp only [Value.slice.injEq] at h'
    rw [h'.1]; rfl

theorem bufD_len (A : List Int) : ((bufD (some A)).getD []).length ≤ A.length := by
  unfold bufD lenS
  split
  · simp only [nx]
    split
    · simp only [tk]; simp
    · rename_i l hl
      split at hl
      · cases hl
        split
        · simp only [tk]; simp
        · simp only [tk]
          split
          · simp only [Option.getD_some, List.length_take, List.length_drop]; omega
          · simp
      · cases hl
  · simp

set_option maxRecDepth 100000 in
set_option maxHeartbeats 4000000 in
theorem fn3_walk (F : Interp) (ao bo : Option Addr) (A B : List Int) (ca cb : Nat) (a0 : Addr) (s0 : ByteArray) (w : World) (hF : F.answers w.tape)
    (hg : w.cell? ⟨0, 0, none⟩ = some (.iface 64 (.pointer (some a0)))) (ht : w.cell? a0 = some (.string s0))
    (hA : ArgAt w ao ca A) (hB : ArgAt w bo cb B) (sA : Small A) (sB : Small B) (hlen : A.length + B.length ≤ 1048576) :
    Calls Tryf.prog 3 #[.slice ao A.length ca, .slice bo B.length cb] w fun e w' => e = .returned (.bool true) ∧ Below w.heap.size w w' := by
  have HLA : Hid (A.length + B.length ≤ 1048576) := hlen
  obtain ⟨na, HNA⟩ : ∃ n, Hid (A.length = n) := ⟨_, rfl⟩
  obtain ⟨nb, HNB⟩ : ∃ n, Hid (B.length = n) := ⟨_, rfl⟩
  rw [HNA.out, HNB.out] at hlen ⊢
  have hmk1 := run_make_row' (P := Tryf.prog) 22 5 (.int .u8 0) 1 Tryf.underlying22 info5 rfl .i64 .i64 na (by omega) (by omega)
  have hmk2 := run_make_row' (P := Tryf.prog) 22 5 (.int .u8 0) 1 Tryf.underlying22 info5 rfl .i64 .i64 (na + nb) (by omega) (by omega)
  rw [show ((na + nb : Nat) : Int) = (na : Int) + (nb : Int) from by omega] at hmk2
  obtain ⟨CA, HCA⟩ : ∃ C : List Value, Hid (C = A.map (Value.int .u8)) := ⟨_, rfl⟩
  obtain ⟨CB, HCB⟩ : ∃ C : List Value, Hid (C = B.map (Value.int .u8)) := ⟨_, rfl⟩
  have lCA : Hid (CA.length = na) := by show _ = _; rw [HCA.out, List.length_map, HNA.out]
  have lCB : Hid (CB.length = nb) := by show _ = _; rw [HCB.out, List.length_map, HNB.out]
  have oCA : Hid (∀ v ∈ CA, v.oneCell' = true) := by show ∀ _, _; rw [HCA.out]; exact one_u8 A
  have oCB : Hid (∀ v ∈ CB, v.oneCell' = true) := by show ∀ _, _; rw [HCB.out]; exact one_u8 B
  have HA : Hid (ArgAt w ao ca A) := hA
  have HB : Hid (ArgAt w bo cb B) := hB
  clear hA hB
  go_enter Tryf.func3, Tryf.ntmps3
  go_upto_if 27 with (go_at_call 5; refine (bytes5_yes _ _ _ _ _ _ _ hlen).mono ?_; rintro e w' ⟨rfl, hw'⟩; rw [hw']; clear hw' w')
  go_cut [0] (fun vm wc => ∃ M0, Msg wc vm M0 A ∧ M0 < wc.heap.size ∧ Below w.heap.size w wc)
  case first =>
    rcases HA.out with ⟨h1, h2, h3⟩ | ⟨ad, h1, hA⟩
    · subst h1
      have HN0 : Hid (na = 0 ∧ A = [] ∧ ca = 0) := ⟨by have := HNA.out; rw [h2] at this; exact this.symm, h2, h3⟩
      clear hmk1 hmk2 h2 h3
      go_wp2_with fail
      go_meet
      case rel =>
        obtain ⟨h1, h2, h3⟩ := HN0.out
        exact ⟨0, Or.inr ⟨by rw [h1, h3], h2⟩, World.block_lt_of_cell? w _ hg, Below.refl _ _⟩
    · subst h1
      have HAd : Hid (∀ j v, CA[j]? = some v → w.cell? (ad.add j) = some v) := by
        intro j v hj
        rw [HCA.out] at hj
        exact hA j v hj
      clear hA hmk2
      go_wp2_with (refine wpList_copy_g rfl (.tmp 31) (.tmp 32) 22 22 rfl 5 Tryf.underlying22 size5 _ _ _ _ _ _ rfl rfl w.heap.size 0 (madeCells #[.int .u8 0] na).toList 5 (heap_alloc_new w _) CA (by rw [lCA.out]; exact (Nat.min_self _).symm) (fun _ => ⟨rfl, ad, rfl, fun j v hj => cell_al _ (HAd.out j v hj)⟩) (by rw [lCA.out, Array.length_toList, size_madeCells]; omega) oCA.out ?_; intro w1 HM1 hg1)
      go_meet
      case rel =>
        have h1 := HM1.out
        rw [splice_all _ _ (by rw [lCA.out, Array.length_toList, size_madeCells]), HCA.out] at h1
        refine ⟨w.heap.size, Or.inl ⟨na, by rw [HNA.out], by rw [HNA.out]; exact Nat.le_refl _, by omega, bytes_of_row h1⟩, lt_of_heap h1, ?_⟩
        exact ((Below.refl _ w).alloc (Nat.le_refl _) _).grown hg1 (by simp) (fun k hk => by cases hk; exact Nat.le_refl _)
  case rest =>
    obtain ⟨wa, rfl⟩ : ∃ x : World, x = wc := ⟨_, rfl⟩
    obtain ⟨M0, hM, hMl, hB0⟩ := hcut
    obtain ⟨av, cv, hvm, hmp⟩ := hM.slice
    rw [HNA.out] at hvm hmp
    subst hvm
    have HP : Hid (0 < CA.length → ∃ ad, av = some ad ∧ ∀ j v, CA[j]? = some v → wa.cell? (ad.add j) = some v) := by
      intro h
      rw [lCA.out] at h
      rw [HCA.out]
      exact hmp h
    have HQ : Hid (0 < CB.length → ∃ ad, bo = some ad ∧ ∀ j v, CB[j]? = some v → wa.cell? (ad.add j) = some v) := by
      intro h
      rcases HB.out with ⟨h1, h2, h3⟩ | ⟨ad, h1, hB⟩
      · rw [HCB.out, h2] at h; simp at h
      · refine ⟨ad, h1, fun j v hj => ?_⟩
        rw [HCB.out] at hj
        have hc := hB j v hj
        have hlt := World.block_lt_of_cell? w _ hc
        exact (hB0.cell hlt).trans hc
    clear hmp hmk1
    go_upto_region 13 with (refine wpList_copy_g rfl (.tmp 41) (.tmp 42) 22 22 rfl 5 Tryf.underlying22 size5 _ _ _ _ _ _ rfl rfl wa.heap.size 0 (madeCells #[.int .u8 0] (na + nb)).toList 5 (heap_alloc_new wa _) CA (by rw [lCA.out]; exact (Nat.min_eq_left (by omega)).symm) (fun h => by obtain ⟨ad, h1, h2⟩ := HP.out h; exact ⟨rfl, ad, h1, fun j v hj => cell_al _ (h2 j v hj)⟩) (by rw [lCA.out, Array.length_toList, size_madeCells]; omega) oCA.out ?_; intro w2 HM2 hg2)
    simp only [Act.put, List.setIfInBounds_toArray, List.set_cons_succ, List.set_cons_zero]
    go_cut [1, 6] (fun vt vmt wd => vt = .slice bo nb cb ∧ vmt = .slice (some ⟨wa.heap.size, 0, none⟩) (na + nb) (na + nb) ∧ wd.heap[wa.heap.size]? = some (.cells (CA ++ CB).toArray 5 (0, 0)) ∧ w2.grownBy wd (some wa.heap.size))
    case first =>
      have h63 : na + nb ≤ 9223372036854775807 := by omega
      go_wp2_with (refine wpList_copy_g rfl (.tmp 47) (.tmp 48) 22 22 rfl 5 Tryf.underlying22 size5 _ _ _ _ _ _ rfl rfl wa.heap.size na (splice (madeCells #[.int .u8 0] (na + nb)).toList 0 CA) 5 HM2.out CB (by rw [lCB.out]; show nb = min _ _; omega) (fun h => by obtain ⟨ad, h1, h2⟩ := HQ.out h; rw [lCB.out] at h; refine ⟨by first | rfl | rw [if_neg (by omega)] | (split <;> first | rfl | omega), ad, h1, fun j v hj => ?_⟩; have hc := h2 j v hj; exact hg2.cell (cell_al _ hc) (by have := World.block_lt_of_cell? wa _ hc; simp; omega)) (by rw [lCB.out, length_splice _ _ _ (by rw [lCA.out, Array.length_toList, size_madeCells]; omega), Array.length_toList, size_madeCells]; omega) oCB.out ?_; intro w3 HM3 hg3)
      all_goals
        go_meet
        case rel =>
          have hz : splice (splice (madeCells #[.int .u8 0] (na + nb)).toList 0 CA) na CB = CA ++ CB := by
            have := splice_two (madeCells #[.int .u8 0] (na + nb)).toList CA CB (by rw [Array.length_toList, size_madeCells, lCA.out, lCB.out])
            rw [lCA.out] at this
            exact this
          have h3 := HM3.out
          rw [hz] at h3
          refine ⟨?_, ?_, h3, hg3⟩ <;> first | rfl | (simp; omega) | simp
    case rest =>
      obtain ⟨rfl, rfl, hMt, hg3⟩ := hcut
      have hW0 : wa.grownBy wc none := grown_join (World.grownBy.refl wa none) (gtrans (galloc wa _ _) (gtrans hg2 hg3)) (Nat.le_refl _)
      have hMa : Msg wc (.slice av na cv) M0 A := hM.ofHeap (hW0.block M0 hMl (by simp))
      have hM0 : M0 < wc.heap.size := Nat.lt_of_lt_of_le hMl hW0.size
      have hM1 : wa.heap.size < wc.heap.size := lt_of_heap hMt
      have hAB : (A ++ B).length = na + nb := by rw [List.length_append, HNA.out, HNB.out]
      have hMb : Msg wc (.slice (some ⟨wa.heap.size, 0, none⟩) (na + nb) (na + nb)) wa.heap.size (A ++ B) := by
        refine Or.inl ⟨na + nb, by rw [hAB], by rw [hAB]; exact Nat.le_refl _, hlen, bytes_of_row ?_⟩
        rw [List.map_append, ← HCA.out, ← HCB.out]; exact hMt
      have sAB : Small (A ++ B) := fun x hx => by
        rcases List.mem_append.1 hx with h | h
        · exact sA x h
        · exact sB x h
      have hWW : Below w.heap.size w wc := hB0.grown hW0 hB0.size (fun k hk => by cases hk)
      have hg' : wc.cell? ⟨0, 0, none⟩ = some (.iface 64 (.pointer (some a0))) := (hWW.cell (p := ⟨0, 0, none⟩) (World.block_lt_of_cell? w _ hg)).trans hg
      have ht' : wc.cell? a0 = some (.string s0) := (hWW.cell (World.block_lt_of_cell? w _ ht)).trans ht
      have hF' : F.answers wc.tape := by rw [hWW.tape]; exact hF
      have HH : Hid (Msg wc (.slice av na cv) M0 A ∧ M0 < wc.heap.size ∧ Msg wc (.slice (some ⟨wa.heap.size, 0, none⟩) (na + nb) (na + nb)) wa.heap.size (A ++ B) ∧ wa.heap.size < wc.heap.size ∧ Small A ∧ Small (A ++ B) ∧ Below w.heap.size w wc ∧ wc.cell? ⟨0, 0, none⟩ = some (.iface 64 (.pointer (some a0))) ∧ wc.cell? a0 = some (.string s0) ∧ F.answers wc.tape) :=
        ⟨hMa, hM0, hMb, hM1, sA, sAB, hWW, hg', ht', hF'⟩
      clear hMa hM0 hMb hM1 sAB hWW hg' ht' hF' hAB hMt hg3 hg2 HM2 hM hMl hB0 HP HQ hW0 HA HB oCA oCB lCA lCB HCA HCB hg ht hF sA sB hmk2
      obtain ⟨M1, hM1e⟩ : ∃ M1, M1 = wa.heap.size := ⟨_, rfl⟩
      rw [← hM1e] at HH ⊢
      clear hM1e
      go_wp2_with (first | (go_at_call 7; refine (newdec_any _ _ _ _).mono ?_; rintro e w' ⟨rfl, rfl⟩))
      obtain ⟨hMa, hM0, hMb, hM1, sA, sAB, hWW, hg', ht', hF'⟩ := HH.out
      clear HH
      refine (decode_any F M0 _ A a0 s0 wc hF' hMa hM0 sA hg' ht').mono ?_
      rintro e w1 ⟨v1, ev1, st1, rfl, hA1, k1⟩
      obtain ⟨one1, _, ⟨p1, n1, c1, hv1⟩, hev1⟩ := hA1.one
      obtain ⟨x0, x1, x2, x3, x4, x5, x6, x7, x8, x9, x10, hst1⟩ := hA1.lit
      subst hv1 hst1
      have kX : w1.grownBy ((w1.alloc (.cells #[.int .i64 0, .int .i64 0, .int .i64 0, .int .i64 0, .int .i32 0, .int .i32 0, .int .i32 0, .int .i64 0, .int .i32 0, .int .i32 0, .int .i64 0] 25)).setRow w1.heap.size #[.int .i64 x0, .int .i64 x1, .int .i64 x2, .int .i64 x3, .int .i32 x4, .int .i32 x5, .int .i32 x6, .int .i64 x7, .int .i32 x8, .int .i32 x9, .int .i64 x10]) none := setRow_grown (galloc _ _ _) _ _ (Or.inl (Nat.le_refl _))
      have hS1 := setRow_heap _ w1.heap.size _ #[.int .i64 x0, .int .i64 x1, .int .i64 x2, .int .i64 x3, .int .i32 x4, .int .i32 x5, .int .i32 x6, .int .i64 x7, .int .i32 x8, .int .i32 x9, .int .i64 x10] 25 (0, 0) (heap_alloc_new w1 (.cells #[.int .i64 0, .int .i64 0, .int .i64 0, .int .i64 0, .int .i32 0, .int .i32 0, .int .i32 0, .int .i64 0, .int .i32 0, .int .i32 0, .int .i64 0] 25))
      have kk := gtrans k1 kX
      have hA1' := hA1.ofHeap (kX.block M0 (Nat.lt_of_lt_of_le hM0 k1.size) (by simp))
      have hMa' := hMa.ofHeap (kk.block M0 hM0 (by simp))
      have hMb' := hMb.ofHeap (kk.block M1 hM1 (by simp))
      have hM0' := Nat.lt_of_lt_of_le hM0 kk.size
      have hM1' := Nat.lt_of_lt_of_le hM1 kk.size
      have hWW' := hWW.grown kk hWW.size (fun k hk => by cases hk)
      have hg2' := kk.cell hg' (by simp)
      have ht2' := kk.cell ht' (by simp)
      have hF2' : F.answers ((w1.alloc (.cells #[.int .i64 0, .int .i64 0, .int .i64 0, .int .i64 0, .int .i32 0, .int .i32 0, .int .i32 0, .int .i64 0, .int .i32 0, .int .i32 0, .int .i64 0] 25)).setRow w1.heap.size #[.int .i64 x0, .int .i64 x1, .int .i64 x2, .int .i64 x3, .int .i32 x4, .int .i32 x5, .int .i32 x6, .int .i64 x7, .int .i32 x8, .int .i32 x9, .int .i64 x10]).tape := by rw [kk.tape]; exact hF'
      clear hA1 hMa hMb hM0 hM1 hWW hg' ht' hF' k1 kk kX
      go_wp2_with (first | (go_at_call 7; refine (newdec_any _ _ _ _).mono ?_; rintro e w' ⟨rfl, rfl⟩) | (refine wpList_store_row rfl 25 _ _ rfl w1.heap.size #[.int .i64 x0, .int .i64 x1, .int .i64 x2, .int .i64 x3, .int .i32 x4, .int .i32 x5, .int .i32 x6, .int .i64 x7, .int .i32 x8, .int .i32 x9, .int .i64 x10] rfl rfl 25 _ (heap_alloc_new w1 _) info25 rfl one1 ?_))
      have hsz : w1.heap.size + 1 = ((w1.alloc (.cells #[.int .i64 0, .int .i64 0, .int .i64 0, .int .i64 0, .int .i32 0, .int .i32 0, .int .i32 0, .int .i64 0, .int .i32 0, .int .i32 0, .int .i64 0] 25)).setRow w1.heap.size #[.int .i64 x0, .int .i64 x1, .int .i64 x2, .int .i64 x3, .int .i32 x4, .int .i32 x5, .int .i32 x6, .int .i64 x7, .int .i32 x8, .int .i32 x9, .int .i64 x10]).heap.size := by simp
      rw [hsz]
      clear hsz
      generalize (w1.alloc (.cells #[.int .i64 0, .int .i64 0, .int .i64 0, .int .i64 0, .int .i32 0, .int .i32 0, .int .i32 0, .int .i64 0, .int .i32 0, .int .i32 0, .int .i64 0] 25)).setRow w1.heap.size #[.int .i64 x0, .int .i64 x1, .int .i64 x2, .int .i64 x3, .int .i32 x4, .int .i32 x5, .int .i32 x6, .int .i64 x7, .int .i32 x8, .int .i32 x9, .int .i64 x10] = w2 at *
      obtain ⟨B1, hB1⟩ : ∃ b, b = w1.heap.size := ⟨_, rfl⟩
      rw [← hB1] at hS1 ⊢
      clear hB1
      refine (decode_any F M1 _ (A ++ B) a0 s0 w2 hF2' hMb' hM1' sAB hg2' ht2').mono ?_
      rintro e w3 ⟨v2, ev2, st2, rfl, hA2, k2⟩
      obtain ⟨one2, _, ⟨p2, n2, c2, hv2⟩, hev2⟩ := hA2.one
      obtain ⟨y0, y1, y2, y3, y4, y5, y6, y7, y8, y9, y10, hst2⟩ := hA2.lit
      subst hv2 hst2
      have kX : w3.grownBy ((w3.alloc (.cells #[.int .i64 0, .int .i64 0, .int .i64 0, .int .i64 0, .int .i32 0, .int .i32 0, .int .i32 0, .int .i64 0, .int .i32 0, .int .i32 0, .int .i64 0] 25)).setRow w3.heap.size #[.int .i64 y0, .int .i64 y1, .int .i64 y2, .int .i64 y3, .int .i32 y4, .int .i32 y5, .int .i32 y6, .int .i64 y7, .int .i32 y8, .int .i32 y9, .int .i64 y10]) none := setRow_grown (galloc _ _ _) _ _ (Or.inl (Nat.le_refl _))
      have hS2 := setRow_heap _ w3.heap.size _ #[.int .i64 y0, .int .i64 y1, .int .i64 y2, .int .i64 y3, .int .i32 y4, .int .i32 y5, .int .i32 y6, .int .i64 y7, .int .i32 y8, .int .i32 y9, .int .i64 y10] 25 (0, 0) (heap_alloc_new w3 (.cells #[.int .i64 0, .int .i64 0, .int .i64 0, .int .i64 0, .int .i32 0, .int .i32 0, .int .i32 0, .int .i64 0, .int .i32 0, .int .i32 0, .int .i64 0] 25))
      have kk := gtrans k2 kX
      have hA1 := hA1'.ofHeap (kk.block M0 hM0' (by simp))
      have hA2' := hA2.ofHeap (kX.block M1 (Nat.lt_of_lt_of_le hM1' k2.size) (by simp))
      have hMa := hMa'.ofHeap (kk.block M0 hM0' (by simp))
      have hMb := hMb'.ofHeap (kk.block M1 hM1' (by simp))
      have hM0 := Nat.lt_of_lt_of_le hM0' kk.size
      have hM1 := Nat.lt_of_lt_of_le hM1' kk.size
      have hWW := hWW'.grown kk hWW'.size (fun k hk => by cases hk)
      have hS1' := (kk.block B1 (lt_of_heap hS1) (by simp)).trans hS1
      clear hA1' hA2 hMa' hMb' hM0' hM1' hWW' hg2' ht2' hF2' k2 kk kX hS1
      go_wp2_with (first | (refine wpList_store_row rfl 25 _ _ rfl w3.heap.size #[.int .i64 y0, .int .i64 y1, .int .i64 y2, .int .i64 y3, .int .i32 y4, .int .i32 y5, .int .i32 y6, .int .i64 y7, .int .i32 y8, .int .i32 y9, .int .i64 y10] rfl rfl 25 _ (heap_alloc_new w3 _) info25 rfl one2 ?_))
      generalize (w3.alloc (.cells #[.int .i64 0, .int .i64 0, .int .i64 0, .int .i64 0, .int .i32 0, .int .i32 0, .int .i32 0, .int .i64 0, .int .i32 0, .int .i32 0, .int .i64 0] 25)).setRow w3.heap.size #[.int .i64 y0, .int .i64 y1, .int .i64 y2, .int .i64 y3, .int .i32 y4, .int .i32 y5, .int .i32 y6, .int .i64 y7, .int .i32 y8, .int .i32 y9, .int .i64 y10] = w4 at *
      obtain ⟨B2, hB2⟩ : ∃ b, b = w3.heap.size := ⟨_, rfl⟩
      rw [← hB2] at hS2 ⊢
      clear hB2
      have HS1 : Hid (w4.heap[B1]? = some (.cells #[.int .i64 x0, .int .i64 x1, .int .i64 x2, .int .i64 x3, .int .i32 x4, .int .i32 x5, .int .i32 x6, .int .i64 x7, .int .i32 x8, .int .i32 x9, .int .i64 x10] 25 (0, 0))) := hS1'
      have HS2 : Hid (w4.heap[B2]? = some (.cells #[.int .i64 y0, .int .i64 y1, .int .i64 y2, .int .i64 y3, .int .i32 y4, .int .i32 y5, .int .i32 y6, .int .i64 y7, .int .i32 y8, .int .i32 y9, .int .i64 y10] 25 (0, 0))) := hS2
      have HH : Hid (Answer w4 M0 (some A) (.slice p1 n1 c1) ev1 #[.int .i64 x0, .int .i64 x1, .int .i64 x2, .int .i64 x3, .int .i32 x4, .int .i32 x5, .int .i32 x6, .int .i64 x7, .int .i32 x8, .int .i32 x9, .int .i64 x10] ∧ Answer w4 M1 (some (A ++ B)) (.slice p2 n2 c2) ev2 #[.int .i64 y0, .int .i64 y1, .int .i64 y2, .int .i64 y3, .int .i32 y4, .int .i32 y5, .int .i32 y6, .int .i64 y7, .int .i32 y8, .int .i32 y9, .int .i64 y10] ∧ Msg w4 (.slice av na cv) M0 A ∧ Msg w4 (.slice (some ⟨M1, 0, none⟩) (na + nb) (na + nb)) M1 (A ++ B) ∧ M0 < w4.heap.size ∧ M1 < w4.heap.size ∧ Below w.heap.size w w4 ∧ Small A ∧ Small (A ++ B)) := ⟨hA1, hA2', hMa, hMb, hM0, hM1, hWW, sA, sAB⟩
      clear hS1' hS2 hA1 hA2' hMa hMb hM0 hM1 hWW sA sAB one1 one2
      rcases hev1 with h | ⟨b1, h⟩
      · subst h
        have qx0 : w4.cell? ⟨B1, 0, none⟩ = some (.int .i64 x0) := cell_of_row _ _ _ _ _ _ HS1.out
        have qx1 : w4.cell? ⟨B1, 1, none⟩ = some (.int .i64 x1) := cell_of_row _ _ _ _ _ _ HS1.out
        have qx2 : w4.cell? ⟨B1, 2, none⟩ = some (.int .i64 x2) := cell_of_row _ _ _ _ _ _ HS1.out
        have qx3 : w4.cell? ⟨B1, 3, none⟩ = some (.int .i64 x3) := cell_of_row _ _ _ _ _ _ HS1.out
        have qx4 : w4.cell? ⟨B1, 4, none⟩ = some (.int .i32 x4) := cell_of_row _ _ _ _ _ _ HS1.out
        have qx5 : w4.cell? ⟨B1, 5, none⟩ = some (.int .i32 x5) := cell_of_row _ _ _ _ _ _ HS1.out
        have qx6 : w4.cell? ⟨B1, 6, none⟩ = some (.int .i32 x6) := cell_of_row _ _ _ _ _ _ HS1.out
        have qx7 : w4.cell? ⟨B1, 7, none⟩ = some (.int .i64 x7) := cell_of_row _ _ _ _ _ _ HS1.out
        have qx8 : w4.cell? ⟨B1, 8, none⟩ = some (.int .i32 x8) := cell_of_row _ _ _ _ _ _ HS1.out
        have qx9 : w4.cell? ⟨B1, 9, none⟩ = some (.int .i32 x9) := cell_of_row _ _ _ _ _ _ HS1.out
        have qx10 : w4.cell? ⟨B1, 10, none⟩ = some (.int .i64 x10) := cell_of_row _ _ _ _ _ _ HS1.out
        go_region_held3 (fun w' => w'.cell? ⟨B1, 0, none⟩ = some (.int .i64 x0) ∧ w'.cell? ⟨B1, 1, none⟩ = some (.int .i64 x1) ∧ w'.cell? ⟨B1, 2, none⟩ = some (.int .i64 x2) ∧ w'.cell? ⟨B1, 3, none⟩ = some (.int .i64 x3) ∧ w'.cell? ⟨B1, 4, none⟩ = some (.int .i32 x4) ∧ w'.cell? ⟨B1, 5, none⟩ = some (.int .i32 x5) ∧ w'.cell? ⟨B1, 6, none⟩ = some (.int .i32 x6) ∧ w'.cell? ⟨B1, 7, none⟩ = some (.int .i64 x7) ∧ w'.cell? ⟨B1, 8, none⟩ = some (.int .i32 x8) ∧ w'.cell? ⟨B1, 9, none⟩ = some (.int .i32 x9) ∧ w'.cell? ⟨B1, 10, none⟩ = some (.int .i64 x10)) (first | go_keep | (refine ⟨?_, ?_, ?_, ?_, ?_, ?_, ?_, ?_, ?_, ?_, ?_⟩ <;> exact hg5.cell (by assumption) (by simp))) ((go_at_call 8; refine (rec_any M0 _ _ .nilIface _ A _ _ (by exact HH.out.2.2.1) HH.out.2.2.2.2.2.2.2.1 (by exact HH.out.2.2.2.2.1) (by exact HH.out.1) rfl).mono ?_; rintro e w5 ⟨rfl, hg5⟩))
        have k5 := gtrans (gdrew w4 none) hg5
        have R1 : Hid (w5.heap[B1]? = some (.cells #[.int .i64 x0, .int .i64 x1, .int .i64 x2, .int .i64 x3, .int .i32 x4, .int .i32 x5, .int .i32 x6, .int .i64 x7, .int .i32 x8, .int .i32 x9, .int .i64 x10] 25 (0, 0))) := (k5.block B1 (lt_of_heap HS1.out) (by simp)).trans HS1.out
        have R2 : Hid (w5.heap[B2]? = some (.cells #[.int .i64 y0, .int .i64 y1, .int .i64 y2, .int .i64 y3, .int .i32 y4, .int .i32 y5, .int .i32 y6, .int .i64 y7, .int .i32 y8, .int .i32 y9, .int .i64 y10] 25 (0, 0))) := (k5.block B2 (lt_of_heap HS2.out) (by simp)).trans HS2.out
        have RM0 : Hid (w4.heap.size ≤ w5.heap.size) := k5.size
        have RA1 : Hid (Answer w5 M0 (some A) (.slice p1 n1 c1) .nilIface #[.int .i64 x0, .int .i64 x1, .int .i64 x2, .int .i64 x3, .int .i32 x4, .int .i32 x5, .int .i32 x6, .int .i64 x7, .int .i32 x8, .int .i32 x9, .int .i64 x10]) := HH.out.1.ofHeap (k5.block M0 HH.out.2.2.2.2.1 (by simp))
        have RA2 : Hid (Answer w5 M1 (some (A ++ B)) (.slice p2 n2 c2) ev2 #[.int .i64 y0, .int .i64 y1, .int .i64 y2, .int .i64 y3, .int .i32 y4, .int .i32 y5, .int .i32 y6, .int .i64 y7, .int .i32 y8, .int .i32 y9, .int .i64 y10]) := HH.out.2.1.ofHeap (k5.block M1 HH.out.2.2.2.2.2.1 (by simp))
        have RMb : Hid (Msg w5 (.slice (some ⟨M1, 0, none⟩) (na + nb) (na + nb)) M1 (A ++ B)) := HH.out.2.2.2.1.ofHeap (k5.block M1 HH.out.2.2.2.2.2.1 (by simp))
        have RM1 : Hid (M1 < w5.heap.size) := Nat.lt_of_lt_of_le HH.out.2.2.2.2.2.1 k5.size
        have RB : Hid (Below w.heap.size w w5) := HH.out.2.2.2.2.2.2.1.grown k5 HH.out.2.2.2.2.2.2.1.size (fun k hk => by cases hk)
        clear hg5
        obtain ⟨e1, e2, d1, d2⟩ := Answer.whole RA1.out RA2.out
        subst e1
        clear hev2
        have E2 : Hid ((#[.int .i64 y0, .int .i64 y1, .int .i64 y2, .int .i64 y3, .int .i32 y4, .int .i32 y5, .int .i32 y6, .int .i64 y7, .int .i32 y8, .int .i32 y9, .int .i64 y10] : Array Value) = #[.int .i64 x0, .int .i64 x1, .int .i64 x2, .int .i64 x3, .int .i32 x4, .int .i32 x5, .int .i32 x6, .int .i64 x7, .int .i32 x8, .int .i32 x9, .int .i64 x10]) := e2
        have D1 : Hid (Data w5 M0 (.slice p1 n1 c1) (bufD (some A))) := d1
        have D2 : Hid (Data w5 M1 (.slice p2 n2 c2) (bufD (some A))) := d2
        clear e2 d1 d2 qx0 qx1 qx2 qx3 qx4 qx5 qx6 qx7 qx8 qx9 qx10 k5
        have qy0 : w5.cell? ⟨B2, 0, none⟩ = some (.int .i64 y0) := cell_of_row _ _ _ _ _ _ R2.out
        have qy1 : w5.cell? ⟨B2, 1, none⟩ = some (.int .i64 y1) := cell_of_row _ _ _ _ _ _ R2.out
        have qy2 : w5.cell? ⟨B2, 2, none⟩ = some (.int .i64 y2) := cell_of_row _ _ _ _ _ _ R2.out
        have qy3 : w5.cell? ⟨B2, 3, none⟩ = some (.int .i64 y3) := cell_of_row _ _ _ _ _ _ R2.out
        have qy4 : w5.cell? ⟨B2, 4, none⟩ = some (.int .i32 y4) := cell_of_row _ _ _ _ _ _ R2.out
        have qy5 : w5.cell? ⟨B2, 5, none⟩ = some (.int .i32 y5) := cell_of_row _ _ _ _ _ _ R2.out
        have qy6 : w5.cell? ⟨B2, 6, none⟩ = some (.int .i32 y6) := cell_of_row _ _ _ _ _ _ R2.out
        have qy7 : w5.cell? ⟨B2, 7, none⟩ = some (.int .i64 y7) := cell_of_row _ _ _ _ _ _ R2.out
        have qy8 : w5.cell? ⟨B2, 8, none⟩ = some (.int .i32 y8) := cell_of_row _ _ _ _ _ _ R2.out
        have qy9 : w5.cell? ⟨B2, 9, none⟩ = some (.int .i32 y9) := cell_of_row _ _ _ _ _ _ R2.out
        have qy10 : w5.cell? ⟨B2, 10, none⟩ = some (.int .i64 y10) := cell_of_row _ _ _ _ _ _ R2.out
        go_wp2_with fail
        go_region_held3 (fun w' => w'.cell? ⟨B2, 0, none⟩ = some (.int .i64 y0) ∧ w'.cell? ⟨B2, 1, none⟩ = some (.int .i64 y1) ∧ w'.cell? ⟨B2, 2, none⟩ = some (.int .i64 y2) ∧ w'.cell? ⟨B2, 3, none⟩ = some (.int .i64 y3) ∧ w'.cell? ⟨B2, 4, none⟩ = some (.int .i32 y4) ∧ w'.cell? ⟨B2, 5, none⟩ = some (.int .i32 y5) ∧ w'.cell? ⟨B2, 6, none⟩ = some (.int .i32 y6) ∧ w'.cell? ⟨B2, 7, none⟩ = some (.int .i64 y7) ∧ w'.cell? ⟨B2, 8, none⟩ = some (.int .i32 y8) ∧ w'.cell? ⟨B2, 9, none⟩ = some (.int .i32 y9) ∧ w'.cell? ⟨B2, 10, none⟩ = some (.int .i64 y10)) (first | go_keep | (refine ⟨?_, ?_, ?_, ?_, ?_, ?_, ?_, ?_, ?_, ?_, ?_⟩ <;> exact hg6.cell (by assumption) (by simp))) ((go_at_call 8; refine (rec_any M1 _ _ .nilIface _ (A ++ B) _ _ (by exact RMb.out) HH.out.2.2.2.2.2.2.2.2 (by exact RM1.out) (by exact RA2.out) rfl).mono ?_; rintro e w6 ⟨rfl, hg6⟩))
        have k6 := gtrans (gdrew w5 none) hg6
        obtain ⟨r0, r1, r2, r3, r4, r5, r6, r7, r8, r9, r10⟩ : x0 = y0 ∧ x1 = y1 ∧ x2 = y2 ∧ x3 = y3 ∧ x4 = y4 ∧ x5 = y5 ∧ x6 = y6 ∧ x7 = y7 ∧ x8 = y8 ∧ x9 = y9 ∧ x10 = y10 := by have := E2.out.symm; simpa using this
        subst r0 r1 r2 r3 r4 r5 r6 r7 r8 r9 r10
        have T1 : Hid (w6.heap[B1]? = some (.cells #[.int .i64 x0, .int .i64 x1, .int .i64 x2, .int .i64 x3, .int .i32 x4, .int .i32 x5, .int .i32 x6, .int .i64 x7, .int .i32 x8, .int .i32 x9, .int .i64 x10] 25 (0, 0))) := (k6.block B1 (lt_of_heap R1.out) (by simp)).trans R1.out
        have T2 : Hid (w6.heap[B2]? = some (.cells #[.int .i64 x0, .int .i64 x1, .int .i64 x2, .int .i64 x3, .int .i32 x4, .int .i32 x5, .int .i32 x6, .int .i64 x7, .int .i32 x8, .int .i32 x9, .int .i64 x10] 25 (0, 0))) := by
          have := (k6.block B2 (lt_of_heap R2.out) (by simp)).trans R2.out
          rw [E2.out] at this; exact this
        have DD1 : Hid (Data w6 M0 (.slice p1 n1 c1) (bufD (some A))) := D1.out.ofHeap (k6.block M0 (Nat.lt_of_lt_of_le HH.out.2.2.2.2.1 (RM0.out)) (by simp))
        have DD2 : Hid (Data w6 M1 (.slice p2 n2 c2) (bufD (some A))) := D2.out.ofHeap (k6.block M1 RM1.out (by simp))
        have RB6 : Hid (Below w.heap.size w w6) := RB.out.grown k6 RB.out.size (fun k hk => by cases hk)
        have hp1 := DD1.out.isNone
        have hp2 := DD2.out.isNone
        have HL : Hid (((bufD (some A)).getD []).length ≤ 1048576) := by have := bufD_len A; have := HNA.out; show _ ≤ _; omega
        generalize (bufD (some A)).isNone = bn at hp1 hp2
        have px0 : w6.cell? ⟨B1, 0, none⟩ = some (.int .i64 x0) := cell_of_row _ _ _ _ _ _ T1.out
        have py0 : w6.cell? ⟨B2, 0, none⟩ = some (.int .i64 x0) := cell_of_row _ _ _ _ _ _ T2.out
        have px1 : w6.cell? ⟨B1, 1, none⟩ = some (.int .i64 x1) := cell_of_row _ _ _ _ _ _ T1.out
        have py1 : w6.cell? ⟨B2, 1, none⟩ = some (.int .i64 x1) := cell_of_row _ _ _ _ _ _ T2.out
        have px2 : w6.cell? ⟨B1, 2, none⟩ = some (.int .i64 x2) := cell_of_row _ _ _ _ _ _ T1.out
        have py2 : w6.cell? ⟨B2, 2, none⟩ = some (.int .i64 x2) := cell_of_row _ _ _ _ _ _ T2.out
        have px3 : w6.cell? ⟨B1, 3, none⟩ = some (.int .i64 x3) := cell_of_row _ _ _ _ _ _ T1.out
        have py3 : w6.cell? ⟨B2, 3, none⟩ = some (.int .i64 x3) := cell_of_row _ _ _ _ _ _ T2.out
        have px4 : w6.cell? ⟨B1, 4, none⟩ = some (.int .i32 x4) := cell_of_row _ _ _ _ _ _ T1.out
        have py4 : w6.cell? ⟨B2, 4, none⟩ = some (.int .i32 x4) := cell_of_row _ _ _ _ _ _ T2.out
        have px5 : w6.cell? ⟨B1, 5, none⟩ = some (.int .i32 x5) := cell_of_row _ _ _ _ _ _ T1.out
        have py5 : w6.cell? ⟨B2, 5, none⟩ = some (.int .i32 x5) := cell_of_row _ _ _ _ _ _ T2.out
        have px6 : w6.cell? ⟨B1, 6, none⟩ = some (.int .i32 x6) := cell_of_row _ _ _ _ _ _ T1.out
        have py6 : w6.cell? ⟨B2, 6, none⟩ = some (.int .i32 x6) := cell_of_row _ _ _ _ _ _ T2.out
        have px7 : w6.cell? ⟨B1, 7, none⟩ = some (.int .i64 x7) := cell_of_row _ _ _ _ _ _ T1.out
        have py7 : w6.cell? ⟨B2, 7, none⟩ = some (.int .i64 x7) := cell_of_row _ _ _ _ _ _ T2.out
        have px8 : w6.cell? ⟨B1, 8, none⟩ = some (.int .i32 x8) := cell_of_row _ _ _ _ _ _ T1.out
        have py8 : w6.cell? ⟨B2, 8, none⟩ = some (.int .i32 x8) := cell_of_row _ _ _ _ _ _ T2.out
        have px9 : w6.cell? ⟨B1, 9, none⟩ = some (.int .i32 x9) := cell_of_row _ _ _ _ _ _ T1.out
        have py9 : w6.cell? ⟨B2, 9, none⟩ = some (.int .i32 x9) := cell_of_row _ _ _ _ _ _ T2.out
        have px10 : w6.cell? ⟨B1, 10, none⟩ = some (.int .i64 x10) := cell_of_row _ _ _ _ _ _ T1.out
        have py10 : w6.cell? ⟨B2, 10, none⟩ = some (.int .i64 x10) := cell_of_row _ _ _ _ _ _ T2.out
        clear hg6 k6 qy0 qy1 qy2 qy3 qy4 qy5 qy6 qy7 qy8 qy9 qy10 E2 D1 D2 R1 R2
        have tt0 : (x0 == x0) = true := by simp
        have tt1 : (x1 == x1) = true := by simp
        have tt2 : (x2 == x2) = true := by simp
        have tt3 : (x3 == x3) = true := by simp
        have tt4 : (x4 == x4) = true := by simp
        have tt5 : (x5 == x5) = true := by simp
        have tt6 : (x6 == x6) = true := by simp
        have tt7 : (x7 == x7) = true := by simp
        have tt8 : (x8 == x8) = true := by simp
        have tt9 : (x9 == x9) = true := by simp
        have tt10 : (x10 == x10) = true := by simp
        go_wp2_with fail
        refine (same_any _ _ ((bufD (some A)).getD []) _ (by exact DD2.out.sl) (by exact DD1.out.sl) HL.out).mono ?_
        rintro e w7 ⟨rfl, m7, rfl⟩
        go_wp2_with fail
        go_ret
        exact ⟨rfl, RB6.out.grown (grown_drewN w6 m7 none) RB6.out.size (fun k hk => by cases hk)⟩
      · subst h
        have qx0 : w4.cell? ⟨B1, 0, none⟩ = some (.int .i64 x0) := cell_of_row _ _ _ _ _ _ HS1.out
        have qx1 : w4.cell? ⟨B1, 1, none⟩ = some (.int .i64 x1) := cell_of_row _ _ _ _ _ _ HS1.out
        have qx2 : w4.cell? ⟨B1, 2, none⟩ = some (.int .i64 x2) := cell_of_row _ _ _ _ _ _ HS1.out
        have qx3 : w4.cell? ⟨B1, 3, none⟩ = some (.int .i64 x3) := cell_of_row _ _ _ _ _ _ HS1.out
        have qx4 : w4.cell? ⟨B1, 4, none⟩ = some (.int .i32 x4) := cell_of_row _ _ _ _ _ _ HS1.out
        have qx5 : w4.cell? ⟨B1, 5, none⟩ = some (.int .i32 x5) := cell_of_row _ _ _ _ _ _ HS1.out
        have qx6 : w4.cell? ⟨B1, 6, none⟩ = some (.int .i32 x6) := cell_of_row _ _ _ _ _ _ HS1.out
        have qx7 : w4.cell? ⟨B1, 7, none⟩ = some (.int .i64 x7) := cell_of_row _ _ _ _ _ _ HS1.out
        have qx8 : w4.cell? ⟨B1, 8, none⟩ = some (.int .i32 x8) := cell_of_row _ _ _ _ _ _ HS1.out
        have qx9 : w4.cell? ⟨B1, 9, none⟩ = some (.int .i32 x9) := cell_of_row _ _ _ _ _ _ HS1.out
        have qx10 : w4.cell? ⟨B1, 10, none⟩ = some (.int .i64 x10) := cell_of_row _ _ _ _ _ _ HS1.out
        go_region_held3 (fun w' => w'.cell? ⟨B1, 0, none⟩ = some (.int .i64 x0) ∧ w'.cell? ⟨B1, 1, none⟩ = some (.int .i64 x1) ∧ w'.cell? ⟨B1, 2, none⟩ = some (.int .i64 x2) ∧ w'.cell? ⟨B1, 3, none⟩ = some (.int .i64 x3) ∧ w'.cell? ⟨B1, 4, none⟩ = some (.int .i32 x4) ∧ w'.cell? ⟨B1, 5, none⟩ = some (.int .i32 x5) ∧ w'.cell? ⟨B1, 6, none⟩ = some (.int .i32 x6) ∧ w'.cell? ⟨B1, 7, none⟩ = some (.int .i64 x7) ∧ w'.cell? ⟨B1, 8, none⟩ = some (.int .i32 x8) ∧ w'.cell? ⟨B1, 9, none⟩ = some (.int .i32 x9) ∧ w'.cell? ⟨B1, 10, none⟩ = some (.int .i64 x10)) (first | go_keep | (refine ⟨?_, ?_, ?_, ?_, ?_, ?_, ?_, ?_, ?_, ?_, ?_⟩ <;> exact hg5.cell (by assumption) (by simp))) ((go_at_call 8; refine (rec_any M0 _ _ (.iface 59 (.pointer (some b1))) _ A _ _ (by exact HH.out.2.2.1) HH.out.2.2.2.2.2.2.2.1 (by exact HH.out.2.2.2.2.1) (by exact HH.out.1) rfl).mono ?_; rintro e w5 ⟨rfl, hg5⟩))
        have k5 := gtrans (gdrew w4 none) hg5
        have R1 : Hid (w5.heap[B1]? = some (.cells #[.int .i64 x0, .int .i64 x1, .int .i64 x2, .int .i64 x3, .int .i32 x4, .int .i32 x5, .int .i32 x6, .int .i64 x7, .int .i32 x8, .int .i32 x9, .int .i64 x10] 25 (0, 0))) := (k5.block B1 (lt_of_heap HS1.out) (by simp)).trans HS1.out
        have R2 : Hid (w5.heap[B2]? = some (.cells #[.int .i64 y0, .int .i64 y1, .int .i64 y2, .int .i64 y3, .int .i32 y4, .int .i32 y5, .int .i32 y6, .int .i64 y7, .int .i32 y8, .int .i32 y9, .int .i64 y10] 25 (0, 0))) := (k5.block B2 (lt_of_heap HS2.out) (by simp)).trans HS2.out
        have RA1 : Hid (Answer w5 M0 (some A) (.slice p1 n1 c1) (.iface 59 (.pointer (some b1))) #[.int .i64 x0, .int .i64 x1, .int .i64 x2, .int .i64 x3, .int .i32 x4, .int .i32 x5, .int .i32 x6, .int .i64 x7, .int .i32 x8, .int .i32 x9, .int .i64 x10]) := HH.out.1.ofHeap (k5.block M0 HH.out.2.2.2.2.1 (by simp))
        have RA2 : Hid (Answer w5 M1 (some (A ++ B)) (.slice p2 n2 c2) ev2 #[.int .i64 y0, .int .i64 y1, .int .i64 y2, .int .i64 y3, .int .i32 y4, .int .i32 y5, .int .i32 y6, .int .i64 y7, .int .i32 y8, .int .i32 y9, .int .i64 y10]) := HH.out.2.1.ofHeap (k5.block M1 HH.out.2.2.2.2.2.1 (by simp))
        have RMb : Hid (Msg w5 (.slice (some ⟨M1, 0, none⟩) (na + nb) (na + nb)) M1 (A ++ B)) := HH.out.2.2.2.1.ofHeap (k5.block M1 HH.out.2.2.2.2.2.1 (by simp))
        have RM1 : Hid (M1 < w5.heap.size) := Nat.lt_of_lt_of_le HH.out.2.2.2.2.2.1 k5.size
        have RB : Hid (Below w.heap.size w w5) := HH.out.2.2.2.2.2.2.1.grown k5 HH.out.2.2.2.2.2.2.1.size (fun k hk => by cases hk)
        clear hg5
        clear qx0 qx1 qx2 qx3 qx4 qx5 qx6 qx7 qx8 qx9 qx10 k5
        rcases hev2 with h | ⟨b2, h⟩
        · subst h
          have qy0 : w5.cell? ⟨B2, 0, none⟩ = some (.int .i64 y0) := cell_of_row _ _ _ _ _ _ R2.out
          have qy1 : w5.cell? ⟨B2, 1, none⟩ = some (.int .i64 y1) := cell_of_row _ _ _ _ _ _ R2.out
          have qy2 : w5.cell? ⟨B2, 2, none⟩ = some (.int .i64 y2) := cell_of_row _ _ _ _ _ _ R2.out
          have qy3 : w5.cell? ⟨B2, 3, none⟩ = some (.int .i64 y3) := cell_of_row _ _ _ _ _ _ R2.out
          have qy4 : w5.cell? ⟨B2, 4, none⟩ = some (.int .i32 y4) := cell_of_row _ _ _ _ _ _ R2.out
          have qy5 : w5.cell? ⟨B2, 5, none⟩ = some (.int .i32 y5) := cell_of_row _ _ _ _ _ _ R2.out
          have qy6 : w5.cell? ⟨B2, 6, none⟩ = some (.int .i32 y6) := cell_of_row _ _ _ _ _ _ R2.out
          have qy7 : w5.cell? ⟨B2, 7, none⟩ = some (.int .i64 y7) := cell_of_row _ _ _ _ _ _ R2.out
          have qy8 : w5.cell? ⟨B2, 8, none⟩ = some (.int .i32 y8) := cell_of_row _ _ _ _ _ _ R2.out
          have qy9 : w5.cell? ⟨B2, 9, none⟩ = some (.int .i32 y9) := cell_of_row _ _ _ _ _ _ R2.out
          have qy10 : w5.cell? ⟨B2, 10, none⟩ = some (.int .i64 y10) := cell_of_row _ _ _ _ _ _ R2.out
          go_wp2_with fail
          go_region_held3 (fun w' => w'.cell? ⟨B2, 0, none⟩ = some (.int .i64 y0) ∧ w'.cell? ⟨B2, 1, none⟩ = some (.int .i64 y1) ∧ w'.cell? ⟨B2, 2, none⟩ = some (.int .i64 y2) ∧ w'.cell? ⟨B2, 3, none⟩ = some (.int .i64 y3) ∧ w'.cell? ⟨B2, 4, none⟩ = some (.int .i32 y4) ∧ w'.cell? ⟨B2, 5, none⟩ = some (.int .i32 y5) ∧ w'.cell? ⟨B2, 6, none⟩ = some (.int .i32 y6) ∧ w'.cell? ⟨B2, 7, none⟩ = some (.int .i64 y7) ∧ w'.cell? ⟨B2, 8, none⟩ = some (.int .i32 y8) ∧ w'.cell? ⟨B2, 9, none⟩ = some (.int .i32 y9) ∧ w'.cell? ⟨B2, 10, none⟩ = some (.int .i64 y10)) (first | go_keep | (refine ⟨?_, ?_, ?_, ?_, ?_, ?_, ?_, ?_, ?_, ?_, ?_⟩ <;> exact hg6.cell (by assumption) (by simp))) ((go_at_call 8; refine (rec_any M1 _ _ .nilIface _ (A ++ B) _ _ (by exact RMb.out) HH.out.2.2.2.2.2.2.2.2 (by exact RM1.out) (by exact RA2.out) rfl).mono ?_; rintro e w6 ⟨rfl, hg6⟩))
          go_wp2_with fail
          go_ret
          exact ⟨rfl, RB.out.grown (gtrans (gdrew w5 none) hg6) RB.out.size (fun k hk => by cases hk)⟩
        · subst h
          have qy0 : w5.cell? ⟨B2, 0, none⟩ = some (.int .i64 y0) := cell_of_row _ _ _ _ _ _ R2.out
          have qy1 : w5.cell? ⟨B2, 1, none⟩ = some (.int .i64 y1) := cell_of_row _ _ _ _ _ _ R2.out
          have qy2 : w5.cell? ⟨B2, 2, none⟩ = some (.int .i64 y2) := cell_of_row _ _ _ _ _ _ R2.out
          have qy3 : w5.cell? ⟨B2, 3, none⟩ = some (.int .i64 y3) := cell_of_row _ _ _ _ _ _ R2.out
          have qy4 : w5.cell? ⟨B2, 4, none⟩ = some (.int .i32 y4) := cell_of_row _ _ _ _ _ _ R2.out
          have qy5 : w5.cell? ⟨B2, 5, none⟩ = some (.int .i32 y5) := cell_of_row _ _ _ _ _ _ R2.out
          have qy6 : w5.cell? ⟨B2, 6, none⟩ = some (.int .i32 y6) := cell_of_row _ _ _ _ _ _ R2.out
          have qy7 : w5.cell? ⟨B2, 7, none⟩ = some (.int .i64 y7) := cell_of_row _ _ _ _ _ _ R2.out
          have qy8 : w5.cell? ⟨B2, 8, none⟩ = some (.int .i32 y8) := cell_of_row _ _ _ _ _ _ R2.out
          have qy9 : w5.cell? ⟨B2, 9, none⟩ = some (.int .i32 y9) := cell_of_row _ _ _ _ _ _ R2.out
          have qy10 : w5.cell? ⟨B2, 10, none⟩ = some (.int .i64 y10) := cell_of_row _ _ _ _ _ _ R2.out
          go_wp2_with fail
          go_region_held3 (fun w' => w'.cell? ⟨B2, 0, none⟩ = some (.int .i64 y0) ∧ w'.cell? ⟨B2, 1, none⟩ = some (.int .i64 y1) ∧ w'.cell? ⟨B2, 2, none⟩ = some (.int .i64 y2) ∧ w'.cell? ⟨B2, 3, none⟩ = some (.int .i64 y3) ∧ w'.cell? ⟨B2, 4, none⟩ = some (.int .i32 y4) ∧ w'.cell? ⟨B2, 5, none⟩ = some (.int .i32 y5) ∧ w'.cell? ⟨B2, 6, none⟩ = some (.int .i32 y6) ∧ w'.cell? ⟨B2, 7, none⟩ = some (.int .i64 y7) ∧ w'.cell? ⟨B2, 8, none⟩ = some (.int .i32 y8) ∧ w'.cell? ⟨B2, 9, none⟩ = some (.int .i32 y9) ∧ w'.cell? ⟨B2, 10, none⟩ = some (.int .i64 y10)) (first | go_keep | (refine ⟨?_, ?_, ?_, ?_, ?_, ?_, ?_, ?_, ?_, ?_, ?_⟩ <;> exact hg6.cell (by assumption) (by simp))) ((go_at_call 8; refine (rec_any M1 _ _ (.iface 59 (.pointer (some b2))) _ (A ++ B) _ _ (by exact RMb.out) HH.out.2.2.2.2.2.2.2.2 (by exact RM1.out) (by exact RA2.out) rfl).mono ?_; rintro e w6 ⟨rfl, hg6⟩))
          go_wp2_with fail
          go_ret
          exact ⟨rfl, RB.out.grown (gtrans (gdrew w5 none) hg6) RB.out.size (fun k hk => by cases hk)⟩
end Go.Proofs.Qxb6614018aFmt
