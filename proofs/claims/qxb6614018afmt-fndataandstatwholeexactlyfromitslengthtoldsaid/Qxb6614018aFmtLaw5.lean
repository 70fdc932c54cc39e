/-
  What follows the record does not matter (plain); copy as a law; zzb1IsRecordOf at whatever answer; the bounds on lengths.
-/
import Derived.Test.Qxb6614018aFmtLaw4
import Derived.Laws.CopyOwn
import Derived.Deep.OwnRows
namespace Go.Proofs.Qxb6614018aFmt
open Go.RowKit Go.Stop
set_option linter.unusedVariables false
set_option linter.unusedSimpArgs false

attribute [local go_sem] eql22 neq22

theorem drop_app (A B : List Int) (k : Nat) (h : k ≤ A.length) : (A ++ B).drop k = A.drop k ++ B := by
  rw [List.drop_append, show k - A.length = 0 from by omega, List.drop_zero]
theorem take_app (A B : List Int) (k : Nat) (h : k ≤ A.length) : (A ++ B).take k = A.take k := by
  rw [List.take_append, show k - A.length = 0 from by omega, List.take_zero, List.append_nil]
theorem rd32_app (A B : List Int) (h : 4 ≤ A.length) : rd32 (some (A ++ B)) = rd32 (some A) := by
  simp only [rd32]
  rw [if_pos h, if_pos (by rw [List.length_append]; omega), take_app A B 4 h]
theorem rd64_app (A B : List Int) (h : 8 ≤ A.length) : rd64 (some (A ++ B)) = rd64 (some A) := by
  simp only [rd64]
  rw [if_pos h, if_pos (by rw [List.length_append]; omega), take_app A B 8 h]
theorem rd32_nx_app (A B : List Int) (k : Nat) (h : k + 4 ≤ A.length) : rd32 (nx k (some (A ++ B))) = rd32 (nx k (some A)) := by
  simp only [nx]
  rw [if_pos (by rw [List.length_append]; omega), if_pos (by omega), drop_app A B k (by omega), rd32_app _ _ (by rw [List.length_drop]; omega)]
theorem rd64_nx_app (A B : List Int) (k : Nat) (h : k + 8 ≤ A.length) : rd64 (nx k (some (A ++ B))) = rd64 (nx k (some A)) := by
  simp only [nx]
  rw [if_pos (by rw [List.length_append]; omega), if_pos (by omega), drop_app A B k (by omega), rd64_app _ _ (by rw [List.length_drop]; omega)]
theorem statV_app (A B : List Int) (h : 68 ≤ A.length) : statV (some (A ++ B)) = statV (some A) := by
  simp only [statV, statL]
  rw [rd64_app A B (by omega), rd64_nx_app A B 8 (by omega), rd64_nx_app A B 16 (by omega), rd64_nx_app A B 24 (by omega), rd32_nx_app A B 32 (by omega), rd32_nx_app A B 36 (by omega), rd32_nx_app A B 40 (by omega), rd64_nx_app A B 44 (by omega), rd32_nx_app A B 52 (by omega), rd32_nx_app A B 56 (by omega), rd64_nx_app A B 60 (by omega)]

theorem whole_app (A B : List Int) (lr : List Int) (h : nx 68 (bufS (some A)) = some lr) :
    (∃ lr', nx 68 (bufS (some (A ++ B))) = some lr') ∧ bufD (some (A ++ B)) = bufD (some A) ∧ statV (bufS (some (A ++ B))) = statV (bufS (some A)) := by
  rcases reply_cases A with ⟨h', _⟩ | ⟨_, n, _, _, hB, hN, hle, hS, hD⟩
  · rw [h] at h'; cases h'
  · have e : rd32 (some (A ++ B)) = rd32 (some A) := rd32_app A B (by omega)
    have hB2 : needB (A ++ B) = true := by
      unfold needB at hB ⊢
      rw [e]
      simp only [Bool.and_eq_true, decide_eq_true_eq] at hB ⊢
      exact ⟨by rw [List.length_append]; omega, hB.2⟩
    have hN2 : needN (A ++ B) = 72 + n := by
      unfold needN at hN ⊢
      rw [e, hB2]; rw [hB] at hN; exact hN
    rcases reply_cases (A ++ B) with ⟨_, h'⟩ | ⟨_, n2, lr2, hx2, hB2', hN2', hle2, hS2, hD2⟩
    · rcases h' with h' | ⟨_, h'⟩
      · rw [hB2] at h'; cases h'
      · rw [hN2, List.length_append] at h'; omega
    · obtain rfl : n2 = n := by omega
      refine ⟨⟨_, hx2⟩, ?_, ?_⟩
      · rw [e] at hD2
        rcases hD with ⟨a1, a2, a3⟩ | ⟨a1, a3⟩
        · rcases hD2 with ⟨b1, b2, b3⟩ | ⟨b1, b3⟩
          · rw [a3, b3]
          · omega
        · rcases hD2 with ⟨b1, b2, b3⟩ | ⟨b1, b3⟩
          · omega
          · rw [a3, b3, drop_app A B 4 (by omega), take_app _ B n2 (by rw [List.length_drop]; omega)]
      · rw [hS, hS2, drop_app A B (4 + n2) (by omega), statV_app _ _ (by rw [List.length_drop]; omega)]

/-- A message: nil, or a row of bytes that begins at a block's head. -/
def Msg (w : World) (v : Value) (M : Nat) (A : List Int) : Prop :=
  (∃ cap, v = .slice (some ⟨M, 0, none⟩) A.length cap ∧ A.length ≤ cap ∧ cap ≤ 1048576 ∧ BytesAt w M 0 A) ∨ (v = .slice none 0 0 ∧ A = [])
theorem Msg.ofHeap {w w' : World} {v : Value} {M : Nat} {A : List Int} (h : Msg w v M A) (hh : w'.heap[M]? = w.heap[M]?) : Msg w' v M A := by
  rcases h with ⟨cap, h0, h1, h2, h3⟩ | h
  · exact Or.inl ⟨cap, h0, h1, h2, fun i hi => (World.cell?_of_block (w := w) hh).trans (h3 i hi)⟩
  · exact Or.inr h
theorem Msg.sl {w : World} {v : Value} {M : Nat} {A : List Int} (h : Msg w v M A) : Sl w v A := by
  rcases h with ⟨cap, h0, h1, h2, h3⟩ | ⟨rfl, rfl⟩
  · exact ⟨_, cap, h0, fun _ => ⟨M, 0, rfl, h3⟩⟩
  · exact ⟨none, 0, rfl, fun h => absurd rfl h⟩
theorem Msg.len {w : World} {v : Value} {M : Nat} {A : List Int} (h : Msg w v M A) : A.length ≤ 1048576 := by
  rcases h with ⟨cap, h0, h1, h2, h3⟩ | ⟨rfl, rfl⟩
  · omega
  · simp

theorem rec_any (M : Nat) (vm v ev : Value) (st : Array Value) (A : List Int) (w : World) (b : Bool) (hA : Msg w vm M A) (hs : Small A) (hMl : M < w.heap.size) (h : Answer w M (some A) v ev st)
    (hb : b = match ev with | .nilIface => false | _ => true) :
    Calls Tryf.prog 8 #[vm, v, .agg st, .bool b] w fun e w' => e = .returned (.bool true) ∧ w.grownBy w' none := by
  unfold Answer at h
  cases hr : nx 68 (bufS (some A)) with
  | none =>
    rw [hr] at h
    obtain ⟨rfl, rfl, p, rfl⟩ := h
    subst hb
    exact rec_fail vm A w hA.len hA.sl hs hr
  | some lr =>
    rw [hr] at h
    obtain ⟨h1, rfl, rfl⟩ := h
    subst hb
    rcases hA with ⟨cap, rfl, c1, c2, c3⟩ | ⟨_, rfl⟩
    · exact rec_ok M 0 cap v A lr w (by omega) c2 c1 c3 hs hMl hr h1
    · have e : nx 68 (bufS (some [])) = none := rfl
      rw [e] at hr; cases hr

theorem wpList_copy_g {P : Program} {w : World} {ops : Array Oper} {rest : List Oper} {o : Oper} {a : Act} {Q : Exit → Act → World → Prop} (hgd : o.guard = none) (d s : Operand) (dT sT : TypeId)
    (ho : o.op = .call { callee := .builtin .copy, args := #[d, s], argTypes := #[dT, sT] }) (elem : TypeId) (hu : P.underlying dT = some (.slice elem)) (hsz : (P.info? elem).map (·.size) = some 1)
    (dp sp : Option Addr) (dLen dCap sLen sCap : Nat) (hd : a.eval d = .slice dp dLen dCap) (hs : a.eval s = .slice sp sLen sCap)
    (g off : Nat) (cur : List Value) (t : TypeId) (hg : w.heap[g]? = some (.cells cur.toArray t (0, 0))) (cs : List Value) (hn : cs.length = Nat.min sLen dLen)
    (hpos : 0 < cs.length → dp = some ⟨g, off, none⟩ ∧ ∃ ad, sp = some ad ∧ ∀ j v, cs[j]? = some v → w.cell? (ad.add j) = some v)
    (hfit : off + cs.length ≤ cur.length) (h1 : ∀ v ∈ cs, v.oneCell' = true)
    (h : ∀ w', Hid (w'.heap[g]? = some (.cells (splice cur off cs).toArray t (0, 0))) → w.grownBy w' (some g) → wpList P ops Q rest (a.put o.dst (goInt cs.length)) w') :
    wpList P ops Q (o :: rest) a w := by
  by_cases h0 : cs.length = 0
  · obtain rfl : cs = [] := List.eq_nil_of_length_eq_zero h0
    refine wpList_copy_nothing hgd d s dT sT ho elem hu hsz dp sp dLen dCap sLen sCap hd hs (by simpa using hn.symm) ?_
    exact h w (show _ = _ by simpa [splice] using hg) (World.grownBy.refl _ _)
  · obtain ⟨rfl, ad, rfl, hsrc⟩ := hpos (by omega)
    refine wpList_copy_own hgd d s dT sT ho elem hu hsz g off dLen dCap ad sLen sCap hd hs cur.toArray t hg cs hn hsrc (by simpa using hfit) h1 ?_
    exact h _ (show _ = _ by simpa [splice] using setRow_heap w g _ _ t _ hg) (setRow_grown (World.grownBy.refl _ _) _ _ (Or.inr rfl))

set_option maxHeartbeats 400000 in
theorem bytes5_yes (a b : Option Addr) (la ca lb cb : Nat) (w : World) (h : la + lb ≤ 1048576) :
    Calls Tryf.prog 5 #[.slice a la ca, .slice b lb cb] w fun e w' => e = .returned (.bool true) ∧ w' = w := by
  go_enter Tryf.func5, Tryf.ntmps5
  go_wp2
  go_ret
  exact ⟨rfl, rfl⟩
set_option maxHeartbeats 400000 in
theorem bytes5_no (a b : Option Addr) (la ca lb cb : Nat) (w : World) (h : 1048576 < la + lb) (h1 : la ≤ 9223372036854775807) (h2 : lb ≤ 9223372036854775807) :
    Calls Tryf.prog 5 #[.slice a la ca, .slice b lb cb] w fun e w' => e = .returned (.bool false) ∧ w' = w := by
  by_cases c1 : 1048576 < la
  · go_enter Tryf.func5, Tryf.ntmps5
    go_wp2
    go_ret
    exact ⟨rfl, rfl⟩
  · by_cases c2 : 1048576 < lb
    · go_enter Tryf.func5, Tryf.ntmps5
      go_wp2
      go_ret
      exact ⟨rfl, rfl⟩
    · go_enter Tryf.func5, Tryf.ntmps5
      go_wp2
      go_ret
      exact ⟨rfl, rfl⟩
set_option maxHeartbeats 400000 in
theorem bytes10_any (a : Option Addr) (la ca : Nat) (k : Int) (w : World) (h1 : la ≤ 9223372036854775807) :
    Calls Tryf.prog 10 #[.slice a la ca, .int .i64 k] w fun e w' => e = .returned (.bool (decide (la ≤ 1048576))) ∧ w' = w := by
  by_cases c1 : 1048576 < la
  · have HD : Hid (decide (la ≤ 1048576) = false) := by simp [Hid]; omega
    go_enter Tryf.func10, Tryf.ntmps10
    go_wp2
    go_ret
    exact ⟨by rw [HD.out]; rfl, rfl⟩
  · have HD : Hid (decide (la ≤ 1048576) = true) := by simp [Hid]; omega
    go_enter Tryf.func10, Tryf.ntmps10
    go_wp2
    go_ret
    exact ⟨by rw [HD.out]; rfl, rfl⟩

theorem Answer.lit {w : World} {M : Nat} {s : Option (List Int)} {v ev : Value} {st : Array Value} (h : Answer w M s v ev st) : ∃ x0 x1 x2 x3 x4 x5 x6 x7 x8 x9 x10 : Int, st = #[.int .i64 x0, .int .i64 x1, .int .i64 x2, .int .i64 x3, .int .i32 x4, .int .i32 x5, .int .i32 x6, .int .i64 x7, .int .i32 x8, .int .i32 x9, .int .i64 x10] := by
  unfold Answer at h
  split at h
  · obtain ⟨h1, rfl, rfl⟩ := h
    exact ⟨_, _, _, _, _, _, _, _, _, _, _, rfl⟩
  · obtain ⟨rfl, rfl, b, rfl⟩ := h
    exact ⟨_, _, _, _, _, _, _, _, _, _, _, rfl⟩

theorem grown_join {a b c : World} {R : Nat} (h : a.grownBy b none) (k : b.grownBy c (some R)) (hR : a.heap.size ≤ R) : a.grownBy c none :=
  ⟨k.os.trans h.os, k.tape.trans h.tape, k.output.trans h.output, Nat.le_trans h.size k.size, fun i hi hne => (k.block i (Nat.lt_of_lt_of_le hi h.size) (by simp; omega)).trans (h.block i hi hne)⟩

set_option maxHeartbeats 400000 in
theorem newdec_any (ao : Option Addr) (n c : Nat) (w : World) :
    Calls Tryf.prog 7 #[.slice ao n c] w fun e w' => e = .returned (.pointer (some ⟨w.heap.size, 0, none⟩)) ∧ w' = w.alloc (.cells #[.slice ao n c, .nilIface] 37) := by
  go_enter Tryf.func7, Tryf.ntmps7
  go_wp2
  go_ret
  exact ⟨rfl, rfl⟩

/-- A new decoder over a message, and all that it is asked. -/
theorem decode_any (F : Interp) (M : Nat) (v : Value) (A : List Int) (a0 : Addr) (s0 : ByteArray) (w : World) (hF : F.answers w.tape) (hM : Msg w v M A) (hMl : M < w.heap.size) (hs : Small A)
    (hg : w.cell? ⟨0, 0, none⟩ = some (.iface 64 (.pointer (some a0)))) (ht : w.cell? a0 = some (.string s0)) :
    Calls Tryf.prog 6 #[.pointer (some ⟨w.heap.size, 0, none⟩)] (w.alloc (.cells #[v, .nilIface] 37)) fun e w' =>
      ∃ v' ev st, e = .returned (.tuple #[v', .agg st, ev]) ∧ Answer w' M (some A) v' ev st ∧ w.grownBy w' none := by
  have k := galloc w (.cells #[v, .nilIface] 37) none
  have hE : Env (w.alloc (.cells #[v, .nilIface] 37)) w.heap.size M a0 s0 :=
    ⟨k.cell hg (by simp), k.cell ht (by simp), Nat.ne_of_lt (World.block_lt_of_cell? w _ hg), Nat.ne_of_lt hMl, Nat.ne_of_lt (World.block_lt_of_cell? w _ ht)⟩
  have hd : Dec (w.alloc (.cells #[v, .nilIface] 37)) w.heap.size v .nilIface := heap_alloc_new w _
  have hS : StateW (w.alloc (.cells #[v, .nilIface] 37)) w.heap.size M (some A) := by
    rcases hM with ⟨cap, rfl, h1, h2, h3⟩ | ⟨rfl, rfl⟩
    · exact Or.inl ⟨0, cap, hd, h1, h2, fun i hi => k.cell (h3 i hi) (by simp)⟩
    · exact Or.inr ⟨rfl, hd⟩
  refine (zz_any F w.heap.size M (some A) a0 s0 _ (by exact hF) hE hS hs (by simp) (by simp; omega)).mono ?_
  rintro e w' ⟨v', ev, st, rfl, hA, hgr⟩
  exact ⟨v', ev, st, rfl, hA, grown_join k hgr (Nat.le_refl _)⟩

end Go.Proofs.Qxb6614018aFmt
