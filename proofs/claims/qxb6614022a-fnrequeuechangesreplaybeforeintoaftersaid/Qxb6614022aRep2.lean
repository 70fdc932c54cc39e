/-
  The replay, change by change: plain facts.
-/
import Derived.Test.Qxb6614022aRep
namespace Go.Proofs.Qxb6614022a
open Go.RowKit
set_option linter.unusedVariables false
set_option linter.unusedSimpArgs false

theorem mem_rqs {D : JD} {e : Int} {n i : Nat} : i ∈ rqs D e n ↔ i < n ∧ reqB e (D.S i) = true := by simp [rqs, List.mem_filter, List.mem_range]
theorem rqs_nodup (D : JD) (e : Int) (n : Nat) : (rqs D e n).Nodup := List.nodup_range.sublist List.filter_sublist

/-- Those that have been replayed ahead of change number idx. -/
def done (l : List Nat) (idx : Nat) : List Nat := l.take (idx - 1)
def cjOf (jb : Int) (len idx : Nat) : Int := if idx = 0 then jb else if idx = len + 2 then 2 else 7
def curV (Z : ZA) (l : List Nat) (idx i : Nat) : Value := .int .i64 (if i ∈ done l idx then 1 else preZ (Z.S i))
def logV (l : List Nat) (idx i : Nat) : Value := .bool (decide (i ∈ done l idx))

theorem done_zero (l : List Nat) : done l 0 = [] := by simp [done]
theorem done_one (l : List Nat) : done l 1 = [] := by simp [done]
theorem done_all (l : List Nat) {idx : Nat} (h : l.length + 1 ≤ idx) : done l idx = l := by
  unfold done; exact List.take_of_length_le (by omega)
theorem done_succ (l : List Nat) {i : Nat} (h : i < l.length) : done l (i + 2) = done l (i + 1) ++ [l[i]] := by
  unfold done
  show l.take (i + 1) = l.take i ++ [l[i]]
  exact (List.take_append_getElem h).symm
theorem done_not {l : List Nat} (hn : l.Nodup) {i : Nat} (h : i < l.length) : l[i] ∉ done l (i + 1) := by
  have h1 : (done l (i + 2)).Nodup := hn.sublist (List.take_sublist _ _)
  rw [done_succ l h] at h1
  intro hm
  have := (List.nodup_append.1 h1).2.2 _ hm _ (List.mem_singleton.2 rfl)
  exact this rfl

theorem chs_split (D : JD) {l : List Nat} {i : Nat} (h : i < l.length) : chs D l = chs D (l.take i) ++ (rqC D l[i] ++ chs D (l.drop (i + 1))) := by
  have e : l = l.take i ++ (l[i] :: l.drop (i + 1)) := by rw [List.getElem_cons_drop, List.take_append_drop]
  have e2 : chs D l = chs D (l.take i ++ (l[i] :: l.drop (i + 1))) := congrArg (chs D) e
  rw [e2]
  simp only [chs, List.flatMap_append, List.flatMap_cons]

theorem rq_idx {w : World} {lo n g cap : Nat} {D : JD} (ow : w.ownsRow lo 46 9 (.slice (some ⟨g, 0, none⟩) ((rqs D D.st n).length + 2) cap) ((rqs D D.st n).length + 2) (requeueL D n)) {i : Nat} (hi : i < (rqs D D.st n).length) :
    ∀ f u, (rqC D ((rqs D D.st n)[i]))[f]? = some u → w.cell? ⟨g, (i + 1) * 9 + f, none⟩ = some u := fun f u hu => by
  refine rec9 ow (jchgL D 7 ++ chs D ((rqs D D.st n).take i)) (rqC D ((rqs D D.st n)[i])) (chs D ((rqs D D.st n).drop (i + 1)) ++ jchgL { D with st := 7 } 2) ?_ (i + 1) ?_ f u hu
  · have hc := chs_split D hi
    rw [requeueL, hc]; simp [List.append_assoc]
  · rw [List.length_append, chs_len, List.length_take]; simp [jchgL]; omega

/-- What the replay finds at change number idx: the job's, or a task's. -/
structure JobRec (w : World) (g idx : Nat) (nm : ByteArray) (jf jt : Int) : Prop where
  c0 : w.cell? ⟨g, idx * 9, none⟩ = some (.int .i64 (-1))
  c1 : w.cell? ⟨g, idx * 9 + 1, none⟩ = some (.string nm)
  c2 : w.cell? ⟨g, idx * 9 + 2, none⟩ = some (.int .i64 0)
  c3 : w.cell? ⟨g, idx * 9 + 3, none⟩ = some (.int .i64 0)
  c4 : w.cell? ⟨g, idx * 9 + 4, none⟩ = some (.int .i64 0)
  c5 : w.cell? ⟨g, idx * 9 + 5, none⟩ = some (.int .i64 0)
  c6 : w.cell? ⟨g, idx * 9 + 6, none⟩ = some (.string ⟨#[]⟩)
  c7 : w.cell? ⟨g, idx * 9 + 7, none⟩ = some (.int .i64 jf)
  c8 : w.cell? ⟨g, idx * 9 + 8, none⟩ = some (.int .i64 jt)
structure TaskRec (w : World) (g idx t : Nat) (xn : ByteArray) (px xr xt : Int) (xw : ByteArray) : Prop where
  c0 : w.cell? ⟨g, idx * 9, none⟩ = some (.int .i64 t)
  c1 : w.cell? ⟨g, idx * 9 + 1, none⟩ = some (.string xn)
  c2 : w.cell? ⟨g, idx * 9 + 2, none⟩ = some (.int .i64 px)
  c3 : w.cell? ⟨g, idx * 9 + 3, none⟩ = some (.int .i64 1)
  c4 : w.cell? ⟨g, idx * 9 + 4, none⟩ = some (.int .i64 xr)
  c5 : w.cell? ⟨g, idx * 9 + 5, none⟩ = some (.int .i64 xt)
  c6 : w.cell? ⟨g, idx * 9 + 6, none⟩ = some (.string xw)
  c7 : w.cell? ⟨g, idx * 9 + 7, none⟩ = some (.int .i64 0)
  c8 : w.cell? ⟨g, idx * 9 + 8, none⟩ = some (.int .i64 0)

theorem rec_any {w : World} {lo n g cap : Nat} {D : JD} {jb : Int} {nm : ByteArray} (hst : D.st = jb) (hnm : D.nm = nm) (ow : w.ownsRow lo 46 9 (.slice (some ⟨g, 0, none⟩) ((rqs D D.st n).length + 2) cap) ((rqs D D.st n).length + 2) (requeueL D n))
    {len idx : Nat} (hlen : len = (rqs D jb n).length) (hi : idx < len + 2) :
    (JobRec w g idx nm (cjOf jb len idx) (cjOf jb len (idx + 1)) ∧ done (rqs D jb n) (idx + 1) = done (rqs D jb n) idx) ∨
    ∃ t, t < n ∧ reqB jb (D.S t) = true ∧ t ∉ done (rqs D jb n) idx ∧ done (rqs D jb n) (idx + 1) = done (rqs D jb n) idx ++ [t] ∧ cjOf jb len (idx + 1) = cjOf jb len idx ∧ TaskRec w g idx t (D.N t) (D.S t) (D.R t) (D.Tr t) (D.Wk t) := by
  subst hst hnm
  by_cases h0 : idx = 0
  · subst h0
    left
    have f := rq_first ow
    have e0 : cjOf D.st len 0 = D.st := by simp [cjOf]
    have e1 : cjOf D.st len (0 + 1) = 7 := by simp [cjOf]
    rw [e0, e1]
    refine ⟨⟨?_, ?_, ?_, ?_, ?_, ?_, ?_, ?_, ?_⟩, by rw [done_zero]; exact done_one _⟩
    · exact f 0 _ rfl
    · exact f 1 _ rfl
    · exact f 2 _ rfl
    · exact f 3 _ rfl
    · exact f 4 _ rfl
    · exact f 5 _ rfl
    · exact f 6 _ rfl
    · exact f 7 _ rfl
    · exact f 8 _ rfl
  · by_cases h1 : idx = len + 1
    · left
      have f := rq_last ow
      rw [← hlen, ← h1] at f
      have e0 : cjOf D.st len idx = 7 := by simp [cjOf, h1]
      have e1 : cjOf D.st len (idx + 1) = 2 := by simp [cjOf, h1]
      rw [e0, e1]
      refine ⟨⟨?_, ?_, ?_, ?_, ?_, ?_, ?_, ?_, ?_⟩, by rw [done_all _ (by omega), done_all _ (by omega)]⟩
      · exact f 0 _ rfl
      · exact f 1 _ rfl
      · exact f 2 _ rfl
      · exact f 3 _ rfl
      · exact f 4 _ rfl
      · exact f 5 _ rfl
      · exact f 6 _ rfl
      · exact f 7 _ rfl
      · exact f 8 _ rfl
    · right
      obtain ⟨i, rfl⟩ : ∃ i, idx = i + 1 := ⟨idx - 1, by omega⟩
      have hil : i < (rqs D D.st n).length := by omega
      have hm := mem_rqs.1 (List.getElem_mem hil)
      have f := rq_idx ow hil
      refine ⟨(rqs D D.st n)[i], hm.1, hm.2, done_not (rqs_nodup D D.st n) hil, done_succ _ hil, ?_, ⟨?_, ?_, ?_, ?_, ?_, ?_, ?_, ?_, ?_⟩⟩
      · have a1 : ¬ i + 1 = len + 2 := by omega
        have a2 : ¬ i + 1 + 1 = len + 2 := by omega
        unfold cjOf
        rw [if_neg (by omega), if_neg a2, if_neg (by omega), if_neg a1]
      · exact f 0 _ rfl
      · exact f 1 _ rfl
      · exact f 2 _ rfl
      · exact f 3 _ rfl
      · exact f 4 _ rfl
      · exact f 5 _ rfl
      · exact f 6 _ rfl
      · exact f 7 _ rfl
      · exact f 8 _ rfl
end Go.Proofs.Qxb6614022a
