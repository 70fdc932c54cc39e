/-
  engine.Resume: the one statement of its inner loop, by itself.
-/
import Derived.Test.Qxb6614022aResD
namespace Go.Proofs.Qxb6614022a
open Go.RowKit
set_option linter.unusedVariables false
set_option linter.unusedSimpArgs false

/-- The region of that number in a body. -/
def regionOf (k : Nat) : Code → Option Code
  | .region i ops b => match i == k with
    | true => some (.region i ops b)
    | false => none
  | .seq a b => match regionOf k a with
    | some c => some c
    | none => regionOf k b
  | .block _ c => regionOf k c
  | .loop c => regionOf k c
  | .scope c => regionOf k c
  | .cond _ a b => match regionOf k a with
    | some c => some c
    | none => regionOf k b
  | _ => none

set_option maxRecDepth 1000000 in
set_option maxHeartbeats 4000000 in
theorem region14 {u0 u1 u2 u3 u4 u5 u6 u7 u10 u11 u13 u14 u15 u16 u17 u18 u19 u20 u21 u22 u23 u24 u25 u26 u27 u28 u29 u30 u31 u32 u33 u34 u35 u36 u37 u38 u39 u40 u41 u42 u43 u44 u45 u46 u47 u48 u49 u50 u51 u52 u53 u54 u55 u56 u57 u58 u59 u60 u61 u62 u63 u64 u65 u66 u67 u68 u69 u70 u71 u72 u73 u74 u75 u76 u77 u78 u79 u80 u81 u82 u83 u84 u85 u86 u87 u88 u89 u90 u91 u92 u93 u94 u95 u96 u97 u98 u99 u100 u101 u102 u103 u104 u105 u106 u107 u108 u109 u110 u111 u112 u113 u114 u115 u116 u117 u118 u119 u120 u121 u122 u123 u124 u125 u126 u127 u128 u129 u130 u131 u132 u133 u134 u135 u136 u137 u138 u139 u140 u141 u142 u143 u144 u145 u146 u147 u148 u149 u150 u151 u152 u153 u154 u155 u156 u157 u158 u159 u160 u161 u162 u163 u164 u165 u166 u167 u168 u169 u170 u171 u172 u173 u174 u175 u176 u177 : Value} {Q : Exit → Act → World → Prop} (JB TB n kk k l lo : Nat) (o : Option Addr) (c : Nat) (xs : List Value) (i3 : TypeInfo) (wr : World)
    (hi3 : Try.prog.info? 3 = some i3) (hz30 : i3.zero = some (.int .i64 0)) (hz31 : i3.size = 1) (hz32 : i3.bytes = 8)
    (c3 : wr.cell? ⟨JB, 3, none⟩ = some (.slice (some ⟨TB, 0, none⟩) n n)) (t7 : wr.cell? ⟨TB, kk * 8 + 7, none⟩ = some (.slice o l c)) (f7 : wr.frozen? ⟨TB, kk * 8 + 7, none⟩ = false)
    (hown : wr.ownsRow lo 3 1 (.slice o l c) l xs) (lT : TB < wr.heap.size) (lJ : JB < wr.heap.size) (nT : (Value.slice o l c).ownBlock ≠ some TB) (nJ : (Value.slice o l c).ownBlock ≠ some JB) (lw0 : lo ≤ wr.heap.size)
    (hkk : kk < n) (hn : n ≤ 65536) (hlb : l ≤ 4294967296) (hneJT : (⟨TB, kk * 8 + 7, none⟩ : Addr) ≠ ⟨JB, 3, none⟩)
    (hQ : ∀ (gg cap : Nat) (w1 : World) (v124 v125 v126 v127 v128 v129 v130 v131 v132 v133 v134 v135 v136 v137 v138 v139 v140 v141 : Value), w1.ownsRow lo 3 1 (.slice (some ⟨gg, 0, none⟩) (l + 1) cap) (l + 1) (xs ++ [.int .i64 k]) → (wr.alloc (.cells #[.int .i64 k] 3)).drew.grownBy w1 (Value.slice o l c).ownBlock → (Value.slice o l c).ownBlock = some gg ∨ gg = wr.heap.size + 1 →
      Q .normal ⟨#[u0, u1, u2, u3, u4, u5, u6, u7, .pointer (some ⟨JB, 0, none⟩), .int .i64 k, u10, u11, .int .i64 kk, u13, u14, u15, u16, u17, u18, u19, u20, u21, u22, u23, u24, u25, u26, u27, u28, u29, u30, u31, u32, u33, u34, u35, u36, u37, u38, u39, u40, u41, u42, u43, u44, u45, u46, u47, u48, u49, u50, u51, u52, u53, u54, u55, u56, u57, u58, u59, u60, u61, u62, u63, u64, u65, u66, u67, u68, u69, u70, u71, u72, u73, u74, u75, u76, u77, u78, u79, u80, u81, u82, u83, u84, u85, u86, u87, u88, u89, u90, u91, u92, u93, u94, u95, u96, u97, u98, u99, u100, u101, u102, u103, u104, u105, u106, u107, u108, u109, u110, u111, u112, u113, u114, u115, u116, u117, u118, u119, u120, u121, u122, u123, v124, v125, v126, v127, v128, v129, v130, v131, v132, v133, v134, v135, v136, v137, v138, v139, v140, v141, u142, u143, u144, u145, u146, u147, u148, u149, u150, u151, u152, u153, u154, u155, u156, u157, u158, u159, u160, u161, u162, u163, u164, u165, u166, u167, u168, u169, u170, u171, u172, u173, u174, u175, u176, u177], []⟩ (w1.setCell ⟨TB, kk * 8 + 7, none⟩ (.slice (some ⟨gg, 0, none⟩) (l + 1) cap))) :
    Code.wp Try.prog ((Try.f12.body.bind (regionOf 14)).getD .skip) Q ⟨#[u0, u1, u2, u3, u4, u5, u6, u7, .pointer (some ⟨JB, 0, none⟩), .int .i64 k, u10, u11, .int .i64 kk, u13, u14, u15, u16, u17, u18, u19, u20, u21, u22, u23, u24, u25, u26, u27, u28, u29, u30, u31, u32, u33, u34, u35, u36, u37, u38, u39, u40, u41, u42, u43, u44, u45, u46, u47, u48, u49, u50, u51, u52, u53, u54, u55, u56, u57, u58, u59, u60, u61, u62, u63, u64, u65, u66, u67, u68, u69, u70, u71, u72, u73, u74, u75, u76, u77, u78, u79, u80, u81, u82, u83, u84, u85, u86, u87, u88, u89, u90, u91, u92, u93, u94, u95, u96, u97, u98, u99, u100, u101, u102, u103, u104, u105, u106, u107, u108, u109, u110, u111, u112, u113, u114, u115, u116, u117, u118, u119, u120, u121, u122, u123, u124, u125, u126, u127, u128, u129, u130, u131, u132, u133, u134, u135, u136, u137, u138, u139, u140, u141, u142, u143, u144, u145, u146, u147, u148, u149, u150, u151, u152, u153, u154, u155, u156, u157, u158, u159, u160, u161, u162, u163, u164, u165, u166, u167, u168, u169, u170, u171, u172, u173, u174, u175, u176, u177], []⟩ wr := by
  have hq2 : (kk : Int) < (n : Int) := by omega
  have hnn : l + 1 ≤ maxLen := by unfold maxLen; omega
  have hbb : (l + 1) * 8 ≤ 140737488355328 := by omega
  have t7a := cell_al (.cells #[.int .i64 k] 3) t7
  conv => arg 2; whnf
  refine wp_region_noPanic ?_
  refine wp_region_held_drew (S := fun w' => w'.cell? ⟨JB, 3, none⟩ = some (.slice (some ⟨TB, 0, none⟩) n n)) (by kernel_rfl) ?_ (fun hHeld => ?_)
  · exact c3
  refine wpAnyH_take (i := 0) (oi := _) (v := ?_) rfl (by kernel_rfl) (by kernel_rfl) (by kernel_rfl) (fun _ _ _ h => h) (Or.inl ⟨by rfl, ?_⟩) (by assumption) ?_
  rotate_left
  · (intro w hSw; (try dsimp only at hSw); simp only [List.getElem_toArray, List.getElem_cons_zero, List.getElem_cons_succ]; go_simp; try with_reducible rfl)
  simp only [List.getElem_toArray, List.getElem_cons_zero, List.getElem_cons_succ, Act.put, List.setIfInBounds_toArray, List.set_cons_zero, List.set_cons_succ]
  refine wpAnyH_take (i := 1) (oi := _) (v := ?_) rfl (by kernel_rfl) (by kernel_rfl) (by kernel_rfl) (fun _ _ _ h => h) (Or.inl ⟨by rfl, ?_⟩) (by assumption) ?_
  rotate_left
  · (intro w hSw; (try dsimp only at hSw); simp only [List.getElem_toArray, List.getElem_cons_zero, List.getElem_cons_succ]; go_simp; try with_reducible rfl)
  simp only [List.getElem_toArray, List.getElem_cons_zero, List.getElem_cons_succ, Act.put, List.setIfInBounds_toArray, List.set_cons_zero, List.set_cons_succ]
  refine wpAnyH_take (i := 2) (oi := _) (v := ?_) rfl (by kernel_rfl) (by kernel_rfl) (by kernel_rfl) (fun _ _ _ h => h) (Or.inl ⟨by rfl, ?_⟩) (by assumption) ?_
  rotate_left
  · (intro w hSw; (try dsimp only at hSw); simp only [List.getElem_toArray, List.getElem_cons_zero, List.getElem_cons_succ]; go_simp; try with_reducible rfl)
  simp only [List.getElem_toArray, List.getElem_cons_zero, List.getElem_cons_succ, Act.put, List.setIfInBounds_toArray, List.set_cons_zero, List.set_cons_succ]
  refine wpAnyH_take (i := 3) (oi := _) (v := ?_) rfl (by kernel_rfl) (by kernel_rfl) (by kernel_rfl) (fun _ _ _ h => h) (Or.inl ⟨by rfl, ?_⟩) (by assumption) ?_
  rotate_left
  · (intro w hSw; (try dsimp only at hSw); simp only [List.getElem_toArray, List.getElem_cons_zero, List.getElem_cons_succ]; go_simp; try with_reducible rfl)
  simp only [List.getElem_toArray, List.getElem_cons_zero, List.getElem_cons_succ, Act.put, List.setIfInBounds_toArray, List.set_cons_zero, List.set_cons_succ]
  refine wpAnyH_take (i := 4) (oi := _) (v := ?_) rfl (by kernel_rfl) (by kernel_rfl) (by kernel_rfl) (fun _ _ _ h => h) (Or.inl ⟨by rfl, ?_⟩) (by assumption) ?_
  rotate_left
  · (intro w hSw; (try dsimp only at hSw); simp only [List.getElem_toArray, List.getElem_cons_zero, List.getElem_cons_succ]; go_simp; try with_reducible rfl)
  simp only [List.getElem_toArray, List.getElem_cons_zero, List.getElem_cons_succ, Act.put, List.setIfInBounds_toArray, List.set_cons_zero, List.set_cons_succ]
  refine wpAnyH_take (i := 5) (oi := _) (v := ?_) rfl (by kernel_rfl) (by kernel_rfl) (by kernel_rfl) (fun _ _ _ h => h) (Or.inl ⟨by rfl, ?_⟩) (by assumption) ?_
  rotate_left
  · (intro w hSw; (try dsimp only at hSw); simp only [List.getElem_toArray, List.getElem_cons_zero, List.getElem_cons_succ]; go_simp; try with_reducible rfl)
  simp only [List.getElem_toArray, List.getElem_cons_zero, List.getElem_cons_succ, Act.put, List.setIfInBounds_toArray, List.set_cons_zero, List.set_cons_succ]
  refine wpAnyH_take (i := 6) (oi := _) (v := ?_) rfl (by kernel_rfl) (by kernel_rfl) (by kernel_rfl) (fun _ _ _ h => h) (Or.inl ⟨by rfl, ?_⟩) (by assumption) ?_
  rotate_left
  · (intro w hSw; (try dsimp only at hSw); simp only [List.getElem_toArray, List.getElem_cons_zero, List.getElem_cons_succ]; go_simp; try with_reducible rfl)
  simp only [List.getElem_toArray, List.getElem_cons_zero, List.getElem_cons_succ, Act.put, List.setIfInBounds_toArray, List.set_cons_zero, List.set_cons_succ]
  refine wpAnyH_take (i := 7) (oi := _) (v := ?_) rfl (by kernel_rfl) (by kernel_rfl) (by kernel_rfl) (fun _ _ _ h => h) (Or.inl ⟨by rfl, ?_⟩) (by assumption) ?_
  rotate_left
  · (intro w hSw; (try dsimp only at hSw); simp only [List.getElem_toArray, List.getElem_cons_zero, List.getElem_cons_succ]; go_simp; try with_reducible rfl)
  simp only [List.getElem_toArray, List.getElem_cons_zero, List.getElem_cons_succ, Act.put, List.setIfInBounds_toArray, List.set_cons_zero, List.set_cons_succ]
  refine wpAnyH_take (i := 8) (oi := _) (v := ?_) rfl (by kernel_rfl) (by kernel_rfl) (by kernel_rfl) (fun _ _ _ h => h) (Or.inl ⟨by rfl, ?_⟩) (by assumption) ?_
  rotate_left
  · (intro w hSw; (try dsimp only at hSw); simp only [List.getElem_toArray, List.getElem_cons_zero, List.getElem_cons_succ]; go_simp; try with_reducible rfl)
  simp only [List.getElem_toArray, List.getElem_cons_zero, List.getElem_cons_succ, Act.put, List.setIfInBounds_toArray, List.set_cons_zero, List.set_cons_succ]
  refine wpAnyH_take (i := 9) (oi := _) (v := ?_) rfl (by kernel_rfl) (by kernel_rfl) (by kernel_rfl) (fun _ _ _ h => h) (Or.inl ⟨by rfl, ?_⟩) (by assumption) ?_
  rotate_left
  · (intro w hSw; (try dsimp only at hSw); simp only [List.getElem_toArray, List.getElem_cons_zero, List.getElem_cons_succ]; go_simp; try with_reducible rfl)
  simp only [List.getElem_toArray, List.getElem_cons_zero, List.getElem_cons_succ, Act.put, List.setIfInBounds_toArray, List.set_cons_zero, List.set_cons_succ]
  refine wpAnyH_take (i := 10) (oi := _) (v := ?_) rfl (by kernel_rfl) (by kernel_rfl) (by kernel_rfl) (fun _ _ _ h => h) (Or.inl ⟨by rfl, ?_⟩) (by assumption) ?_
  rotate_left
  · (intro w hSw; (try dsimp only at hSw); simp only [List.getElem_toArray, List.getElem_cons_zero, List.getElem_cons_succ]; go_simp; try with_reducible rfl)
  simp only [List.getElem_toArray, List.getElem_cons_zero, List.getElem_cons_succ, Act.put, List.setIfInBounds_toArray, List.set_cons_zero, List.set_cons_succ]
  refine wpAnyH_take (i := 11) (oi := _) (v := ?_) rfl (by kernel_rfl) (by kernel_rfl) (by kernel_rfl) (fun _ _ _ h => h) (Or.inl ⟨by rfl, ?_⟩) (by assumption) ?_
  rotate_left
  · (intro w hSw; (try dsimp only at hSw); simp only [List.getElem_toArray, List.getElem_cons_zero, List.getElem_cons_succ]; go_simp; try with_reducible rfl)
  simp only [List.getElem_toArray, List.getElem_cons_zero, List.getElem_cons_succ, Act.put, List.setIfInBounds_toArray, List.set_cons_zero, List.set_cons_succ]
  refine wpAnyH_take (i := 13) (oi := _) (v := ?_) rfl (by kernel_rfl) (by kernel_rfl) (by kernel_rfl) (fun _ _ _ h => h) (Or.inl ⟨by rfl, ?_⟩) (by assumption) ?_
  rotate_left
  · (intro w hSw; (try dsimp only at hSw); simp only [List.getElem_toArray, List.getElem_cons_zero, List.getElem_cons_succ]; go_simp; try with_reducible rfl)
  simp only [List.getElem_toArray, List.getElem_cons_zero, List.getElem_cons_succ, Act.put, List.setIfInBounds_toArray, List.set_cons_zero, List.set_cons_succ]
  refine wpAnyH_ready (rs := [12, 14]) (by kernel_rfl) (by simp) ?_
  refine AllReadyH.cons (o := _) rfl (fun K hK => ?_) (AllReadyH.cons (o := _) rfl (fun K hK => ?_) AllReadyH.nil)
  all_goals (simp only [List.getElem_toArray, List.getElem_cons_zero, List.getElem_cons_succ]; go_simp; refine hK.out _ _ (by first | exact c3 | exact cell_al _ c3) (fun hHeld2 => ?_); clear hK K hHeld; have hHeld := hHeld2; clear hHeld2; try simp only [List.getElem_toArray, List.getElem_cons_zero, List.getElem_cons_succ, Act.put, List.setIfInBounds_toArray, List.set_cons_zero, List.set_cons_succ])
  refine wpAnyH_ready (rs := [14]) (by kernel_rfl) (by simp) ?_
  refine AllReadyH.cons (o := _) rfl (fun K hK => ?_) AllReadyH.nil
  rotate_left
  refine wpAnyH_ready (rs := [12]) (by kernel_rfl) (by simp) ?_
  refine AllReadyH.cons (o := _) rfl (fun K hK => ?_) AllReadyH.nil
  rotate_left
  all_goals (simp only [List.getElem_toArray, List.getElem_cons_zero, List.getElem_cons_succ]; go_simp; refine hK.out _ _ (by first | exact c3 | exact cell_al _ c3) (fun hHeld2 => ?_); clear hK K hHeld; have hHeld := hHeld2; clear hHeld2; try simp only [List.getElem_toArray, List.getElem_cons_zero, List.getElem_cons_succ, Act.put, List.setIfInBounds_toArray, List.set_cons_zero, List.set_cons_succ])
  all_goals refine wpAnyH_ready (rs := [15]) (by kernel_rfl) (by simp) ?_
  all_goals refine AllReadyH.cons (o := _) rfl (fun K hK => ?_) AllReadyH.nil
  all_goals (refine step_append_lies _ (by rfl) _ _ _ (by rfl) lo 3 i3 _ 1 8 Try.underlying24 hi3 hz30 hz31 hz32 rfl (by omega) (.slice o l c) l xs (by rfl) ((hown.alloc _).drew) ⟨wr.heap.size, 0, none⟩ 1 1 [.int .i64 k] (by rfl) (by rfl) (World.news_of_block (cs := #[.int .i64 k]) (t := 3) (fr := (0, 0)) (heap_alloc_new wr _)) (by simp [Value.oneCell']) (by omega) hnn hbb (by simp; omega) (wr.heap.size + 1) (by simp) ?_; intro gg cap w1 hown1 hgrow hat hlt9; have hfz1 : w1.frozen? ⟨TB, kk * 8 + 7, none⟩ = false := (hgrow.frozen_far ⟨TB, kk * 8 + 7, none⟩ (by simp; omega) (Ne.symm nT)).trans ((World.frozen?_of_block ((World.grownBy_alloc wr (.cells #[.int .i64 k] 3) none).block TB lT (by simp))).trans f7); have hc1 : w1.cell? ⟨TB, kk * 8 + 7, none⟩ = some (.slice o l c) := (hgrow.cell_far ⟨TB, kk * 8 + 7, none⟩ (by simp; omega) (Ne.symm nT)).trans ((World.cell?_of_block ((World.grownBy_alloc wr (.cells #[.int .i64 k] 3) none).block TB lT (by simp))).trans t7); have hc3 : w1.cell? ⟨JB, 3, none⟩ = some (.slice (some ⟨TB, 0, none⟩) n n) := (hgrow.cell_far ⟨JB, 3, none⟩ (by simp; omega) (Ne.symm nJ)).trans ((World.cell?_of_block ((World.grownBy_alloc wr (.cells #[.int .i64 k] 3) none).block JB lJ (by simp))).trans c3))
  all_goals (refine hK.out _ _ hc3 (fun hHeld2 => ?_); clear hK K hHeld; have hHeld := hHeld2; clear hHeld2; try simp only [List.getElem_toArray, List.getElem_cons_zero, List.getElem_cons_succ, Act.put, List.setIfInBounds_toArray, List.set_cons_zero, List.set_cons_succ])
  all_goals (refine wpAnyH_take (i := 16) (oi := _) (v := ?_) rfl (by kernel_rfl) (by kernel_rfl) (by kernel_rfl) (fun _ _ _ h => h) (Or.inl ⟨by rfl, ?_⟩) (by assumption) ?_; rotate_left; · (intro w hSw; (try dsimp only at hSw); simp only [List.getElem_toArray, List.getElem_cons_zero, List.getElem_cons_succ]; go_simp; try with_reducible rfl))
  all_goals try simp only [List.getElem_toArray, List.getElem_cons_zero, List.getElem_cons_succ, Act.put, List.setIfInBounds_toArray, List.set_cons_zero, List.set_cons_succ]
  all_goals (refine wpAnyH_take (i := 17) (oi := _) (v := ?_) rfl (by kernel_rfl) (by kernel_rfl) (by kernel_rfl) (fun _ _ _ h => h) (Or.inl ⟨by rfl, ?_⟩) (by assumption) ?_; rotate_left; · (intro w hSw; (try dsimp only at hSw); simp only [List.getElem_toArray, List.getElem_cons_zero, List.getElem_cons_succ]; go_simp; try with_reducible rfl))
  all_goals try simp only [List.getElem_toArray, List.getElem_cons_zero, List.getElem_cons_succ, Act.put, List.setIfInBounds_toArray, List.set_cons_zero, List.set_cons_succ]
  all_goals refine wpAnyH_ready (rs := [18]) (by kernel_rfl) (by simp) ?_
  all_goals refine AllReadyH.cons (o := _) rfl (fun K hK => ?_) AllReadyH.nil
  all_goals (simp only [List.getElem_toArray, List.getElem_cons_zero, List.getElem_cons_succ]; go_simp; refine hK.out _ _ ((World.cell?_setCell_other _ _ _ _ hneJT).trans hc3) (fun hHeld2 => ?_); clear hK K hHeld hHeld2; try simp only [List.getElem_toArray, List.getElem_cons_zero, List.getElem_cons_succ, Act.put, List.setIfInBounds_toArray, List.set_cons_zero, List.set_cons_succ])
  all_goals refine wpAnyH_done (by kernel_rfl) ?_ _
  all_goals refine NoPanic.normal ?_
  all_goals exact hQ gg cap w1 _ _ _ _ _ _ _ _ _ _ _ _ _ _ _ _ _ _ hown1 hgrow hat
end Go.Proofs.Qxb6614022a
