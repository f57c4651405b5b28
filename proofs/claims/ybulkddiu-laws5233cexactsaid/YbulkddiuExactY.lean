import Derived.Test.YbulkddiuAt
namespace Go.Proofs.Ybulkddiu
open Go.RowKit

set_option linter.unusedSimpArgs false in
set_option linter.unusedVariables false in
set_option maxHeartbeats 4000000 in
theorem way_yi (sp fn rn : Int) (la fs rs tb ae : Bool)  (w : World) :
    Calls Yba.prog 3 #[.agg (St.cells ⟨true, sp, la, fs, fn, rs, rn, tb, ae, false⟩), .int .u8 32] w fun e w' => e = .returned (.bool true) ∧ Below w.heap.size w w' := by
  have A0 := at_new w ⟨true, sp, la, fs, fn, rs, rn, tb, ae, false⟩ 23
  have hbuild := build_any (w.alloc (.cells (St.cells ⟨true, sp, la, fs, fn, rs, rn, tb, ae, false⟩) 23)) ⟨true, sp, la, fs, fn, rs, rn, tb, ae, false⟩
  unfold St.cells at hbuild ⊢
  go_enter Yba.func3, Yba.ntmps3
  go_wp2_with (go_at_call 5; refine hbuild.mono ?_; rintro e w1 ⟨rfl, bel1⟩; have A1 := A0.below bel1 (by simp); have d0 := A1.cell 0; have d1 := A1.cell 1; have d2 := A1.cell 2; have d3 := A1.cell 3; have d4 := A1.cell 4; have d5 := A1.cell 5; have d6 := A1.cell 6; have d7 := A1.cell 7; have d8 := A1.cell 8; have d9 := A1.cell 9; simp [St.cells] at d0 d1 d2 d3 d4 d5 d6 d7 d8 d9; have hz := A1.lt; clear hbuild)
  refine (escape_any _ w1.heap.size ⟨true, sp, la, fs, fn, rs, rn, tb, ae, false⟩ 32 ((at_new w1 ⟨true, sp, la, fs, fn, rs, rn, tb, ae, false⟩ 27).alloc _)).mono ?_
  rintro e w2 ⟨rfl, k, hw2⟩
  have B1 : At w2 w1.heap.size (escF ⟨true, sp, la, fs, fn, rs, rn, tb, ae, false⟩ 32) := by rw [← hw2]; exact ((at_new w1 ⟨true, sp, la, fs, fn, rs, rn, tb, ae, false⟩ 27).alloc _).row _ k
  have B2 : At w2 (w1.heap.size + 1) (escF ⟨true, sp, la, fs, fn, rs, rn, tb, ae, false⟩ 32) := by
    refine ⟨23, ?_⟩
    rw [← hw2]
    refine (setRow_other _ _ _ _ (by omega)).trans ?_
    rw [new2]
    simp [escF, textF, noteF, St.cells] <;> rfl
  have bel2 : Below w.heap.size w w2 := by
    rw [← hw2]
    exact row_below (((((Below.refl _ _).alloc (Nat.le_refl _) _).trans (bel1.mono (by simp))).alloc (by omega) _).alloc (by simp; omega) _) (by omega) _ _
  clear hw2 bel1 A1 d0 d1 d2 d3 d4 d5 d6 d7 d8 d9
  generalize escF ⟨true, sp, la, fs, fn, rs, rn, tb, ae, false⟩ 32 = S at B1 B2
  obtain ⟨ti, tsp, tla, tfs, tfn, trs, trn, ttb, tae, tsa⟩ := S
  have p0 := B1.cell 0
  have p1 := B1.cell 1
  have p2 := B1.cell 2
  have p3 := B1.cell 3
  have p4 := B1.cell 4
  have p5 := B1.cell 5
  have p6 := B1.cell 6
  have p7 := B1.cell 7
  have p8 := B1.cell 8
  have p9 := B1.cell 9
  have q0 := B2.cell 0
  have q1 := B2.cell 1
  have q2 := B2.cell 2
  have q3 := B2.cell 3
  have q4 := B2.cell 4
  have q5 := B2.cell 5
  have q6 := B2.cell 6
  have q7 := B2.cell 7
  have q8 := B2.cell 8
  have q9 := B2.cell 9
  simp [St.cells] at p0 p1 p2 p3 p4 p5 p6 p7 p8 p9 q0 q1 q2 q3 q4 q5 q6 q7 q8 q9
  have heq := eql_same ⟨ti, tsp, tla, tfs, tfn, trs, trn, ttb, tae, tsa⟩
  unfold St.cells at heq
  have hb2 := fun W => build_any W ⟨ti, tsp, tla, tfs, tfn, trs, trn, ttb, tae, tsa⟩
  unfold St.cells at hb2
  have B1' : At w2.drew w1.heap.size ⟨ti, tsp, tla, tfs, tfn, trs, trn, ttb, tae, tsa⟩ := B1
  go_wp2
  go_region_with (go_at_call 5; refine (hb2 _).mono ?_; rintro e w3 ⟨rfl, bel3⟩; have P1 := B1'.below bel3 B1'.lt; have r0 := P1.cell 0; have r1 := P1.cell 1; have r2 := P1.cell 2; have r3 := P1.cell 3; have r4 := P1.cell 4; have r5 := P1.cell 5; have r6 := P1.cell 6; have r7 := P1.cell 7; have r8 := P1.cell 8; have r9 := P1.cell 9; simp [St.cells] at r0 r1 r2 r3 r4 r5 r6 r7 r8 r9)
  all_goals
    go_wp2
    go_ret
    exact ⟨rfl, bel2.drew.trans (bel3.mono bel2.size)⟩

set_option linter.unusedSimpArgs false in
set_option linter.unusedVariables false in
set_option maxHeartbeats 4000000 in
theorem way_yFn (sp fn rn : Int) (rs tb ae : Bool)  (w : World) :
    Calls Yba.prog 3 #[.agg (St.cells ⟨false, sp, false, false, fn, rs, rn, tb, ae, false⟩), .int .u8 32] w fun e w' => e = .returned (.bool true) ∧ Below w.heap.size w w' := by
  have A0 := at_new w ⟨false, sp, false, false, fn, rs, rn, tb, ae, false⟩ 23
  have hbuild := build_any (w.alloc (.cells (St.cells ⟨false, sp, false, false, fn, rs, rn, tb, ae, false⟩) 23)) ⟨false, sp, false, false, fn, rs, rn, tb, ae, false⟩
  unfold St.cells at hbuild ⊢
  go_enter Yba.func3, Yba.ntmps3
  go_wp2_with (go_at_call 5; refine hbuild.mono ?_; rintro e w1 ⟨rfl, bel1⟩; have A1 := A0.below bel1 (by simp); have d0 := A1.cell 0; have d1 := A1.cell 1; have d2 := A1.cell 2; have d3 := A1.cell 3; have d4 := A1.cell 4; have d5 := A1.cell 5; have d6 := A1.cell 6; have d7 := A1.cell 7; have d8 := A1.cell 8; have d9 := A1.cell 9; simp [St.cells] at d0 d1 d2 d3 d4 d5 d6 d7 d8 d9; have hz := A1.lt; clear hbuild)
  refine (escape_any _ w1.heap.size ⟨false, sp, false, false, fn, rs, rn, tb, ae, false⟩ 32 ((at_new w1 ⟨false, sp, false, false, fn, rs, rn, tb, ae, false⟩ 27).alloc _)).mono ?_
  rintro e w2 ⟨rfl, k, hw2⟩
  have B1 : At w2 w1.heap.size (escF ⟨false, sp, false, false, fn, rs, rn, tb, ae, false⟩ 32) := by rw [← hw2]; exact ((at_new w1 ⟨false, sp, false, false, fn, rs, rn, tb, ae, false⟩ 27).alloc _).row _ k
  have B2 : At w2 (w1.heap.size + 1) (escF ⟨false, sp, false, false, fn, rs, rn, tb, ae, false⟩ 32) := by
    refine ⟨23, ?_⟩
    rw [← hw2]
    refine (setRow_other _ _ _ _ (by omega)).trans ?_
    rw [new2]
    simp [escF, textF, noteF, St.cells] <;> rfl
  have bel2 : Below w.heap.size w w2 := by
    rw [← hw2]
    exact row_below (((((Below.refl _ _).alloc (Nat.le_refl _) _).trans (bel1.mono (by simp))).alloc (by omega) _).alloc (by simp; omega) _) (by omega) _ _
  clear hw2 bel1 A1 d0 d1 d2 d3 d4 d5 d6 d7 d8 d9
  generalize escF ⟨false, sp, false, false, fn, rs, rn, tb, ae, false⟩ 32 = S at B1 B2
  obtain ⟨ti, tsp, tla, tfs, tfn, trs, trn, ttb, tae, tsa⟩ := S
  have p0 := B1.cell 0
  have p1 := B1.cell 1
  have p2 := B1.cell 2
  have p3 := B1.cell 3
  have p4 := B1.cell 4
  have p5 := B1.cell 5
  have p6 := B1.cell 6
  have p7 := B1.cell 7
  have p8 := B1.cell 8
  have p9 := B1.cell 9
  have q0 := B2.cell 0
  have q1 := B2.cell 1
  have q2 := B2.cell 2
  have q3 := B2.cell 3
  have q4 := B2.cell 4
  have q5 := B2.cell 5
  have q6 := B2.cell 6
  have q7 := B2.cell 7
  have q8 := B2.cell 8
  have q9 := B2.cell 9
  simp [St.cells] at p0 p1 p2 p3 p4 p5 p6 p7 p8 p9 q0 q1 q2 q3 q4 q5 q6 q7 q8 q9
  have heq := eql_same ⟨ti, tsp, tla, tfs, tfn, trs, trn, ttb, tae, tsa⟩
  unfold St.cells at heq
  have hb2 := fun W => build_any W ⟨ti, tsp, tla, tfs, tfn, trs, trn, ttb, tae, tsa⟩
  unfold St.cells at hb2
  have B1' : At w2.drew w1.heap.size ⟨ti, tsp, tla, tfs, tfn, trs, trn, ttb, tae, tsa⟩ := B1
  go_wp2
  go_region_with (go_at_call 5; refine (hb2 _).mono ?_; rintro e w3 ⟨rfl, bel3⟩; have P1 := B1'.below bel3 B1'.lt; have r0 := P1.cell 0; have r1 := P1.cell 1; have r2 := P1.cell 2; have r3 := P1.cell 3; have r4 := P1.cell 4; have r5 := P1.cell 5; have r6 := P1.cell 6; have r7 := P1.cell 7; have r8 := P1.cell 8; have r9 := P1.cell 9; simp [St.cells] at r0 r1 r2 r3 r4 r5 r6 r7 r8 r9)
  all_goals
    go_wp2
    go_ret
    exact ⟨rfl, bel2.drew.trans (bel3.mono bel2.size)⟩

set_option linter.unusedSimpArgs false in
set_option linter.unusedVariables false in
set_option maxHeartbeats 4000000 in
theorem way_yFl (sp fn rn : Int) (rs tb ae : Bool)  (hl : sp < fn) (w : World) :
    Calls Yba.prog 3 #[.agg (St.cells ⟨false, sp, false, true, fn, rs, rn, tb, ae, false⟩), .int .u8 32] w fun e w' => e = .returned (.bool true) ∧ Below w.heap.size w w' := by
  have A0 := at_new w ⟨false, sp, false, true, fn, rs, rn, tb, ae, false⟩ 23
  have hbuild := build_any (w.alloc (.cells (St.cells ⟨false, sp, false, true, fn, rs, rn, tb, ae, false⟩) 23)) ⟨false, sp, false, true, fn, rs, rn, tb, ae, false⟩
  unfold St.cells at hbuild ⊢
  go_enter Yba.func3, Yba.ntmps3
  go_wp2_with (go_at_call 5; refine hbuild.mono ?_; rintro e w1 ⟨rfl, bel1⟩; have A1 := A0.below bel1 (by simp); have d0 := A1.cell 0; have d1 := A1.cell 1; have d2 := A1.cell 2; have d3 := A1.cell 3; have d4 := A1.cell 4; have d5 := A1.cell 5; have d6 := A1.cell 6; have d7 := A1.cell 7; have d8 := A1.cell 8; have d9 := A1.cell 9; simp [St.cells] at d0 d1 d2 d3 d4 d5 d6 d7 d8 d9; have hz := A1.lt; clear hbuild)
  refine (escape_any _ w1.heap.size ⟨false, sp, false, true, fn, rs, rn, tb, ae, false⟩ 32 ((at_new w1 ⟨false, sp, false, true, fn, rs, rn, tb, ae, false⟩ 27).alloc _)).mono ?_
  rintro e w2 ⟨rfl, k, hw2⟩
  have B1 : At w2 w1.heap.size (escF ⟨false, sp, false, true, fn, rs, rn, tb, ae, false⟩ 32) := by rw [← hw2]; exact ((at_new w1 ⟨false, sp, false, true, fn, rs, rn, tb, ae, false⟩ 27).alloc _).row _ k
  have B2 : At w2 (w1.heap.size + 1) (escF ⟨false, sp, false, true, fn, rs, rn, tb, ae, false⟩ 32) := by
    refine ⟨23, ?_⟩
    rw [← hw2]
    refine (setRow_other _ _ _ _ (by omega)).trans ?_
    rw [new2]
    simp [escF, textF, noteF, St.cells, hl] <;> rfl
  have bel2 : Below w.heap.size w w2 := by
    rw [← hw2]
    exact row_below (((((Below.refl _ _).alloc (Nat.le_refl _) _).trans (bel1.mono (by simp))).alloc (by omega) _).alloc (by simp; omega) _) (by omega) _ _
  clear hw2 bel1 A1 d0 d1 d2 d3 d4 d5 d6 d7 d8 d9
  generalize escF ⟨false, sp, false, true, fn, rs, rn, tb, ae, false⟩ 32 = S at B1 B2
  obtain ⟨ti, tsp, tla, tfs, tfn, trs, trn, ttb, tae, tsa⟩ := S
  have p0 := B1.cell 0
  have p1 := B1.cell 1
  have p2 := B1.cell 2
  have p3 := B1.cell 3
  have p4 := B1.cell 4
  have p5 := B1.cell 5
  have p6 := B1.cell 6
  have p7 := B1.cell 7
  have p8 := B1.cell 8
  have p9 := B1.cell 9
  have q0 := B2.cell 0
  have q1 := B2.cell 1
  have q2 := B2.cell 2
  have q3 := B2.cell 3
  have q4 := B2.cell 4
  have q5 := B2.cell 5
  have q6 := B2.cell 6
  have q7 := B2.cell 7
  have q8 := B2.cell 8
  have q9 := B2.cell 9
  simp [St.cells] at p0 p1 p2 p3 p4 p5 p6 p7 p8 p9 q0 q1 q2 q3 q4 q5 q6 q7 q8 q9
  have heq := eql_same ⟨ti, tsp, tla, tfs, tfn, trs, trn, ttb, tae, tsa⟩
  unfold St.cells at heq
  have hb2 := fun W => build_any W ⟨ti, tsp, tla, tfs, tfn, trs, trn, ttb, tae, tsa⟩
  unfold St.cells at hb2
  have B1' : At w2.drew w1.heap.size ⟨ti, tsp, tla, tfs, tfn, trs, trn, ttb, tae, tsa⟩ := B1
  go_wp2
  go_region_with (go_at_call 5; refine (hb2 _).mono ?_; rintro e w3 ⟨rfl, bel3⟩; have P1 := B1'.below bel3 B1'.lt; have r0 := P1.cell 0; have r1 := P1.cell 1; have r2 := P1.cell 2; have r3 := P1.cell 3; have r4 := P1.cell 4; have r5 := P1.cell 5; have r6 := P1.cell 6; have r7 := P1.cell 7; have r8 := P1.cell 8; have r9 := P1.cell 9; simp [St.cells] at r0 r1 r2 r3 r4 r5 r6 r7 r8 r9)
  all_goals
    go_wp2
    go_ret
    exact ⟨rfl, bel2.drew.trans (bel3.mono bel2.size)⟩

set_option linter.unusedSimpArgs false in
set_option linter.unusedVariables false in
set_option maxHeartbeats 4000000 in
theorem way_yFg (sp fn rn : Int) (rs tb ae : Bool)  (hl : ¬ sp < fn) (w : World) :
    Calls Yba.prog 3 #[.agg (St.cells ⟨false, sp, false, true, fn, rs, rn, tb, ae, false⟩), .int .u8 32] w fun e w' => e = .returned (.bool true) ∧ Below w.heap.size w w' := by
  have A0 := at_new w ⟨false, sp, false, true, fn, rs, rn, tb, ae, false⟩ 23
  have hbuild := build_any (w.alloc (.cells (St.cells ⟨false, sp, false, true, fn, rs, rn, tb, ae, false⟩) 23)) ⟨false, sp, false, true, fn, rs, rn, tb, ae, false⟩
  unfold St.cells at hbuild ⊢
  go_enter Yba.func3, Yba.ntmps3
  go_wp2_with (go_at_call 5; refine hbuild.mono ?_; rintro e w1 ⟨rfl, bel1⟩; have A1 := A0.below bel1 (by simp); have d0 := A1.cell 0; have d1 := A1.cell 1; have d2 := A1.cell 2; have d3 := A1.cell 3; have d4 := A1.cell 4; have d5 := A1.cell 5; have d6 := A1.cell 6; have d7 := A1.cell 7; have d8 := A1.cell 8; have d9 := A1.cell 9; simp [St.cells] at d0 d1 d2 d3 d4 d5 d6 d7 d8 d9; have hz := A1.lt; clear hbuild)
  refine (escape_any _ w1.heap.size ⟨false, sp, false, true, fn, rs, rn, tb, ae, false⟩ 32 ((at_new w1 ⟨false, sp, false, true, fn, rs, rn, tb, ae, false⟩ 27).alloc _)).mono ?_
  rintro e w2 ⟨rfl, k, hw2⟩
  have B1 : At w2 w1.heap.size (escF ⟨false, sp, false, true, fn, rs, rn, tb, ae, false⟩ 32) := by rw [← hw2]; exact ((at_new w1 ⟨false, sp, false, true, fn, rs, rn, tb, ae, false⟩ 27).alloc _).row _ k
  have B2 : At w2 (w1.heap.size + 1) (escF ⟨false, sp, false, true, fn, rs, rn, tb, ae, false⟩ 32) := by
    refine ⟨23, ?_⟩
    rw [← hw2]
    refine (setRow_other _ _ _ _ (by omega)).trans ?_
    rw [new2]
    simp [escF, textF, noteF, St.cells, Int.not_lt.2 hl] <;> rfl
  have bel2 : Below w.heap.size w w2 := by
    rw [← hw2]
    exact row_below (((((Below.refl _ _).alloc (Nat.le_refl _) _).trans (bel1.mono (by simp))).alloc (by omega) _).alloc (by simp; omega) _) (by omega) _ _
  clear hw2 bel1 A1 d0 d1 d2 d3 d4 d5 d6 d7 d8 d9
  generalize escF ⟨false, sp, false, true, fn, rs, rn, tb, ae, false⟩ 32 = S at B1 B2
  obtain ⟨ti, tsp, tla, tfs, tfn, trs, trn, ttb, tae, tsa⟩ := S
  have p0 := B1.cell 0
  have p1 := B1.cell 1
  have p2 := B1.cell 2
  have p3 := B1.cell 3
  have p4 := B1.cell 4
  have p5 := B1.cell 5
  have p6 := B1.cell 6
  have p7 := B1.cell 7
  have p8 := B1.cell 8
  have p9 := B1.cell 9
  have q0 := B2.cell 0
  have q1 := B2.cell 1
  have q2 := B2.cell 2
  have q3 := B2.cell 3
  have q4 := B2.cell 4
  have q5 := B2.cell 5
  have q6 := B2.cell 6
  have q7 := B2.cell 7
  have q8 := B2.cell 8
  have q9 := B2.cell 9
  simp [St.cells] at p0 p1 p2 p3 p4 p5 p6 p7 p8 p9 q0 q1 q2 q3 q4 q5 q6 q7 q8 q9
  have heq := eql_same ⟨ti, tsp, tla, tfs, tfn, trs, trn, ttb, tae, tsa⟩
  unfold St.cells at heq
  have hb2 := fun W => build_any W ⟨ti, tsp, tla, tfs, tfn, trs, trn, ttb, tae, tsa⟩
  unfold St.cells at hb2
  have B1' : At w2.drew w1.heap.size ⟨ti, tsp, tla, tfs, tfn, trs, trn, ttb, tae, tsa⟩ := B1
  go_wp2
  go_region_with (go_at_call 5; refine (hb2 _).mono ?_; rintro e w3 ⟨rfl, bel3⟩; have P1 := B1'.below bel3 B1'.lt; have r0 := P1.cell 0; have r1 := P1.cell 1; have r2 := P1.cell 2; have r3 := P1.cell 3; have r4 := P1.cell 4; have r5 := P1.cell 5; have r6 := P1.cell 6; have r7 := P1.cell 7; have r8 := P1.cell 8; have r9 := P1.cell 9; simp [St.cells] at r0 r1 r2 r3 r4 r5 r6 r7 r8 r9)
  all_goals
    go_wp2
    go_ret
    exact ⟨rfl, bel2.drew.trans (bel3.mono bel2.size)⟩

set_option linter.unusedSimpArgs false in
set_option linter.unusedVariables false in
set_option maxHeartbeats 4000000 in
theorem way_yLn (sp fn rn : Int) (fs tb ae : Bool)  (w : World) :
    Calls Yba.prog 3 #[.agg (St.cells ⟨false, sp, true, fs, fn, false, rn, tb, ae, false⟩), .int .u8 32] w fun e w' => e = .returned (.bool true) ∧ Below w.heap.size w w' := by
  have A0 := at_new w ⟨false, sp, true, fs, fn, false, rn, tb, ae, false⟩ 23
  have hbuild := build_any (w.alloc (.cells (St.cells ⟨false, sp, true, fs, fn, false, rn, tb, ae, false⟩) 23)) ⟨false, sp, true, fs, fn, false, rn, tb, ae, false⟩
  unfold St.cells at hbuild ⊢
  go_enter Yba.func3, Yba.ntmps3
  go_wp2_with (go_at_call 5; refine hbuild.mono ?_; rintro e w1 ⟨rfl, bel1⟩; have A1 := A0.below bel1 (by simp); have d0 := A1.cell 0; have d1 := A1.cell 1; have d2 := A1.cell 2; have d3 := A1.cell 3; have d4 := A1.cell 4; have d5 := A1.cell 5; have d6 := A1.cell 6; have d7 := A1.cell 7; have d8 := A1.cell 8; have d9 := A1.cell 9; simp [St.cells] at d0 d1 d2 d3 d4 d5 d6 d7 d8 d9; have hz := A1.lt; clear hbuild)
  refine (escape_any _ w1.heap.size ⟨false, sp, true, fs, fn, false, rn, tb, ae, false⟩ 32 ((at_new w1 ⟨false, sp, true, fs, fn, false, rn, tb, ae, false⟩ 27).alloc _)).mono ?_
  rintro e w2 ⟨rfl, k, hw2⟩
  have B1 : At w2 w1.heap.size (escF ⟨false, sp, true, fs, fn, false, rn, tb, ae, false⟩ 32) := by rw [← hw2]; exact ((at_new w1 ⟨false, sp, true, fs, fn, false, rn, tb, ae, false⟩ 27).alloc _).row _ k
  have B2 : At w2 (w1.heap.size + 1) (escF ⟨false, sp, true, fs, fn, false, rn, tb, ae, false⟩ 32) := by
    refine ⟨23, ?_⟩
    rw [← hw2]
    refine (setRow_other _ _ _ _ (by omega)).trans ?_
    rw [new2]
    simp [escF, textF, noteF, St.cells] <;> rfl
  have bel2 : Below w.heap.size w w2 := by
    rw [← hw2]
    exact row_below (((((Below.refl _ _).alloc (Nat.le_refl _) _).trans (bel1.mono (by simp))).alloc (by omega) _).alloc (by simp; omega) _) (by omega) _ _
  clear hw2 bel1 A1 d0 d1 d2 d3 d4 d5 d6 d7 d8 d9
  generalize escF ⟨false, sp, true, fs, fn, false, rn, tb, ae, false⟩ 32 = S at B1 B2
  obtain ⟨ti, tsp, tla, tfs, tfn, trs, trn, ttb, tae, tsa⟩ := S
  have p0 := B1.cell 0
  have p1 := B1.cell 1
  have p2 := B1.cell 2
  have p3 := B1.cell 3
  have p4 := B1.cell 4
  have p5 := B1.cell 5
  have p6 := B1.cell 6
  have p7 := B1.cell 7
  have p8 := B1.cell 8
  have p9 := B1.cell 9
  have q0 := B2.cell 0
  have q1 := B2.cell 1
  have q2 := B2.cell 2
  have q3 := B2.cell 3
  have q4 := B2.cell 4
  have q5 := B2.cell 5
  have q6 := B2.cell 6
  have q7 := B2.cell 7
  have q8 := B2.cell 8
  have q9 := B2.cell 9
  simp [St.cells] at p0 p1 p2 p3 p4 p5 p6 p7 p8 p9 q0 q1 q2 q3 q4 q5 q6 q7 q8 q9
  have heq := eql_same ⟨ti, tsp, tla, tfs, tfn, trs, trn, ttb, tae, tsa⟩
  unfold St.cells at heq
  have hb2 := fun W => build_any W ⟨ti, tsp, tla, tfs, tfn, trs, trn, ttb, tae, tsa⟩
  unfold St.cells at hb2
  have B1' : At w2.drew w1.heap.size ⟨ti, tsp, tla, tfs, tfn, trs, trn, ttb, tae, tsa⟩ := B1
  go_wp2
  go_region_with (go_at_call 5; refine (hb2 _).mono ?_; rintro e w3 ⟨rfl, bel3⟩; have P1 := B1'.below bel3 B1'.lt; have r0 := P1.cell 0; have r1 := P1.cell 1; have r2 := P1.cell 2; have r3 := P1.cell 3; have r4 := P1.cell 4; have r5 := P1.cell 5; have r6 := P1.cell 6; have r7 := P1.cell 7; have r8 := P1.cell 8; have r9 := P1.cell 9; simp [St.cells] at r0 r1 r2 r3 r4 r5 r6 r7 r8 r9)
  all_goals
    go_wp2
    go_ret
    exact ⟨rfl, bel2.drew.trans (bel3.mono bel2.size)⟩

set_option linter.unusedSimpArgs false in
set_option linter.unusedVariables false in
set_option maxHeartbeats 4000000 in
theorem way_yLl (sp fn rn : Int) (fs tb ae : Bool)  (hl : sp < rn) (w : World) :
    Calls Yba.prog 3 #[.agg (St.cells ⟨false, sp, true, fs, fn, true, rn, tb, ae, false⟩), .int .u8 32] w fun e w' => e = .returned (.bool true) ∧ Below w.heap.size w w' := by
  have A0 := at_new w ⟨false, sp, true, fs, fn, true, rn, tb, ae, false⟩ 23
  have hbuild := build_any (w.alloc (.cells (St.cells ⟨false, sp, true, fs, fn, true, rn, tb, ae, false⟩) 23)) ⟨false, sp, true, fs, fn, true, rn, tb, ae, false⟩
  unfold St.cells at hbuild ⊢
  go_enter Yba.func3, Yba.ntmps3
  go_wp2_with (go_at_call 5; refine hbuild.mono ?_; rintro e w1 ⟨rfl, bel1⟩; have A1 := A0.below bel1 (by simp); have d0 := A1.cell 0; have d1 := A1.cell 1; have d2 := A1.cell 2; have d3 := A1.cell 3; have d4 := A1.cell 4; have d5 := A1.cell 5; have d6 := A1.cell 6; have d7 := A1.cell 7; have d8 := A1.cell 8; have d9 := A1.cell 9; simp [St.cells] at d0 d1 d2 d3 d4 d5 d6 d7 d8 d9; have hz := A1.lt; clear hbuild)
  refine (escape_any _ w1.heap.size ⟨false, sp, true, fs, fn, true, rn, tb, ae, false⟩ 32 ((at_new w1 ⟨false, sp, true, fs, fn, true, rn, tb, ae, false⟩ 27).alloc _)).mono ?_
  rintro e w2 ⟨rfl, k, hw2⟩
  have B1 : At w2 w1.heap.size (escF ⟨false, sp, true, fs, fn, true, rn, tb, ae, false⟩ 32) := by rw [← hw2]; exact ((at_new w1 ⟨false, sp, true, fs, fn, true, rn, tb, ae, false⟩ 27).alloc _).row _ k
  have B2 : At w2 (w1.heap.size + 1) (escF ⟨false, sp, true, fs, fn, true, rn, tb, ae, false⟩ 32) := by
    refine ⟨23, ?_⟩
    rw [← hw2]
    refine (setRow_other _ _ _ _ (by omega)).trans ?_
    rw [new2]
    simp [escF, textF, noteF, St.cells, hl] <;> rfl
  have bel2 : Below w.heap.size w w2 := by
    rw [← hw2]
    exact row_below (((((Below.refl _ _).alloc (Nat.le_refl _) _).trans (bel1.mono (by simp))).alloc (by omega) _).alloc (by simp; omega) _) (by omega) _ _
  clear hw2 bel1 A1 d0 d1 d2 d3 d4 d5 d6 d7 d8 d9
  generalize escF ⟨false, sp, true, fs, fn, true, rn, tb, ae, false⟩ 32 = S at B1 B2
  obtain ⟨ti, tsp, tla, tfs, tfn, trs, trn, ttb, tae, tsa⟩ := S
  have p0 := B1.cell 0
  have p1 := B1.cell 1
  have p2 := B1.cell 2
  have p3 := B1.cell 3
  have p4 := B1.cell 4
  have p5 := B1.cell 5
  have p6 := B1.cell 6
  have p7 := B1.cell 7
  have p8 := B1.cell 8
  have p9 := B1.cell 9
  have q0 := B2.cell 0
  have q1 := B2.cell 1
  have q2 := B2.cell 2
  have q3 := B2.cell 3
  have q4 := B2.cell 4
  have q5 := B2.cell 5
  have q6 := B2.cell 6
  have q7 := B2.cell 7
  have q8 := B2.cell 8
  have q9 := B2.cell 9
  simp [St.cells] at p0 p1 p2 p3 p4 p5 p6 p7 p8 p9 q0 q1 q2 q3 q4 q5 q6 q7 q8 q9
  have heq := eql_same ⟨ti, tsp, tla, tfs, tfn, trs, trn, ttb, tae, tsa⟩
  unfold St.cells at heq
  have hb2 := fun W => build_any W ⟨ti, tsp, tla, tfs, tfn, trs, trn, ttb, tae, tsa⟩
  unfold St.cells at hb2
  have B1' : At w2.drew w1.heap.size ⟨ti, tsp, tla, tfs, tfn, trs, trn, ttb, tae, tsa⟩ := B1
  go_wp2
  go_region_with (go_at_call 5; refine (hb2 _).mono ?_; rintro e w3 ⟨rfl, bel3⟩; have P1 := B1'.below bel3 B1'.lt; have r0 := P1.cell 0; have r1 := P1.cell 1; have r2 := P1.cell 2; have r3 := P1.cell 3; have r4 := P1.cell 4; have r5 := P1.cell 5; have r6 := P1.cell 6; have r7 := P1.cell 7; have r8 := P1.cell 8; have r9 := P1.cell 9; simp [St.cells] at r0 r1 r2 r3 r4 r5 r6 r7 r8 r9)
  all_goals
    go_wp2
    go_ret
    exact ⟨rfl, bel2.drew.trans (bel3.mono bel2.size)⟩

set_option linter.unusedSimpArgs false in
set_option linter.unusedVariables false in
set_option maxHeartbeats 4000000 in
theorem way_yLg (sp fn rn : Int) (fs tb ae : Bool)  (hl : ¬ sp < rn) (w : World) :
    Calls Yba.prog 3 #[.agg (St.cells ⟨false, sp, true, fs, fn, true, rn, tb, ae, false⟩), .int .u8 32] w fun e w' => e = .returned (.bool true) ∧ Below w.heap.size w w' := by
  have A0 := at_new w ⟨false, sp, true, fs, fn, true, rn, tb, ae, false⟩ 23
  have hbuild := build_any (w.alloc (.cells (St.cells ⟨false, sp, true, fs, fn, true, rn, tb, ae, false⟩) 23)) ⟨false, sp, true, fs, fn, true, rn, tb, ae, false⟩
  unfold St.cells at hbuild ⊢
  go_enter Yba.func3, Yba.ntmps3
  go_wp2_with (go_at_call 5; refine hbuild.mono ?_; rintro e w1 ⟨rfl, bel1⟩; have A1 := A0.below bel1 (by simp); have d0 := A1.cell 0; have d1 := A1.cell 1; have d2 := A1.cell 2; have d3 := A1.cell 3; have d4 := A1.cell 4; have d5 := A1.cell 5; have d6 := A1.cell 6; have d7 := A1.cell 7; have d8 := A1.cell 8; have d9 := A1.cell 9; simp [St.cells] at d0 d1 d2 d3 d4 d5 d6 d7 d8 d9; have hz := A1.lt; clear hbuild)
  refine (escape_any _ w1.heap.size ⟨false, sp, true, fs, fn, true, rn, tb, ae, false⟩ 32 ((at_new w1 ⟨false, sp, true, fs, fn, true, rn, tb, ae, false⟩ 27).alloc _)).mono ?_
  rintro e w2 ⟨rfl, k, hw2⟩
  have B1 : At w2 w1.heap.size (escF ⟨false, sp, true, fs, fn, true, rn, tb, ae, false⟩ 32) := by rw [← hw2]; exact ((at_new w1 ⟨false, sp, true, fs, fn, true, rn, tb, ae, false⟩ 27).alloc _).row _ k
  have B2 : At w2 (w1.heap.size + 1) (escF ⟨false, sp, true, fs, fn, true, rn, tb, ae, false⟩ 32) := by
    refine ⟨23, ?_⟩
    rw [← hw2]
    refine (setRow_other _ _ _ _ (by omega)).trans ?_
    rw [new2]
    simp [escF, textF, noteF, St.cells, Int.not_lt.2 hl] <;> rfl
  have bel2 : Below w.heap.size w w2 := by
    rw [← hw2]
    exact row_below (((((Below.refl _ _).alloc (Nat.le_refl _) _).trans (bel1.mono (by simp))).alloc (by omega) _).alloc (by simp; omega) _) (by omega) _ _
  clear hw2 bel1 A1 d0 d1 d2 d3 d4 d5 d6 d7 d8 d9
  generalize escF ⟨false, sp, true, fs, fn, true, rn, tb, ae, false⟩ 32 = S at B1 B2
  obtain ⟨ti, tsp, tla, tfs, tfn, trs, trn, ttb, tae, tsa⟩ := S
  have p0 := B1.cell 0
  have p1 := B1.cell 1
  have p2 := B1.cell 2
  have p3 := B1.cell 3
  have p4 := B1.cell 4
  have p5 := B1.cell 5
  have p6 := B1.cell 6
  have p7 := B1.cell 7
  have p8 := B1.cell 8
  have p9 := B1.cell 9
  have q0 := B2.cell 0
  have q1 := B2.cell 1
  have q2 := B2.cell 2
  have q3 := B2.cell 3
  have q4 := B2.cell 4
  have q5 := B2.cell 5
  have q6 := B2.cell 6
  have q7 := B2.cell 7
  have q8 := B2.cell 8
  have q9 := B2.cell 9
  simp [St.cells] at p0 p1 p2 p3 p4 p5 p6 p7 p8 p9 q0 q1 q2 q3 q4 q5 q6 q7 q8 q9
  have heq := eql_same ⟨ti, tsp, tla, tfs, tfn, trs, trn, ttb, tae, tsa⟩
  unfold St.cells at heq
  have hb2 := fun W => build_any W ⟨ti, tsp, tla, tfs, tfn, trs, trn, ttb, tae, tsa⟩
  unfold St.cells at hb2
  have B1' : At w2.drew w1.heap.size ⟨ti, tsp, tla, tfs, tfn, trs, trn, ttb, tae, tsa⟩ := B1
  go_wp2
  go_region_with (go_at_call 5; refine (hb2 _).mono ?_; rintro e w3 ⟨rfl, bel3⟩; have P1 := B1'.below bel3 B1'.lt; have r0 := P1.cell 0; have r1 := P1.cell 1; have r2 := P1.cell 2; have r3 := P1.cell 3; have r4 := P1.cell 4; have r5 := P1.cell 5; have r6 := P1.cell 6; have r7 := P1.cell 7; have r8 := P1.cell 8; have r9 := P1.cell 9; simp [St.cells] at r0 r1 r2 r3 r4 r5 r6 r7 r8 r9)
  all_goals
    go_wp2
    go_ret
    exact ⟨rfl, bel2.drew.trans (bel3.mono bel2.size)⟩
end Go.Proofs.Ybulkddiu
