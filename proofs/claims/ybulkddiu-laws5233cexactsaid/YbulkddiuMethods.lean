/-
  The contracts of the methods of nix.indentation and of the law's own model functions, over the shared state.
-/
import Derived.Test.YbulkddiuState
import Derived.Deep.QuietTactic
import Derived.BigQuiet
namespace Go.Proofs.Ybulkddiu
open Go.RowKit

theorem At.set {w : World} {b : Nat} {s : St} (h : At w b s) (j : Nat) (v : Value) (s' : St) (e : s.cells.setIfInBounds j v = s'.cells) : At (w.setCell ⟨b, j, none⟩ v) b s' := by
  obtain ⟨t, h⟩ := h
  refine ⟨t, ?_⟩
  rw [set_row h, e]; exact setRow_heap w b _ _ t (0, 0) h
theorem At.set_row {w : World} {b : Nat} {s : St} (h : At w b s) (j : Nat) (v : Value) (c : Array Value) : (w.setCell ⟨b, j, none⟩ v).setRow b c = w.setRow b c := by
  obtain ⟨t, h⟩ := h
  rw [Ybulkddiu.set_row h, setRow_setRow]
theorem At.row_set {w : World} {b : Nat} {s : St} (h : At w b s) (c : Array Value) (j : Nat) (v : Value) : (w.setRow b c).setCell ⟨b, j, none⟩ v = w.setRow b (c.setIfInBounds j v) := by
  obtain ⟨t, h⟩ := h
  exact Ybulkddiu.row_set h c j v
theorem At.as_row {w : World} {b : Nat} {s : St} (h : At w b s) (j : Nat) (v : Value) : w.setCell ⟨b, j, none⟩ v = w.setRow b (s.cells.setIfInBounds j v) := by
  obtain ⟨t, h⟩ := h
  exact Ybulkddiu.set_row h j v
theorem At.self {w : World} {b : Nat} {s : St} (h : At w b s) : w.setRow b s.cells = w := by
  obtain ⟨t, h⟩ := h
  exact setRow_self w b _ t (0, 0) h

set_option maxHeartbeats 400000 in
theorem newline_any (w : World) (b : Nat) (s : St) (h : At w b s) :
    Calls Yba.prog 8 #[.pointer (some ⟨b, 0, none⟩)] w fun e w' => e = .returned (.tuple #[]) ∧ w.setRow b (newF s).cells = w' := by
  have c0 : w.cell? ⟨b, 0, none⟩ = some (.bool s.i) := h.cell 0
  have c1 : w.cell? ⟨b, 1, none⟩ = some (.int .i64 s.sp) := h.cell 1
  have c2 : w.cell? ⟨b, 2, none⟩ = some (.bool s.la) := h.cell 2
  have c8 : w.cell? ⟨b, 8, none⟩ = some (.bool s.ae) := h.cell 8
  have f0 := h.frozen 0
  have f1 := h.frozen 1
  have f2 := h.frozen 2
  have f8 := h.frozen 8
  go_enter Yba.func8, Yba.ntmps8
  go_wp2
  go_end0
  refine ⟨rfl, ?_⟩
  rw [h.as_row, h.row_set, h.row_set, h.row_set]
  simp [newF, St.cells]

set_option maxHeartbeats 400000 in
theorem space_any (w : World) (b : Nat) (s : St) (h : At w b s) (l0 : 0 ≤ s.sp) (l1 : s.sp ≤ 1000000) :
    Calls Yba.prog 7 #[.pointer (some ⟨b, 0, none⟩)] w fun e w' => e = .returned (.tuple #[]) ∧ w.setRow b (spaceF s).cells = w' := by
  obtain ⟨i, sp, la, fs, fn, rs, rn, tb, ae, sa⟩ := s
  have c1 : w.cell? ⟨b, 1, none⟩ = some (.int .i64 sp) := h.cell 1
  have c8 : w.cell? ⟨b, 8, none⟩ = some (.bool ae) := h.cell 8
  have c9 : w.cell? ⟨b, 9, none⟩ = some (.bool sa) := h.cell 9
  have f1 := h.frozen 1
  have f8 := h.frozen 8
  have f9 := h.frozen 9
  simp only at l0 l1
  cases ae
  · go_enter Yba.func7, Yba.ntmps7
    go_wp2
    go_end0
    refine ⟨rfl, ?_⟩
    rw [h.as_row]
    simp [spaceF, St.cells]
  · go_enter Yba.func7, Yba.ntmps7
    go_wp2
    go_end0
    refine ⟨rfl, ?_⟩
    rw [h.as_row, h.row_set, h.row_set]
    simp [spaceF, St.cells]

set_option maxHeartbeats 400000 in
theorem tab_any (w : World) (b : Nat) (s : St) (h : At w b s) :
    Calls Yba.prog 9 #[.pointer (some ⟨b, 0, none⟩)] w fun e w' => e = .returned (.tuple #[]) ∧ ∃ k, (w.setRow b (tabF s).cells).drewN k = w' := by
  obtain ⟨i, sp, la, fs, fn, rs, rn, tb, ae, sa⟩ := s
  have c0 : w.cell? ⟨b, 0, none⟩ = some (.bool i) := h.cell 0
  have c7 : w.cell? ⟨b, 7, none⟩ = some (.bool tb) := h.cell 7
  have f7 := h.frozen 7
  cases i
  · have ht := text_any _ b _ (h.set 7 (.bool true) ⟨false, sp, la, fs, fn, rs, rn, true, ae, sa⟩ rfl)
    go_enter Yba.func9, Yba.ntmps9
    go_wp2_with (go_at_call 11; refine ht.mono ?_; rintro e w1 ⟨rfl, k, rfl⟩)
    go_end0
    refine ⟨rfl, k, ?_⟩
    rw [h.set_row]
    simp [tabF]
  · have ht := text_any _ b _ h
    go_enter Yba.func9, Yba.ntmps9
    go_wp2_with (go_at_call 11; refine ht.mono ?_; rintro e w1 ⟨rfl, k, rfl⟩)
    go_end0
    refine ⟨rfl, k, ?_⟩
    simp [tabF]

set_option maxHeartbeats 400000 in
theorem escape_any (w : World) (b : Nat) (s : St) (c : Int) (h : At w b s) :
    Calls Yba.prog 6 #[.pointer (some ⟨b, 0, none⟩), .int .u8 c] w fun e w' => e = .returned (.tuple #[]) ∧ ∃ k, (w.setRow b (escF s c).cells).drewN k = w' := by
  obtain ⟨i, sp, la, fs, fn, rs, rn, tb, ae, sa⟩ := s
  have c8 : w.cell? ⟨b, 8, none⟩ = some (.bool ae) := h.cell 8
  have c9 : w.cell? ⟨b, 9, none⟩ = some (.bool sa) := h.cell 9
  have f9 := h.frozen 9
  have fin : ∀ (s1 : St) (W : World) (k : Nat), At W b s1 → (∀ X, W.setRow b X = w.setRow b X) → ∀ W', W' = (W.setRow b (textF s1).cells).drewN k → s1 = ⟨i, sp, la, fs, fn, rs, rn, tb, ae, sa || (decide (c = 32) && ae)⟩ →
      (W'.cell? ⟨b, 8, none⟩ = some (.bool (textF s1).ae)) ∧ W'.frozen? ⟨b, 8, none⟩ = false ∧ W'.setCell ⟨b, 8, none⟩ (.bool (c == 10)) = (w.setRow b (escF ⟨i, sp, la, fs, fn, rs, rn, tb, ae, sa⟩ c).cells).drewN k := by
    intro s1 W k hW hrow W' e1 e2
    have hA := hW.row (textF s1) k
    subst e1
    refine ⟨hA.cell 8, hA.frozen 8, ?_⟩
    have e3 : ((W.setRow b (textF s1).cells).drewN k).setCell ⟨b, 8, none⟩ (.bool (c == 10)) = ((W.setRow b (textF s1).cells).setCell ⟨b, 8, none⟩ (.bool (c == 10))).drewN k := rfl
    rw [e3, hW.row_set, hrow]
    subst e2
    congr 2
  by_cases h32 : c = 32
  · have b32 : (c == 32) = true := by simp [h32]
    have H32 : Hid (c = 32) := h32
    cases ae
    · clear h32
      have ht := text_any _ b _ (h)
      have fin1 := fun k => fin _ _ k (h) (fun _ => rfl) _ rfl (by simp [H32.out])
      go_enter Yba.func6, Yba.ntmps6
      go_wp2_with (go_at_call 11; refine ht.mono ?_; rintro e w1 ⟨rfl, k, rfl⟩; obtain ⟨q1, q2, q3⟩ := fin1 k; clear fin fin1)
      go_end0
      exact ⟨rfl, k, rfl⟩
    · clear h32
      have ht := text_any _ b _ (h.set 9 (.bool true) ⟨i, sp, la, fs, fn, rs, rn, tb, true, true⟩ rfl)
      have fin1 := fun k => fin _ _ k (h.set 9 (.bool true) ⟨i, sp, la, fs, fn, rs, rn, tb, true, true⟩ rfl) (h.set_row 9 _) _ rfl (by simp [H32.out])
      go_enter Yba.func6, Yba.ntmps6
      go_wp2_with (go_at_call 11; refine ht.mono ?_; rintro e w1 ⟨rfl, k, rfl⟩; obtain ⟨q1, q2, q3⟩ := fin1 k; clear fin fin1)
      go_end0
      exact ⟨rfl, k, rfl⟩
  · have b32 : (c == 32) = false := by simp [h32]
    have H32 : Hid (¬ c = 32) := h32
    clear h32
    have ht := text_any _ b _ (h)
    have fin1 := fun k => fin _ _ k (h) (fun _ => rfl) _ rfl (by simp [H32.out])
    go_enter Yba.func6, Yba.ntmps6
    go_wp2_with (go_at_call 11; refine ht.mono ?_; rintro e w1 ⟨rfl, k, rfl⟩; obtain ⟨q1, q2, q3⟩ := fin1 k; clear fin fin1)
    go_end0
    exact ⟨rfl, k, rfl⟩

set_option maxHeartbeats 1000000 in
theorem zztext_any (w : World) (b : Nat) (s : St) (h : At w b s) :
    Calls Yba.prog 10 #[.pointer (some ⟨b, 0, none⟩)] w fun e w' => e = .returned (.tuple #[]) ∧ ∃ k, w' = (w.setRow b (textF s).cells).drewN k := by
  obtain ⟨i, sp, la, fs, fn, rs, rn, tb, ae, sa⟩ := s
  have c0 : w.cell? ⟨b, 0, none⟩ = some (.bool i) := h.cell 0
  have c1 : w.cell? ⟨b, 1, none⟩ = some (.int .i64 sp) := h.cell 1
  have c2 : w.cell? ⟨b, 2, none⟩ = some (.bool la) := h.cell 2
  have c3 : w.cell? ⟨b, 3, none⟩ = some (.bool fs) := h.cell 3
  have c4 : w.cell? ⟨b, 4, none⟩ = some (.int .i64 fn) := h.cell 4
  have c5 : w.cell? ⟨b, 5, none⟩ = some (.bool rs) := h.cell 5
  have c6 : w.cell? ⟨b, 6, none⟩ = some (.int .i64 rn) := h.cell 6
  have c8 : w.cell? ⟨b, 8, none⟩ = some (.bool ae) := h.cell 8
  have f0 := h.frozen 0
  have f3 := h.frozen 3
  have f4 := h.frozen 4
  have f5 := h.frozen 5
  have f6 := h.frozen 6
  have f8 := h.frozen 8
  cases i
  · cases la
    · cases fs
      · go_enter Yba.func10, Yba.ntmps10
        go_wp2
        go_region
        go_wp2
        go_end0
        refine ⟨rfl, 1, ?_⟩
        rw [h.as_row, h.row_set, h.row_set, h.row_set]
        simp [textF, noteF, St.cells, World.drew_is_drewN]
      · by_cases hl : sp < fn
        · go_enter Yba.func10, Yba.ntmps10
          go_wp2
          go_region
          go_wp2
          go_end0
          refine ⟨rfl, 1, ?_⟩
          rw [h.as_row, h.row_set, h.row_set, h.row_set]
          simp [textF, noteF, hl, St.cells, World.drew_is_drewN]
        · go_enter Yba.func10, Yba.ntmps10
          go_wp2
          go_region
          go_wp2
          go_end0
          refine ⟨rfl, 1, ?_⟩
          rw [h.as_row, h.row_set]
          have hl' : ¬ sp < fn := by omega
          simp [textF, noteF, hl', St.cells, World.drew_is_drewN]
    · cases rs
      · go_enter Yba.func10, Yba.ntmps10
        go_wp2
        go_region
        go_wp2
        go_end0
        refine ⟨rfl, 1, ?_⟩
        rw [h.as_row, h.row_set, h.row_set, h.row_set]
        simp [textF, noteF, St.cells, World.drew_is_drewN]
      · by_cases hl : sp < rn
        · go_enter Yba.func10, Yba.ntmps10
          go_wp2
          go_region
          go_wp2
          go_end0
          refine ⟨rfl, 1, ?_⟩
          rw [h.as_row, h.row_set, h.row_set, h.row_set]
          simp [textF, noteF, hl, St.cells, World.drew_is_drewN]
        · go_enter Yba.func10, Yba.ntmps10
          go_wp2
          go_region
          go_wp2
          go_end0
          refine ⟨rfl, 1, ?_⟩
          rw [h.as_row, h.row_set]
          have hl' : ¬ sp < rn := by omega
          simp [textF, noteF, hl', St.cells, World.drew_is_drewN]
  · go_enter Yba.func10, Yba.ntmps10
    go_wp2
    refine bodyPost_ret (results_none rfl _ _ _) rfl ?_
    refine ⟨rfl, 0, ?_⟩
    rw [h.as_row]
    simp [textF, St.cells, World.drewN_zero]

set_option maxHeartbeats 400000 in
theorem zzescape_any (w : World) (b : Nat) (s : St) (c : Int) (h : At w b s) :
    Calls Yba.prog 12 #[.pointer (some ⟨b, 0, none⟩), .int .u8 c] w fun e w' => e = .returned (.tuple #[]) ∧ ∃ k, (w.setRow b (escF s c).cells).drewN k = w' := by
  obtain ⟨i, sp, la, fs, fn, rs, rn, tb, ae, sa⟩ := s
  have c8 : w.cell? ⟨b, 8, none⟩ = some (.bool ae) := h.cell 8
  have c9 : w.cell? ⟨b, 9, none⟩ = some (.bool sa) := h.cell 9
  have f9 := h.frozen 9
  have fin : ∀ (s1 : St) (W : World) (k : Nat), At W b s1 → (∀ X, W.setRow b X = w.setRow b X) → ∀ W', W' = (W.setRow b (textF s1).cells).drewN k → s1 = ⟨i, sp, la, fs, fn, rs, rn, tb, ae, sa || (decide (c = 32) && ae)⟩ →
      (W'.cell? ⟨b, 8, none⟩ = some (.bool (textF s1).ae)) ∧ W'.frozen? ⟨b, 8, none⟩ = false ∧ W'.setCell ⟨b, 8, none⟩ (.bool (c == 10)) = (w.setRow b (escF ⟨i, sp, la, fs, fn, rs, rn, tb, ae, sa⟩ c).cells).drewN k := by
    intro s1 W k hW hrow W' e1 e2
    have hA := hW.row (textF s1) k
    subst e1
    refine ⟨hA.cell 8, hA.frozen 8, ?_⟩
    have e3 : ((W.setRow b (textF s1).cells).drewN k).setCell ⟨b, 8, none⟩ (.bool (c == 10)) = ((W.setRow b (textF s1).cells).setCell ⟨b, 8, none⟩ (.bool (c == 10))).drewN k := rfl
    rw [e3, hW.row_set, hrow]
    subst e2
    congr 2
  by_cases h32 : c = 32
  · have b32 : (c == 32) = true := by simp [h32]
    have H32 : Hid (c = 32) := h32
    cases ae
    · clear h32
      have ht := zztext_any _ b _ (h)
      have fin1 := fun k => fin _ _ k (h) (fun _ => rfl) _ rfl (by simp [H32.out])
      go_enter Yba.func12, Yba.ntmps12
      go_wp2_with (go_at_call 10; refine ht.mono ?_; rintro e w1 ⟨rfl, k, rfl⟩; obtain ⟨q1, q2, q3⟩ := fin1 k; clear fin fin1)
      go_end0
      exact ⟨rfl, k, rfl⟩
    · clear h32
      have ht := zztext_any _ b _ (h.set 9 (.bool true) ⟨i, sp, la, fs, fn, rs, rn, tb, true, true⟩ rfl)
      have fin1 := fun k => fin _ _ k (h.set 9 (.bool true) ⟨i, sp, la, fs, fn, rs, rn, tb, true, true⟩ rfl) (h.set_row 9 _) _ rfl (by simp [H32.out])
      go_enter Yba.func12, Yba.ntmps12
      go_wp2_with (go_at_call 10; refine ht.mono ?_; rintro e w1 ⟨rfl, k, rfl⟩; obtain ⟨q1, q2, q3⟩ := fin1 k; clear fin fin1)
      go_end0
      exact ⟨rfl, k, rfl⟩
  · have b32 : (c == 32) = false := by simp [h32]
    have H32 : Hid (¬ c = 32) := h32
    clear h32
    have ht := zztext_any _ b _ (h)
    have fin1 := fun k => fin _ _ k (h) (fun _ => rfl) _ rfl (by simp [H32.out])
    go_enter Yba.func12, Yba.ntmps12
    go_wp2_with (go_at_call 10; refine ht.mono ?_; rintro e w1 ⟨rfl, k, rfl⟩; obtain ⟨q1, q2, q3⟩ := fin1 k; clear fin fin1)
    go_end0
    exact ⟨rfl, k, rfl⟩

set_option maxHeartbeats 1000000 in
theorem build_any (w : World) (s : St) :
    Calls Yba.prog 5 #[.agg s.cells] w fun e w' => e = .returned (.agg s.cells) ∧ Below w.heap.size w w' := by
  obtain ⟨i, sp, la, fs, fn, rs, rn, tb, ae, sa⟩ := s
  unfold St.cells
  go_enter Yba.func5, Yba.ntmps5
  go_wp2
  exact bodyPost_ret (v := .agg #[.bool i, .int .i64 sp, .bool la, .bool fs, .int .i64 fn, .bool rs, .int .i64 rn, .bool tb, .bool ae, .bool sa]) (by simp [results, Yba.results5, go_sem]) rfl ⟨rfl, ((Below.refl _ _).alloc (Nat.le_refl _) _).alloc (by simp) _⟩

end Go.Proofs.Ybulkddiu
