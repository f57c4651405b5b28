/-
  The state that nix.indentation and its picture ZzS5233CState both hold: ten cells in one order. What each method makes of it. Shared by both laws of this seat.
-/
import Derived.Test.YbulkddiuRows
import Derived.WalkKit
import Derived.WalkSpells
import Derived.Deep.Draws
import Derived.Deep.RegionWith
import Derived.Deep.LoopGhost
namespace Go.Proofs.Ybulkddiu
open Go.RowKit

structure St where
  i : Bool
  sp : Int
  la : Bool
  fs : Bool
  fn : Int
  rs : Bool
  rn : Int
  tb : Bool
  ae : Bool
  sa : Bool

def St.cells (s : St) : Array Value := #[.bool s.i, .int .i64 s.sp, .bool s.la, .bool s.fs, .int .i64 s.fn, .bool s.rs, .int .i64 s.rn, .bool s.tb, .bool s.ae, .bool s.sa]

/-- Block b holds the state s. -/
def At (w : World) (b : Nat) (s : St) : Prop := ∃ t, w.heap[b]? = some (.cells s.cells t (0, 0))

def noteF (set : Bool) (n sp : Int) : Bool × Int := if !set || decide (sp < n) then (true, sp) else (set, n)
def textF (s : St) : St :=
  if s.i then { s with ae := false }
  else if s.la then { s with ae := false, i := true, rs := (noteF s.rs s.rn s.sp).1, rn := (noteF s.rs s.rn s.sp).2 }
  else { s with ae := false, i := true, fs := (noteF s.fs s.fn s.sp).1, fn := (noteF s.fs s.fn s.sp).2 }
def escF (s : St) (c : Int) : St := { textF { s with sa := s.sa || (decide (c = 32) && s.ae) } with ae := decide (c = 10) }
def spaceF (s : St) : St := { s with sa := s.sa || s.ae, ae := false, sp := s.sp + 1 }
def newF (s : St) : St := { s with i := false, sp := 0, la := true, ae := false }
def tabF (s : St) : St := textF { s with tb := s.tb || !s.i }

section
variable {w : World} {b : Nat} {cur : Array Value} {t : TypeId}
theorem set_row (h : w.heap[b]? = some (.cells cur t (0, 0))) (j : Nat) (v : Value) : w.setCell ⟨b, j, none⟩ v = w.setRow b (cur.setIfInBounds j v) := setCell_eq_setRow w b j cur t (0, 0) v h
theorem row_set (h : w.heap[b]? = some (.cells cur t (0, 0))) (c' : Array Value) (j : Nat) (v : Value) : (w.setRow b c').setCell ⟨b, j, none⟩ v = w.setRow b (c'.setIfInBounds j v) := by
  rw [setCell_eq_setRow _ b j c' t (0, 0) v (setRow_heap w b cur c' t (0, 0) h), setRow_setRow]
end

theorem At.cell {w : World} {b : Nat} {s : St} (h : At w b s) (j : Nat) : w.cell? ⟨b, j, none⟩ = s.cells[j]? := by
  obtain ⟨t, h⟩ := h
  unfold World.cell?; rw [h]; rfl
theorem At.frozen {w : World} {b : Nat} {s : St} (h : At w b s) (j : Nat) : w.frozen? ⟨b, j, none⟩ = false := by
  obtain ⟨t, h⟩ := h
  unfold World.frozen?; rw [h]; simp
theorem At.row {w : World} {b : Nat} {s : St} (h : At w b s) (s' : St) (k : Nat) : At ((w.setRow b s'.cells).drewN k) b s' := by
  obtain ⟨t, h⟩ := h
  exact ⟨t, setRow_heap w b _ _ t (0, 0) h⟩
theorem At.other {w : World} {b b' : Nat} {s : St} (h : At w b s) (hne : b' ≠ b) (c : Array Value) (k : Nat) : At ((w.setRow b' c).drewN k) b s := by
  obtain ⟨t, h⟩ := h
  exact ⟨t, (setRow_other w b' b c (fun e => hne e.symm)).trans h⟩

set_option maxHeartbeats 400000 in
theorem note_yes (b o : Nat) (set : Bool) (n sp : Int) (w : World) (h0 : w.cell? ⟨b, o, none⟩ = some (.bool set)) (h1 : w.cell? ⟨b, o + 1, none⟩ = some (.int .i64 n)) (f0 : w.frozen? ⟨b, o, none⟩ = false) (f1 : w.frozen? ⟨b, o + 1, none⟩ = false)
    (hy : (!set || decide (sp < n)) = true) :
    Calls Yba.prog 13 #[.pointer (some ⟨b, o, none⟩), .int .i64 sp] w fun e w' => e = .returned (.tuple #[]) ∧ (w.setCell ⟨b, o + 1, none⟩ (.int .i64 sp)).setCell ⟨b, o, none⟩ (.bool true) = w' := by
  cases set
  · go_enter Yba.func13, Yba.ntmps13
    go_wp2
    go_end0
    exact ⟨rfl, rfl⟩
  · have hlt : sp < n := by simpa using hy
    go_enter Yba.func13, Yba.ntmps13
    go_wp2
    go_end0
    exact ⟨rfl, rfl⟩

set_option maxHeartbeats 400000 in
theorem note_no (b o : Nat) (set : Bool) (n sp : Int) (w : World) (h0 : w.cell? ⟨b, o, none⟩ = some (.bool set)) (h1 : w.cell? ⟨b, o + 1, none⟩ = some (.int .i64 n))
    (hy : (!set || decide (sp < n)) = false) :
    Calls Yba.prog 13 #[.pointer (some ⟨b, o, none⟩), .int .i64 sp] w fun e w' => e = .returned (.tuple #[]) ∧ w = w' := by
  cases set
  · simp at hy
  · have hlt : ¬ sp < n := by simpa using hy
    go_enter Yba.func13, Yba.ntmps13
    go_wp2
    go_end0
    exact ⟨rfl, rfl⟩

set_option maxHeartbeats 1000000 in
theorem text_any (w : World) (b : Nat) (s : St) (h : At w b s) :
    Calls Yba.prog 11 #[.pointer (some ⟨b, 0, none⟩)] w fun e w' => e = .returned (.tuple #[]) ∧ ∃ k, w' = (w.setRow b (textF s).cells).drewN k := by
  obtain ⟨i, sp, la, fs, fn, rs, rn, tb, ae, sa⟩ := s
  have c0 : w.cell? ⟨b, 0, none⟩ = some (.bool i) := h.cell 0
  have c1 : w.cell? ⟨b, 1, none⟩ = some (.int .i64 sp) := h.cell 1
  have c2 : w.cell? ⟨b, 2, none⟩ = some (.bool la) := h.cell 2
  have c3 : w.cell? ⟨b, 3, none⟩ = some (.bool fs) := h.cell 3
  have c4 : w.cell? ⟨b, 4, none⟩ = some (.int .i64 fn) := h.cell 4
  have c5 : w.cell? ⟨b, 5, none⟩ = some (.bool rs) := h.cell 5
  have c6 : w.cell? ⟨b, 6, none⟩ = some (.int .i64 rn) := h.cell 6
  have c8 : w.cell? ⟨b, 8, none⟩ = some (.bool ae) := h.cell 8
  have f0 := h.frozen 0
  have f3 := h.frozen 3
  have f4 := h.frozen 4
  have f5 := h.frozen 5
  have f6 := h.frozen 6
  have f8 := h.frozen 8
  obtain ⟨t, hb⟩ := h
  have HB : Hid (w.heap[b]? = some (.cells (St.cells ⟨i, sp, la, fs, fn, rs, rn, tb, ae, sa⟩) t (0, 0))) := hb
  clear hb
  cases i
  · cases la
    · cases hn : (!fs || decide (sp < fn))
      · go_enter Yba.func11, Yba.ntmps11
        go_wp2
        go_region_with (go_at_call 13; refine (note_no b 3 fs fn sp _ (by go_simp) (by go_simp) hn).mono ?_; rintro e w1 ⟨rfl, rfl⟩)
        go_wp2
        go_end0
        refine ⟨rfl, 1, ?_⟩
        rw [set_row HB.out, row_set HB.out]
        simp [textF, noteF, hn, St.cells, World.drew_is_drewN]
      · go_enter Yba.func11, Yba.ntmps11
        go_wp2
        go_region_with (go_at_call 13; refine (note_yes b 3 fs fn sp _ (by go_simp) (by go_simp) (by go_simp) (by go_simp) hn).mono ?_; rintro e w1 ⟨rfl, rfl⟩)
        go_wp2
        go_end0
        refine ⟨rfl, 1, ?_⟩
        rw [set_row HB.out, row_set HB.out, row_set HB.out, row_set HB.out]
        simp [textF, noteF, hn, St.cells, World.drew_is_drewN]
    · cases hn : (!rs || decide (sp < rn))
      · go_enter Yba.func11, Yba.ntmps11
        go_wp2
        go_region_with (go_at_call 13; refine (note_no b 5 rs rn sp _ (by go_simp) (by go_simp) hn).mono ?_; rintro e w1 ⟨rfl, rfl⟩)
        go_wp2
        go_end0
        refine ⟨rfl, 1, ?_⟩
        rw [set_row HB.out, row_set HB.out]
        simp [textF, noteF, hn, St.cells, World.drew_is_drewN]
      · go_enter Yba.func11, Yba.ntmps11
        go_wp2
        go_region_with (go_at_call 13; refine (note_yes b 5 rs rn sp _ (by go_simp) (by go_simp) (by go_simp) (by go_simp) hn).mono ?_; rintro e w1 ⟨rfl, rfl⟩)
        go_wp2
        go_end0
        refine ⟨rfl, 1, ?_⟩
        rw [set_row HB.out, row_set HB.out, row_set HB.out, row_set HB.out]
        simp [textF, noteF, hn, St.cells, World.drew_is_drewN]
  · go_enter Yba.func11, Yba.ntmps11
    go_wp2
    refine bodyPost_ret (results_none rfl _ _ _) rfl ?_
    refine ⟨rfl, 0, ?_⟩
    rw [set_row HB.out]
    simp [textF, St.cells, World.drewN_zero]
end Go.Proofs.Ybulkddiu
