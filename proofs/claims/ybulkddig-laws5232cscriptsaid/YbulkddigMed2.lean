/-
  LawS5232CScript: Crash, Leave, Do of the medium; untaken and leaveOut where there is nothing.
-/
import Derived.Test.YbulkddigMed
namespace Go.Proofs.Ybulkddig
open Go.RowKit

theorem sts_set (st : List Int) (i : Nat) (v : Int) : (sts st).setIfInBounds i (.int .i8 v) = sts (st.set i v) := by
  simp [sts]
theorem nils_set (k i : Nat) : (nils k).setIfInBounds i (.pointer none) = nils k := by
  apply Array.ext
  · simp [nils]
  · intro j h1 h2
    simp [nils]
theorem setCell_self {w : World} {b i : Nat} {cs : Array Value} {v : Value} (h : Hold w b cs) (e : cs.setIfInBounds i v = cs) : w.setCell ⟨b, i, none⟩ v = w := by
  obtain ⟨t, h⟩ := h
  rw [setCell_eq_setRow w b i cs t (0, 0) v h, e]
  exact setRow_self w b cs t (0, 0) h

variable {w : World} {mb : Nat} {M : Med} {cr lf : Int} {st : List Int} {i : Nat}

/-- The medium's five blocks lie apart. -/
def Apart (M : Med) (mb : Nat) : Prop := mb ≠ M.sb ∧ mb ≠ M.ib ∧ mb ≠ M.cb ∧ M.sb ≠ M.ib ∧ M.sb ≠ M.cb ∧ M.ib ≠ M.cb
/-- What the medium's methods read. -/
structure Lies (w : World) (mb : Nat) (M : Med) (cr lf : Int) (st : List Int) : Prop where
  m : Hold w mb (M.cells cr lf)
  s : Hold w M.sb (sts st)
  i : Hold w M.ib (nils M.k)
  c : Hold w M.cb (zeros M.k)
  a : Apart M mb
  k : st.length = M.k
  le : M.k ≤ 1000
  cr0 : 0 ≤ cr ∧ cr ≤ 1000000
  lf0 : 0 ≤ lf ∧ lf ≤ 1000000

theorem Lies.alloc (h : Lies w mb M cr lf st) (o : Obj) : Lies (w.alloc o) mb M cr lf st := ⟨h.m.alloc o, h.s.alloc o, h.i.alloc o, h.c.alloc o, h.a, h.k, h.le, h.cr0, h.lf0⟩

/-- The world behind a crash or a leave: node i's state is v, and the count at offset o is n. -/
def mark (w : World) (mb : Nat) (M : Med) (i : Nat) (v : Int) (o : Nat) (n : Int) : World := (w.setCell ⟨M.sb, i, none⟩ (.int .i8 v)).setCell ⟨mb, o, none⟩ (.int .i64 n)

theorem Lies.crash (h : Lies w mb M cr lf st) (hc : cr < 1000000) : Lies (mark w mb M i 1 13 (cr + 1)) mb M (cr + 1) lf (st.set i 1) := by
  obtain ⟨a1, a2, a3, a4, a5, a6⟩ := h.a
  refine ⟨(h.m.other _ _ _ a1.symm).set 13 _ _ rfl, (h.s.set i _ _ (sts_set st i 1)).other _ _ _ a1, (h.i.other _ _ _ a4).other _ _ _ a2, (h.c.other _ _ _ a5).other _ _ _ a3, h.a, by simpa using h.k, h.le, ?_, h.lf0⟩
  have := h.cr0; omega
theorem Lies.leave (h : Lies w mb M cr lf st) (hc : lf < 1000000) : Lies (mark w mb M i 2 14 (lf + 1)) mb M cr (lf + 1) (st.set i 2) := by
  obtain ⟨a1, a2, a3, a4, a5, a6⟩ := h.a
  refine ⟨(h.m.other _ _ _ a1.symm).set 14 _ _ rfl, (h.s.set i _ _ (sts_set st i 2)).other _ _ _ a1, (h.i.other _ _ _ a4).other _ _ _ a2, (h.c.other _ _ _ a5).other _ _ _ a3, h.a, by simpa using h.k, h.le, h.cr0, ?_⟩
  have := h.lf0; omega

set_option maxHeartbeats 1000000 in
theorem leave_any (h : Lies w mb M cr lf st) (hi : i < M.k) (hc : lf < 1000000) :
    Calls Yba.prog 11 #[.pointer (some ⟨mb, 0, none⟩), .int .i64 i] w fun e w' => e = .returned (.tuple #[]) ∧ mark w mb M i 2 14 (lf + 1) = w' := by
  have h7 : w.cell? ⟨mb, 7, none⟩ = some (.slice (some ⟨M.sb, 0, none⟩) M.k M.k) := h.m.cell 7
  have h14 : w.cell? ⟨mb, 14, none⟩ = some (.int .i64 lf) := h.m.cell 14
  have hs : w.cell? ⟨M.sb, i, none⟩ = some (.int .i8 (st.getD i 0)) := (h.s.cell i).trans (sts_at st i (by have := h.k; omega))
  have f1 := h.s.frozen i
  have f2 := h.m.frozen 14
  have a1 := h.a.1
  have a1' : M.sb ≠ mb := fun e => a1 e.symm
  have l0 := h.lf0.1
  have L := h.leave (i := i) hc
  have hf := forget_any (i : Int) L.m L.i L.le
  have HL : Hid (mark w mb M i 2 14 (lf + 1) = (w.setCell ⟨M.sb, i, none⟩ (.int .i8 2)).setCell ⟨mb, 14, none⟩ (.int .i64 (lf + 1))) := rfl
  rw [HL.out] at hf
  go_enter Yba.func11, Yba.ntmps11
  go_wp2_with (go_at_call 18; refine hf.mono ?_; rintro e w1 ⟨rfl, rfl⟩)
  go_end0
  exact ⟨rfl, rfl⟩

set_option maxHeartbeats 1000000 in
theorem crash_med (h : Lies w mb M cr lf st) (hi : i < M.k) (hc : cr < 1000000) :
    Calls Yba.prog 38 #[.pointer (some ⟨mb, 0, none⟩), .int .i64 i] w fun e w' => e = .returned (.tuple #[]) ∧ mark w mb M i 1 13 (cr + 1) = w' := by
  have h7 : w.cell? ⟨mb, 7, none⟩ = some (.slice (some ⟨M.sb, 0, none⟩) M.k M.k) := h.m.cell 7
  have h13 : w.cell? ⟨mb, 13, none⟩ = some (.int .i64 cr) := h.m.cell 13
  have h5 : w.cell? ⟨mb, 5, none⟩ = some (.slice (some ⟨M.ib, 0, none⟩) M.k M.k) := h.m.cell 5
  have hs : w.cell? ⟨M.sb, i, none⟩ = some (.int .i8 (st.getD i 0)) := (h.s.cell i).trans (sts_at st i (by have := h.k; omega))
  have hI : w.cell? ⟨M.ib, i, none⟩ = some (.pointer none) := (h.i.cell i).trans (nils_at hi)
  have f1 := h.s.frozen i
  have f2 := h.m.frozen 13
  have f3 := h.i.frozen i
  obtain ⟨a1, a2, a3, a4, a5, a6⟩ := h.a
  have a1' : M.sb ≠ mb := fun e => a1 e.symm
  have a2' : M.ib ≠ mb := fun e => a2 e.symm
  have a4' : M.ib ≠ M.sb := fun e => a4 e.symm
  have l0 := h.cr0.1
  have L := h.crash (i := i) hc
  have hself := setCell_self (i := i) L.i (nils_set M.k i)
  have hf := forget_any (i : Int) L.m L.i L.le
  have h0 := set0_any L.m L.c hi
  rw [← hself] at hf h0
  have HS : Hid ((mark w mb M i 1 13 (cr + 1)).setCell ⟨M.ib, i, none⟩ (.pointer none) = mark w mb M i 1 13 (cr + 1)) := hself
  clear hself
  unfold mark at hf h0
  go_enter Yba.func38, Yba.ntmps38
  go_wp2_with (first
    | (go_at_call 39; refine h0.mono ?_; rintro e w1 ⟨rfl, rfl⟩)
    | (go_at_call 18; refine hf.mono ?_; rintro e w1 ⟨rfl, rfl⟩))
  go_end0
  exact ⟨rfl, HS.out.symm⟩

/-- The bytes of "crash". -/
def crashS : ByteArray := { data := #[99, 114, 97, 115, 104] }
def act (i : Nat) : Array Value := #[.string crashS, .int .i64 i, .int .i64 0, .int .i8 0]

set_option maxHeartbeats 1000000 in
theorem do_med (h : Lies w mb M cr lf st) (hi : i < M.k) (hc : cr < 1000000) :
    Calls Yba.prog 31 #[.pointer (some ⟨mb, 0, none⟩), .agg (act i)] w fun e w' => e = .returned (.tuple #[]) ∧ mark (w.alloc (.cells (act i) 107)) mb M i 1 13 (cr + 1) = w' := by
  have L := h.alloc (.cells (act i) 107)
  have hc' := crash_med L hi hc
  unfold act crashS at hc' ⊢
  go_enter Yba.func31, Yba.ntmps31
  go_wp2_with (go_at_call 38; refine hc'.mono ?_; rintro e w1 ⟨rfl, rfl⟩)
  go_end0
  exact ⟨rfl, rfl⟩

set_option maxHeartbeats 400000 in
theorem untaken_any (b : Nat) (h4 : w.cell? ⟨b, 4, none⟩ = some (.slice none 0 0)) (h5 : w.cell? ⟨b, 5, none⟩ = some (.bool false)) :
    Calls Yba.prog 33 #[.pointer (some ⟨b, 0, none⟩)] w fun e w' => e = .returned (.slice none 0 0) ∧ w = w' := by
  go_enter Yba.func33, Yba.ntmps33
  go_wp2
  go_loopg [4, 19] 0 (fun q u c wr => w = wr ∧ u = .slice none 0 0 ∧ c = .int .i64 0)
  case atStart => exact ⟨rfl, rfl, rfl⟩
  case round =>
    obtain ⟨rfl, rfl, rfl⟩ := hrel
    go_wp2
    go_ret
    exact ⟨rfl, rfl⟩

set_option maxHeartbeats 400000 in
theorem leaveOut_any (b o : Nat) (a : Option Addr) (n c : Nat) (h : w.cell? ⟨b, o, none⟩ = some (.slice a n c)) :
    Calls Yba.prog 50 #[.pointer (some ⟨b, o, none⟩), .slice none 0 0] w fun e w' => e = .returned (.tuple #[.int .i64 n, .slice none 0 0]) ∧ w = w' := by
  go_enter Yba.func50, Yba.ntmps50
  go_wp2
  go_loopg [15] 0 (fun q c wr => w = wr ∧ c = .int .i64 0)
  case atStart => exact ⟨rfl, rfl⟩
  case round =>
    obtain ⟨rfl, rfl⟩ := hrel
    go_wp2
    go_loopg [4, 5, 34] 0 (fun q f d c wr => w = wr ∧ f = .int .i64 n ∧ d = .slice none 0 0 ∧ c = .int .i64 0)
    case atStart => exact ⟨rfl, rfl, rfl, rfl⟩
    case round =>
      obtain ⟨rfl, rfl, rfl, rfl⟩ := hrel
      go_wp2
      go_ret2
      exact ⟨rfl, rfl⟩
end Go.Proofs.Ybulkddig
