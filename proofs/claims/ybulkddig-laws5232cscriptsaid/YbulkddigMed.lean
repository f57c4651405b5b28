/-
  LawS5232CScript: the medium's methods, no broadcast being in flight.
-/
import Derived.Test.YbulkddigRows
import Derived.WalkKit
import Derived.WalkSpells
import Derived.Deep.Draws
import Derived.Deep.RegionWith
import Derived.Deep.LoopGhost
namespace Go.Proofs.Ybulkddig
open Go.RowKit

/-- Block b holds these cells, none frozen. -/
def Hold (w : World) (b : Nat) (cs : Array Value) : Prop := ∃ t, w.heap[b]? = some (.cells cs t (0, 0))
theorem Hold.cell {w : World} {b : Nat} {cs : Array Value} (h : Hold w b cs) (j : Nat) : w.cell? ⟨b, j, none⟩ = cs[j]? := by
  obtain ⟨t, h⟩ := h
  unfold World.cell?; rw [h]; rfl
theorem Hold.frozen {w : World} {b : Nat} {cs : Array Value} (h : Hold w b cs) (j : Nat) : w.frozen? ⟨b, j, none⟩ = false := by
  obtain ⟨t, h⟩ := h
  unfold World.frozen?; rw [h]; simp
theorem Hold.lt {w : World} {b : Nat} {cs : Array Value} (h : Hold w b cs) : b < w.heap.size := by
  obtain ⟨t, h⟩ := h
  exact (Array.getElem?_eq_some_iff.1 h).1
theorem Hold.set {w : World} {b : Nat} {cs : Array Value} (h : Hold w b cs) (j : Nat) (v : Value) (cs' : Array Value) (e : cs.setIfInBounds j v = cs') : Hold (w.setCell ⟨b, j, none⟩ v) b cs' := by
  obtain ⟨t, h⟩ := h
  exact ⟨t, by rw [setCell_eq_setRow w b j cs t (0, 0) v h, e]; exact setRow_heap w b cs cs' t (0, 0) h⟩
theorem Hold.other {w : World} {b : Nat} {cs : Array Value} (h : Hold w b cs) (b' j : Nat) (v : Value) (hne : b' ≠ b) : Hold (w.setCell ⟨b', j, none⟩ v) b cs := by
  obtain ⟨t, h⟩ := h
  exact ⟨t, (Below.heap_setCell w _ v b hne.symm).trans h⟩
theorem Hold.alloc {w : World} {b : Nat} {cs : Array Value} (h : Hold w b cs) (o : Obj) : Hold (w.alloc o) b cs := by
  obtain ⟨t, h⟩ := h
  exact ⟨t, (Below.heap_alloc w o b (Array.getElem?_eq_some_iff.1 h).1).trans h⟩
theorem Hold.below {w w' : World} {b N : Nat} {cs : Array Value} (h : Hold w b cs) (hb : Below N w w') (hN : b < N) : Hold w' b cs := by
  obtain ⟨t, h⟩ := h
  exact ⟨t, (hb.block b hN).trans h⟩

/-- What of a medium never turns. -/
structure Med where
  ids : Value
  nbs : Value
  drv : Value
  ib : Nat
  tb0 : Nat
  sb : Nat
  tb : Nat
  cb : Nat
  k : Nat
  top : Int
def Med.cells (M : Med) (cr lf : Int) : Array Value :=
  #[M.ids, M.nbs, .slice none 0 0, .int .i64 0, M.drv, .slice (some ⟨M.ib, 0, none⟩) M.k M.k, .slice (some ⟨M.tb0, 0, none⟩) M.k M.k, .slice (some ⟨M.sb, 0, none⟩) M.k M.k, .slice (some ⟨M.tb, 0, none⟩) (M.k + 1) (M.k + 1), .slice (some ⟨M.cb, 0, none⟩) M.k M.k, .int .i64 M.top, .int .i64 0, .int .i64 0, .int .i64 cr, .int .i64 lf, .int .i64 0, .bool false]
/-- The nodes' states; no broadcast in flight; no count. -/
def sts (st : List Int) : Array Value := (st.map (Value.int .i8)).toArray
def nils (k : Nat) : Array Value := Array.replicate k (.pointer none)
def zeros (k : Nat) : Array Value := Array.replicate k (.int .i64 0)
theorem sts_at (st : List Int) (i : Nat) (h : i < st.length) : (sts st)[i]? = some (.int .i8 (st.getD i 0)) := by
  simp [sts, List.getD, List.getElem?_eq_getElem h]
theorem nils_at {k i : Nat} (h : i < k) : (nils k)[i]? = some (.pointer none) := by simp [nils, h]
theorem zeros_at {k i : Nat} (h : i < k) : (zeros k)[i]? = some (.int .i64 0) := by simp [zeros, h]

variable {w : World} {mb : Nat} {M : Med} {cr lf : Int} {st : List Int} {i : Nat}

set_option maxHeartbeats 400000 in
theorem counts_any (Hm : Hold w mb (M.cells cr lf)) :
    Calls Yba.prog 13 #[.pointer (some ⟨mb, 0, none⟩)] w fun e w' => e = .returned (.agg #[.int .i64 0, .int .i64 0, .int .i64 cr, .int .i64 lf, .int .i64 0]) ∧ w.alloc (.cells #[.int .i64 0, .int .i64 0, .int .i64 cr, .int .i64 lf, .int .i64 0] 101) = w' := by
  have h11 : w.cell? ⟨mb, 11, none⟩ = some (.int .i64 0) := Hm.cell 11
  have h12 : w.cell? ⟨mb, 12, none⟩ = some (.int .i64 0) := Hm.cell 12
  have h13 : w.cell? ⟨mb, 13, none⟩ = some (.int .i64 cr) := Hm.cell 13
  have h14 : w.cell? ⟨mb, 14, none⟩ = some (.int .i64 lf) := Hm.cell 14
  have h15 : w.cell? ⟨mb, 15, none⟩ = some (.int .i64 0) := Hm.cell 15
  have l := Hm.lt
  go_enter Yba.func13, Yba.ntmps13
  go_wp2
  exact bodyPost_ret (v := .agg #[.int .i64 0, .int .i64 0, .int .i64 cr, .int .i64 lf, .int .i64 0]) (by simp [results, Yba.results13, go_sem]) rfl ⟨rfl, rfl⟩

set_option maxHeartbeats 400000 in
theorem crashed_any (Hm : Hold w mb (M.cells cr lf)) (Hs : Hold w M.sb (sts st)) (hk : st.length = M.k) (hi : i < M.k) :
    Calls Yba.prog 14 #[.pointer (some ⟨mb, 0, none⟩), .int .i64 i] w fun e w' => e = .returned (.bool (st.getD i 0 == 1)) ∧ w = w' := by
  have h7 : w.cell? ⟨mb, 7, none⟩ = some (.slice (some ⟨M.sb, 0, none⟩) M.k M.k) := Hm.cell 7
  have hs : w.cell? ⟨M.sb, i, none⟩ = some (.int .i8 (st.getD i 0)) := (Hs.cell i).trans (sts_at st i (by omega))
  generalize st.getD i 0 = v at hs
  go_enter Yba.func14, Yba.ntmps14
  go_wp2
  go_ret
  exact ⟨rfl, rfl⟩

set_option maxHeartbeats 400000 in
theorem left_any (Hm : Hold w mb (M.cells cr lf)) (Hs : Hold w M.sb (sts st)) (hk : st.length = M.k) (hi : i < M.k) :
    Calls Yba.prog 15 #[.pointer (some ⟨mb, 0, none⟩), .int .i64 i] w fun e w' => e = .returned (.bool (st.getD i 0 == 2)) ∧ w = w' := by
  have h7 : w.cell? ⟨mb, 7, none⟩ = some (.slice (some ⟨M.sb, 0, none⟩) M.k M.k) := Hm.cell 7
  have hs : w.cell? ⟨M.sb, i, none⟩ = some (.int .i8 (st.getD i 0)) := (Hs.cell i).trans (sts_at st i (by omega))
  generalize st.getD i 0 = v at hs
  go_enter Yba.func15, Yba.ntmps15
  go_wp2
  go_ret
  exact ⟨rfl, rfl⟩

set_option maxHeartbeats 400000 in
theorem inflight_any (Hm : Hold w mb (M.cells cr lf)) (Hi : Hold w M.ib (nils M.k)) (hi : i < M.k) :
    Calls Yba.prog 35 #[.pointer (some ⟨mb, 0, none⟩), .int .i64 i] w fun e w' => e = .returned (.bool false) ∧ w = w' := by
  have h5 : w.cell? ⟨mb, 5, none⟩ = some (.slice (some ⟨M.ib, 0, none⟩) M.k M.k) := Hm.cell 5
  have hs : w.cell? ⟨M.ib, i, none⟩ = some (.pointer none) := (Hi.cell i).trans (nils_at hi)
  go_enter Yba.func35, Yba.ntmps35
  go_wp2
  go_ret
  exact ⟨rfl, rfl⟩

set_option maxHeartbeats 400000 in
theorem forget_any (j : Int) (Hm : Hold w mb (M.cells cr lf)) (Hi : Hold w M.ib (nils M.k)) (hk : M.k ≤ 1000) :
    Calls Yba.prog 18 #[.pointer (some ⟨mb, 0, none⟩), .int .i64 j] w fun e w' => e = .returned (.tuple #[]) ∧ w = w' := by
  have h5 : w.cell? ⟨mb, 5, none⟩ = some (.slice (some ⟨M.ib, 0, none⟩) M.k M.k) := Hm.cell 5
  go_enter Yba.func18, Yba.ntmps18
  go_wp2
  go_loopg [13] M.k (fun q c wr => w = wr ∧ ∃ n : Nat, n ≤ M.k ∧ q = M.k - n ∧ c = .int .i64 n)
  case atStart => exact ⟨rfl, 0, Nat.zero_le _, rfl, rfl⟩
  case round =>
    obtain ⟨rfl, n, hn, hq, rfl⟩ := hrel
    by_cases hlt : n < M.k
    · have hs : w.cell? ⟨M.ib, n, none⟩ = some (.pointer none) := (Hi.cell n).trans (nils_at hlt)
      go_wp2
      go_roundg (M.k - (n + 1))
      case measure => omega
      case rel => exact ⟨rfl, n + 1, by omega, rfl, by go_num⟩
    · go_wp2
      go_end0
      exact ⟨rfl, rfl⟩

set_option maxHeartbeats 400000 in
theorem set0_any (Hm : Hold w mb (M.cells cr lf)) (Hc : Hold w M.cb (zeros M.k)) (hi : i < M.k) :
    Calls Yba.prog 39 #[.pointer (some ⟨mb, 8, none⟩), .int .i64 i, .int .i64 0] w fun e w' => e = .returned (.tuple #[]) ∧ w = w' := by
  have h9 : w.cell? ⟨mb, 9, none⟩ = some (.slice (some ⟨M.cb, 0, none⟩) M.k M.k) := Hm.cell 9
  have hs : w.cell? ⟨M.cb, i, none⟩ = some (.int .i64 0) := (Hc.cell i).trans (zeros_at hi)
  go_enter Yba.func39, Yba.ntmps39
  go_wp2
  refine bodyPost_ret (results_none rfl _ _ _) rfl ?_
  exact ⟨rfl, rfl⟩
end Go.Proofs.Ybulkddig
