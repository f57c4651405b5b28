/-
  LawS5239CTrace: the callees' contracts.
-/
import Derived.Test.YbulkddmaRows
import Derived.WalkKit
import Derived.WalkSpells
import Derived.Deep.Draws
import Derived.Deep.RegionWith
import Derived.Deep.LoopGhost
namespace Go.Proofs.Ybulkddma
open Go.RowKit

set_option maxHeartbeats 400000 in
theorem remote_any (W : World) (b : Nat) (s : ByteArray) (h0 : W.cell? ⟨b, 0, none⟩ = some (.string s)) (h1 : W.cell? ⟨b, 1, none⟩ = some (.int .i64 0)) (f1 : W.frozen? ⟨b, 1, none⟩ = false) :
    Calls Yba.prog 25 #[.pointer (some ⟨b, 0, none⟩)] W fun e w' => e = .returned (.iface 32 (.agg #[.string s])) ∧ W.setCell ⟨b, 1, none⟩ (.int .i64 1) = w' := by
  go_enter Yba.func25, Yba.ntmps25
  go_wp2
  go_ret
  exact ⟨rfl, rfl⟩

set_option maxHeartbeats 400000 in
theorem zero_any (W : World) :
    Calls Yba.prog 6 #[.agg #[.int .u64 0, .int .i64 0, .pointer none]] W fun e w' => e = .returned (.bool true) ∧ W.alloc (.cells #[.int .u64 0, .int .i64 0, .pointer none] 45) = w' := by
  go_enter Yba.func6, Yba.ntmps6
  go_wp2
  go_ret
  exact ⟨rfl, rfl⟩

/-- A message: its eight cells. -/
structure Msg where
  ka : Bool
  id : Int
  ix : Int
  bg : Int
  ln : Int
  pt : Int
  xi : Int
  pa : Option Addr
  pl : Nat
  pc : Nat
def Msg.cells (m : Msg) : Array Value := #[.bool m.ka, .int .u8 m.id, .int .u32 m.ix, .int .u32 m.bg, .int .u32 m.ln, .int .u16 m.pt, .int .u8 m.xi, .slice m.pa m.pl m.pc]
def Msg.zero : Msg := ⟨false, 0, 0, 0, 0, 0, 0, none, 0, 0⟩

/-- Block b holds these cells, none frozen. -/
def Hold (w : World) (b : Nat) (cs : Array Value) : Prop := ∃ t, w.heap[b]? = some (.cells cs t (0, 0))
theorem Hold.cell {w : World} {b : Nat} {cs : Array Value} (h : Hold w b cs) (j : Nat) : w.cell? ⟨b, j, none⟩ = cs[j]? := by
  obtain ⟨t, h⟩ := h
  unfold World.cell?; rw [h]; rfl
theorem Hold.frozen {w : World} {b : Nat} {cs : Array Value} (h : Hold w b cs) (j : Nat) : w.frozen? ⟨b, j, none⟩ = false := by
  obtain ⟨t, h⟩ := h
  unfold World.frozen?; rw [h]; simp
theorem Hold.lt {w : World} {b : Nat} {cs : Array Value} (h : Hold w b cs) : b < w.heap.size := by
  obtain ⟨t, h⟩ := h
  exact (Array.getElem?_eq_some_iff.1 h).1

theorem Hold.set {w : World} {b : Nat} {cs : Array Value} (h : Hold w b cs) (j : Nat) (v : Value) (cs' : Array Value) (e : cs.setIfInBounds j v = cs') : Hold (w.setCell ⟨b, j, none⟩ v) b cs' := by
  obtain ⟨t, h⟩ := h
  exact ⟨t, by rw [setCell_eq_setRow w b j cs t (0, 0) v h, e]; exact setRow_heap w b cs cs' t (0, 0) h⟩
theorem Hold.other {w : World} {b : Nat} {cs : Array Value} (h : Hold w b cs) (b' j : Nat) (v : Value) (hne : b' ≠ b) : Hold (w.setCell ⟨b', j, none⟩ v) b cs := by
  obtain ⟨t, h⟩ := h
  exact ⟨t, (Below.heap_setCell w _ v b hne.symm).trans h⟩
theorem Hold.alloc {w : World} {b : Nat} {cs : Array Value} (h : Hold w b cs) (o : Obj) : Hold (w.alloc o) b cs := by
  obtain ⟨t, h⟩ := h
  exact ⟨t, (Below.heap_alloc w o b (Array.getElem?_eq_some_iff.1 h).1).trans h⟩
theorem Hold.below {w w' : World} {b N : Nat} {cs : Array Value} (h : Hold w b cs) (hb : Below N w w') (hN : b < N) : Hold w' b cs := by
  obtain ⟨t, h⟩ := h
  exact ⟨t, (hb.block b hN).trans h⟩

set_option maxHeartbeats 1000000 in
theorem closure_any (W : World) (B : Nat) (s : ByteArray) (m : Msg)
    (H1 : Hold W (B + 1) #[.int .i64 0]) (H2 : Hold W (B + 2) #[.nilIface]) (H3 : Hold W (B + 3) #[.bool false]) (H4 : Hold W (B + 4) Msg.zero.cells) :
    Calls Yba.prog 4 #[.iface 32 (.agg #[.string s]), .bool false, .agg m.cells, .pointer (some ⟨B + 1, 0, none⟩), .pointer (some ⟨B + 2, 0, none⟩), .pointer (some ⟨B + 3, 0, none⟩), .pointer (some ⟨B + 4, 0, none⟩)] W fun e w' => e = .returned (.tuple #[]) ∧
      Hold w' (B + 1) #[.int .i64 1] ∧ Hold w' (B + 2) #[.iface 32 (.agg #[.string s])] ∧ Hold w' (B + 3) #[.bool false] ∧ Hold w' (B + 4) m.cells ∧ Below (B + 1) W w' ∧ ∀ q cs, B + 4 < q → Hold W q cs → Hold w' q cs := by
  obtain ⟨ka, id, ix, bg, ln, pt, xi, pa, pl, pc⟩ := m
  have h1 : W.cell? ⟨B + 1, 0, none⟩ = some (.int .i64 0) := H1.cell 0
  have h2 : W.cell? ⟨B + 2, 0, none⟩ = some .nilIface := H2.cell 0
  have h3 : W.cell? ⟨B + 3, 0, none⟩ = some (.bool false) := H3.cell 0
  have f1 := H1.frozen 0
  have f2 := H2.frozen 0
  have f3 := H3.frozen 0
  have g0 := H4.cell 0
  have k0 := H4.frozen 0
  have g1 := H4.cell 1
  have k1 := H4.frozen 1
  have g2 := H4.cell 2
  have k2 := H4.frozen 2
  have g3 := H4.cell 3
  have k3 := H4.frozen 3
  have g4 := H4.cell 4
  have k4 := H4.frozen 4
  have g5 := H4.cell 5
  have k5 := H4.frozen 5
  have g6 := H4.cell 6
  have k6 := H4.frozen 6
  have g7 := H4.cell 7
  have k7 := H4.frozen 7
  simp [Msg.cells, Msg.zero] at g0 g1 g2 g3 g4 g5 g6 g7
  have l1 := H1.lt
  have l2 := H2.lt
  have l3 := H3.lt
  have l4 := H4.lt
  unfold Msg.cells
  go_enter Yba.func4, Yba.ntmps4
  go_wp2
  go_end0
  have a1 : B + 1 ≠ B + 2 := by omega
  have a2 : B + 1 ≠ B + 3 := by omega
  have a3 : B + 1 ≠ B + 4 := by omega
  have a4 : B + 2 ≠ B + 3 := by omega
  have a5 : B + 2 ≠ B + 4 := by omega
  have a6 : B + 3 ≠ B + 4 := by omega
  refine ⟨rfl, ?_, ?_, ?_, ?_, ?_, ?_⟩
  · exact ((((((((((((H1.set 0 _ _ rfl).other _ _ _ a1.symm).other _ _ _ a2.symm).other _ _ _ a3.symm).other _ _ _ a3.symm).other _ _ _ a3.symm).other _ _ _ a3.symm).other _ _ _ a3.symm).other _ _ _ a3.symm).other _ _ _ a3.symm).other _ _ _ a3.symm).alloc _)
  · exact ((((((((((((H2.other _ _ _ a1).set 0 _ _ rfl).other _ _ _ a4.symm).other _ _ _ a5.symm).other _ _ _ a5.symm).other _ _ _ a5.symm).other _ _ _ a5.symm).other _ _ _ a5.symm).other _ _ _ a5.symm).other _ _ _ a5.symm).other _ _ _ a5.symm).alloc _)
  · exact ((((((((((((H3.other _ _ _ a2).other _ _ _ a4).set 0 _ _ rfl).other _ _ _ a6.symm).other _ _ _ a6.symm).other _ _ _ a6.symm).other _ _ _ a6.symm).other _ _ _ a6.symm).other _ _ _ a6.symm).other _ _ _ a6.symm).other _ _ _ a6.symm).alloc _)
  · exact ((((((((((((H4.other _ _ _ a3).other _ _ _ a5).other _ _ _ a6).set 0 _ _ rfl).set 1 _ _ rfl).set 2 _ _ rfl).set 3 _ _ rfl).set 4 _ _ rfl).set 5 _ _ rfl).set 6 _ _ rfl).set 7 _ _ rfl).alloc _)
  · exact (((((((((((((Below.refl _ _).setCell (by show B + 1 ≤ B + 1; omega) _).setCell (by show B + 1 ≤ B + 2; omega) _).setCell (by show B + 1 ≤ B + 3; omega) _).setCell (by show B + 1 ≤ B + 4; omega) _).setCell (by show B + 1 ≤ B + 4; omega) _).setCell (by show B + 1 ≤ B + 4; omega) _).setCell (by show B + 1 ≤ B + 4; omega) _).setCell (by show B + 1 ≤ B + 4; omega) _).setCell (by show B + 1 ≤ B + 4; omega) _).setCell (by show B + 1 ≤ B + 4; omega) _).setCell (by show B + 1 ≤ B + 4; omega) _).alloc (by simp; omega) _)
  · intro q cs hq h
    have n1 : B + 1 ≠ q := by omega
    have n2 : B + 2 ≠ q := by omega
    have n3 : B + 3 ≠ q := by omega
    have n4 : B + 4 ≠ q := by omega
    exact ((((((((((((h.other _ _ _ n1).other _ _ _ n2).other _ _ _ n3).other _ _ _ n4).other _ _ _ n4).other _ _ _ n4).other _ _ _ n4).other _ _ _ n4).other _ _ _ n4).other _ _ _ n4).other _ _ _ n4).alloc _)

/-- The wire's cells: the connection at block B, and its trace. -/
def wire (B : Nat) (f : Value) : Array Value := #[.iface 30 (.pointer (some ⟨B, 0, none⟩)), .pointer none, f, .int .u64 0, .int .i64 0, .pointer none, .chan none, .chan none, .chan none]

theorem some_func (fn : Fn) (first cap : Array Value) (w : World) : (binOp .neq 41 (.func fn first cap) .nilFunc).run Yba.prog w = .ok (.bool true) w := by kernel_rfl
theorem no_func (w : World) : (binOp .neq 41 .nilFunc .nilFunc).run Yba.prog w = .ok (.bool false) w := by kernel_rfl
theorem nil_ahead (a : Addr) (w : World) : (nilAhead 200 30 (.pointer (some a)) "RemoteAddr").run Yba.prog w = .ok (some false) w := by kernel_rfl
theorem method_remote (a : Addr) (w : World) : (method 200 30 (.pointer (some a)) "RemoteAddr").run Yba.prog w = .ok (25, .pointer (some a)) w := by kernel_rfl

set_option maxHeartbeats 1000000 in
theorem received_off (W : World) (B : Nat) (m : Msg) (H5 : Hold W (B + 5) (wire B .nilFunc)) :
    Calls Yba.prog 5 #[.pointer (some ⟨B + 5, 0, none⟩), .agg m.cells] W fun e w' => e = .returned (.tuple #[]) ∧ W.alloc (.cells m.cells 29) = w' := by
  obtain ⟨ka, id, ix, bg, ln, pt, xi, pa, pl, pc⟩ := m
  have h2 : W.cell? ⟨B + 5, 2, none⟩ = some .nilFunc := H5.cell 2
  have l5 := H5.lt
  have q0 := no_func
  unfold Msg.cells
  go_enter Yba.func5, Yba.ntmps5
  go_wp2
  go_end0
  exact ⟨rfl, rfl⟩

end Go.Proofs.Ybulkddma
