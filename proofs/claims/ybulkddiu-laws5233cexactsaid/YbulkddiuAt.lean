/-
  Where the state lies: laws of At over allocations and frames. Shared by both laws of this seat.
-/
import Derived.Test.YbulkddiuMethods
import Derived.Test.YbulkddiuEq
namespace Go.Proofs.Ybulkddiu
open Go.RowKit

theorem At.alloc {w : World} {b : Nat} {s : St} (h : At w b s) (o : Obj) : At (w.alloc o) b s := by
  obtain ⟨t, h⟩ := h
  exact ⟨t, (Below.heap_alloc w o b (Array.getElem?_eq_some_iff.1 h).1).trans h⟩
theorem At.below {w w' : World} {b N : Nat} {s : St} (h : At w b s) (hb : Below N w w') (hN : b < N) : At w' b s := by
  obtain ⟨t, h⟩ := h
  exact ⟨t, (hb.block b hN).trans h⟩
theorem At.lt {w : World} {b : Nat} {s : St} (h : At w b s) : b < w.heap.size := by
  obtain ⟨t, h⟩ := h
  exact (Array.getElem?_eq_some_iff.1 h).1
theorem at_new (w : World) (s : St) (t : TypeId) : At (w.alloc (.cells s.cells t)) w.heap.size s := ⟨t, (MapKept.heap_alloc w _).1⟩

theorem new2 (w : World) (o1 o2 : Obj) : ((w.alloc o1).alloc o2).heap[w.heap.size + 1]? = some o2 := by
  have h := (MapKept.heap_alloc (w.alloc o1) o2).1
  have hs : (w.alloc o1).heap.size = w.heap.size + 1 := by simp
  rw [hs] at h; exact h

theorem row_below {N : Nat} {a w : World} (h : Below N a w) {b : Nat} (hb : N ≤ b) (c : Array Value) (k : Nat) : Below N a ((w.setRow b c).drewN k) :=
  h.trans ⟨rfl, rfl, rfl, by simp [World.setRow], fun q hq => setRow_other w b q c (by omega)⟩
end Go.Proofs.Ybulkddiu
