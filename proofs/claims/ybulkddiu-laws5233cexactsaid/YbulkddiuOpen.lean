/-
  The state that comes in, by value, opened: ten cells.
-/
import Derived.Test.YbulkddiuState
import Derived.Lib.SmallJoins
import Derived.OpenShut
import Derived.ProofKit
namespace Go.Proofs.Ybulkddiu
open Go.RowKit Go.Joins Go.ChangeShapes Go.WideShapes

theorem cells23 : Yba.prog.cellsOf 23 = 10 := by kernel_rfl
theorem cells4 : Yba.prog.cellsOf 4 = 1 := by kernel_rfl
theorem cells3 : Yba.prog.cellsOf 3 = 1 := by kernel_rfl

theorem list10 {α : Type} {l : List α} (h : l.length = 10) : ∃ a b c d e f g i j k, l = [a, b, c, d, e, f, g, i, j, k] := by
  match l, h with
  | [a, b, c, d, e, f, g, i, j, k], _ => exact ⟨a, b, c, d, e, f, g, i, j, k, rfl⟩

theorem open_st {H : Type} {enc : TypeId × Value → H} {w : World} {r : Reach} {b0 : Nat} {v : Value} {d : DataW H} {p : List MemPlace}
    (hv : Value.okWide Yba.prog w r b0 23 v) (h : DataW.Trod enc Yba.prog w 0 (fun _ => true) true 23 v d p) : ∃ s : St, v = .agg s.cells := by
  obtain ⟨cs, rfl, hsz⟩ := okWide_struct Yba.underlying23 hv
  obtain ⟨fuel, hf⟩ := h
  obtain ⟨ys, n', _, _, _, _, hg⟩ := DataW.trod_struct Yba.underlying23 hf
  obtain ⟨cl⟩ := cs
  rw [cells23] at hsz
  obtain ⟨c0, c1, c2, c3, c4, c5, c6, c7, c8, c9, rfl⟩ := list10 (l := cl) (by simpa using hsz)
  have hlen : ys.length = 10 := by assumption
  obtain ⟨y0, y1, y2, y3, y4, y5, y6, y7, y8, y9, rfl⟩ := list10 hlen
  have g0 := hg 0 _ rfl
  have g1 := hg 1 _ rfl
  have g2 := hg 2 _ rfl
  have g3 := hg 3 _ rfl
  have g4 := hg 4 _ rfl
  have g5 := hg 5 _ rfl
  have g6 := hg 6 _ rfl
  have g7 := hg 7 _ rfl
  have g8 := hg 8 _ rfl
  have g9 := hg 9 _ rfl
  simp [cells4, cells3, Value.cells] at g0 g1 g2 g3 g4 g5 g6 g7 g8 g9
  obtain ⟨b0, e0, _⟩ := DataW.trod_bool Yba.underlying4 g0
  obtain ⟨b1, e1, _⟩ := DataW.trod_int Yba.underlying3 g1
  obtain ⟨b2, e2, _⟩ := DataW.trod_bool Yba.underlying4 g2
  obtain ⟨b3, e3, _⟩ := DataW.trod_bool Yba.underlying4 g3
  obtain ⟨b4, e4, _⟩ := DataW.trod_int Yba.underlying3 g4
  obtain ⟨b5, e5, _⟩ := DataW.trod_bool Yba.underlying4 g5
  obtain ⟨b6, e6, _⟩ := DataW.trod_int Yba.underlying3 g6
  obtain ⟨b7, e7, _⟩ := DataW.trod_bool Yba.underlying4 g7
  obtain ⟨b8, e8, _⟩ := DataW.trod_bool Yba.underlying4 g8
  obtain ⟨b9, e9, _⟩ := DataW.trod_bool Yba.underlying4 g9
  simp at e0 e1 e2 e3 e4 e5 e6 e7 e8 e9
  subst e0 e1 e2 e3 e4 e5 e6 e7 e8 e9
  exact ⟨⟨b0, b1, b2, b3, b4, b5, b6, b7, b8, b9⟩, rfl⟩
end Go.Proofs.Ybulkddiu
