/-
  The script that comes in, opened: each element's four cells.
-/
import Derived.Test.YbulkddgqMHelp
import Derived.Deep.Slices
import Derived.OpenShut
import Derived.ProofKit
namespace Go.Proofs.Ybulkddgq
open Go.RowKit Go.Deep

theorem cells27 : Yba.prog.cellsOf 27 = 4 := by kernel_rfl
theorem cells5 : Yba.prog.cellsOf 5 = 1 := by kernel_rfl
theorem cells3T : Yba.prog.cellsOf 3 = 1 := by kernel_rfl

theorem open_ops {H : Type} {enc : TypeId × Value → H} {w : World} {fuel : Nat} {av : Option Addr} {len cap : Nat} {x : DataW H × List MemPlace} (h : DataW.trod enc Yba.prog w 0 (fun _ => true) true fuel 22 [.slice av len cap] = some x) : IsOps w av len := by
  rcases open_slice Yba.underlying22 h with ⟨hcs, _⟩ | ⟨a, len', cap', m, n, D, Pl, hcs, _, hl, _, hm, _, hx⟩
  · simp at hcs
    exact .inl hcs.2.1
  · simp at hcs
    obtain ⟨rfl, rfl, rfl⟩ := hcs
    by_cases h0 : len = 0
    · exact .inl h0
    right
    have hm' : m = cap := by simpa using hm
    obtain ⟨b, off, spot⟩ := a
    have hall : ∀ i, i < len → ∃ o k v s : Int, w.cell? ((⟨b, off, spot⟩ : Addr).add (i * 4)) = some (.int .u8 o) ∧ w.cell? (((⟨b, off, spot⟩ : Addr).add (i * 4)).add 1) = some (.int .u8 k) ∧ w.cell? (((⟨b, off, spot⟩ : Addr).add (i * 4)).add 2) = some (.int .i64 v) ∧ w.cell? (((⟨b, off, spot⟩ : Addr).add (i * 4)).add 3) = some (.int .u8 s) ∧
        (Lit.int .u8 o).wf = true ∧ (Lit.int .u8 k).wf = true ∧ (Lit.int .u8 s).wf = true := by
      intro i hi
      obtain ⟨cs', h1, h2⟩ := hx i (by omega)
      rw [cells27] at h1
      obtain ⟨_, hlen, hc⟩ := World.cells?_some h1
      obtain ⟨ys, n', _, _, _, _, hf⟩ := DataW.trod_struct Yba.underlying27 h2
      match cs', hlen with
      | [c0, c1, c2, c3], _ =>
        have g0 := hf 0 _ rfl
        have g1 := hf 1 _ rfl
        have g2 := hf 2 _ rfl
        have g3 := hf 3 _ rfl
        simp [cells5, cells3T] at g0 g1 g2 g3
        have hlen4 : ys.length = 4 := by assumption
        match ys, hlen4 with
        | [y0, y1, y2, y3], _ =>
          simp at g0 g1 g2 g3
          obtain ⟨o, e0, _, w0⟩ := DataW.trod_int Yba.underlying5 g0
          obtain ⟨k, e1, _, w1⟩ := DataW.trod_int Yba.underlying5 g1
          obtain ⟨v, e2, _, w2⟩ := DataW.trod_int Yba.underlying3 g2
          obtain ⟨s, e3, _, w3⟩ := DataW.trod_int Yba.underlying5 g3
          simp at e0 e1 e2 e3
          subst e0 e1 e2 e3
          have d0 := hc 0 (by omega)
          have d1 := hc 1 (by omega)
          have d2 := hc 2 (by omega)
          have d3 := hc 3 (by omega)
          exact ⟨o, k, v, s, by simpa [Addr.add] using d0, by simpa using d1, by simpa using d2, by simpa using d3, w0, w1, w3⟩
    have hspot : spot = none := by
      obtain ⟨_, _, _, _, h1, _⟩ := hall 0 (by omega)
      simpa [Addr.add] using World.cell?_spot h1
    subst hspot
    refine ⟨b, off, rfl, ?_, fun i hi => ?_⟩
    · obtain ⟨_, _, _, _, h1, _⟩ := hall 0 (by omega)
      exact World.block_lt_of_cell? w ⟨b, off, none⟩ (by simpa [Addr.add] using h1)
    · obtain ⟨o, k, v, s, h1, h2, h3, h4, w1, w2, w3⟩ := hall i hi
      rw [Go.WideShapes.add_plain] at h1 h2 h3 h4
      rw [Go.WideShapes.add_plain] at h2 h3 h4
      have b1 := bounds_u8 w1
      have b2 := bounds_u8 w2
      have b3 := bounds_u8 w3
      exact ⟨o, k, v, s, h1, h2, h3, h4, b1.1, b1.2, b2.1, b2.2, b3.1, b3.2⟩
end Go.Proofs.Ybulkddgq
