/-
  LawS5232CScript: the set-up: newFenwick.
-/
import Derived.Test.YbulkddigMed
import Derived.Laws.MakeOwn
namespace Go.Proofs.Ybulkddig
open Go.RowKit

theorem made_rep (z : Value) (n : Nat) : madeCells #[z] n = Array.replicate n z := by
  apply Array.ext
  · simp [madeCells]
  · intro i h1 h2
    simp [madeCells, Nat.mod_one]
theorem info3 : ∃ i, Yba.prog.info? 3 = some i ∧ i.zero = some (.int .i64 0) ∧ i.size = 1 ∧ i.bytes = 8 := info_parts (P := Yba.prog) (e := 3) (by kernel_rfl)
theorem make_ints (w : World) (k : Nat) (hk : k ≤ 1000) :
    (Instr.makeSlice 22 (.int .i64 k) (.int .i64 k)).run Yba.prog w = .ok (.slice (some ⟨w.heap.size, 0, none⟩) k k) (w.alloc (.cells (zeros k) 3)) := by
  obtain ⟨i, hi, hz, hs, hb⟩ := info3
  have := run_makeSlice (w := w) 22 3 i (.int .i64 0) Yba.underlying22 hi hz .i64 .i64 k k (by omega) (by omega) (by rw [hs]; simp; omega) (by rw [hb]; omega) (by omega)
  rw [hs] at this
  simpa [Value.cells, made_rep, zeros] using this

theorem hold_fresh (w : World) (cs : Array Value) (t : TypeId) {n : Nat} (h : w.heap.size = n) : Hold (w.alloc (.cells cs t)) n cs := ⟨t, by rw [← h]; exact (MapKept.heap_alloc w _).1⟩

set_option maxHeartbeats 4000000 in
theorem fenwick_new (w : World) (k : Nat) (hk0 : 0 < k) (hk : k ≤ 8) :
    Calls Yba.prog 24 #[.int .i64 k] w fun e w' => ∃ tb cb top, e = .returned (.agg #[.slice (some ⟨tb, 0, none⟩) (k + 1) (k + 1), .slice (some ⟨cb, 0, none⟩) k k, .int .i64 top]) ∧
      w.heap.size ≤ tb ∧ w.heap.size ≤ cb ∧ tb ≠ cb ∧ Hold w' tb (zeros (k + 1)) ∧ Hold w' cb (zeros k) ∧ Below w.heap.size w w' := by
  have m1 := fun w => make_ints w k (by omega)
  have m2 := fun w => make_ints w (k + 1) (by omega)
  have hcast : ((k + 1 : Nat) : Int) = (k : Int) + 1 := by omega
  rw [hcast] at m2
  go_enter Yba.func24, Yba.ntmps24
  go_wp2
  go_loopg [3] k (fun q x wr => (w.alloc (.cells #[.slice none 0 0, .slice none 0 0, .int .i64 0] 124)) = wr ∧ ∃ t : Nat, 0 < t ∧ t ≤ k ∧ q = k + 1 - t ∧ x = .int .i64 t)
  case atStart => exact ⟨rfl, 1, by omega, by omega, by omega, rfl⟩
  case round =>
    obtain ⟨rfl, t, ht, htk, hq, rfl⟩ := hrel
    by_cases hlt : (t : Int) * 2 ≤ k
    · go_wp2
      go_roundg (k + 1 - t * 2)
      case measure => omega
      case rel => exact ⟨rfl, t * 2, by omega, by omega, rfl, by go_num⟩
    · go_wp2
      go_region
      · go_wp2
        refine bodyPost_ret (v := .agg #[.slice (some ⟨w.heap.size + 1, 0, none⟩) (k + 1) (k + 1), .slice (some ⟨w.heap.size + 1 + 1, 0, none⟩) k k, .int .i64 t]) (by simp [results, Yba.results24, go_sem]) rfl ?_
        refine ⟨w.heap.size + 1, w.heap.size + 1 + 1, t, rfl, by omega, by omega, by omega, ?_, ?_, ?_⟩
        · exact (hold_fresh _ _ 3 (by simp)).alloc _
        · exact hold_fresh _ _ 3 (by simp)
        · exact ((((Below.refl _ _).alloc (Nat.le_refl _) _).alloc (by simp) _).alloc (by simp; omega) _).drew
      · go_wp2
        refine bodyPost_ret (v := .agg #[.slice (some ⟨w.heap.size + 1 + 1, 0, none⟩) (k + 1) (k + 1), .slice (some ⟨w.heap.size + 1, 0, none⟩) k k, .int .i64 t]) (by simp [results, Yba.results24, go_sem]) rfl ?_
        refine ⟨w.heap.size + 1 + 1, w.heap.size + 1, t, rfl, by omega, by omega, by omega, ?_, ?_, ?_⟩
        · exact hold_fresh _ _ 3 (by simp)
        · exact (hold_fresh _ _ 3 (by simp)).alloc _
        · exact ((((Below.refl _ _).alloc (Nat.le_refl _) _).alloc (by simp) _).alloc (by simp; omega) _).drew
end Go.Proofs.Ybulkddig
