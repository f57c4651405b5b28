/-
  THE WALKS of (*Cache).unlink and (*Cache).pushFront: what each writes, as an equation on the world.
-/
import Derived.Test.YbulkddgqRows
import Derived.Test.YbulkddgqLocks
import Derived.Conc.MuLone
import Derived.Maps.OwnSet
import Derived.WalkKit
import Derived.WalkSpells
import Derived.Deep.Draws
namespace Go.Proofs.Ybulkddgq
open Go.RowKit Go.Maps

set_option maxHeartbeats 400000 in
theorem unlink_any (c : Value) (bi bp op bn on : Nat) (vp vn : Value) (w : World)
    (h3 : w.cell? ⟨bi, 3, none⟩ = some (.pointer (some ⟨bp, op, none⟩))) (h4 : w.cell? ⟨bi, 4, none⟩ = some (.pointer (some ⟨bn, on, none⟩)))
    (hp : w.cell? ⟨bp, op + 4, none⟩ = some vp) (hn : w.cell? ⟨bn, on + 3, none⟩ = some vn)
    (hpi : ¬ bp = bi) (hni : ¬ bn = bi)
    (f3 : w.frozen? ⟨bi, 3, none⟩ = false) (f4 : w.frozen? ⟨bi, 4, none⟩ = false) (fp : w.frozen? ⟨bp, op + 4, none⟩ = false) (fn : w.frozen? ⟨bn, on + 3, none⟩ = false) :
    Calls Yba.prog 14 #[c, .pointer (some ⟨bi, 0, none⟩)] w fun e w' => e = .returned (.tuple #[]) ∧
      ∃ k, w' = ((((w.setCell ⟨bp, op + 4, none⟩ (.pointer (some ⟨bn, on, none⟩))).setCell ⟨bn, on + 3, none⟩ (.pointer (some ⟨bp, op, none⟩))).setCell ⟨bi, 3, none⟩ (.pointer none)).setCell ⟨bi, 4, none⟩ (.pointer none)).drewN k := by
  obtain ⟨vn', hn'⟩ := cell?_setCell_some (w := w) (p := ⟨bp, op + 4, none⟩) (x := .pointer (some ⟨bn, on, none⟩)) (q := ⟨bn, on + 3, none⟩) (v := vn) (by go_simp)
  go_enter Yba.func14, Yba.ntmps14
  go_wp2
  go_region
  all_goals (go_wp2)
  all_goals go_region
  all_goals (go_wp2)
  go_end0
  exact ⟨rfl, 2, rfl⟩

set_option maxHeartbeats 400000 in
theorem pushFront_any (B bi bn on : Nat) (v3 v4 vn : Value) (w : World)
    (h3 : w.cell? ⟨bi, 3, none⟩ = some v3) (h4 : w.cell? ⟨bi, 4, none⟩ = some v4)
    (h8 : w.cell? ⟨B, 8, none⟩ = some (.pointer (some ⟨bn, on, none⟩))) (hn : w.cell? ⟨bn, on + 3, none⟩ = some vn)
    (hBi : ¬ B = bi) (hni : ¬ bn = bi)
    (f3 : w.frozen? ⟨bi, 3, none⟩ = false) (f4 : w.frozen? ⟨bi, 4, none⟩ = false) (f8 : w.frozen? ⟨B, 8, none⟩ = false) (fn : w.frozen? ⟨bn, on + 3, none⟩ = false) :
    Calls Yba.prog 13 #[.pointer (some ⟨B, 0, none⟩), .pointer (some ⟨bi, 0, none⟩)] w fun e w' => e = .returned (.tuple #[]) ∧
      ∃ k, w' = ((((w.setCell ⟨bi, 3, none⟩ (.pointer (some ⟨B, 4, none⟩))).setCell ⟨bi, 4, none⟩ (.pointer (some ⟨bn, on, none⟩))).setCell ⟨bn, on + 3, none⟩ (.pointer (some ⟨bi, 0, none⟩))).setCell ⟨B, 8, none⟩ (.pointer (some ⟨bi, 0, none⟩))).drewN k := by
  have hiB : ¬ bi = B := fun e => hBi e.symm
  have hin : ¬ bi = bn := fun e => hni e.symm
  obtain ⟨v8, h8'⟩ := cell?_setCell_some (w := (w.setCell ⟨bi, 3, none⟩ (.pointer (some ⟨B, 4, none⟩))).setCell ⟨bi, 4, none⟩ (.pointer (some ⟨bn, on, none⟩))) (p := ⟨bn, on + 3, none⟩) (x := .pointer (some ⟨bi, 0, none⟩)) (q := ⟨B, 8, none⟩) (v := .pointer (some ⟨bn, on, none⟩)) (by go_simp)
  go_enter Yba.func13, Yba.ntmps13
  go_wp2
  go_region
  go_wp2
  go_end0
  exact ⟨rfl, 1, rfl⟩
end Go.Proofs.Ybulkddgq
