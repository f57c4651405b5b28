/-
  LawS5232CScript: the record's crash, and the hub's do and end.
-/
import Derived.Test.YbulkddigRec
import Derived.Deep.RegionWith
import Derived.Laws.EntriesVeiled
import Derived.Conc.EntryLaws
namespace Go.Proofs.Ybulkddig
open Go.RowKit

set_option maxHeartbeats 2000000 in
theorem rec_crash (w : World) (hb N n i : Nat) (cs : Array Value) (v : Value) (xs : List Value) (H : Hold w hb cs) (hv : cs[22]? = some v) (hown : w.ownsRow N 109 6 v n xs) (hne : v.ownBlock ≠ some hb) (hN : N ≤ w.heap.size) (hn : n ≤ 2000) :
    Calls Yba.prog 32 #[.pointer (some ⟨hb, 22, none⟩), .int .i64 i, .slice none 0 0] w fun e w' => e = .returned (.tuple #[]) ∧
      ∃ v', Hold w' hb (cs.setIfInBounds 22 v') ∧ w'.ownsRow N 109 6 v' (n + 1) (xs ++ entry i) ∧ (v'.ownBlock = v.ownBlock ∨ ∃ g, v'.ownBlock = some g ∧ w.heap.size ≤ g) ∧ Put w w' hb v.ownBlock := by
  have hadd := add_any w hb N n i cs v xs H hv hown hne hN hn
  obtain ⟨av, cv, rfl⟩ := own_form hown
  have c22 : w.cell? ⟨hb, 22, none⟩ = some (.slice av n cv) := (H.cell 22).trans hv
  have hlo := leaveOut_any (w := w) hb 22 av n cv c22
  unfold act crashS at hadd
  go_enter Yba.func32, Yba.ntmps32
  go_wp2_with (first
    | (go_at_call 50; refine hlo.mono ?_; rintro e w1 ⟨rfl, rfl⟩)
    | (go_at_call 34; refine hadd.mono ?_; rintro e w1 ⟨rfl, hp⟩))
  refine bodyPost_ret (results_none rfl _ _ _) rfl ?_
  exact ⟨rfl, hp⟩
end Go.Proofs.Ybulkddig
