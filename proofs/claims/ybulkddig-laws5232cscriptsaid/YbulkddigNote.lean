/-
  LawS5232CScript: (*Hub).noteAnswer: a select of one send with a default; the channel has room, or is full.
-/
import Derived.Test.YbulkddigRows
import Derived.WalkKit
import Derived.WalkSpells
import Derived.Conc.LoneCalls
import Derived.Conc.LoneSelectN
import Derived.Laws.EntriesVeiled
namespace Go.Proofs.Ybulkddig
open Go.Conc Go.RowKit

set_option maxRecDepth 100000 in
theorem note_room (w : World) (hb q s r : Nat) (hc : w.cell? ⟨hb, 36, none⟩ = some (.chan (some q))) (hq : w.heap[q]? = some (.chan 1 #[] false s r false)) :
    Calls Yba.prog 22 #[.pointer (some ⟨hb, 0, none⟩)] w fun e w' => e = .returned (.tuple #[]) ∧ w.setChan q 1 #[.agg #[]] false (s + 1) r false = w' := by
  refine calls_of_loneTo fun cs => ?_
  have e : Frame.enter Yba.prog 22 #[.pointer (some ⟨hb, 0, none⟩)] .normal = (base 22).at ⟨#[.pointer (some ⟨hb, 0, none⟩), undef, undef, undef, undef, undef, undef, undef, undef, undef], []⟩ [.code (Yba.f22.body.getD .skip)] := by
    simp [Frame.enter, Frame.at, Yba.func22, base, Yba.f22]
  rw [e]
  refine LoneTo.goes (n := 40) ?_
  simp only [Yba.f22, Option.getD_some]
  s_c stepG_seq
  s_c stepG_seq
  s_reg
  s_op
  s_op
  s_op
  s_op
  s_c stepG_region_end
  s_reg
  s_op
  s_c stepG_region_end
  s_c stepG_seq
  s_reg
  s_stop
  refine LoneTo.step (step_lone_sel_send_room (k := 0) (c := q) (v := .agg #[]) (z := .agg #[]) (cap := 1) (buf := #[]) (s := s) (r := r) (tm := false) (stepG_comm (cases := #[scase q (.agg #[]) (.agg #[])]) (blocking := false) (shape := .select) (w' := w) rfl rfl (by decide) (by simp [go_sem, execOp, scase, Act.eval])) rfl (fun m c' hm h => by cases m with | zero => exact absurd rfl hm | succ m => simp at h) hq (by simp)) ?_
  rw [Frame.finish_at]
  simp only [commResult]
  walk_nrm
  refine LoneTo.goes (n := 40) ?_
  s_op
  s_op
  s_c stepG_region_end
  s_c stepG_block
  s_cond true
  s_c stepG_skip
  s_c stepG_inBlock
  s_c stepG_end
  s_stop
  refine LoneTo.done ⟨.returned (.tuple #[]), _, rfl, ⟨rfl, rfl⟩, rfl, rfl, rfl, rfl, _, Yba.func22, by simp [results, Yba.f22, Frame.at]⟩

set_option maxRecDepth 100000 in
theorem note_full (w : World) (hb q s r : Nat) (v : Value) (hc : w.cell? ⟨hb, 36, none⟩ = some (.chan (some q))) (hq : w.heap[q]? = some (.chan 1 #[v] false s r false)) :
    Calls Yba.prog 22 #[.pointer (some ⟨hb, 0, none⟩)] w fun e w' => e = .returned (.tuple #[]) ∧ w = w' := by
  refine calls_of_loneTo fun cs => ?_
  have e : Frame.enter Yba.prog 22 #[.pointer (some ⟨hb, 0, none⟩)] .normal = (base 22).at ⟨#[.pointer (some ⟨hb, 0, none⟩), undef, undef, undef, undef, undef, undef, undef, undef, undef], []⟩ [.code (Yba.f22.body.getD .skip)] := by
    simp [Frame.enter, Frame.at, Yba.func22, base, Yba.f22]
  rw [e]
  refine LoneTo.goes (n := 40) ?_
  simp only [Yba.f22, Option.getD_some]
  s_c stepG_seq
  s_c stepG_seq
  s_reg
  s_op
  s_op
  s_op
  s_op
  s_c stepG_region_end
  s_reg
  s_op
  s_c stepG_region_end
  s_c stepG_seq
  s_reg
  s_stop
  refine LoneTo.step (step_lone_sel_default (stepG_comm (cases := #[scase q (.agg #[]) (.agg #[])]) (blocking := false) (shape := .select) (w' := w) rfl rfl (by decide) (by simp [go_sem, execOp, scase, Act.eval])) (fun cc h => by simp at h; rw [h]; exact noWay_send hq (by simp))) ?_
  rw [Frame.finish_at]
  simp only [commResult]
  walk_nrm
  refine LoneTo.goes (n := 40) ?_
  s_op
  s_op
  s_c stepG_region_end
  s_c stepG_block
  s_cond false
  s_c stepG_skip
  s_c stepG_inBlock
  s_c stepG_end
  s_stop
  refine LoneTo.done ⟨.returned (.tuple #[]), _, rfl, ⟨rfl, rfl⟩, rfl, rfl, rfl, rfl, _, Yba.func22, by simp [results, Yba.f22, Frame.at]⟩
end Go.Proofs.Ybulkddig
