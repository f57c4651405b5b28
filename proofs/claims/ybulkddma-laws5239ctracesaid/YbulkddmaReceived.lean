/-
  LawS5239CTrace: 'received' with a trace set.
-/
import Derived.Test.YbulkddmaCalls
namespace Go.Proofs.Ybulkddma
open Go.RowKit

set_option maxHeartbeats 1000000 in
theorem received_on (W : World) (B : Nat) (s : ByteArray) (m : Msg) (H0 : Hold W B #[.string s, .int .i64 0, .int .i64 0])
    (H1 : Hold W (B + 1) #[.int .i64 0]) (H2 : Hold W (B + 2) #[.nilIface]) (H3 : Hold W (B + 3) #[.bool false]) (H4 : Hold W (B + 4) Msg.zero.cells)
    (H5 : Hold W (B + 5) (wire B (.func (.func 4) #[] #[.pointer (some ⟨B + 1, 0, none⟩), .pointer (some ⟨B + 2, 0, none⟩), .pointer (some ⟨B + 3, 0, none⟩), .pointer (some ⟨B + 4, 0, none⟩)]))) :
    Calls Yba.prog 5 #[.pointer (some ⟨B + 5, 0, none⟩), .agg m.cells] W fun e w' => e = .returned (.tuple #[]) ∧ Hold w' B #[.string s, .int .i64 1, .int .i64 0] ∧
      Hold w' (B + 1) #[.int .i64 1] ∧ Hold w' (B + 2) #[.iface 32 (.agg #[.string s])] ∧ Hold w' (B + 3) #[.bool false] ∧ Hold w' (B + 4) m.cells ∧
      Hold w' (B + 5) (wire B (.func (.func 4) #[] #[.pointer (some ⟨B + 1, 0, none⟩), .pointer (some ⟨B + 2, 0, none⟩), .pointer (some ⟨B + 3, 0, none⟩), .pointer (some ⟨B + 4, 0, none⟩)])) ∧ Below B W w' := by
  obtain ⟨ka, id, ix, bg, ln, pt, xi, pa, pl, pc⟩ := m
  have l0 := H0.lt
  have l5 := H5.lt
  have h0 : W.cell? ⟨B + 5, 0, none⟩ = some (.iface 30 (.pointer (some ⟨B, 0, none⟩))) := H5.cell 0
  have h2 : W.cell? ⟨B + 5, 2, none⟩ = some (.func (.func 4) #[] #[.pointer (some ⟨B + 1, 0, none⟩), .pointer (some ⟨B + 2, 0, none⟩), .pointer (some ⟨B + 3, 0, none⟩), .pointer (some ⟨B + 4, 0, none⟩)]) := H5.cell 2
  have q0 := some_func
  have q1 := nil_ahead
  have q2 := method_remote
  obtain ⟨V, hV⟩ : ∃ V, V = (W.alloc (.cells (Msg.cells ⟨ka, id, ix, bg, ln, pt, xi, pa, pl, pc⟩) 29)).drew := ⟨_, rfl⟩
  have V0 : Hold V B #[.string s, .int .i64 0, .int .i64 0] := by rw [hV]; exact H0.alloc _
  have V1 : Hold V (B + 1) #[.int .i64 0] := by rw [hV]; exact H1.alloc _
  have V2 : Hold V (B + 2) #[.nilIface] := by rw [hV]; exact H2.alloc _
  have V3 : Hold V (B + 3) #[.bool false] := by rw [hV]; exact H3.alloc _
  have V4 : Hold V (B + 4) Msg.zero.cells := by rw [hV]; exact H4.alloc _
  have V5 : Hold V (B + 5) (wire B (.func (.func 4) #[] #[.pointer (some ⟨B + 1, 0, none⟩), .pointer (some ⟨B + 2, 0, none⟩), .pointer (some ⟨B + 3, 0, none⟩), .pointer (some ⟨B + 4, 0, none⟩)])) := by rw [hV]; exact H5.alloc _
  have V6 : Hold V W.heap.size (Msg.cells ⟨ka, id, ix, bg, ln, pt, xi, pa, pl, pc⟩) := by rw [hV]; exact ⟨29, (MapKept.heap_alloc W _).1⟩
  have belV : Below B W V := by rw [hV]; exact ((Below.refl _ _).alloc (by omega) _).drew
  have HV : Hid (V = (W.alloc (.cells (Msg.cells ⟨ka, id, ix, bg, ln, pt, xi, pa, pl, pc⟩) 29)).drew) := hV
  clear hV
  unfold Msg.cells
  go_enter Yba.func5, Yba.ntmps5
  go_wp2
  go_region_with (first
    | (go_at_call 25; refine (remote_any (W.alloc (.cells (Msg.cells ⟨ka, id, ix, bg, ln, pt, xi, pa, pl, pc⟩) 29)).drew B s ((Hold.alloc H0 _).cell 0) ((Hold.alloc H0 _).cell 1) ((Hold.alloc H0 _).frozen 1)).mono ?_; rintro e w1 ⟨rfl, hw1⟩; have hv1 : V.setCell ⟨B, 1, none⟩ (.int .i64 1) = w1 := (by rw [HV.out]; exact hw1); have X0 : Hold w1 B #[.string s, .int .i64 1, .int .i64 0] := (by rw [← hv1]; exact V0.set 1 _ _ rfl); have X1 : Hold w1 (B + 1) #[.int .i64 0] := (by rw [← hv1]; exact V1.other _ _ _ (by omega)); have X2 : Hold w1 (B + 2) #[.nilIface] := (by rw [← hv1]; exact V2.other _ _ _ (by omega)); have X3 : Hold w1 (B + 3) #[.bool false] := (by rw [← hv1]; exact V3.other _ _ _ (by omega)); have X4 : Hold w1 (B + 4) Msg.zero.cells := (by rw [← hv1]; exact V4.other _ _ _ (by omega)); have X5 : Hold w1 (B + 5) (wire B (.func (.func 4) #[] #[.pointer (some ⟨B + 1, 0, none⟩), .pointer (some ⟨B + 2, 0, none⟩), .pointer (some ⟨B + 3, 0, none⟩), .pointer (some ⟨B + 4, 0, none⟩)])) := (by rw [← hv1]; exact V5.other _ _ _ (by omega)); have X6 : Hold w1 W.heap.size (Msg.cells ⟨ka, id, ix, bg, ln, pt, xi, pa, pl, pc⟩) := (by rw [← hv1]; exact V6.other _ _ _ (by omega)); have belX : Below B W w1 := (by rw [← hv1]; exact belV.setCell (by show B ≤ B; omega) _); have x0 := X6.cell 0; have x1 := X6.cell 1; have x2 := X6.cell 2; have x3 := X6.cell 3; have x4 := X6.cell 4; have x5 := X6.cell 5; have x6 := X6.cell 6; have x7 := X6.cell 7; simp [Msg.cells] at x0 x1 x2 x3 x4 x5 x6 x7; have y2 : w1.cell? ⟨B + 5, 2, none⟩ = some (.func (.func 4) #[] #[.pointer (some ⟨B + 1, 0, none⟩), .pointer (some ⟨B + 2, 0, none⟩), .pointer (some ⟨B + 3, 0, none⟩), .pointer (some ⟨B + 4, 0, none⟩)]) := X5.cell 2; clear hw1 hv1)
    | (go_at_call 4; refine (closure_any _ B s ⟨ka, id, ix, bg, ln, pt, xi, pa, pl, pc⟩ X1 X2 X3 X4).mono ?_; rintro e w2 ⟨rfl, Y1, Y2, Y3, Y4, belY, keep⟩))
  all_goals
    go_wp2
    go_end0
    exact ⟨rfl, X0.below belY (by omega), Y1, Y2, Y3, Y4, keep _ _ (by omega) X5, belX.trans (belY.mono (by omega))⟩
end Go.Proofs.Ybulkddma
