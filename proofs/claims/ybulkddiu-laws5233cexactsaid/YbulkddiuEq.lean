/-
  A state is equal to itself: '==' and '!=' on nix.indentation.
-/
import Derived.Test.YbulkddiuState
namespace Go.Proofs.Ybulkddiu
open Go.RowKit

theorem eqFields_all (d : Nat) (xs : Array Value) (W : World) : ∀ fs : List Field, (∀ f ∈ fs, ∃ v, (part f.type xs f.offset).run Yba.prog W = .ok v W ∧ (Op.equalIn d f.type v v).run Yba.prog W = .ok true W) → (Op.eqFields d xs xs fs).run Yba.prog W = .ok true W
  | [], _ => by simp [Op.eqFields]
  | f :: fs, h => by
    have ih := eqFields_all d xs W fs (fun g hg => h g (List.mem_cons_of_mem _ hg))
    obtain ⟨v, h1, h2⟩ := h f (by simp)
    unfold Op.eqFields
    split
    · simp only [Sem.run_bind, h1, h2, Result.andThen_ok, Bool.not_true, Bool.false_eq_true, if_false]
      exact ih
    · exact ih

theorem fields27 : (Yba.prog.fieldsOf 27).toList.map (fun f => (f.type, f.offset)) = [(4, 0), (3, 1), (4, 2), (25, 3), (25, 5), (4, 7), (4, 8), (4, 9)] := by kernel_rfl
theorem fields25 : (Yba.prog.fieldsOf 25).toList.map (fun f => (f.type, f.offset)) = [(4, 0), (3, 1)] := by kernel_rfl
theorem und27 : Yba.prog.underlying 27 = some (.struct (Yba.prog.fieldsOf 27)) := by kernel_rfl
theorem und25 : Yba.prog.underlying 25 = some (.struct (Yba.prog.fieldsOf 25)) := by kernel_rfl
theorem stood27 : Yba.prog.stoodInHeld 27 = false := by kernel_rfl
theorem stood25 : Yba.prog.stoodInHeld 25 = false := by kernel_rfl

theorem eqB (d : Nat) (a : Bool) (W : World) : (Op.equalIn (d + 1) 4 (.bool a) (.bool a)).run Yba.prog W = .ok true W := by
  rw [run_equalIn_bool W d 4 a a Yba.underlying4]; simp
theorem eqI (d : Nat) (a : Int) (W : World) : (Op.equalIn (d + 1) 3 (.int .i64 a) (.int .i64 a)).run Yba.prog W = .ok true W := by
  rw [run_equalIn_int W d 3 .i64 .i64 a a Yba.underlying3]; simp
theorem eqL (d : Nat) (a : Bool) (n : Int) (W : World) : (Op.equalIn (d + 2) 25 (.agg #[.bool a, .int .i64 n]) (.agg #[.bool a, .int .i64 n])).run Yba.prog W = .ok true W := by
  rw [run_equalIn_struct W (d + 1) 25 _ _ und25 stood25]
  refine eqFields_all _ _ _ _ (fun f hf => ?_)
  have hm := List.mem_map_of_mem (f := fun f : Field => (f.type, f.offset)) hf
  rw [fields25] at hm
  simp only [List.mem_cons, Prod.mk.injEq, List.not_mem_nil, or_false] at hm
  rcases hm with ⟨e1, e2⟩ | ⟨e1, e2⟩
  · rw [e1, e2]; exact ⟨.bool a, by kernel_rfl, eqB d a W⟩
  · rw [e1, e2]; exact ⟨.int .i64 n, by kernel_rfl, eqI d n W⟩

theorem eqS (d : Nat) (s : St) (W : World) : (Op.equalIn (d + 3) 27 (.agg s.cells) (.agg s.cells)).run Yba.prog W = .ok true W := by
  rw [run_equalIn_struct W (d + 2) 27 _ _ und27 stood27]
  refine eqFields_all _ _ _ _ (fun f hf => ?_)
  have hm := List.mem_map_of_mem (f := fun f : Field => (f.type, f.offset)) hf
  rw [fields27] at hm
  simp only [List.mem_cons, Prod.mk.injEq, List.not_mem_nil, or_false] at hm
  rcases hm with ⟨e1, e2⟩ | ⟨e1, e2⟩ | ⟨e1, e2⟩ | ⟨e1, e2⟩ | ⟨e1, e2⟩ | ⟨e1, e2⟩ | ⟨e1, e2⟩ | ⟨e1, e2⟩ <;> rw [e1, e2]
  · exact ⟨.bool s.i, by kernel_rfl, eqB _ _ W⟩
  · exact ⟨.int .i64 s.sp, by kernel_rfl, eqI _ _ W⟩
  · exact ⟨.bool s.la, by kernel_rfl, eqB _ _ W⟩
  · exact ⟨.agg #[.bool s.fs, .int .i64 s.fn], by kernel_rfl, eqL d _ _ W⟩
  · exact ⟨.agg #[.bool s.rs, .int .i64 s.rn], by kernel_rfl, eqL d _ _ W⟩
  · exact ⟨.bool s.tb, by kernel_rfl, eqB _ _ W⟩
  · exact ⟨.bool s.ae, by kernel_rfl, eqB _ _ W⟩
  · exact ⟨.bool s.sa, by kernel_rfl, eqB _ _ W⟩

theorem eql_same (s : St) (W : World) : (binOp .eql 27 (.agg s.cells) (.agg s.cells)).run Yba.prog W = .ok (.bool true) W := by
  rw [run_eql_struct]
  have h := eqS 9997 s W
  rw [show (10000 : Nat) = 9997 + 3 from rfl, h]; rfl
theorem neq_same (s : St) (W : World) : (binOp .neq 27 (.agg s.cells) (.agg s.cells)).run Yba.prog W = .ok (.bool false) W := by
  rw [run_neq_struct]
  have h := eqS 9997 s W
  rw [show (10000 : Nat) = 9997 + 3 from rfl, h]; rfl
end Go.Proofs.Ybulkddiu
