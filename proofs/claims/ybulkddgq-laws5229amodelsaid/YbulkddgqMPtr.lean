/-
  '==' and '!=' on pointers to items; the look-up of an item without 'ok'.
-/
import Derived.Test.YbulkddgqMIndex
import Derived.LaidEqlPtr
namespace Go.Proofs.Ybulkddgq
open Go.RowKit Go.Maps

theorem info43 : ∃ j, Yba.prog.info? 43 = some j ∧ j.size ≠ 0 := by
  have h : (Yba.prog.info? 43).map (fun i => decide (i.size = 0)) = some false := by kernel_rfl
  cases e : Yba.prog.info? 43 with
  | none => rw [e] at h; cases h
  | some j => rw [e] at h; exact ⟨j, rfl, by simpa using h⟩

theorem ptr_eql_same (a : Addr) (W : World) : (binOp .eql 41 (.pointer (some a)) (.pointer (some a))).run Yba.prog W = .ok (.bool true) W := by
  obtain ⟨j, hj, _⟩ := info43
  exact run_eql_ptr_same W a Yba.underlying41 hj

theorem ptr_neq_same (a : Addr) (W : World) : (binOp .neq 41 (.pointer (some a)) (.pointer (some a))).run Yba.prog W = .ok (.bool false) W := by
  obtain ⟨j, hj, _⟩ := info43
  have h : ∀ d : Nat, (Op.equalIn (d + 1) 41 (.pointer (some a)) (.pointer (some a))).run Yba.prog W = .ok true W := fun d => by
    simp [Op.equalIn, run_underlying Yba.underlying41, sizeOf, typeInfo, hj, run_sameAddr_same]
  simp only [binOp]
  simp [Op.equal, Op.maxDepth, h 9999]

theorem ptr_eql_other {a b : Addr} {W : World} (hne : a.block ≠ b.block) (ha : Plain W a.block) (hb : Plain W b.block) : (binOp .eql 41 (.pointer (some a)) (.pointer (some b))).run Yba.prog W = .ok (.bool false) W := by
  obtain ⟨j, hj, hz⟩ := info43
  obtain ⟨ca, ta, ha⟩ := ha
  obtain ⟨cb, tb, hb⟩ := hb
  exact run_eql_ptr_other W Yba.underlying41 hj hz (fun e => hne (congrArg Addr.block e)) ha hb

theorem look_plain {w : World} {M : Nat} {D : DataW Unit} {L : List (Nat × Ent)} (I : Idx w M D L) {x : Nat × Ent} (hx : x ∈ L) (hk : (Lit.int .i64 x.2.k).wf = true) :
    (Instr.lookup 44 (.map (some M)) (.int .i64 x.2.k) false).run Yba.prog w = .ok (.pointer (some ⟨x.1, 0, none⟩)) w := by
  obtain ⟨v, ps, hrun, hv⟩ := I.own.lookup law3 Yba.underlying44 (zero41 w) ptrElem_nil (keyOf_int_mk Yba.underlying3 hk)
  have h1 : D.atKey (.int .i64 x.2.k) (.lit (.int .i64 (-1))) = .lit (.int .i64 x.1) := I.at' x hx
  rw [h1] at hv
  rw [hrun, ptrElem_inv hv]
end Go.Proofs.Ybulkddgq
