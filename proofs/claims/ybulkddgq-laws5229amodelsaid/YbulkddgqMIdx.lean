/-
  THE CACHE's INDEX: the map from keys to items, as the list of items says it.
-/
import Derived.Test.YbulkddgqMRing
namespace Go.Proofs.Ybulkddgq
open Go.RowKit Go.Maps

/-- How a pointer to an item reads: its block's number; nil: -1. -/
def ptrElem : Value → Option (DataW Unit × List MemPlace)
  | .pointer none => some (.lit (.int .i64 (-1)), [])
  | .pointer (some a) => if a = ⟨a.block, 0, none⟩ then some (.lit (.int .i64 a.block), []) else none
  | _ => none

theorem ptrElem_nil : ptrElem (.pointer none) = some (.lit (.int .i64 (-1)), []) := rfl
theorem ptrElem_mk (b : Nat) : ptrElem (.pointer (some ⟨b, 0, none⟩)) = some (.lit (.int .i64 b), []) := by simp [ptrElem]
theorem ptrElem_inv {v : Value} {b : Nat} {ps : List MemPlace} (h : ptrElem v = some (.lit (.int .i64 b), ps)) : v = .pointer (some ⟨b, 0, none⟩) := by
  unfold ptrElem at h
  split at h
  · simp at h
  · split at h
    · rename_i a ha
      simp at h
      have e : a.block = b := by omega
      rw [ha, e]
    · simp at h
  · simp at h

theorem law3 : Keyed Yba.prog 3 := int_keyed Yba.underlying3
theorem zero41 (w : World) : (zeroValue 41).run Yba.prog w = .ok (.pointer none) w := by kernel_rfl

def nilD : DataW Unit := .lit (.int .i64 (-1))
def at_ (D : DataW Unit) (k : Int) : DataW Unit := D.atKey (.int .i64 k) nilD

structure Idx (w : World) (M : Nat) (D : DataW Unit) (L : List (Nat × Ent)) : Prop where
  own : w.ownsMap Yba.prog 3 ptrElem M L.length D
  has : ∀ k : Int, Maps.has D (.int .i64 k) = true ↔ k ∈ L.map (fun x => x.2.k)
  at' : ∀ x ∈ L, at_ D x.2.k = .lit (.int .i64 x.1)
  keys : (L.map (fun x => x.2.k)).Nodup
  size : Maps.size D = L.length

theorem own_heap {w w' : World} {M n : Nat} {D : DataW Unit} (h : w.ownsMap Yba.prog 3 ptrElem M n D) (e : w'.heap[M]? = w.heap[M]?) : w'.ownsMap Yba.prog 3 ptrElem M n D := by
  obtain ⟨es, clock, hb, r⟩ := h
  exact ⟨es, clock, e.trans hb, r⟩

theorem own_size {w : World} {M n : Nat} {D : DataW Unit} (h : w.ownsMap Yba.prog 3 ptrElem M n D) : w.ownsMap Yba.prog 3 ptrElem M (Maps.size D) D := by
  obtain ⟨es, clock, hb, F, hs, rfl⟩ := h
  exact ⟨es, clock, hb, F, by simp [Maps.size, length_sorted], rfl⟩

theorem Idx.kept {w w' : World} {M : Nat} {D : DataW Unit} {L : List (Nat × Ent)} (h : Idx w M D L) (e : w'.heap[M]? = w.heap[M]?) : Idx w' M D L :=
  ⟨own_heap h.own e, h.has, h.at', h.keys, h.size⟩

theorem Idx.perm {w : World} {M : Nat} {D : DataW Unit} {L L' : List (Nat × Ent)} (h : Idx w M D L) (p : L.Perm L') : Idx w M D L' :=
  ⟨by rw [← p.length_eq]; exact h.own, fun k => (h.has k).trans (p.map _).mem_iff, fun x hx => h.at' x (p.mem_iff.2 hx), (p.map _).nodup_iff.1 h.keys, by rw [← p.length_eq]; exact h.size⟩

theorem lit_ne {a b : Int} (h : a ≠ b) : Lit.int .i64 a ≠ Lit.int .i64 b := fun e => h (by cases e; rfl)

/-- The first of the list is struck. -/
theorem Idx.del {w w' : World} {M : Nat} {D : DataW Unit} {L : List (Nat × Ent)} {x : Nat × Ent} (h : Idx w M D (x :: L)) {n : Nat} (o : w'.ownsMap Yba.prog 3 ptrElem M n (D.del (.int .i64 x.2.k))) : Idx w' M (D.del (.int .i64 x.2.k)) L := by
  have hk := List.nodup_cons.1 h.keys
  have hsz : Maps.size (D.del (.int .i64 x.2.k)) = L.length := by
    have h1 := Maps.size_del (k := .int .i64 x.2.k) (h.own.tidy law3)
    rw [(h.has x.2.k).2 (by simp), if_pos rfl, h.size] at h1
    simp at h1
    exact h1
  refine ⟨by rw [← hsz]; exact own_size o, fun k => ?_, fun y hy => ?_, hk.2, hsz⟩
  · by_cases e : k = x.2.k
    · subst e
      rw [Maps.has_del_same]
      simp only [Bool.false_eq_true, false_iff]
      exact hk.1
    · rw [Maps.has_del_other (lit_ne e), h.has k, List.map_cons, List.mem_cons]
      exact ⟨fun h => h.resolve_left e, .inr⟩
  · have hy' : y.2.k ≠ x.2.k := fun e => hk.1 (by have := List.mem_map_of_mem (f := fun x : Nat × Ent => x.2.k) hy; simp only [e] at this; exact this)
    unfold at_
    rw [Maps.atKey_del_other (lit_ne hy')]
    exact h.at' y (List.mem_cons_of_mem _ hy)

/-- One more at the head, under a key that is not there. -/
theorem Idx.put {w w' : World} {M : Nat} {D : DataW Unit} {L : List (Nat × Ent)} {x : Nat × Ent} (h : Idx w M D L) (hx : x.2.k ∉ L.map (fun x => x.2.k)) {n : Nat} (o : w'.ownsMap Yba.prog 3 ptrElem M n (D.put (.int .i64 x.2.k) (.lit (.int .i64 x.1)))) :
    Idx w' M (D.put (.int .i64 x.2.k) (.lit (.int .i64 x.1))) (x :: L) := by
  have hno : Maps.has D (.int .i64 x.2.k) = false := by
    cases e : Maps.has D (.int .i64 x.2.k)
    · rfl
    · exact absurd ((h.has _).1 e) hx
  have hsz : Maps.size (D.put (.int .i64 x.2.k) (.lit (.int .i64 x.1))) = (x :: L).length := by
    rw [Maps.size_put (h.own.tidy law3), hno, h.size]; simp
  refine ⟨by rw [← hsz]; exact own_size o, fun k => ?_, fun y hy => ?_, List.nodup_cons.2 ⟨hx, h.keys⟩, hsz⟩
  · by_cases e : k = x.2.k
    · subst e
      rw [Maps.has_put_same h.own.isMap (k := .int .i64 x.2.k) trivial]
      simp
    · rw [Maps.has_put_other (lit_ne e), h.has k, List.map_cons, List.mem_cons]
      exact ⟨.inr, fun h => h.resolve_left e⟩
  · rcases List.mem_cons.1 hy with rfl | hy
    · unfold at_; rw [Maps.atKey_put_same h.own.isMap (k := .int .i64 y.2.k) trivial]
    · have hy' : y.2.k ≠ x.2.k := fun e => hx (by rw [← e]; exact List.mem_map_of_mem (f := fun x : Nat × Ent => x.2.k) hy)
      unfold at_
      rw [Maps.atKey_put_other (lit_ne hy')]
      exact h.at' y hy
end Go.Proofs.Ybulkddgq
