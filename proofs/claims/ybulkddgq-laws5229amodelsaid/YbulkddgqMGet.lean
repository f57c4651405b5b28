/-
  (*Cache).Get, by whether the key is kept.
-/
import Derived.Test.YbulkddgqMRemove
namespace Go.Proofs.Ybulkddgq
open Go.RowKit Go.Maps
open Go.MuLone

theorem ptrElem_inv_nil {v : Value} {ps : List MemPlace} (h : ptrElem v = some (.lit (.int .i64 (-1)), ps)) : v = .pointer none := by
  unfold ptrElem at h
  split at h
  · rfl
  · split at h
    · simp at h
    · simp at h
  · simp at h

section
variable {P : Program} {w : World} {ops : Array Oper} {rest : List Oper} {o : Oper} {a : Act} {Q : Exit → Act → World → Prop}

/-- 'it, ok := m[k]' where the key is there. -/
theorem wpList_lookup_hit (hg : o.guard = none) (m x : Operand) (hop : o.op = Op.lookup 44 m x true) (M n : Nat) (D : DataW Unit) (hm : a.eval m = .map (some M)) (hown : w.ownsMap Yba.prog 3 ptrElem M n D)
    (k : Int) (hx : a.eval x = .int .i64 k) (hk : (Lit.int .i64 k).wf = true) (b : Nat) (hhas : Maps.has D (.int .i64 k) = true) (hat : at_ D k = .lit (.int .i64 b))
    (hK : wpList Yba.prog ops Q rest (a.put o.dst (.tuple #[.pointer (some ⟨b, 0, none⟩), .bool true])) w) : wpList Yba.prog ops Q (o :: rest) a w :=
  wpList_lookup_own_ok w hg m x 44 hop 3 41 law3 Yba.underlying44 ptrElem (zero41 w) nilD [] ptrElem_nil M n D hm hown (.int .i64 k) (.int .i64 k) hx (keyOf_int_mk Yba.underlying3 hk) (fun v ps hv => by
    have hat' : D.atKey (.int .i64 k) nilD = .lit (.int .i64 b) := hat
    rw [hat'] at hv
    rw [ptrElem_inv hv, hhas]
    exact hK)

/-- .. where it is not. -/
theorem wpList_lookup_miss (hg : o.guard = none) (m x : Operand) (hop : o.op = Op.lookup 44 m x true) (M n : Nat) (D : DataW Unit) (hm : a.eval m = .map (some M)) (hown : w.ownsMap Yba.prog 3 ptrElem M n D)
    (k : Int) (hx : a.eval x = .int .i64 k) (hk : (Lit.int .i64 k).wf = true) (hhas : Maps.has D (.int .i64 k) = false)
    (hK : wpList Yba.prog ops Q rest (a.put o.dst (.tuple #[.pointer none, .bool false])) w) : wpList Yba.prog ops Q (o :: rest) a w :=
  wpList_lookup_own_ok w hg m x 44 hop 3 41 law3 Yba.underlying44 ptrElem (zero41 w) nilD [] ptrElem_nil M n D hm hown (.int .i64 k) (.int .i64 k) hx (keyOf_int_mk Yba.underlying3 hk) (fun v ps hv => by
    rw [Maps.atKey_of_not_has hhas] at hv
    rw [ptrElem_inv_nil hv, hhas]
    exact hK)
end

/-- The cache, whole: the ring and the index agree. -/
structure Lru (F : Nat → Prop) (w : World) (B M : Nat) (bud st used : Int) (L : List (Nat × Ent)) : Prop where
  ring : Ring F w B M bud st used L
  idx : ∃ D, Idx w M D L

theorem Lru.lock {F : Nat → Prop} {w : World} {B M : Nat} {bud st used : Int} {L : List (Nat × Ent)} (h : Lru F w B M bud st used L) (s : Int) : Lru F (w.setCell ⟨B, 1, none⟩ (.int .i32 s)) B M bud s used L := by
  obtain ⟨D, I⟩ := h.idx
  exact ⟨h.ring.setLock s, D, I.kept (Below.heap_setCell w ⟨B, 1, none⟩ _ M h.ring.ne.1.symm)⟩

set_option maxHeartbeats 400000 in
theorem get_miss {F : Nat → Prop} {w : World} {B M : Nat} {bud used : Int} {L : List (Nat × Ent)} (C : Lru F w B M bud 0 used L) (k : Int) (hk : (Lit.int .i64 k).wf = true) (hno : k ∉ L.map (fun x => x.2.k)) :
    Calls Yba.prog 8 #[.pointer (some ⟨B, 0, none⟩), .int .i64 k] w fun e w' => e = .returned (.tuple #[.int .i64 0, .bool false]) ∧ Lru F w' B M bud 0 used L ∧ Keep F w w' := by
  have C1 := C.lock 1
  have c1 := C.ring.c1
  have f1 := C.ring.fr 1
  have c9 := C1.ring.c9
  obtain ⟨D, I⟩ := C1.idx
  have hown := I.own
  have hhas : Maps.has D (.int .i64 k) = false := by
    cases e : Maps.has D (.int .i64 k)
    · rfl
    · exact absurd ((I.has _).1 e) hno
  go_enter_defers Yba.func8, Yba.ntmps8
  go_wp2_with (first
    | (go_at_call 9; refine (lock_free Yba.muLib ⟨B, 1, none⟩ _ c1 f1).mono ?_; rintro e w' ⟨rfl, rfl⟩)
    | (at_lookup; refine wpList_lookup_miss rfl _ _ rfl M _ D rfl hown k rfl hk hhas ?_))
  refine leaves_cons (f := 10) (args := #[.pointer (some ⟨B, 1, none⟩)]) (by simp) (by simp [go_sem]) ?_
  refine (unlock_deferred Yba.muLib ⟨B, 1, none⟩ .returning _ C1.ring.c1 (C1.ring.fr 1)).mono ?_
  rintro e u' w'' ⟨rfl, rfl, rfl⟩
  exact ⟨_, results_tmp2 rfl _ _ _, rfl, C1.lock 0, ((Keep.refl _ _).setCell C.ring.hB _).setCell C.ring.hB _⟩

set_option maxHeartbeats 400000 in
theorem get_hit {F : Nat → Prop} {w : World} {B M : Nat} {bud used : Int} {L1 L2 : List (Nat × Ent)} {bi : Nat} {en : Ent} (C : Lru F w B M bud 0 used (L1 ++ (bi, en) :: L2)) (hk : (Lit.int .i64 en.k).wf = true) :
    Calls Yba.prog 8 #[.pointer (some ⟨B, 0, none⟩), .int .i64 en.k] w fun e w' => e = .returned (.tuple #[.int .i64 en.v, .bool true]) ∧ Lru F w' B M bud 0 used ((bi, en) :: (L1 ++ L2)) ∧ Keep F w w' := by
  have C1 := C.lock 1
  have c1 := C.ring.c1
  have f1 := C.ring.fr 1
  have c9 := C1.ring.c9
  obtain ⟨D, I⟩ := C1.idx
  have hown := I.own
  have hhas := (I.has en.k).2 (by simp)
  have hat : at_ D en.k = .lit (.int .i64 bi) := I.at' (bi, en) (by simp)
  have hxn : bi ∉ B :: M :: (L1 ++ L2).map (·.1) := by
    have := nd_parts (by have := C.ring.nd; rw [List.map_append, List.map_cons] at this; exact this)
    rw [List.map_append]
    simp only [List.mem_cons, not_or]
    exact ⟨this.2.2.2.1, this.2.2.2.2.1, this.2.2.2.2.2.2.2.2⟩
  have hun := unlink_ring (.pointer (some ⟨B, 0, none⟩)) C1.ring
  go_enter_defers Yba.func8, Yba.ntmps8
  go_wp2_with (first
    | (go_at_call 9; refine (lock_free Yba.muLib ⟨B, 1, none⟩ _ c1 f1).mono ?_; rintro e w' ⟨rfl, rfl⟩)
    | (at_lookup; refine wpList_lookup_hit rfl _ _ rfl M _ D rfl hown en.k rfl hk bi hhas hat ?_)
    | (go_at_call 14; refine hun.mono ?_; rintro e w1 ⟨rfl, R1, hx1, S1⟩)
    | (go_at_call 13; refine (pushFront_ring R1 hx1 hxn).mono ?_; rintro e w2 ⟨rfl, R2, S2⟩; have k1 : w2.cell? ⟨bi, 1, none⟩ = some (.int .i64 en.v) := (R2.nodes (bi, en) (by simp)).c1))
  refine leaves_cons (f := 10) (args := #[.pointer (some ⟨B, 1, none⟩)]) (by simp) (by simp [go_sem]) ?_
  refine (unlock_deferred Yba.muLib ⟨B, 1, none⟩ .returning _ R2.c1 (R2.fr 1)).mono ?_
  rintro e u' w'' ⟨rfl, rfl, rfl⟩
  have I2 := ((I.kept S1.map).kept S2.map).perm (L' := (bi, en) :: (L1 ++ L2)) List.perm_middle
  exact ⟨_, results_tmp2 rfl _ _ _, rfl, Lru.lock ⟨R2, D, I2⟩ 0, ((((Keep.refl _ _).setCell C.ring.hB _).trans S1.below).trans S2.below).setCell C.ring.hB _⟩
end Go.Proofs.Ybulkddgq
