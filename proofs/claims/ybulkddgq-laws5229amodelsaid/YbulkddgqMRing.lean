/-
  THE CACHE IN MEMORY: the struct's cells, the ring of items as a list (the most recently used first), each item's cells. What unlink and pushFront make of it.
-/
import Derived.Test.YbulkddgqSeg
import Derived.Test.YbulkddgqPlain
import Derived.Test.YbulkddgqLinks
namespace Go.Proofs.Ybulkddgq
open Go.RowKit Go.Maps

/-- Where an item begins in its block: the ring's own one lies inside the struct. -/
def ro (B a : Nat) : Nat := if a = B then 4 else 0
theorem ro_self (B : Nat) : ro B B = 4 := by simp [ro]
theorem ro_other {B a : Nat} (h : a ≠ B) : ro B a = 0 := by simp [ro, h]
theorem ro_cases (B a : Nat) : ro B a = 0 ∨ ro B a = 4 := by unfold ro; split <;> simp

def nxOf (w : World) (B a z : Nat) : Prop := w.cell? ⟨a, ro B a + 4, none⟩ = some (.pointer (some ⟨z, ro B z, none⟩))
def pvOf (w : World) (B a z : Nat) : Prop := w.cell? ⟨a, ro B a + 3, none⟩ = some (.pointer (some ⟨z, ro B z, none⟩))

/-- A block of plain cells, none of them a constant's. -/
def Plain (w : World) (b : Nat) : Prop := ∃ c t, w.heap[b]? = some (.cells c t (0, 0))
theorem Plain.setCell {w : World} {b : Nat} (h : Plain w b) (g j : Nat) (v : Value) : Plain (w.setCell ⟨g, j, none⟩ v) b := by
  obtain ⟨c, t, hc⟩ := h
  by_cases e : g = b
  · subst e; exact ⟨_, t, heap_setCell_same w g j c t v hc⟩
  · exact ⟨c, t, (Below.heap_setCell w ⟨g, j, none⟩ v b (fun h => e h.symm)).trans hc⟩
theorem Plain.drewN {w : World} {b : Nat} (h : Plain w b) (k : Nat) : Plain (w.drewN k) b := h

structure NodeAt (F : Nat → Prop) (w : World) (x : Nat × Ent) : Prop where
  lo : ¬ F x.1
  c0 : w.cell? ⟨x.1, 0, none⟩ = some (.int .i64 x.2.k)
  c1 : w.cell? ⟨x.1, 1, none⟩ = some (.int .i64 x.2.v)
  c2 : w.cell? ⟨x.1, 2, none⟩ = some (.int .i64 x.2.s)
  c3 : ∃ v, w.cell? ⟨x.1, 3, none⟩ = some v
  c4 : ∃ v, w.cell? ⟨x.1, 4, none⟩ = some v
  fr : ∀ o, w.frozen? ⟨x.1, o, none⟩ = false
  pl : Plain w x.1

theorem NodeAt.kept {F : Nat → Prop} {w w' : World} {x : Nat × Ent} (h : NodeAt F w x) (hc : w'.cell? = w.cell?) (hf : w'.frozen? = w.frozen?) (hh : w'.heap = w.heap) : NodeAt F w' x :=
  ⟨h.lo, by rw [hc]; exact h.c0, by rw [hc]; exact h.c1, by rw [hc]; exact h.c2, by rw [hc]; exact h.c3, by rw [hc]; exact h.c4, by rw [hf]; exact h.fr, by unfold Plain; rw [hh]; exact h.pl⟩

structure Ring (F : Nat → Prop) (w : World) (B M : Nat) (bud st used : Int) (L : List (Nat × Ent)) : Prop where
  hB : ¬ F B
  hM : ¬ F M
  c0 : w.cell? ⟨B, 0, none⟩ = some (.int .i64 bud)
  c1 : w.cell? ⟨B, 1, none⟩ = some (.int .i32 st)
  c3 : w.cell? ⟨B, 3, none⟩ = some (.int .i64 used)
  c9 : w.cell? ⟨B, 9, none⟩ = some (.map (some M))
  fr : ∀ o, w.frozen? ⟨B, o, none⟩ = false
  pl : Plain w B
  nodes : ∀ x ∈ L, NodeAt F w x
  seg : Seg (nxOf w B) (pvOf w B) B (L.map (·.1)) B
  nd : (B :: M :: L.map (·.1)).Nodup

/-- Of the blocks in F none has turned; no block has gone. -/
structure Keep (F : Nat → Prop) (w w' : World) : Prop where
  os : w'.os = w.os
  tape : w'.tape = w.tape
  output : w'.output = w.output
  size : w.heap.size ≤ w'.heap.size
  block : ∀ k, F k → w'.heap[k]? = w.heap[k]?

theorem Keep.refl (F : Nat → Prop) (w : World) : Keep F w w := ⟨rfl, rfl, rfl, Nat.le_refl _, fun _ _ => rfl⟩
theorem Keep.trans {F : Nat → Prop} {a b c : World} (h : Keep F a b) (k : Keep F b c) : Keep F a c :=
  ⟨k.os.trans h.os, k.tape.trans h.tape, k.output.trans h.output, Nat.le_trans h.size k.size, fun i hi => (k.block i hi).trans (h.block i hi)⟩
theorem Keep.mono {F F' : Nat → Prop} {w w' : World} (h : Keep F w w') (hF : ∀ k, F' k → F k) : Keep F' w w' := ⟨h.os, h.tape, h.output, h.size, fun k hk => h.block k (hF k hk)⟩
theorem Keep.drew {F : Nat → Prop} {a w : World} (h : Keep F a w) : Keep F a w.drew := ⟨h.os, h.tape, h.output, h.size, h.block⟩
theorem Keep.alloc {F : Nat → Prop} {a w : World} (h : Keep F a w) (hF : ∀ k, F k → k < a.heap.size) (o : Obj) : Keep F a (w.alloc o) :=
  h.trans ⟨rfl, rfl, rfl, by simp, fun k hk => Below.heap_alloc _ _ _ (Nat.lt_of_lt_of_le (hF k hk) h.size)⟩
theorem Keep.setCell {F : Nat → Prop} {a w : World} (h : Keep F a w) {p : Addr} (hp : ¬ F p.block) (u : Value) : Keep F a (w.setCell p u) :=
  h.trans ⟨rfl, rfl, rfl, by simp [World.setCell], fun k hk => Below.heap_setCell _ _ _ _ (fun e => hp (e ▸ hk))⟩
theorem Keep.low {F : Nat → Prop} {a w : World} (h : Keep F a w) (hF : ∀ k, F k → k < a.heap.size) : ¬ F w.heap.size := fun c => by
  have h1 := hF _ c
  have h2 := h.size
  omega

/-- Nothing in F has turned, and the map's block is as it was. -/
structure Same (F : Nat → Prop) (M : Nat) (w w' : World) : Prop where
  below : Keep F w w'
  map : w'.heap[M]? = w.heap[M]?

theorem Same.refl (F : Nat → Prop) (M : Nat) (w : World) : Same F M w w := ⟨Keep.refl _ _, rfl⟩
theorem Same.trans {F : Nat → Prop} {M : Nat} {a b c : World} (h : Same F M a b) (k : Same F M b c) : Same F M a c := ⟨h.below.trans k.below, k.map.trans h.map⟩
theorem Same.setCell {F : Nat → Prop} {M : Nat} {a w : World} (h : Same F M a w) {p : Addr} (hp : ¬ F p.block) (hm : M ≠ p.block) (u : Value) : Same F M a (w.setCell p u) :=
  ⟨h.below.setCell hp u, (Below.heap_setCell w p u M hm).trans h.map⟩
theorem Same.drewN {F : Nat → Prop} {M : Nat} {a w : World} (h : Same F M a w) (k : Nat) : Same F M a (w.drewN k) := ⟨⟨h.below.os, h.below.tape, h.below.output, h.below.size, h.below.block⟩, h.map⟩

/-- A cell behind a store into a cell that is there. -/
theorem cell_set {w : World} {a : Addr} {u : Value} (h : w.cell? a = some u) (v : Value) (q : Addr) : (w.setCell a v).cell? q = if a = q then some v else w.cell? q := by
  by_cases e : a = q
  · subst e; rw [if_pos rfl]; exact World.cell?_setCell_same w a v h
  · rw [if_neg e]; exact World.cell?_setCell_other w a q v e

theorem ring_frozen {F : Nat → Prop} {w : World} {B M : Nat} {bud st used : Int} {L : List (Nat × Ent)} (R : Ring F w B M bud st used L) {p : Nat} (hp : p ∈ B :: L.map (·.1)) : ¬ F p ∧ ∀ o, w.frozen? ⟨p, o, none⟩ = false := by
  rcases List.mem_cons.1 hp with rfl | hp
  · exact ⟨R.hB, R.fr⟩
  · obtain ⟨x, hx, rfl⟩ := List.mem_map.1 hp
    exact ⟨(R.nodes x hx).lo, (R.nodes x hx).fr⟩

theorem addr_ne {a b : Nat} (h : a ≠ b) (o o' : Nat) : ¬ ((⟨a, o, none⟩ : Addr) = ⟨b, o', none⟩) := fun e => h (congrArg Addr.block e)
theorem addr_off {o o' : Nat} (h : o ≠ o') (a b : Nat) : ¬ ((⟨a, o, none⟩ : Addr) = ⟨b, o', none⟩) := fun e => h (congrArg Addr.off e)

/-- What lies apart, where one is taken out of the midst. -/
theorem nd_parts {B M x : Nat} {l1 l2 : List Nat} (h : (B :: M :: (l1 ++ x :: l2)).Nodup) :
    (B :: (l1 ++ l2)).Nodup ∧ (l1 ++ l2 ++ [B]).Nodup ∧ (B :: M :: (l1 ++ l2)).Nodup ∧ x ≠ B ∧ x ≠ M ∧ B ≠ M ∧ (∀ p ∈ B :: l1, p ≠ x ∧ p ≠ M) ∧ (∀ n ∈ l2 ++ [B], n ≠ x ∧ n ≠ M) ∧ x ∉ l1 ++ l2 := by
  have s1 : (l1 ++ l2).Sublist (l1 ++ x :: l2) := List.Sublist.append (List.Sublist.refl _) (List.sublist_cons_self _ _)
  have n3 : (B :: M :: (l1 ++ l2)).Nodup := List.Nodup.sublist ((s1.cons_cons M).cons_cons B) h
  have n1 : (B :: (l1 ++ l2)).Nodup := List.Nodup.sublist ((s1.cons M).cons_cons B) h
  have n2 : (l1 ++ l2 ++ [B]).Nodup := (List.perm_append_comm (l₁ := [B]) (l₂ := l1 ++ l2)).nodup_iff.1 n1
  have a1 := List.nodup_cons.1 h
  have a2 := List.nodup_cons.1 a1.2
  have a3 := List.nodup_append.1 a2.2
  have a4 := List.nodup_cons.1 a3.2.1
  refine ⟨n1, n2, n3, ?_, ?_, ?_, ?_, ?_, ?_⟩
  · intro e; exact a1.1 (by simp [e])
  · intro e; exact a2.1 (by simp [e])
  · intro e; exact a1.1 (by simp [e])
  · intro p hp
    rcases List.mem_cons.1 hp with rfl | hp
    · exact ⟨fun e => a1.1 (by simp [e]), fun e => a1.1 (by simp [e])⟩
    · exact ⟨a3.2.2 p hp x (by simp), fun e => a2.1 (by simp [← e, hp])⟩
  · intro n hn
    rcases List.mem_append.1 hn with hn | hn
    · exact ⟨fun e => a4.1 (e ▸ hn), fun e => a2.1 (by simp [← e, hn])⟩
    · obtain rfl := List.mem_singleton.1 hn
      exact ⟨fun e => a1.1 (by simp [e]), fun e => a1.1 (by simp [e])⟩
  · intro hx
    rcases List.mem_append.1 hx with hx | hx
    · exact a3.2.2 x hx x (by simp) rfl
    · exact a4.1 hx

theorem unlink_ring {F : Nat → Prop} {w : World} {B M : Nat} {bud st used : Int} {L1 L2 : List (Nat × Ent)} {x : Nat × Ent} (c : Value) (R : Ring F w B M bud st used (L1 ++ x :: L2)) :
    Calls Yba.prog 14 #[c, .pointer (some ⟨x.1, 0, none⟩)] w fun e w' => e = .returned (.tuple #[]) ∧ Ring F w' B M bud st used (L1 ++ L2) ∧ NodeAt F w' x ∧ Same F M w w' := by
  have hnd := R.nd
  have hseg := R.seg
  rw [List.map_append, List.map_cons] at hnd hseg
  obtain ⟨nd1, nd2, nd3, hxB, hxM, hBM, hpp, hnn, hxl⟩ := nd_parts hnd
  obtain ⟨p, n, hp, hn, e1, e2, e3, e4, hall⟩ := seg_unlink (L1.map (·.1)) B hseg
  have hx := R.nodes x (by simp)
  obtain ⟨hpx, hpM⟩ := hpp p hp
  obtain ⟨hnx, hnM⟩ := hnn n hn
  have fp : ¬ F p ∧ ∀ o, w.frozen? ⟨p, o, none⟩ = false := by
    refine ring_frozen R ?_
    rcases List.mem_cons.1 hp with h | h
    · simp [h]
    · exact List.mem_cons_of_mem _ (by rw [List.map_append]; exact List.mem_append_left _ h)
  have fn : ¬ F n ∧ ∀ o, w.frozen? ⟨n, o, none⟩ = false := by
    refine ring_frozen R ?_
    rcases List.mem_append.1 hn with h | h
    · exact List.mem_cons_of_mem _ (by rw [List.map_append, List.map_cons]; exact List.mem_append_right _ (List.mem_cons_of_mem _ h))
    · simp at h; simp [h]
  unfold nxOf at e1 e3
  unfold pvOf at e2 e4
  rw [ro_other hxB] at e2 e3
  have e2' : w.cell? ⟨x.1, 3, none⟩ = some (.pointer (some ⟨p, ro B p, none⟩)) := e2
  have e3' : w.cell? ⟨x.1, 4, none⟩ = some (.pointer (some ⟨n, ro B n, none⟩)) := e3
  refine (unlink_any c x.1 p (ro B p) n (ro B n) _ _ w e2' e3' e1 e4 hpx hnx (hx.fr _) (hx.fr _) (fp.2 _) (fn.2 _)).mono ?_
  rintro e w' ⟨rfl, k, rfl⟩
  have ne43 : ∀ a b c d : Nat, ¬ ((⟨a, ro B b + 4, none⟩ : Addr) = ⟨c, ro B d + 3, none⟩) := by
    intro a b c d; have := ro_cases B b; have := ro_cases B d; exact addr_off (by omega) _ _
  obtain ⟨u2, g2⟩ := cell?_setCell_some (p := ⟨p, ro B p + 4, none⟩) (x := .pointer (some ⟨n, ro B n, none⟩)) e4
  obtain ⟨u3', g3'⟩ := cell?_setCell_some (p := ⟨p, ro B p + 4, none⟩) (x := .pointer (some ⟨n, ro B n, none⟩)) e2'
  obtain ⟨u3, g3⟩ := cell?_setCell_some (p := ⟨n, ro B n + 3, none⟩) (x := .pointer (some ⟨p, ro B p, none⟩)) g3'
  obtain ⟨u4'', g4''⟩ := cell?_setCell_some (p := ⟨p, ro B p + 4, none⟩) (x := .pointer (some ⟨n, ro B n, none⟩)) e3'
  obtain ⟨u4', g4'⟩ := cell?_setCell_some (p := ⟨n, ro B n + 3, none⟩) (x := .pointer (some ⟨p, ro B p, none⟩)) g4''
  obtain ⟨u4, g4⟩ := cell?_setCell_some (p := ⟨x.1, 3, none⟩) (x := .pointer none) g4'
  have hcell : ∀ q, ((((((w.setCell ⟨p, ro B p + 4, none⟩ (.pointer (some ⟨n, ro B n, none⟩))).setCell ⟨n, ro B n + 3, none⟩ (.pointer (some ⟨p, ro B p, none⟩))).setCell ⟨x.1, 3, none⟩ (.pointer none)).setCell ⟨x.1, 4, none⟩ (.pointer none)).drewN k).cell? q) =
      if (⟨x.1, 4, none⟩ : Addr) = q then some (.pointer none) else if (⟨x.1, 3, none⟩ : Addr) = q then some (.pointer none) else if (⟨n, ro B n + 3, none⟩ : Addr) = q then some (.pointer (some ⟨p, ro B p, none⟩)) else if (⟨p, ro B p + 4, none⟩ : Addr) = q then some (.pointer (some ⟨n, ro B n, none⟩)) else w.cell? q := by
    intro q
    rw [World.cell?_drewN, cell_set g4, cell_set g3, cell_set g2, cell_set e1]
  have hfr : ∀ q, ((((((w.setCell ⟨p, ro B p + 4, none⟩ (.pointer (some ⟨n, ro B n, none⟩))).setCell ⟨n, ro B n + 3, none⟩ (.pointer (some ⟨p, ro B p, none⟩))).setCell ⟨x.1, 3, none⟩ (.pointer none)).setCell ⟨x.1, 4, none⟩ (.pointer none)).drewN k).frozen? q) = w.frozen? q := by
    intro q; simp
  have hsame : Same F M w (((((w.setCell ⟨p, ro B p + 4, none⟩ (.pointer (some ⟨n, ro B n, none⟩))).setCell ⟨n, ro B n + 3, none⟩ (.pointer (some ⟨p, ro B p, none⟩))).setCell ⟨x.1, 3, none⟩ (.pointer none)).setCell ⟨x.1, 4, none⟩ (.pointer none)).drewN k) :=
    (((((Same.refl F M w).setCell fp.1 hpM.symm _).setCell fn.1 hnM.symm _).setCell hx.lo hxM.symm _).setCell hx.lo hxM.symm _).drewN k
  have hpl : ∀ b, Plain w b → Plain (((((w.setCell ⟨p, ro B p + 4, none⟩ (.pointer (some ⟨n, ro B n, none⟩))).setCell ⟨n, ro B n + 3, none⟩ (.pointer (some ⟨p, ro B p, none⟩))).setCell ⟨x.1, 3, none⟩ (.pointer none)).setCell ⟨x.1, 4, none⟩ (.pointer none)).drewN k) b :=
    fun b h => ((((h.setCell _ _ _).setCell _ _ _).setCell _ _ _).setCell _ _ _).drewN k
  generalize (((((w.setCell ⟨p, ro B p + 4, none⟩ (.pointer (some ⟨n, ro B n, none⟩))).setCell ⟨n, ro B n + 3, none⟩ (.pointer (some ⟨p, ro B p, none⟩))).setCell ⟨x.1, 3, none⟩ (.pointer none)).setCell ⟨x.1, 4, none⟩ (.pointer none)).drewN k) = w' at hcell hfr hsame hpl ⊢
  have hxB' : ¬ x.1 = B := hxB
  have cB : ∀ o, o ≠ 7 → o ≠ 8 → w'.cell? ⟨B, o, none⟩ = w.cell? ⟨B, o, none⟩ := by
    intro o h7 h8
    rw [hcell, if_neg (addr_ne hxB' _ _), if_neg (addr_ne hxB' _ _), if_neg, if_neg]
    · simp only [Addr.mk.injEq, not_and]; rintro rfl; rw [ro_self]; omega
    · simp only [Addr.mk.injEq, not_and]; rintro rfl; rw [ro_self]; omega
  have cnode : ∀ y : Nat, y ≠ B → ∀ o, o < 3 → w'.cell? ⟨y, o, none⟩ = w.cell? ⟨y, o, none⟩ := by
    intro y hy o ho
    rw [hcell, if_neg, if_neg, if_neg, if_neg]
    · simp only [Addr.mk.injEq, not_and]; intros; omega
    · simp only [Addr.mk.injEq, not_and]; intros; omega
    · simp only [Addr.mk.injEq, not_and]; intros; omega
    · simp only [Addr.mk.injEq, not_and]; intros; omega
  have csome : ∀ q v, w.cell? q = some v → ∃ v', w'.cell? q = some v' := by
    intro q v hv
    rw [hcell]
    repeat (first | exact ⟨_, rfl⟩ | exact ⟨v, hv⟩ | split)
  have hnode : ∀ y ∈ L1 ++ x :: L2, NodeAt F w' y := by
    intro y hy
    have hY := R.nodes y hy
    have hyB : y.1 ≠ B := by
      intro e
      exact (List.nodup_cons.1 hnd).1 (List.mem_cons_of_mem _ (by rw [← List.map_cons (f := (·.1)) (a := x), ← List.map_append, ← e]; exact List.mem_map_of_mem hy))
    obtain ⟨v3, h3⟩ := hY.c3
    obtain ⟨v4, h4⟩ := hY.c4
    exact ⟨hY.lo, (cnode _ hyB _ (by omega)).trans hY.c0, (cnode _ hyB _ (by omega)).trans hY.c1, (cnode _ hyB _ (by omega)).trans hY.c2, csome _ _ h3, csome _ _ h4, fun o => (hfr _).trans (hY.fr o), hpl _ hY.pl⟩
  refine ⟨rfl, ⟨R.hB, R.hM, (cB _ (by omega) (by omega)).trans R.c0, (cB _ (by omega) (by omega)).trans R.c1, (cB _ (by omega) (by omega)).trans R.c3, (cB _ (by omega) (by omega)).trans R.c9, fun o => (hfr _).trans (R.fr o), hpl _ R.pl, fun y hy => hnode y ?_, ?_, ?_⟩, hnode x (by simp), hsame⟩
  · rcases List.mem_append.1 hy with h | h
    · exact List.mem_append_left _ h
    · exact List.mem_append_right _ (List.mem_cons_of_mem _ h)
  · rw [List.map_append]
    refine hall _ _ ?_ ?_ ?_ ?_ nd1 nd2
    · unfold nxOf
      rw [hcell, if_neg (addr_ne hpx.symm _ _), if_neg (addr_ne hpx.symm _ _), if_neg (fun e => ne43 _ _ _ _ e.symm), if_pos rfl]
    · unfold pvOf
      rw [hcell, if_neg (addr_ne hnx.symm _ _), if_neg (addr_ne hnx.symm _ _), if_pos rfl]
    · intro u v hu hup h
      have hux : u ≠ x.1 := by
        rcases List.mem_cons.1 hu with rfl | hu
        · exact hxB.symm
        · exact fun e => hxl (e ▸ hu)
      unfold nxOf at h ⊢
      rw [hcell, if_neg (addr_ne hux.symm _ _), if_neg (addr_ne hux.symm _ _), if_neg (fun e => ne43 _ _ _ _ e.symm), if_neg (addr_ne hup.symm _ _)]
      exact h
    · intro u v hu hun h
      have hux : u ≠ x.1 := by
        rcases List.mem_append.1 hu with hu | hu
        · exact fun e => hxl (e ▸ hu)
        · simp at hu; rw [hu]; exact hxB.symm
      unfold pvOf at h ⊢
      rw [hcell, if_neg (addr_ne hux.symm _ _), if_neg (addr_ne hux.symm _ _), if_neg (addr_ne hun.symm _ _), if_neg (fun e => ne43 _ _ _ _ e)]
      exact h
  · rw [List.map_append]; exact nd3

theorem pushFront_ring {F : Nat → Prop} {w : World} {B M : Nat} {bud st used : Int} {L : List (Nat × Ent)} {x : Nat × Ent} (R : Ring F w B M bud st used L) (hx : NodeAt F w x) (hxn : x.1 ∉ B :: M :: L.map (·.1)) :
    Calls Yba.prog 13 #[.pointer (some ⟨B, 0, none⟩), .pointer (some ⟨x.1, 0, none⟩)] w fun e w' => e = .returned (.tuple #[]) ∧ Ring F w' B M bud st used (x :: L) ∧ Same F M w w' := by
  have hnd := R.nd
  obtain ⟨n, hn, e1, e2, hall⟩ := seg_push R.seg
  have hxB : x.1 ≠ B := fun e => hxn (by simp [e])
  have hxM : x.1 ≠ M := fun e => hxn (by simp [e])
  have hxl : x.1 ∉ L.map (·.1) := fun h => hxn (List.mem_cons_of_mem _ (List.mem_cons_of_mem _ h))
  have a1 := List.nodup_cons.1 hnd
  have a2 := List.nodup_cons.1 a1.2
  have hBM : B ≠ M := fun e => a1.1 (by simp [e])
  have hBl : B ∉ L.map (·.1) := fun h => a1.1 (List.mem_cons_of_mem _ h)
  have nd0 : (B :: L.map (·.1)).Nodup := List.nodup_cons.2 ⟨hBl, a2.2⟩
  have nd1 : (L.map (·.1) ++ [B]).Nodup := (List.perm_append_comm (l₁ := [B]) (l₂ := L.map (fun y : Nat × Ent => y.1))).nodup_iff.1 nd0
  have hn' : n ∈ B :: L.map (·.1) := by
    rcases List.mem_append.1 hn with h | h
    · exact List.mem_cons_of_mem _ h
    · simp at h; simp [h]
  have hnx : n ≠ x.1 := by
    rcases List.mem_cons.1 hn' with h | h
    · rw [h]; exact hxB.symm
    · exact fun e => hxl (e ▸ h)
  have hnM : n ≠ M := by
    rcases List.mem_cons.1 hn' with h | h
    · rw [h]; exact hBM
    · exact fun e => a2.1 (e ▸ h)
  have fn := ring_frozen R hn'
  unfold nxOf at e1
  unfold pvOf at e2
  rw [ro_self] at e1
  have e1' : w.cell? ⟨B, 8, none⟩ = some (.pointer (some ⟨n, ro B n, none⟩)) := e1
  obtain ⟨v3, h3⟩ := hx.c3
  obtain ⟨v4, h4⟩ := hx.c4
  refine (pushFront_any B x.1 n (ro B n) v3 v4 _ w h3 h4 e1' e2 hxB.symm hnx (hx.fr _) (hx.fr _) (R.fr _) (fn.2 _)).mono ?_
  rintro e w' ⟨rfl, k, rfl⟩
  have ne43 : ∀ a b c d : Nat, ¬ ((⟨a, ro B b + 4, none⟩ : Addr) = ⟨c, ro B d + 3, none⟩) := by
    intro a b c d; have := ro_cases B b; have := ro_cases B d; exact addr_off (by omega) _ _
  obtain ⟨u4, g4⟩ := cell?_setCell_some (p := ⟨x.1, 3, none⟩) (x := .pointer (some ⟨B, 4, none⟩)) h4
  obtain ⟨u5', g5'⟩ := cell?_setCell_some (p := ⟨x.1, 3, none⟩) (x := .pointer (some ⟨B, 4, none⟩)) e2
  obtain ⟨u5, g5⟩ := cell?_setCell_some (p := ⟨x.1, 4, none⟩) (x := .pointer (some ⟨n, ro B n, none⟩)) g5'
  obtain ⟨u6'', g6''⟩ := cell?_setCell_some (p := ⟨x.1, 3, none⟩) (x := .pointer (some ⟨B, 4, none⟩)) e1'
  obtain ⟨u6', g6'⟩ := cell?_setCell_some (p := ⟨x.1, 4, none⟩) (x := .pointer (some ⟨n, ro B n, none⟩)) g6''
  obtain ⟨u6, g6⟩ := cell?_setCell_some (p := ⟨n, ro B n + 3, none⟩) (x := .pointer (some ⟨x.1, 0, none⟩)) g6'
  have hcell : ∀ q, ((((((w.setCell ⟨x.1, 3, none⟩ (.pointer (some ⟨B, 4, none⟩))).setCell ⟨x.1, 4, none⟩ (.pointer (some ⟨n, ro B n, none⟩))).setCell ⟨n, ro B n + 3, none⟩ (.pointer (some ⟨x.1, 0, none⟩))).setCell ⟨B, 8, none⟩ (.pointer (some ⟨x.1, 0, none⟩))).drewN k).cell? q) =
      if (⟨B, 8, none⟩ : Addr) = q then some (.pointer (some ⟨x.1, 0, none⟩)) else if (⟨n, ro B n + 3, none⟩ : Addr) = q then some (.pointer (some ⟨x.1, 0, none⟩)) else if (⟨x.1, 4, none⟩ : Addr) = q then some (.pointer (some ⟨n, ro B n, none⟩)) else if (⟨x.1, 3, none⟩ : Addr) = q then some (.pointer (some ⟨B, 4, none⟩)) else w.cell? q := by
    intro q
    rw [World.cell?_drewN, cell_set g6, cell_set g5, cell_set g4, cell_set h3]
  have hfr : ∀ q, ((((((w.setCell ⟨x.1, 3, none⟩ (.pointer (some ⟨B, 4, none⟩))).setCell ⟨x.1, 4, none⟩ (.pointer (some ⟨n, ro B n, none⟩))).setCell ⟨n, ro B n + 3, none⟩ (.pointer (some ⟨x.1, 0, none⟩))).setCell ⟨B, 8, none⟩ (.pointer (some ⟨x.1, 0, none⟩))).drewN k).frozen? q) = w.frozen? q := by
    intro q; simp
  have hsame : Same F M w (((((w.setCell ⟨x.1, 3, none⟩ (.pointer (some ⟨B, 4, none⟩))).setCell ⟨x.1, 4, none⟩ (.pointer (some ⟨n, ro B n, none⟩))).setCell ⟨n, ro B n + 3, none⟩ (.pointer (some ⟨x.1, 0, none⟩))).setCell ⟨B, 8, none⟩ (.pointer (some ⟨x.1, 0, none⟩))).drewN k) :=
    (((((Same.refl F M w).setCell hx.lo hxM.symm _).setCell hx.lo hxM.symm _).setCell fn.1 hnM.symm _).setCell R.hB hBM.symm _).drewN k
  have hpl : ∀ b, Plain w b → Plain (((((w.setCell ⟨x.1, 3, none⟩ (.pointer (some ⟨B, 4, none⟩))).setCell ⟨x.1, 4, none⟩ (.pointer (some ⟨n, ro B n, none⟩))).setCell ⟨n, ro B n + 3, none⟩ (.pointer (some ⟨x.1, 0, none⟩))).setCell ⟨B, 8, none⟩ (.pointer (some ⟨x.1, 0, none⟩))).drewN k) b :=
    fun b h => ((((h.setCell _ _ _).setCell _ _ _).setCell _ _ _).setCell _ _ _).drewN k
  generalize (((((w.setCell ⟨x.1, 3, none⟩ (.pointer (some ⟨B, 4, none⟩))).setCell ⟨x.1, 4, none⟩ (.pointer (some ⟨n, ro B n, none⟩))).setCell ⟨n, ro B n + 3, none⟩ (.pointer (some ⟨x.1, 0, none⟩))).setCell ⟨B, 8, none⟩ (.pointer (some ⟨x.1, 0, none⟩))).drewN k) = w' at hcell hfr hsame hpl ⊢
  have cB : ∀ o, o ≠ 7 → o ≠ 8 → w'.cell? ⟨B, o, none⟩ = w.cell? ⟨B, o, none⟩ := by
    intro o h7 h8
    rw [hcell, if_neg (addr_off h8.symm _ _), if_neg, if_neg (addr_ne hxB _ _), if_neg (addr_ne hxB _ _)]
    simp only [Addr.mk.injEq, not_and]; rintro rfl; rw [ro_self]; omega
  have cnode : ∀ y : Nat, y ≠ B → ∀ o, o < 3 → w'.cell? ⟨y, o, none⟩ = w.cell? ⟨y, o, none⟩ := by
    intro y hy o ho
    rw [hcell, if_neg (addr_off (by omega) _ _), if_neg (addr_off (by omega) _ _), if_neg (addr_off (by omega) _ _), if_neg (addr_off (by omega) _ _)]
  have csome : ∀ q v, w.cell? q = some v → ∃ v', w'.cell? q = some v' := by
    intro q v hv
    rw [hcell]
    repeat (first | exact ⟨_, rfl⟩ | exact ⟨v, hv⟩ | split)
  have hnode1 : ∀ y, y.1 ≠ B → NodeAt F w y → NodeAt F w' y := by
    intro y hyB hY
    obtain ⟨v3, h3⟩ := hY.c3
    obtain ⟨v4, h4⟩ := hY.c4
    exact ⟨hY.lo, (cnode _ hyB _ (by omega)).trans hY.c0, (cnode _ hyB _ (by omega)).trans hY.c1, (cnode _ hyB _ (by omega)).trans hY.c2, csome _ _ h3, csome _ _ h4, fun o => (hfr _).trans (hY.fr o), hpl _ hY.pl⟩
  refine ⟨rfl, ⟨R.hB, R.hM, (cB _ (by omega) (by omega)).trans R.c0, (cB _ (by omega) (by omega)).trans R.c1, (cB _ (by omega) (by omega)).trans R.c3, (cB _ (by omega) (by omega)).trans R.c9, fun o => (hfr _).trans (R.fr o), hpl _ R.pl, fun y hy => ?_, ?_, ?_⟩, hsame⟩
  · rcases List.mem_cons.1 hy with rfl | h
    · exact hnode1 _ hxB hx
    · exact hnode1 _ (fun e => hBl (e ▸ List.mem_map_of_mem h)) (R.nodes y h)
  · rw [List.map_cons]
    refine hall _ _ x.1 ?_ ?_ ?_ ?_ ?_ ?_ nd1
    · unfold nxOf
      rw [hcell, ro_self, if_pos rfl, ro_other hxB]
    · unfold pvOf
      rw [hcell, ro_other hxB, if_neg (addr_ne hxB.symm _ _), if_neg (addr_ne hnx _ _), if_neg (addr_off (by omega) _ _), if_pos rfl, ro_self]
    · unfold nxOf
      rw [hcell, ro_other hxB, if_neg (addr_ne hxB.symm _ _), if_neg (addr_ne hnx _ _), if_pos rfl]
    · unfold pvOf
      rw [hcell, if_neg, if_pos rfl, ro_other hxB]
      refine addr_off ?_ _ _
      have := ro_cases B n
      omega
    · intro u v hu h
      have hux : x.1 ≠ u := fun e => hxl (e ▸ hu)
      have huB : B ≠ u := fun e => hBl (e ▸ hu)
      unfold nxOf at h ⊢
      rw [hcell, if_neg (addr_ne huB _ _), if_neg (fun e => ne43 _ _ _ _ e.symm), if_neg (addr_ne hux _ _), if_neg (addr_ne hux _ _)]
      exact h
    · intro u v hu hun h
      have hux : x.1 ≠ u := by
        rcases List.mem_append.1 hu with hu | hu
        · exact fun e => hxl (e ▸ hu)
        · simp at hu; rw [hu]; exact hxB
      unfold pvOf at h ⊢
      rw [hcell, if_neg (addr_off (by have := ro_cases B u; omega) _ _), if_neg (addr_ne hun.symm _ _), if_neg (addr_ne hux _ _), if_neg (addr_ne hux _ _)]
      exact h
  · rw [List.map_cons]
    refine List.nodup_cons.2 ⟨?_, List.nodup_cons.2 ⟨?_, List.nodup_cons.2 ⟨hxl, a2.2⟩⟩⟩
    · simp only [List.mem_cons, not_or]
      exact ⟨hBM, hxB.symm, hBl⟩
    · simp only [List.mem_cons, not_or]
      exact ⟨hxM.symm, a2.1⟩
end Go.Proofs.Ybulkddgq
