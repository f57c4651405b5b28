/-
  (*Cache).remove: the item is out of the ring, out of the index, off the count.
-/
import Derived.Test.YbulkddgqMIdx
import Derived.Deep.RegionLaw
namespace Go.Proofs.Ybulkddgq
open Go.RowKit Go.Maps

/-- 'delete(m, k)' as one step of a region that draws its order. -/
theorem step_delete_own {H : Type} {P : Program} {ops : Array Oper} {o : Oper} {a : Act} {w : World} {K : Act → World → Prop} {Q : Exit → Act → World → Prop} {E : Prop}
    (hg : o.guard = none) (m x : Operand) (t k : TypeId) (hop : o.op = Op.call { callee := Callee.builtin Builtin.delete, args := #[m, x], argTypes := #[t, k] })
    (e : TypeId) (KK : Keyed P k) (ht : P.underlying t = some (.map k e)) (R : Value → Option (DataW H × List MemPlace)) (b n : Nat) (D : DataW H)
    (hm : a.eval m = .map (some b)) (hown : w.ownsMap P k R b n D) (key : Value) (kl : Lit) (hx : a.eval x = key) (hkey : keyOf P k key = some kl)
    (hK : ∀ w', w'.ownsMap P k R b n (D.del kl) → w.mapTurned w' b → K (a.put o.dst (.tuple #[])) w') :
    if Region.wanted o (yielded ops a.tmps) = true then Oper.wp P o a w K Q else E := by
  have hw : Region.wanted o (yielded ops a.tmps) = true := by simp [Region.wanted, hg]
  rw [if_pos hw]
  obtain ⟨w', hrun, r1, r2⟩ := hown.drop KK ht hkey o.type
  unfold Oper.wp
  simp [execOp, hop, resolve, invoke, builtin, hm, hx, hrun, Result.andThen]
  exact hK w' r1 r2

theorem turned_cell {w w' : World} {M : Nat} (h : w.mapTurned w' M) {b : Nat} (hb : b ≠ M) (o : Nat) : w'.cell? ⟨b, o, none⟩ = w.cell? ⟨b, o, none⟩ := by
  obtain ⟨es, clock, es', clock', e, rfl⟩ := h
  exact World.cell?_of_block (w := w) (ChangeMaps.heap_setBlock_other e _ hb)

theorem Ring.ne {F : Nat → Prop} {w : World} {B M : Nat} {bud st used : Int} {L : List (Nat × Ent)} (R : Ring F w B M bud st used L) : B ≠ M ∧ (∀ x ∈ L, x.1 ≠ M) ∧ (∀ x ∈ L, x.1 ≠ B) := by
  have a1 := List.nodup_cons.1 R.nd
  have a2 := List.nodup_cons.1 a1.2
  exact ⟨fun e => a1.1 (by simp [e]), fun x hx e => a2.1 (e ▸ List.mem_map_of_mem (f := fun x : Nat × Ent => x.1) hx), fun x hx e => a1.1 (List.mem_cons_of_mem _ (e ▸ List.mem_map_of_mem (f := fun x : Nat × Ent => x.1) hx))⟩

/-- The ring stands while cells outside of it turn. -/
theorem Ring.kept {F : Nat → Prop} {w w' : World} {B M : Nat} {bud st used : Int} {L : List (Nat × Ent)} (R : Ring F w B M bud st used L) (hc : ∀ b o, b ∈ B :: L.map (·.1) → w'.cell? ⟨b, o, none⟩ = w.cell? ⟨b, o, none⟩) (hf : ∀ b o, b ∈ B :: L.map (·.1) → w'.frozen? ⟨b, o, none⟩ = w.frozen? ⟨b, o, none⟩) (hp : ∀ b, b ∈ B :: L.map (·.1) → Plain w b → Plain w' b) :
    Ring F w' B M bud st used L := by
  have hB : B ∈ B :: L.map (·.1) := by simp
  have hx : ∀ x ∈ L, x.1 ∈ B :: L.map (·.1) := fun x h => List.mem_cons_of_mem _ (List.mem_map_of_mem (f := fun x : Nat × Ent => x.1) h)
  refine ⟨R.hB, R.hM, (hc _ _ hB).trans R.c0, (hc _ _ hB).trans R.c1, (hc _ _ hB).trans R.c3, (hc _ _ hB).trans R.c9, fun o => (hf _ _ hB).trans (R.fr o), hp _ hB R.pl, fun x h => ?_, ?_, R.nd⟩
  · have n := R.nodes x h
    exact ⟨n.lo, (hc _ _ (hx x h)).trans n.c0, (hc _ _ (hx x h)).trans n.c1, (hc _ _ (hx x h)).trans n.c2, by rw [hc _ _ (hx x h)]; exact n.c3, by rw [hc _ _ (hx x h)]; exact n.c4, fun o => (hf _ _ (hx x h)).trans (n.fr o), hp _ (hx x h) n.pl⟩
  · refine seg_congr _ _ (fun u v hu h => ?_) (fun u v hu h => ?_) R.seg
    · unfold nxOf at h ⊢; rw [hc _ _ hu]; exact h
    · unfold pvOf at h ⊢
      rw [hc _ _ (by rcases List.mem_append.1 hu with h | h; exact List.mem_cons_of_mem _ h; simp at h; simp [h])]
      exact h

/-- A store into the struct's own plain cells: the ring's links stand. -/
theorem Ring.put {F : Nat → Prop} {w : World} {B M : Nat} {bud st used : Int} {L : List (Nat × Ent)} (R : Ring F w B M bud st used L) (o : Nat) (ho : o < 4) (v : Value) (st' used' : Int)
    (h1 : (w.setCell ⟨B, o, none⟩ v).cell? ⟨B, 1, none⟩ = some (.int .i32 st')) (h3 : (w.setCell ⟨B, o, none⟩ v).cell? ⟨B, 3, none⟩ = some (.int .i64 used')) (h0 : o ≠ 0) : Ring F (w.setCell ⟨B, o, none⟩ v) B M bud st' used' L := by
  have hne := R.ne
  have hoth : ∀ q, (⟨B, o, none⟩ : Addr) ≠ q → (w.setCell ⟨B, o, none⟩ v).cell? q = w.cell? q := fun q h => World.cell?_setCell_other w _ q v h
  refine ⟨R.hB, R.hM, (hoth _ (addr_off h0 _ _)).trans R.c0, h1, h3, (hoth _ (addr_off (by omega) _ _)).trans R.c9, fun p => by rw [World.frozen?_setCell]; exact R.fr p, R.pl.setCell _ _ _, fun x h => ?_, ?_, R.nd⟩
  · have n := R.nodes x h
    have e : ∀ p, (w.setCell ⟨B, o, none⟩ v).cell? ⟨x.1, p, none⟩ = w.cell? ⟨x.1, p, none⟩ := fun p => hoth _ (addr_ne (hne.2.2 x h).symm _ _)
    exact ⟨n.lo, (e _).trans n.c0, (e _).trans n.c1, (e _).trans n.c2, by rw [e]; exact n.c3, by rw [e]; exact n.c4, fun p => by rw [World.frozen?_setCell]; exact n.fr p, n.pl.setCell _ _ _⟩
  · refine seg_congr _ _ (fun u v hu h => ?_) (fun u v hu h => ?_) R.seg
    · unfold nxOf at h ⊢
      rw [hoth]; exact h
      by_cases e : u = B
      · subst e; rw [ro_self]; exact addr_off (by omega) _ _
      · exact addr_ne (Ne.symm e) _ _
    · unfold pvOf at h ⊢
      rw [hoth]; exact h
      by_cases e : u = B
      · subst e; rw [ro_self]; exact addr_off (by omega) _ _
      · exact addr_ne (Ne.symm e) _ _

theorem Ring.setUsed {F : Nat → Prop} {w : World} {B M : Nat} {bud st used : Int} {L : List (Nat × Ent)} (R : Ring F w B M bud st used L) (u : Int) : Ring F (w.setCell ⟨B, 3, none⟩ (.int .i64 u)) B M bud st u L :=
  R.put 3 (by omega) _ st u ((World.cell?_setCell_other w _ _ _ (addr_off (by omega) _ _)).trans R.c1) (World.cell?_setCell_same w _ _ R.c3) (by omega)

theorem Ring.setLock {F : Nat → Prop} {w : World} {B M : Nat} {bud st used : Int} {L : List (Nat × Ent)} (R : Ring F w B M bud st used L) (s : Int) : Ring F (w.setCell ⟨B, 1, none⟩ (.int .i32 s)) B M bud s used L :=
  R.put 1 (by omega) _ s used (World.cell?_setCell_same w _ _ R.c1) ((World.cell?_setCell_other w _ _ _ (addr_off (by omega) _ _)).trans R.c3) (by omega)

theorem Ring.turned {F : Nat → Prop} {w w' : World} {B M : Nat} {bud st used : Int} {L : List (Nat × Ent)} (R : Ring F w B M bud st used L) (h : w.mapTurned w' M) : Ring F w' B M bud st used L := by
  have hne := R.ne
  have hM : ∀ b ∈ B :: L.map (·.1), b ≠ M := by
    intro b hb
    rcases List.mem_cons.1 hb with rfl | hb
    · exact hne.1
    · obtain ⟨x, hx, rfl⟩ := List.mem_map.1 hb
      exact hne.2.1 x hx
  refine R.kept (fun b o hb => turned_cell h (hM b hb) o) (fun b o _ => h.frozen _) (fun b hb hp => ?_)
  obtain ⟨c, t, hc⟩ := hp
  obtain ⟨es, clock, es', clock', e, rfl⟩ := h
  exact ⟨c, t, (ChangeMaps.heap_setBlock_other e _ (hM b hb)).trans hc⟩

theorem Ring.drew {F : Nat → Prop} {w : World} {B M : Nat} {bud st used : Int} {L : List (Nat × Ent)} (R : Ring F w B M bud st used L) : Ring F w.drew B M bud st used L := R.kept (fun _ _ _ => rfl) (fun _ _ _ => rfl) (fun _ _ h => h)

theorem below_turned {F : Nat → Prop} {M : Nat} {a w w' : World} (h : Keep F a w) (hM : ¬ F M) (t : w.mapTurned w' M) : Keep F a w' := by
  obtain ⟨es, clock, es', clock', e, rfl⟩ := t
  exact h.trans ⟨rfl, rfl, rfl, by simp [ChangeMaps.setBlock], fun k hk => ChangeMaps.heap_setBlock_other e _ (fun c => hM (c ▸ hk))⟩

set_option maxHeartbeats 400000 in
theorem remove_ring {F : Nat → Prop} {w : World} {B M : Nat} {bud st used : Int} {L1 L2 : List (Nat × Ent)} {bi : Nat} {en : Ent} {D : DataW Unit} (R : Ring F w B M bud st used (L1 ++ (bi, en) :: L2)) (I : Idx w M D (L1 ++ (bi, en) :: L2))
    (hk : (Lit.int .i64 en.k).wf = true) (hu : -1000000 ≤ used ∧ used ≤ 1000000) (hs : -1000000 ≤ en.s ∧ en.s ≤ 1000000) :
    Calls Yba.prog 11 #[.pointer (some ⟨B, 0, none⟩), .pointer (some ⟨bi, 0, none⟩)] w fun e w' => e = .returned (.tuple #[]) ∧ ∃ D', Ring F w' B M bud st (used - en.s) (L1 ++ L2) ∧ Idx w' M D' (L1 ++ L2) ∧ Keep F w w' := by
  obtain ⟨ek, ev, es⟩ := en
  obtain ⟨hu1, hu2⟩ := hu
  obtain ⟨hs1, hs2⟩ := hs
  have I0 : Idx w M D ((bi, ⟨ek, ev, es⟩) :: (L1 ++ L2)) := I.perm List.perm_middle
  have hBM : B ≠ M := R.ne.1
  have hiM : bi ≠ M := R.ne.2.1 (bi, ⟨ek, ev, es⟩) (by simp)
  have hu := unlink_ring (.pointer (some ⟨B, 0, none⟩)) R
  have hkey := keyOf_int_mk Yba.underlying3 hk
  clear R I
  go_enter Yba.func11, Yba.ntmps11
  go_wp2_with (go_at_call 14; refine hu.mono ?_; rintro e w1 ⟨rfl, R1, hx1, S1⟩)
  clear hu
  have c9 := R1.c9
  have c3 := R1.c3
  have f3 := R1.fr 3
  have k0 : w1.cell? ⟨bi, 0, none⟩ = some (.int .i64 ek) := hx1.c0
  have k2 : w1.cell? ⟨bi, 2, none⟩ = some (.int .i64 es) := hx1.c2
  have o1 := (I0.kept S1.map).own
  go_region_law ((refine step_delete_own (by rfl) _ _ 44 3 (by rfl) 41 law3 Yba.underlying44 ptrElem M _ D (by rfl) (by exact o1) _ _ (by rfl) hkey ?_; intro w2 own2 turn2))
  all_goals
    have R2 := R1.drew.turned turn2
    have d3 := R2.c3
    have g3 := R2.fr 3
    have d2 : w2.cell? ⟨bi, 2, none⟩ = some (.int .i64 es) := (turned_cell turn2 hiM 2).trans k2
    go_wp2
    go_region
    go_wp2
    go_end0
    exact ⟨rfl, _, (R2.setUsed _).drew, (I0.del own2).kept (Below.heap_setCell w2 ⟨B, 3, none⟩ _ M hBM.symm), ((below_turned S1.below.drew R1.hM turn2).setCell R1.hB _).drew⟩
end Go.Proofs.Ybulkddgq
