/-
  LawS5232CScript: the hub's methods at its whole state: do (a crash), noteAnswer, end.
-/
import Derived.Test.YbulkddigState
import Derived.Test.YbulkddigRec2
import Derived.Test.YbulkddigNote
import Derived.Conc.EventLaws
namespace Go.Proofs.Ybulkddig
open Go.RowKit Go.Conc

section
variable {c : Cst} {w w' : World} {st : List Int} {cr lf : Int} {ended : Bool} {v : Value} {n : Nat} {xs : List Value} {full : Bool} {mu : Int}

theorem Is.noted (h : Is c w st cr lf ended v n xs full mu) {s r : Nat} : Is c (w.setChan c.aq 1 #[.agg #[]] false s r false) st cr lf ended v n xs true mu := by
  have hN := h.size
  have A := h.apt
  obtain ⟨l1, l2, l3, l4, l5, l6, l7, l8⟩ := A.lt
  have hq : ∀ q, c.aq ≠ q → (w.setChan c.aq 1 #[.agg #[]] false s r false).heap[q]? = w.heap[q]? := fun q h1 => by simp only [World.setChan]; exact Array.getElem?_setIfInBounds_ne h1
  have hh : ∀ {b : Nat} {cs : Array Value}, c.aq ≠ b → Hold w b cs → Hold (w.setChan c.aq 1 #[.agg #[]] false s r false) b cs := fun hne ⟨t, e⟩ => ⟨t, (hq _ hne).trans e⟩
  obtain ⟨cs, H, HI⟩ := h.hub
  exact ⟨A, ⟨cs, hh (fun e => A.hub.2.2.2.2.2.2 e.symm) H, HI⟩, ⟨hh A.aq.1 h.lies.m, hh A.aq.2.1 h.lies.s, hh A.aq.2.2.1 h.lies.i, hh A.aq.2.2.2 h.lies.c, h.lies.a, h.lies.k, h.lies.le, h.lies.cr0, h.lies.lf0⟩,
    h.peersKept (Fr.setChan w c.aq _ _ _ _ _ _ none (.inr (.inr (.inr (.inr rfl))))) (fun g e => by cases e), own_keep h.own (fun g hg => hq g (by have := (own_in h.own hg).1; omega)), (hq _ (fun e => A.dq.2.2.2.2 e.symm)).trans h.done, ⟨s, r, heap_setChan w _ _ _ _ _ _ _ (by omega)⟩, by rw [size_setChan]; exact hN⟩

theorem note_is (h : Is c w st cr lf ended v n xs full mu) :
    Calls Yba.prog 22 #[.pointer (some ⟨c.hb, 0, none⟩)] w fun e w' => e = .returned (.tuple #[]) ∧ Is c w' st cr lf ended v n xs true mu ∧ Fr w w' c.C v.ownBlock := by
  obtain ⟨cs, H, HI⟩ := h.hub
  obtain ⟨s, r, ha⟩ := h.ans
  have h36 : w.cell? ⟨c.hb, 36, none⟩ = some (.chan (some c.aq)) := (H.cell 36).trans HI.ans
  cases full
  · refine (note_room w c.hb c.aq s r h36 ha).mono ?_
    rintro e w1 ⟨rfl, rfl⟩
    exact ⟨rfl, h.noted, Fr.setChan w c.aq _ _ _ _ _ _ _ (.inr (.inr (.inr (.inr rfl))))⟩
  · refine (note_full w c.hb c.aq s r _ h36 ha).mono ?_
    rintro e w1 ⟨rfl, rfl⟩
    exact ⟨rfl, h, Fr.refl _ _ _⟩

theorem Is.over (h : Is c w st cr lf false v n xs full mu) : Is c ((w.setCell ⟨c.hb, 20, none⟩ (.bool true)).setChan c.dq 0 #[] true 0 0 false) st cr lf true v n xs full mu := by
  have hN := h.size
  have A := h.apt
  obtain ⟨l1, l2, l3, l4, l5, l6, l7, l8⟩ := A.lt
  have hq : ∀ q, c.dq ≠ q → c.hb ≠ q → ((w.setCell ⟨c.hb, 20, none⟩ (.bool true)).setChan c.dq 0 #[] true 0 0 false).heap[q]? = w.heap[q]? := fun q h1 h2 => by
    simp only [World.setChan]; rw [Array.getElem?_setIfInBounds_ne h1]; exact Below.heap_setCell _ _ _ _ (fun e => h2 e.symm)
  have hh : ∀ {b : Nat} {cs : Array Value}, c.dq ≠ b → c.hb ≠ b → Hold w b cs → Hold ((w.setCell ⟨c.hb, 20, none⟩ (.bool true)).setChan c.dq 0 #[] true 0 0 false) b cs := fun hne hn2 ⟨t, e⟩ => ⟨t, (hq _ hne hn2).trans e⟩
  obtain ⟨cs, H, HI⟩ := h.hub
  obtain ⟨s, r, ha⟩ := h.ans
  have H' : Hold ((w.setCell ⟨c.hb, 20, none⟩ (.bool true)).setChan c.dq 0 #[] true 0 0 false) c.hb (cs.setIfInBounds 20 (.bool true)) := by
    obtain ⟨t, e⟩ := H.set 20 (.bool true) _ rfl
    exact ⟨t, by simp only [World.setChan]; rw [Array.getElem?_setIfInBounds_ne (fun e => A.hub.2.2.2.2.2.1 e.symm)]; exact e⟩
  have f : Fr w ((w.setCell ⟨c.hb, 20, none⟩ (.bool true)).setChan c.dq 0 #[] true 0 0 false) c.C none := (Fr.setCell w c.hb 20 _ none (.inl rfl)).trans (Fr.setChan _ c.dq _ _ _ _ _ _ none (.inr (.inr (.inr (.inl rfl))))) (.inl rfl)
  exact ⟨A, ⟨_, H', HI.setEnded true⟩, ⟨hh A.dq.1 A.hub.1 h.lies.m, hh A.dq.2.1 A.hub.2.1 h.lies.s, hh A.dq.2.2.1 A.hub.2.2.1 h.lies.i, hh A.dq.2.2.2.1 A.hub.2.2.2.1 h.lies.c, h.lies.a, h.lies.k, h.lies.le, h.lies.cr0, h.lies.lf0⟩,
    h.peersKept f (fun g e => by cases e), own_keep h.own (fun g hg => hq g (by have := (own_in h.own hg).1; omega) (by have := (own_in h.own hg).1; omega)), heap_setChan _ _ _ _ _ _ _ _ (by simp [World.setCell]; omega), ⟨s, r, (hq _ A.dq.2.2.2.2 A.hub.2.2.2.2.2.2).trans ha⟩, Nat.le_trans hN f.size⟩

set_option maxHeartbeats 1000000 in
theorem end_is (h : Is c w st cr lf false v n xs full mu) :
    Calls Yba.prog 36 #[.pointer (some ⟨c.hb, 0, none⟩)] w fun e w' => e = .returned (.tuple #[]) ∧ Is c w' st cr lf true v n xs full mu ∧ Fr w w' c.C v.ownBlock := by
  obtain ⟨cs, H, HI⟩ := h.hub
  have h20 : w.cell? ⟨c.hb, 20, none⟩ = some (.bool false) := (H.cell 20).trans HI.ended
  have h35 : w.cell? ⟨c.hb, 35, none⟩ = some (.chan (some c.dq)) := (H.cell 35).trans HI.done
  have f20 := H.frozen 20
  have hd : (w.setCell ⟨c.hb, 20, none⟩ (.bool true)).heap[c.dq]? = some (.chan 0 #[] false 0 0 false) := (Below.heap_setCell _ _ _ _ (fun e => h.apt.hub.2.2.2.2.2.1 e.symm)).trans h.done
  have hcl := fun ats ty => run_close_open (P := Yba.prog) ats ty hd
  have I' := h.over
  have f : Fr w ((w.setCell ⟨c.hb, 20, none⟩ (.bool true)).setChan c.dq 0 #[] true 0 0 false) c.C v.ownBlock := (Fr.setCell w c.hb 20 _ _ (.inl rfl)).trans (Fr.setChan _ c.dq _ _ _ _ _ _ _ (.inr (.inr (.inr (.inl rfl))))) (.inl rfl)
  go_enter Yba.func36, Yba.ntmps36
  go_wp2
  go_end0
  exact ⟨rfl, I', f⟩

theorem hold_new (w : World) (cs : Array Value) (t : TypeId) : Hold (w.alloc (.cells cs t)) w.heap.size cs := ⟨t, (MapKept.heap_alloc w _).1⟩
theorem Hold.marked {b : Nat} {cs : Array Value} (h : Hold w b cs) {mb : Nat} {M : Med} {i o : Nat} {x y : Int} (h1 : mb ≠ b) (h2 : M.sb ≠ b) : Hold (mark w mb M i x o y) b cs := (h.other _ _ _ h2).other _ _ _ h1

/-- The world behind the medium's crash, the hub's copy of the action lying at w's end. -/
def med1 (c : Cst) (w : World) (i : Nat) (cr : Int) : World := mark ((w.alloc (.cells (act i) 107)).drew.alloc (.cells (act i) 107)) c.mb c.M i 1 13 (cr + 1)
theorem med1_is (h : Is c w st cr lf ended v n xs full mu) {i : Nat} (hc : cr < 1000000) : Is c (med1 c w i cr) (st.set i 1) (cr + 1) lf ended v n xs full mu :=
  ((h.alloc _).drew.alloc _).marked (((h.alloc _).drew.alloc _).lies.crash hc)
theorem med1_fr (i : Nat) (row : Option Nat) : Fr w (med1 c w i cr) c.C row :=
  (((((Fr.alloc w _ c.C row).trans (Fr.drew _ c.C row) (.inl rfl)).trans (Fr.alloc _ _ c.C row) (.inl rfl)).trans (Fr.setCell _ c.M.sb i _ row (.inr (.inr (.inl rfl)))) (.inl rfl)).trans (Fr.setCell _ c.mb 13 _ row (.inr (.inl rfl))) (.inl rfl))
theorem med1_box (h : Is c w st cr lf ended v n xs full mu) (i : Nat) : Hold (med1 c w i cr) w.heap.size (act i) := by
  have := h.size
  have := h.apt.lt
  have hb : Hold ((w.alloc (.cells (act i) 107)).drew.alloc (.cells (act i) 107)) w.heap.size (act i) := Hold.alloc (show Hold (w.alloc (.cells (act i) 107)).drew w.heap.size (act i) from hold_new w _ _) _
  exact hb.marked (by omega) (by omega)

end
end Go.Proofs.Ybulkddig
