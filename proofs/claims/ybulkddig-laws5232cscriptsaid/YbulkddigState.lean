/-
  LawS5232CScript: the hub's state, whole, and what each small change of the world makes of it.
-/
import Derived.Test.YbulkddigRec
import Derived.Conc.LoneCalls
namespace Go.Proofs.Ybulkddig
open Go.RowKit Go.Conc

/-- What never turns: the blocks of the hub, of its medium, of its peers, of its two channels; Nb: the heap's size behind the set-up. -/
structure Cst where
  hb : Nat
  mb : Nat
  M : Med
  pb : Nat
  dq : Nat
  aq : Nat
  P : Nat → Nat
  Nb : Nat
  started : Bool

structure HubIs (c : Cst) (cs : Array Value) (ended : Bool) (mu : Int) (v : Value) : Prop where
  rec_ : cs[5]? = some (.bool true)
  mu : cs[14]? = some (.int .i32 mu)
  med : cs[16]? = some (.pointer (some ⟨c.mb, 0, none⟩))
  peers : cs[17]? = some (.slice (some ⟨c.pb, 0, none⟩) c.M.k c.M.k)
  joined : cs[18]? = some (.int .i64 0)
  started : cs[19]? = some (.bool c.started)
  ended : cs[20]? = some (.bool ended)
  ent : cs[22]? = some v
  done : cs[35]? = some (.chan (some c.dq))
  ans : cs[36]? = some (.chan (some c.aq))

/-- The set-up's blocks lie below Nb, each by itself. -/
structure Apt (c : Cst) : Prop where
  lt : c.hb < c.Nb ∧ c.mb < c.Nb ∧ c.M.sb < c.Nb ∧ c.M.ib < c.Nb ∧ c.M.cb < c.Nb ∧ c.pb < c.Nb ∧ c.dq < c.Nb ∧ c.aq < c.Nb
  hub : c.hb ≠ c.mb ∧ c.hb ≠ c.M.sb ∧ c.hb ≠ c.M.ib ∧ c.hb ≠ c.M.cb ∧ c.hb ≠ c.pb ∧ c.hb ≠ c.dq ∧ c.hb ≠ c.aq
  med : Apart c.M c.mb
  pb : c.pb ≠ c.mb ∧ c.pb ≠ c.M.sb ∧ c.pb ≠ c.dq ∧ c.pb ≠ c.aq
  dq : c.dq ≠ c.mb ∧ c.dq ≠ c.M.sb ∧ c.dq ≠ c.M.ib ∧ c.dq ≠ c.M.cb ∧ c.dq ≠ c.aq
  aq : c.aq ≠ c.mb ∧ c.aq ≠ c.M.sb ∧ c.aq ≠ c.M.ib ∧ c.aq ≠ c.M.cb
  P : ∀ i, i < c.M.k → c.P i < c.Nb ∧ c.P i ≠ c.hb ∧ c.P i ≠ c.mb ∧ c.P i ≠ c.M.sb ∧ c.P i ≠ c.dq ∧ c.P i ≠ c.aq

/-- The blocks that a crash or a leave may turn. -/
def Cst.C (c : Cst) (q : Nat) : Prop := q = c.hb ∨ q = c.mb ∨ q = c.M.sb ∨ q = c.dq ∨ q = c.aq

structure Fr (w w' : World) (C : Nat → Prop) (row : Option Nat) : Prop where
  os : w'.os = w.os
  tape : w'.tape = w.tape
  output : w'.output = w.output
  size : w.heap.size ≤ w'.heap.size
  block : ∀ q, q < w.heap.size → ¬ C q → row ≠ some q → w'.heap[q]? = w.heap[q]?

theorem Fr.refl (w : World) (C : Nat → Prop) (row : Option Nat) : Fr w w C row := ⟨rfl, rfl, rfl, Nat.le_refl _, fun _ _ _ _ => rfl⟩
theorem Fr.trans {a b d : World} {C : Nat → Prop} {row row2 : Option Nat} (h : Fr a b C row) (h2 : Fr b d C row2) (hr : row2 = row ∨ ∀ g, row2 = some g → a.heap.size ≤ g) : Fr a d C row :=
  ⟨h2.os.trans h.os, h2.tape.trans h.tape, h2.output.trans h.output, Nat.le_trans h.size h2.size, fun q hq h1 h3 => by
    rw [h2.block q (Nat.lt_of_lt_of_le hq h.size) h1 ?_, h.block q hq h1 h3]
    intro e
    rcases hr with hr | hr
    · exact h3 (hr ▸ e)
    · have := hr q e; omega⟩
theorem Fr.alloc (w : World) (o : Obj) (C : Nat → Prop) (row : Option Nat) : Fr w (w.alloc o) C row := ⟨rfl, rfl, rfl, by simp, fun q hq _ _ => Below.heap_alloc w o q hq⟩
theorem Fr.drew (w : World) (C : Nat → Prop) (row : Option Nat) : Fr w w.drew C row := ⟨rfl, rfl, rfl, Nat.le_refl _, fun _ _ _ _ => rfl⟩
theorem Fr.setCell (w : World) (b j : Nat) (u : Value) {C : Nat → Prop} (row : Option Nat) (hb : C b) : Fr w (w.setCell ⟨b, j, none⟩ u) C row :=
  ⟨rfl, rfl, rfl, by simp [World.setCell], fun q _ h1 _ => Below.heap_setCell w _ u q (fun e => h1 (e ▸ hb))⟩
theorem Fr.setChan (w : World) (b cap : Nat) (buf : Array Value) (cl : Bool) (s r : Nat) (tm : Bool) {C : Nat → Prop} (row : Option Nat) (hb : C b) : Fr w (w.setChan b cap buf cl s r tm) C row :=
  ⟨rfl, rfl, rfl, by simp [World.setChan], fun q _ h1 _ => by simp only [World.setChan]; exact Array.getElem?_setIfInBounds_ne (fun e => h1 (by rw [← e]; exact hb))⟩
theorem Fr.put {w w' : World} {hb : Nat} {C : Nat → Prop} {row : Option Nat} (h : Put w w' hb row) (hc : C hb) : Fr w w' C row :=
  ⟨h.os, h.tape, h.output, h.size, fun q hq h1 h2 => h.block q hq (fun e => h1 (e ▸ hc)) h2⟩
theorem Fr.below {w w' : World} {C : Nat → Prop} {row : Option Nat} {N : Nat} (h : Fr w w' C row) (hN : N ≤ w.heap.size) (hC : ∀ q, C q → N ≤ q) (hr : ∀ g, row = some g → N ≤ g) : Below N w w' :=
  ⟨h.os, h.tape, h.output, h.size, fun q hq => h.block q (by omega) (fun e => by have := hC q e; omega) (fun e => by have := hr q e; omega)⟩

structure Is (c : Cst) (w : World) (st : List Int) (cr lf : Int) (ended : Bool) (v : Value) (n : Nat) (xs : List Value) (full : Bool) (mu : Int) : Prop where
  apt : Apt c
  hub : ∃ cs, Hold w c.hb cs ∧ HubIs c cs ended mu v
  lies : Lies w c.mb c.M cr lf st
  peers : ∀ i, i < c.M.k → w.cell? ⟨c.pb, i, none⟩ = some (.pointer (some ⟨c.P i, 0, none⟩)) ∧ w.cell? ⟨c.P i, 1, none⟩ = some (.int .i64 i) ∧ w.cell? ⟨c.P i, 4, none⟩ = some (.slice none 0 0) ∧ w.cell? ⟨c.P i, 5, none⟩ = some (.bool false)
  own : w.ownsRow c.Nb 109 6 v n xs
  done : w.heap[c.dq]? = some (.chan 0 #[] ended 0 0 false)
  ans : ∃ s r, w.heap[c.aq]? = some (.chan 1 (if full then #[.agg #[]] else #[]) false s r false)
  size : c.Nb ≤ w.heap.size

theorem own_lt {w : World} {N e size : Nat} {v : Value} {n : Nat} {xs : List Value} (h : w.ownsRow N e size v n xs) {q : Nat} (hq : q < N) : v.ownBlock ≠ some q := by
  rcases h.2 with ⟨rfl, _⟩ | ⟨g, cap, cur, rfl, hg, _⟩
  · simp [Value.ownBlock]
  · simp only [Value.ownBlock, ne_eq, Option.some.injEq]; omega

theorem own_keep {w w' : World} {N e size : Nat} {v : Value} {n : Nat} {xs : List Value} (h : w.ownsRow N e size v n xs) (hk : ∀ g, v.ownBlock = some g → w'.heap[g]? = w.heap[g]?) : w'.ownsRow N e size v n xs := by
  refine ⟨h.1, ?_⟩
  rcases h.2 with h | ⟨g, cap, cur, rfl, h1, h2, h3⟩
  · exact .inl h
  · exact .inr ⟨g, cap, cur, rfl, h1, (hk g rfl).trans h2, h3⟩

theorem own_in {w : World} {N e size : Nat} {v : Value} {n : Nat} {xs : List Value} (h : w.ownsRow N e size v n xs) {g : Nat} (hg : v.ownBlock = some g) : N ≤ g ∧ g < w.heap.size := by
  rcases h.2 with ⟨rfl, _⟩ | ⟨g', cap, cur, rfl, h1, h2, _⟩
  · simp [Value.ownBlock] at hg
  · simp only [Value.ownBlock, Option.some.injEq] at hg
    subst hg
    exact ⟨h1, (Array.getElem?_eq_some_iff.1 h2).1⟩

section
variable {c : Cst} {w w' : World} {st : List Int} {cr lf : Int} {ended : Bool} {v : Value} {n : Nat} {xs : List Value} {full : Bool} {mu : Int} {row : Option Nat}

/-- Nothing of the set-up and nothing of the record's row has turned. -/
theorem Is.same (h : Is c w st cr lf ended v n xs full mu) (hs : w.heap.size ≤ w'.heap.size) (hk : ∀ q, q < w.heap.size → w'.heap[q]? = w.heap[q]?) : Is c w' st cr lf ended v n xs full mu := by
  have hN := h.size
  have A := h.apt
  obtain ⟨l1, l2, l3, l4, l5, l6, l7, l8⟩ := A.lt
  have hh : ∀ {b : Nat} {cs : Array Value}, b < c.Nb → Hold w b cs → Hold w' b cs := fun hb ⟨t, e⟩ => ⟨t, (hk _ (by omega)).trans e⟩
  have hc : ∀ b j, b < c.Nb → w'.cell? ⟨b, j, none⟩ = w.cell? ⟨b, j, none⟩ := fun b j hb => World.cell?_of_block (hk b (by omega))
  obtain ⟨cs, H, HI⟩ := h.hub
  obtain ⟨s, r, ha⟩ := h.ans
  refine ⟨A, ⟨cs, hh l1 H, HI⟩, ⟨hh l2 h.lies.m, hh l3 h.lies.s, hh l4 h.lies.i, hh l5 h.lies.c, h.lies.a, h.lies.k, h.lies.le, h.lies.cr0, h.lies.lf0⟩, fun i hi => ?_, own_keep h.own (fun g hg => hk g (own_in h.own hg).2), (hk _ (by omega)).trans h.done, ⟨s, r, (hk _ (by omega)).trans ha⟩, by omega⟩
  have hp := (A.P i hi).1
  rw [hc _ _ l6, hc _ _ hp, hc _ _ hp, hc _ _ hp]
  exact h.peers i hi

theorem Is.alloc (h : Is c w st cr lf ended v n xs full mu) (o : Obj) : Is c (w.alloc o) st cr lf ended v n xs full mu := h.same (by simp) (fun q hq => Below.heap_alloc w o q hq)
theorem Is.drew (h : Is c w st cr lf ended v n xs full mu) : Is c w.drew st cr lf ended v n xs full mu := h.same (Nat.le_refl _) (fun _ _ => rfl)

/-- What the set-up's blocks read behind a change of the blocks of C and of the row alone. -/
theorem Is.peersKept (h : Is c w st cr lf ended v n xs full mu) (f : Fr w w' c.C row) (hr : ∀ g, row = some g → c.Nb ≤ g) : ∀ i, i < c.M.k → w'.cell? ⟨c.pb, i, none⟩ = some (.pointer (some ⟨c.P i, 0, none⟩)) ∧ w'.cell? ⟨c.P i, 1, none⟩ = some (.int .i64 i) ∧ w'.cell? ⟨c.P i, 4, none⟩ = some (.slice none 0 0) ∧ w'.cell? ⟨c.P i, 5, none⟩ = some (.bool false) := by
  intro i hi
  have hN := h.size
  have A := h.apt
  obtain ⟨l1, l2, l3, l4, l5, l6, l7, l8⟩ := A.lt
  obtain ⟨p0, p1, p2, p3, p4, p5⟩ := A.P i hi
  obtain ⟨b1, b2, b3, b4⟩ := A.pb
  have hp : w'.heap[c.P i]? = w.heap[c.P i]? := f.block _ (by omega) (fun e => by rcases e with e | e | e | e | e <;> contradiction) (fun e => by have := hr _ e; omega)
  have hb : w'.heap[c.pb]? = w.heap[c.pb]? := f.block _ (by omega) (fun e => by rcases e with e | e | e | e | e <;> first | contradiction | exact absurd e.symm A.hub.2.2.2.2.1) (fun e => by have := hr _ e; omega)
  rw [World.cell?_of_block (a := ⟨c.pb, i, none⟩) hb, World.cell?_of_block (a := ⟨c.P i, 1, none⟩) hp, World.cell?_of_block (a := ⟨c.P i, 4, none⟩) hp, World.cell?_of_block (a := ⟨c.P i, 5, none⟩) hp]
  exact h.peers i hi

theorem Is.marked (h : Is c w st cr lf ended v n xs full mu) {cr' lf' : Int} {st' : List Int} {i o : Nat} {x y : Int} (L : Lies (mark w c.mb c.M i x o y) c.mb c.M cr' lf' st') : Is c (mark w c.mb c.M i x o y) st' cr' lf' ended v n xs full mu := by
  have hN := h.size
  have A := h.apt
  obtain ⟨l1, l2, l3, l4, l5, l6, l7, l8⟩ := A.lt
  have f : Fr w (mark w c.mb c.M i x o y) c.C none := (Fr.setCell w c.M.sb i _ none (.inr (.inr (.inl rfl)))).trans (Fr.setCell _ c.mb o _ none (.inr (.inl rfl))) (.inl rfl)
  have hq : ∀ q, q ≠ c.mb → q ≠ c.M.sb → (mark w c.mb c.M i x o y).heap[q]? = w.heap[q]? := fun q h1 h2 => (Below.heap_setCell _ _ _ _ h1).trans (Below.heap_setCell _ _ _ _ h2)
  obtain ⟨cs, ⟨t, H⟩, HI⟩ := h.hub
  obtain ⟨s, r, ha⟩ := h.ans
  refine ⟨A, ⟨cs, ⟨t, (hq _ A.hub.1 A.hub.2.1).trans H⟩, HI⟩, L, h.peersKept f (fun g e => by cases e), own_keep h.own (fun g hg => hq g ?_ ?_), (hq _ A.dq.1 A.dq.2.1).trans h.done, ⟨s, r, (hq _ A.aq.1 A.aq.2.1).trans ha⟩, Nat.le_trans hN f.size⟩
  · have := (own_in h.own hg).1; omega
  · have := (own_in h.own hg).1; omega

/-- The hub's own cells turn. -/
theorem Is.hubbed (h : Is c w st cr lf ended v n xs full mu) {cs' : Array Value} {mu' : Int} {v' : Value} {n' : Nat} {xs' : List Value} (H' : Hold w' c.hb cs') (HI' : HubIs c cs' ended mu' v') (f : Fr w w' (fun q => q = c.hb) row) (hr : ∀ g, row = some g → c.Nb ≤ g) (own' : w'.ownsRow c.Nb 109 6 v' n' xs') : Is c w' st cr lf ended v' n' xs' full mu' := by
  have hN := h.size
  have A := h.apt
  obtain ⟨l1, l2, l3, l4, l5, l6, l7, l8⟩ := A.lt
  obtain ⟨a1, a2, a3, a4, a5, a6, a7⟩ := A.hub
  have f' : Fr w w' c.C row := ⟨f.os, f.tape, f.output, f.size, fun q hq h1 h2 => f.block q hq (fun e => h1 (.inl e)) h2⟩
  have hq : ∀ q, q < c.Nb → c.hb ≠ q → w'.heap[q]? = w.heap[q]? := fun q h1 h2 => f.block q (by omega) (fun e => h2 e.symm) (fun e => by have := hr _ e; omega)
  have hh : ∀ {b : Nat} {cs : Array Value}, b < c.Nb → c.hb ≠ b → Hold w b cs → Hold w' b cs := fun hb hne ⟨t, e⟩ => ⟨t, (hq _ hb hne).trans e⟩
  obtain ⟨s, r, ha⟩ := h.ans
  exact ⟨A, ⟨cs', H', HI'⟩, ⟨hh l2 a1 h.lies.m, hh l3 a2 h.lies.s, hh l4 a3 h.lies.i, hh l5 a4 h.lies.c, h.lies.a, h.lies.k, h.lies.le, h.lies.cr0, h.lies.lf0⟩, h.peersKept f' hr, own', (hq _ l7 a6).trans h.done, ⟨s, r, (hq _ l8 a7).trans ha⟩, Nat.le_trans hN f.size⟩

theorem HubIs.setMu {cs : Array Value} (h : HubIs c cs ended mu v) (m : Int) : HubIs c (cs.setIfInBounds 14 (.int .i32 m)) ended m v := by
  obtain ⟨h1, h2, h3, h4, h5, h6, h7, h8, h9, h10⟩ := h
  have hs : 14 < cs.size := (Array.getElem?_eq_some_iff.1 h2).1
  constructor <;> first | (rw [Array.getElem?_setIfInBounds_ne (by decide)]; assumption) | simp [hs]
theorem HubIs.setEnt {cs : Array Value} (h : HubIs c cs ended mu v) (v' : Value) : HubIs c (cs.setIfInBounds 22 v') ended mu v' := by
  obtain ⟨h1, h2, h3, h4, h5, h6, h7, h8, h9, h10⟩ := h
  have hs : 22 < cs.size := (Array.getElem?_eq_some_iff.1 h8).1
  constructor <;> first | (rw [Array.getElem?_setIfInBounds_ne (by decide)]; assumption) | simp [hs]
theorem HubIs.setEnded {cs : Array Value} (h : HubIs c cs ended mu v) (b : Bool) : HubIs c (cs.setIfInBounds 20 (.bool b)) b mu v := by
  obtain ⟨h1, h2, h3, h4, h5, h6, h7, h8, h9, h10⟩ := h
  have hs : 20 < cs.size := (Array.getElem?_eq_some_iff.1 h7).1
  constructor <;> first | (rw [Array.getElem?_setIfInBounds_ne (by decide)]; assumption) | simp [hs]

theorem Is.lock (h : Is c w st cr lf ended v n xs full mu) (m : Int) : Is c (w.setCell ⟨c.hb, 14, none⟩ (.int .i32 m)) st cr lf ended v n xs full m := by
  obtain ⟨cs, H, HI⟩ := h.hub
  exact h.hubbed (row := none) (H.set 14 _ _ rfl) (HI.setMu m) (Fr.setCell w c.hb 14 _ none rfl) (fun g e => by cases e) (own_keep h.own (fun g hg => Below.heap_setCell _ _ _ _ (by have := (own_in h.own hg).1; have := h.apt.lt.1; show g ≠ c.hb; omega)))
end
end Go.Proofs.Ybulkddig
