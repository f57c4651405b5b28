/-
  LawS5232CScript: the state that the law's main loop keeps, and what each of its rounds makes of it.
-/
import Derived.Test.YbulkddigNewHub
import Derived.Test.YbulkddigCrash
namespace Go.Proofs.Ybulkddig
open Go.RowKit

section
variable {c : Cst} {w w' : World} {st : List Int} {cr lf : Int} {ended : Bool} {v : Value} {n : Nat} {xs : List Value} {full : Bool} {mu : Int}

theorem Is.kept (h : Is c w st cr lf ended v n xs full mu) (hs : c.Nb ≤ w'.heap.size) (hk : ∀ q, q < c.Nb → w'.heap[q]? = w.heap[q]?) (hr : ∀ g, v.ownBlock = some g → w'.heap[g]? = w.heap[g]?) : Is c w' st cr lf ended v n xs full mu := by
  have A := h.apt
  obtain ⟨l1, l2, l3, l4, l5, l6, l7, l8⟩ := A.lt
  have hh : ∀ {b : Nat} {cs : Array Value}, b < c.Nb → Hold w b cs → Hold w' b cs := fun hb ⟨t, e⟩ => ⟨t, (hk _ hb).trans e⟩
  have hc : ∀ b j, b < c.Nb → w'.cell? ⟨b, j, none⟩ = w.cell? ⟨b, j, none⟩ := fun b j hb => World.cell?_of_block (hk b hb)
  obtain ⟨cs, H, HI⟩ := h.hub
  obtain ⟨s, r, ha⟩ := h.ans
  refine ⟨A, ⟨cs, hh l1 H, HI⟩, ⟨hh l2 h.lies.m, hh l3 h.lies.s, hh l4 h.lies.i, hh l5 h.lies.c, h.lies.a, h.lies.k, h.lies.le, h.lies.cr0, h.lies.lf0⟩, fun i hi => ?_, own_keep h.own hr, (hk _ l7).trans h.done, ⟨s, r, (hk _ l8).trans ha⟩, hs⟩
  have hp := (A.P i hi).1
  rw [hc _ _ l6, hc _ _ hp, hc _ _ hp, hc _ _ hp]
  exact h.peers i hi

/-- A real crash. -/
theorem crash_live (h : Is c w st cr lf ended v n xs full 0) {i : Nat} (hi : i < c.M.k) (hs : st.getD i 0 = 0) (hc : cr < 1000000) (hn : n ≤ 2000) (hle : lf + (cr + 1) ≤ c.M.k) (he : ended = false) :
    Calls Yba.prog 12 #[.pointer (some ⟨c.hb, 0, none⟩), .pointer (some ⟨c.P i, 0, none⟩)] w fun e w' => e = .returned (.tuple #[]) ∧ ∃ v', Is c w' (st.set i 1) (cr + 1) lf (c.started && decide (cr + 1 + lf = c.M.k)) v' (n + 1) (xs ++ entry i) true 0 ∧ Fr w w' c.C v.ownBlock ∧ (v'.ownBlock = v.ownBlock ∨ ∃ g, v'.ownBlock = some g ∧ w.heap.size ≤ g) := by
  subst he
  cases ht : c.started with
  | false => simpa [ht] using crash_not h hi hs hc hn ht
  | true =>
    by_cases hk : lf + (cr + 1) = c.M.k
    · have e : (cr + 1 + lf = c.M.k) := by omega
      simpa [e] using crash_over h hi hs hc hn ht hk
    · have e : ¬ (cr + 1 + lf = c.M.k) := by omega
      simpa [e] using crash_lt h hi hs hc hn ht (by omega)

/-- A crash of a node that has crashed or left. -/
theorem crash_still (h : Is c w st cr lf ended v n xs full 0) {i : Nat} (hi : i < c.M.k) (hs : st.getD i 0 = 1 ∨ st.getD i 0 = 2) :
    Calls Yba.prog 12 #[.pointer (some ⟨c.hb, 0, none⟩), .pointer (some ⟨c.P i, 0, none⟩)] w fun e w' => e = .returned (.tuple #[]) ∧ Is c w' st cr lf ended v n xs full 0 ∧ Fr w w' c.C v.ownBlock := by
  rcases hs with hs | hs
  · exact crash_dead h hi hs
  · exact crash_left h hi hs
end

/-- The law's own states; its list of crashes; the record's row. -/
def stu (st : List Int) : Array Value := (st.map (Value.int .u8)).toArray
theorem stu_at (st : List Int) (i : Nat) (h : i < st.length) : (stu st)[i]? = some (.int .u8 (st.getD i 0)) := by
  simp [stu, List.getD, List.getElem?_eq_getElem h]
theorem stu_set (st : List Int) (i : Nat) (x : Int) : (stu st).setIfInBounds i (.int .u8 x) = stu (st.set i x) := by
  simp [stu]
def wantRow (ws : List Nat) : List Value := ws.map (fun i : Nat => Value.int .i64 (i : Int))
def recRow (ws : List Nat) : List Value := ws.flatMap entry
theorem wantRow_at (ws : List Nat) (j : Nat) (h : j < ws.length) : (wantRow ws)[j]? = some (.int .i64 (ws.getD j 0)) := by
  simp [wantRow, List.getD, List.getElem?_eq_getElem h]
theorem recRow_at : ∀ (ws : List Nat) (j r : Nat), j < ws.length → r < 6 → (recRow ws)[j * 6 + r]? = (entry (ws.getD j 0))[r]?
  | [], _, _, h, _ => by simp at h
  | a :: ws, 0, r, _, hr => by
    show (entry a ++ recRow ws)[0 * 6 + r]? = _
    rw [List.getElem?_append_left (by simp [entry]; omega)]
    simp
  | a :: ws, j + 1, r, h, hr => by
    show (entry a ++ recRow ws)[(j + 1) * 6 + r]? = _
    have hl : (entry a).length = 6 := rfl
    rw [List.getElem?_append_right (by omega), show (j + 1) * 6 + r - (entry a).length = j * 6 + r by omega, recRow_at ws j r (by simpa using h) hr]
    simp

theorem count_less {st : List Int} {i : Nat} {x : Int} (hi : i < st.length) (hs : st.getD i 0 = 0) (hx : x ≠ 0) : (st.set i x).count 0 + 1 = st.count 0 := by
  have e : st[i] = 0 := by simpa [List.getD, List.getElem?_eq_getElem hi] using hs
  have hp : 0 < st.count 0 := List.count_pos_iff.2 (e ▸ List.getElem_mem hi)
  rw [List.count_set hi, e]
  have e1 : (((0 : Int) == 0) = true) := rfl
  have e2 : ¬ ((x == 0) = true) := by simpa using hx
  rw [if_pos e1, if_neg e2]
  omega
theorem code_set {st : List Int} (h : ∀ i, st.getD i 0 = 0 ∨ st.getD i 0 = 1 ∨ st.getD i 0 = 2) (i : Nat) {x : Int} (hx : x = 1 ∨ x = 2) : ∀ j, (st.set i x).getD j 0 = 0 ∨ (st.set i x).getD j 0 = 1 ∨ (st.set i x).getD j 0 = 2 := by
  intro j
  by_cases e : i = j
  · subst e
    by_cases hl : i < st.length
    · have : (st.set i x).getD i 0 = x := by simp [List.getD, hl]
      rw [this]; exact .inr hx
    · left; simp [List.getD, hl]
  · have : (st.set i x).getD j 0 = st.getD j 0 := by simp [List.getD, e]
    rw [this]; exact h j

/-- The main loop's state. -/
structure Lw (N : Nat) (w : World) (c : Cst) (k : Nat) (wr : World) (cr lf : Nat) (st : List Int) (ended : Bool) (v vw : Value) (ws : List Nat) : Prop where
  is : ∃ full, Is c wr st cr lf ended v ws.length (recRow ws) full 0
  s : Hold wr c.Nb (stu st)
  sv : v.ownBlock ≠ some c.Nb
  want : wr.ownsRow c.Nb 3 1 vw ws.length (wantRow ws)
  sw : vw.ownBlock ≠ some c.Nb
  vv : ∀ g, vw.ownBlock = some g → v.ownBlock ≠ some g
  bel : Below N w wr
  n : N ≤ c.hb ∧ N ≤ c.mb ∧ N ≤ c.M.sb ∧ N ≤ c.dq ∧ N ≤ c.aq ∧ N ≤ c.Nb
  kk : c.M.k = k
  k8 : k ≤ 8
  code : ∀ i, st.getD i 0 = 0 ∨ st.getD i 0 = 1 ∨ st.getD i 0 = 2
  live : cr + lf + st.count 0 = k
  len : ws.length = cr
  over : ended = true → cr + lf = k

section
variable {N k : Nat} {w wr w1 : World} {c : Cst} {cr lf : Nat} {st : List Int} {ended : Bool} {v vw : Value} {ws : List Nat} {i : Nat}

theorem Lw.length (h : Lw N w c k wr cr lf st ended v vw ws) : st.length = k := by
  obtain ⟨full, I⟩ := h.is
  rw [I.lies.k, h.kk]
theorem Lw.notC (h : Lw N w c k wr cr lf st ended v vw ws) {q : Nat} (hq : c.Nb ≤ q) : ¬ c.C q := by
  obtain ⟨full, I⟩ := h.is
  obtain ⟨l1, l2, l3, l4, l5, l6, l7, l8⟩ := I.apt.lt
  rintro (e | e | e | e | e) <;> omega
theorem Lw.liveOne (h : Lw N w c k wr cr lf st ended v vw ws) (hi : i < k) (hs : st.getD i 0 = 0) : 0 < st.count 0 := by
  have hl := h.length
  have e : st[i]'(by omega) = 0 := by simpa [List.getD, List.getElem?_eq_getElem (show i < st.length by omega)] using hs
  exact List.count_pos_iff.2 (e ▸ List.getElem_mem _)
theorem Lw.notOver (h : Lw N w c k wr cr lf st ended v vw ws) (hi : i < k) (hs : st.getD i 0 = 0) : ended = false := by
  have h1 := h.liveOne hi hs
  have h2 := h.live
  cases ended with
  | false => rfl
  | true => have := h.over rfl; omega

/-- Nothing that was there has turned. -/
theorem Lw.grow (h : Lw N w c k wr cr lf st ended v vw ws) (b : Below wr.heap.size wr w1) : Lw N w c k w1 cr lf st ended v vw ws := by
  obtain ⟨full, I⟩ := h.is
  have hN : N ≤ wr.heap.size := by have := h.s.lt; have := h.n.2.2.2.2.2; omega
  exact ⟨⟨full, I.same b.size b.block⟩, h.s.keep b, h.sv, own_keep h.want (fun g hg => b.block g (own_in h.want hg).2), h.sw, h.vv, h.bel.trans (b.mono hN), h.n, h.kk, h.k8, h.code, h.live, h.len, h.over⟩

theorem Lw.still (h : Lw N w c k wr cr lf st ended v vw ws) {full : Bool} (I : Is c w1 st cr lf ended v ws.length (recRow ws) full 0) (f : Fr wr w1 c.C v.ownBlock) : Lw N w c k w1 cr lf st ended v vw ws := by
  have hlt := h.s.lt
  obtain ⟨_, I0⟩ := h.is
  obtain ⟨n1, n2, n3, n4, n5, n6⟩ := h.n
  obtain ⟨ts, es⟩ := h.s
  refine ⟨⟨full, I⟩, ⟨ts, (f.block _ hlt (h.notC (Nat.le_refl _)) h.sv).trans es⟩, h.sv, own_keep h.want (fun g hg => ?_), h.sw, h.vv, h.bel.trans (f.below (by omega) ?_ ?_), h.n, h.kk, h.k8, h.code, h.live, h.len, h.over⟩
  · exact f.block g (own_in h.want hg).2 (h.notC (own_in h.want hg).1) (h.vv g hg)
  · rintro q (e | e | e | e | e) <;> omega
  · intro g hg
    have := (own_in I0.own hg).1
    omega

theorem Lw.leave (h : Lw N w c k wr cr lf st ended v vw ws) (hi : i < k) (hs : st.getD i 0 = 0) : Lw N w c k ((mark wr c.mb c.M i 2 14 ((lf : Int) + 1)).setCell ⟨c.Nb, i, none⟩ (.int .u8 2)) cr (lf + 1) (st.set i 2) ended v vw ws := by
  obtain ⟨full, I⟩ := h.is
  have hlen := h.length
  have hcnt := count_less (x := 2) (by omega) hs (by decide)
  have hlive := h.live
  have hk8 := h.k8
  obtain ⟨l1, l2, l3, l4, l5, l6, l7, l8⟩ := I.apt.lt
  obtain ⟨n1, n2, n3, n4, n5, n6⟩ := h.n
  have L := I.lies.leave (i := i) (by omega)
  have I1 := I.marked L
  have hq : ∀ q, q ≠ c.mb → q ≠ c.M.sb → (mark wr c.mb c.M i 2 14 ((lf : Int) + 1)).heap[q]? = wr.heap[q]? := fun q h1 h2 => (Below.heap_setCell _ _ _ _ h1).trans (Below.heap_setCell _ _ _ _ h2)
  refine ⟨⟨full, ?_⟩, ?_, h.sv, own_keep h.want (fun g hg => ?_), h.sw, h.vv, ?_, h.n, h.kk, h.k8, code_set h.code i (.inr rfl), by omega, h.len, fun e => ?_⟩
  · refine I1.kept (by have := I1.size; simpa [World.setCell] using this) (fun q hq => Below.heap_setCell _ _ _ _ (by show q ≠ c.Nb; omega)) (fun g hg => Below.heap_setCell _ _ _ _ (fun e => h.sv (by rw [hg, e])))
  · exact ((h.s.other _ _ _ (by omega)).other _ _ _ (by omega)).set i _ _ (stu_set st i 2)
  · have hg1 := (own_in h.want hg).1
    rw [Below.heap_setCell _ _ _ _ (fun e => h.sw (by rw [hg, e])), hq g (by omega) (by omega)]
  · exact ((h.bel.setCell (p := ⟨c.M.sb, i, none⟩) n3 _).setCell (p := ⟨c.mb, 14, none⟩) n2 _).setCell (p := ⟨c.Nb, i, none⟩) n6 _
  · have := h.over e; omega

/-- The world behind a real crash, with the law's own state stored and the list's new element laid. -/
def crashW (w1 : World) (c : Cst) (i : Nat) : World := (w1.setCell ⟨c.Nb, i, none⟩ (.int .u8 1)).alloc (.cells #[.int .i64 i] 3)

theorem crashW_size (w1 : World) (c : Cst) (i : Nat) : (crashW w1 c i).heap.size = w1.heap.size + 1 := by simp [crashW, World.setCell]
theorem crashW_block (w1 : World) (c : Cst) (i : Nat) {q : Nat} (h : q < w1.heap.size) (hq : q ≠ c.Nb) : (crashW w1 c i).heap[q]? = w1.heap[q]? := by
  unfold crashW
  rw [Below.heap_alloc _ _ _ (by simpa [World.setCell] using h), Below.heap_setCell _ _ _ _ hq]

theorem Lw.crashOwn (h : Lw N w c k wr cr lf st ended v vw ws) (f : Fr wr w1 c.C v.ownBlock) : (crashW w1 c i).ownsRow c.Nb 3 1 vw ws.length (wantRow ws) := by
  refine own_keep h.want (fun g hg => ?_)
  obtain ⟨g1, g2⟩ := own_in h.want hg
  have hs := f.size
  rw [crashW_block _ _ _ (by omega) (fun e => h.sw (by rw [hg, e])), f.block g g2 (h.notC g1) (h.vv g hg)]

theorem Lw.crashed (h : Lw N w c k wr cr lf st ended v vw ws) (hi : i < k) (hs : st.getD i 0 = 0) {ended' full' : Bool} {v' vw' : Value} {w3 : World} (he : ended' = (c.started && decide ((cr : Int) + 1 + lf = c.M.k)))
    (I1 : Is c w1 (st.set i 1) ((cr : Int) + 1) lf ended' v' (ws.length + 1) (recRow ws ++ entry i) full' 0) (f : Fr wr w1 c.C v.ownBlock) (fresh : v'.ownBlock = v.ownBlock ∨ ∃ g, v'.ownBlock = some g ∧ wr.heap.size ≤ g)
    (own3 : w3.ownsRow c.Nb 3 1 vw' (ws.length + 1) (wantRow ws ++ [.int .i64 i])) (hg : (crashW w1 c i).grownBy w3 vw.ownBlock) (hat : vw'.ownBlock = vw.ownBlock ∨ vw'.ownBlock = some (w1.heap.size + 1)) :
    Lw N w c k w3 (cr + 1) lf (st.set i 1) ended' v' vw' (ws ++ [i]) := by
  obtain ⟨full, I⟩ := h.is
  have hlen := h.length
  have hcnt := count_less (x := 1) (by omega) hs (by decide)
  have hlive := h.live
  have hk8 := h.k8
  have hkk := h.kk
  have hslt := h.s.lt
  have hfs := f.size
  have hws : ∀ g, vw.ownBlock = some g → c.Nb ≤ g ∧ g < wr.heap.size := fun g hg => own_in h.want hg
  have hvs : ∀ g, v'.ownBlock = some g → c.Nb ≤ g ∧ g < w1.heap.size := fun g hg => own_in I1.own hg
  obtain ⟨l1, l2, l3, l4, l5, l6, l7, l8⟩ := I.apt.lt
  obtain ⟨n1, n2, n3, n4, n5, n6⟩ := h.n
  have hgs := hg.size
  rw [crashW_size] at hgs
  -- v' is neither the state's block nor the list's
  have sv' : v'.ownBlock ≠ some c.Nb := by
    rcases fresh with e | ⟨g, e, hg'⟩
    · rw [e]; exact h.sv
    · rw [e]; intro e'; cases e'; omega
  have vv0 : ∀ g, vw.ownBlock = some g → v'.ownBlock ≠ some g := by
    intro g hg'
    rcases fresh with e | ⟨g', e, hg''⟩
    · rw [e]; exact h.vv g hg'
    · rw [e]; intro e'; cases e'; have := hws g hg'; omega
  refine ⟨⟨full', ?_⟩, ?_, sv', ?_, ?_, ?_, ?_, h.n, h.kk, h.k8, code_set h.code i (.inl rfl), by omega, by have := h.len; simp; omega, fun e => ?_⟩
  · have e1 : recRow (ws ++ [i]) = recRow ws ++ entry i := by simp [recRow]
    have e2 : (ws ++ [i]).length = ws.length + 1 := by simp
    rw [e1, e2]
    have e3 : ((cr + 1 : Nat) : Int) = (cr : Int) + 1 := by omega
    rw [e3]
    refine I1.kept (by omega) (fun q hq => ?_) (fun g hg' => ?_)
    · rw [hg.block q (by rw [crashW_size]; omega) (fun e => by have := hws q e.symm; omega), crashW_block _ _ _ (by omega) (by omega)]
    · have := hvs g hg'
      rw [hg.block g (by rw [crashW_size]; omega) (fun e => vv0 g e.symm hg'), crashW_block _ _ _ (by omega) (fun e => sv' (by rw [hg', e]))]
  · obtain ⟨ts, es⟩ := h.s
    have H1 : Hold w1 c.Nb (stu st) := ⟨ts, (f.block _ hslt (h.notC (Nat.le_refl _)) h.sv).trans es⟩
    have H2 : Hold (crashW w1 c i) c.Nb (stu (st.set i 1)) := (H1.set i _ _ (stu_set st i 1)).alloc _
    exact H2.grown hg (fun e => h.sw e)
  · have e1 : wantRow (ws ++ [i]) = wantRow ws ++ [.int .i64 i] := by simp [wantRow]
    have e2 : (ws ++ [i]).length = ws.length + 1 := by simp
    rw [e1, e2]; exact own3
  · rcases hat with e | e
    · rw [e]; exact h.sw
    · rw [e]; intro e'; have := Option.some.inj e'; omega
  · intro g hg'
    rcases hat with e | e
    · rw [e] at hg'; exact vv0 g hg'
    · rw [e] at hg'
      have hx := Option.some.inj hg'
      intro e'
      have := hvs _ e'; omega
  · have b1 : Below N w w1 := h.bel.trans (f.below (by omega) (by rintro q (e | e | e | e | e) <;> omega) (fun g hg' => by have := (own_in I.own hg').1; omega))
    have b2 : Below N w (crashW w1 c i) := (b1.setCell (p := ⟨c.Nb, i, none⟩) n6 _).alloc (by simp [World.setCell]; omega) _
    exact b2.grown hg (by rw [crashW_size]; omega) (fun g e => by have := hws g e; omega)
  · rw [he] at e
    simp at e
    omega
end
end Go.Proofs.Ybulkddig
