/-
  LawS5232CScript: the set-up that the law itself makes: the nodes, the peers.
-/
import Derived.Test.YbulkddigPlay
namespace Go.Proofs.Ybulkddig
open Go.RowKit

theorem make_nodes (w : World) (k : Nat) (hk : k ≤ 1000) :
    (Instr.makeSlice 47 (.int .i64 k) (.int .i64 k)).run Yba.prog w = .ok (.slice (some ⟨w.heap.size, 0, none⟩) k k) (w.alloc (.cells (madeCells #[.int .i64 0, .float .f64 0, .float .f64 0] (3 * k)) 50)) := by
  obtain ⟨i, hi, hz, hs, hb⟩ : ∃ i, Yba.prog.info? 50 = some i ∧ i.zero = some (.agg #[.int .i64 0, .float .f64 0, .float .f64 0]) ∧ i.size = 3 ∧ i.bytes = 24 := info_parts (P := Yba.prog) (e := 50) (by kernel_rfl)
  have := run_makeSlice (w := w) 47 50 i (.agg #[.int .i64 0, .float .f64 0, .float .f64 0]) Yba.underlying47 hi hz .i64 .i64 k k (by omega) (by omega) (by rw [hs]; simp; omega) (by rw [hb]; omega) (by omega)
  rw [hs] at this
  simpa [Value.cells, Nat.mul_comm] using this
theorem make_nbs (w : World) (k : Nat) (hk : k ≤ 1000) :
    (Instr.makeSlice 51 (.int .i64 k) (.int .i64 k)).run Yba.prog w = .ok (.slice (some ⟨w.heap.size, 0, none⟩) k k) (w.alloc (.cells (madeCells #[.slice none 0 0] k) 22)) := by
  obtain ⟨i, hi, hz, hs, hb⟩ : ∃ i, Yba.prog.info? 22 = some i ∧ i.zero = some (.slice none 0 0) ∧ i.size = 1 ∧ i.bytes = 24 := info_parts (P := Yba.prog) (e := 22) (by kernel_rfl)
  have := run_makeSlice (w := w) 51 22 i (.slice none 0 0) Yba.underlying51 hi hz .i64 .i64 k k (by omega) (by omega) (by rw [hs]; simp; omega) (by rw [hb]; omega) (by omega)
  rw [hs] at this
  simpa [Value.cells] using this
theorem make_bytes (w : World) (k : Nat) (hk : k ≤ 1000) :
    (Instr.makeSlice 46 (.int .i64 k) (.int .i64 k)).run Yba.prog w = .ok (.slice (some ⟨w.heap.size, 0, none⟩) k k) (w.alloc (.cells (Array.replicate k (.int .u8 0)) 5)) := by
  obtain ⟨i, hi, hz, hs, hb⟩ : ∃ i, Yba.prog.info? 5 = some i ∧ i.zero = some (.int .u8 0) ∧ i.size = 1 ∧ i.bytes = 1 := info_parts (P := Yba.prog) (e := 5) (by kernel_rfl)
  have := run_makeSlice (w := w) 46 5 i (.int .u8 0) Yba.underlying46 hi hz .i64 .i64 k k (by omega) (by omega) (by rw [hs]; simp; omega) (by rw [hb]; omega) (by omega)
  rw [hs] at this
  simpa [Value.cells, made_rep] using this

/-- The nodes' cells. -/
def NodeRow (k : Nat) (cs : Array Value) : Prop := ∀ i, i < k → ∃ x : Int, cs[i * 3]? = some (.int .i64 x) ∧ cs[i * 3 + 1]? = some (.float .f64 0) ∧ cs[i * 3 + 2]? = some (.float .f64 0)
theorem nodeRow_new (k : Nat) : NodeRow k (madeCells #[.int .i64 0, .float .f64 0, .float .f64 0] (3 * k)) := by
  intro i hi
  have e1 : (i * 3 + 1) % 3 = 1 := by omega
  have e2 : (i * 3 + 2) % 3 = 2 := by omega
  have l0 : i * 3 < 3 * k := by omega
  have l1 : i * 3 + 1 < 3 * k := by omega
  have l2 : i * 3 + 2 < 3 * k := by omega
  exact ⟨0, by simp [madeCells, l0], by simp [madeCells, l1, e1], by simp [madeCells, l2, e2]⟩
theorem NodeRow.set {k : Nat} {cs : Array Value} (h : NodeRow k cs) (j : Nat) (x : Int) : NodeRow k (cs.setIfInBounds (j * 3) (.int .i64 x)) := by
  intro i hi
  obtain ⟨y, h1, h2, h3⟩ := h i hi
  have l1 := (Array.getElem?_eq_some_iff.1 h1).1
  by_cases e : j = i
  · subst e
    exact ⟨x, by rw [Array.getElem?_setIfInBounds_self_of_lt l1], by rw [Array.getElem?_setIfInBounds_ne (by omega)]; exact h2, by rw [Array.getElem?_setIfInBounds_ne (by omega)]; exact h3⟩
  · exact ⟨y, by rw [Array.getElem?_setIfInBounds_ne (by omega)]; exact h1, by rw [Array.getElem?_setIfInBounds_ne (by omega)]; exact h2, by rw [Array.getElem?_setIfInBounds_ne (by omega)]; exact h3⟩
theorem NodeRow.nodes {w : World} {b k : Nat} {cs : Array Value} (h : NodeRow k cs) (H : Hold w b cs) : Nodes w b k := fun i hi => by
  obtain ⟨x, h1, h2, h3⟩ := h i hi
  exact ⟨x, (H.cell _).trans h1, (H.cell _).trans h2, (H.cell _).trans h3⟩

/-- The peers' loop: those below c are made. -/
structure Filled (N : Nat) (w W : World) (pb k c : Nat) (P : Nat → Nat) (u : World) : Prop where
  bel : Below N w u
  size : W.heap.size ≤ u.heap.size
  block : ∀ q, q < W.heap.size → q ≠ pb → u.heap[q]? = W.heap[q]?
  row : ∃ ps, Hold u pb ps ∧ ps.size = k ∧ ∀ i, i < c → ps[i]? = some (.pointer (some ⟨P i, 0, none⟩))
  peer : ∀ i, i < c → W.heap.size ≤ P i ∧ P i < u.heap.size ∧ u.cell? ⟨P i, 1, none⟩ = some (.int .i64 i) ∧ u.cell? ⟨P i, 4, none⟩ = some (.slice none 0 0) ∧ u.cell? ⟨P i, 5, none⟩ = some (.bool false)

/-- A new peer's cells. -/
def peerC (x : Int) (i : Nat) : Array Value := #[.int .i64 x, .int .i64 i, .nilIface, .int .i64 0, .slice none 0 0, .bool false, .int .i64 0, .int .i32 0, .int .u32 0, .pointer none, .int .i64 0, .int .i64 0, .int .i8 0]

theorem Filled.start {N : Nat} {w W : World} {pb k : Nat} (hb : Below N w W) (hp : W.heap[pb]? = some (.cells (nils k) 91)) : Filled N w W pb k 0 (fun _ => 0) W :=
  ⟨hb, Nat.le_refl _, fun _ _ _ => rfl, ⟨nils k, ⟨91, hp⟩, by simp [nils], fun i h => by omega⟩, fun i h => by omega⟩

theorem Filled.step {N : Nat} {w W u : World} {pb k i : Nat} {P : Nat → Nat} (h : Filled N w W pb k i P u) (x : Int) (hi : i < k) (hN : N ≤ pb) (hpb : pb < W.heap.size) :
    Filled N w W pb k (i + 1) (fun j => if j = i then u.heap.size else P j) ((u.setCell ⟨pb, i, none⟩ (.pointer (some ⟨u.heap.size, 0, none⟩))).alloc (.cells (peerC x i) 97)).drew := by
  obtain ⟨ps, Hp, hps, hpp⟩ := h.row
  have hsz := h.size
  have hs2 : (u.setCell ⟨pb, i, none⟩ (.pointer (some ⟨u.heap.size, 0, none⟩))).heap.size = u.heap.size := by simp [World.setCell]
  have hall : ∀ q, q < u.heap.size → q ≠ pb → ((u.setCell ⟨pb, i, none⟩ (.pointer (some ⟨u.heap.size, 0, none⟩))).alloc (.cells (peerC x i) 97)).drew.heap[q]? = u.heap[q]? := fun q h1 h2 => by
    show ((u.setCell ⟨pb, i, none⟩ (.pointer (some ⟨u.heap.size, 0, none⟩))).alloc (.cells (peerC x i) 97)).heap[q]? = _
    rw [Below.heap_alloc _ _ _ (by rw [hs2]; exact h1), Below.heap_setCell _ _ _ _ h2]
  have Hnew : Hold ((u.setCell ⟨pb, i, none⟩ (.pointer (some ⟨u.heap.size, 0, none⟩))).alloc (.cells (peerC x i) 97)).drew u.heap.size (peerC x i) := hold_fresh _ _ 97 hs2
  refine ⟨((h.bel.setCell (p := ⟨pb, i, none⟩) hN _).alloc (by rw [hs2]; omega) _).drew, ?_, fun q h1 h2 => (hall q (by omega) h2).trans (h.block q h1 h2), ⟨ps.setIfInBounds i (.pointer (some ⟨u.heap.size, 0, none⟩)), (Hp.set i _ _ rfl).alloc _, by simpa using hps, fun j hj => ?_⟩, fun j hj => ?_⟩
  · show W.heap.size ≤ ((u.setCell ⟨pb, i, none⟩ (.pointer (some ⟨u.heap.size, 0, none⟩))).alloc (.cells (peerC x i) 97)).heap.size
    simp [World.setCell]; omega
  · by_cases e : j = i
    · subst e; simp [hps, hi]
    · rw [Array.getElem?_setIfInBounds_ne (Ne.symm e)]
      simp only [e, if_false]
      exact hpp j (by omega)
  · have hsz2 : ((u.setCell ⟨pb, i, none⟩ (.pointer (some ⟨u.heap.size, 0, none⟩))).alloc (.cells (peerC x i) 97)).drew.heap.size = u.heap.size + 1 := by
      show ((u.setCell ⟨pb, i, none⟩ (.pointer (some ⟨u.heap.size, 0, none⟩))).alloc (.cells (peerC x i) 97)).heap.size = _
      simp [World.setCell]
    by_cases e : j = i
    · subst e
      simp only [if_true]
      exact ⟨hsz, by omega, Hnew.cell 1, Hnew.cell 4, Hnew.cell 5⟩
    · simp only [e, if_false]
      obtain ⟨p1, p2, p3, p4, p5⟩ := h.peer j (by omega)
      have hb := hall (P j) p2 (by omega)
      exact ⟨p1, by omega, (World.cell?_of_block hb).trans p3, (World.cell?_of_block hb).trans p4, (World.cell?_of_block hb).trans p5⟩

theorem HParts.kept {N k : Nat} {u u' : World} {M : Med} {mb pb dq aq hb : Nat} (h : HParts N k u M mb pb dq aq) (hq : ∀ q, q < hb → u'.heap[q]? = u.heap[q]?) (o : mb < hb ∧ M.sb < hb ∧ M.ib < hb ∧ M.cb < hb ∧ pb < hb ∧ dq < hb ∧ aq < hb) : HParts N k u' M mb pb dq aq := by
  obtain ⟨o1, o2, o3, o4, o5, o6, o7⟩ := o
  obtain ⟨q1, q2, q3, ⟨t4, q4⟩, q5, ⟨t6, q6⟩⟩ := h.parts
  obtain ⟨tm, em⟩ := h.m
  exact ⟨h.kk, h.nm, ⟨tm, (hq _ o1).trans em⟩, ⟨q1, (hq _ o3).trans q2, q3, ⟨t4, (hq _ o2).trans q4⟩, q5, ⟨t6, (hq _ o4).trans q6⟩⟩, h.apart, h.np, (hq _ o5).trans h.p, h.nd, (hq _ o6).trans h.d, h.na, (hq _ o7).trans h.a⟩

/-- The set-up, done: the hub is in W, its peers in u. -/
theorem is_of_filled {N N' k : Nat} {w W u : World} {M : Med} {hb mb pb dq aq : Nat} {P : Nat → Nat} {ch : Array Value} {t : Bool} (hk0 : 0 < k) (hk : k ≤ 8)
    (Hh : Hold W hb ((ch.setIfInBounds 5 (.bool true)).setIfInBounds 19 (.bool t))) (HC : HCells k ch mb pb dq aq) (HP : HParts N' k W M mb pb dq aq) (o : mb < hb ∧ M.sb < hb ∧ M.ib < hb ∧ M.cb < hb ∧ pb < hb ∧ dq < hb ∧ aq < hb) (F : Filled N w W pb k k P u) :
    Is ⟨hb, mb, M, pb, dq, aq, P, u.heap.size, t⟩ u (List.replicate k 0) 0 0 false (.slice none 0 0) 0 [] false 0 := by
  have hl := Hh.lt
  have hsz := F.size
  obtain ⟨o1, o2, o3, o4, o5, o6, o7⟩ := o
  obtain ⟨q1, q2, q3, q4, q5, q6⟩ := HP.parts
  have G3 : Hold W M.ib (nils k) := ⟨130, q2⟩
  have Gp : Hold W pb (nils k) := ⟨91, HP.p⟩
  -- who is not who
  have p1 : pb ≠ mb := by
    rintro rfl
    have := Gp.inj HP.m
    have h2 := congrArg Array.size this
    simp [nils, Med.cells] at h2
    omega
  have p2 : pb ≠ M.sb := Gp.ne q4 (by simp [live, nils, hk0])
  have p3 : pb ≠ M.ib := by
    intro e
    have h1 := HP.p
    rw [e, q2] at h1
    simp at h1
  have p4 : pb ≠ M.cb := Gp.ne q6 (by simp [zeros, nils, hk0])
  have nc : ∀ {b : Nat} {cs : Array Value} {q n : Nat}, Hold W b cs → W.heap[q]? = some (.chan n #[] false 0 0 false) → q ≠ b := by
    rintro b cs q n ⟨t, e⟩ e2 rfl
    rw [e] at e2
    simp at e2
  have da : dq ≠ aq := by
    intro e
    have h1 := HP.d
    rw [e, HP.a] at h1
    simp at h1
  have hq : ∀ q, q < W.heap.size → pb ≠ q → u.heap[q]? = W.heap[q]? := fun q h1 h2 => F.block q h1 (Ne.symm h2)
  have hh : ∀ {b : Nat} {cs : Array Value}, pb ≠ b → Hold W b cs → Hold u b cs := fun hne ⟨t, e⟩ => ⟨t, (hq _ (Array.getElem?_eq_some_iff.1 e).1 hne).trans e⟩
  obtain ⟨ps, Hps, hps, hpp⟩ := F.row
  have HI : HubIs ⟨hb, mb, M, pb, dq, aq, P, u.heap.size, t⟩ ((ch.setIfInBounds 5 (.bool true)).setIfInBounds 19 (.bool t)) false 0 (.slice none 0 0) := by
    obtain ⟨h1, h2, h3, h4, h5, h6, h7, h8, h9, h10⟩ := HC
    have hs5 : 5 < ch.size := (Array.getElem?_eq_some_iff.1 h1).1
    have hs19 : 19 < ch.size := (Array.getElem?_eq_some_iff.1 h6).1
    constructor
    · rw [Array.getElem?_setIfInBounds_ne (by decide)]; simp [hs5]
    · rw [Array.getElem?_setIfInBounds_ne (by decide), Array.getElem?_setIfInBounds_ne (by decide)]; exact h2
    · rw [Array.getElem?_setIfInBounds_ne (by decide), Array.getElem?_setIfInBounds_ne (by decide)]; exact h3
    · rw [Array.getElem?_setIfInBounds_ne (by decide), Array.getElem?_setIfInBounds_ne (by decide), h4]; show _ = some (Value.slice (some ⟨pb, 0, none⟩) M.k M.k); rw [HP.kk]
    · rw [Array.getElem?_setIfInBounds_ne (by decide), Array.getElem?_setIfInBounds_ne (by decide)]; exact h5
    · simp [hs19]
    · rw [Array.getElem?_setIfInBounds_ne (by decide), Array.getElem?_setIfInBounds_ne (by decide)]; exact h7
    · rw [Array.getElem?_setIfInBounds_ne (by decide), Array.getElem?_setIfInBounds_ne (by decide)]; exact h8
    · rw [Array.getElem?_setIfInBounds_ne (by decide), Array.getElem?_setIfInBounds_ne (by decide)]; exact h9
    · rw [Array.getElem?_setIfInBounds_ne (by decide), Array.getElem?_setIfInBounds_ne (by decide)]; exact h10
  refine ⟨⟨?_, ?_, HP.apart, ?_, ?_, ?_, ?_⟩, ⟨_, hh (show pb ≠ hb by omega) Hh, HI⟩, ⟨hh p1 HP.m, ?_, ?_, ?_, HP.apart, ?_, ?_, ?_, ?_⟩, ?_, ?_, ?_, ⟨0, 0, ?_⟩, Nat.le_refl _⟩
  · exact ⟨by show hb < u.heap.size; omega, by show mb < u.heap.size; omega, by show M.sb < u.heap.size; omega, by show M.ib < u.heap.size; omega, by show M.cb < u.heap.size; omega, by show pb < u.heap.size; omega, by show dq < u.heap.size; omega, by show aq < u.heap.size; omega⟩
  · exact ⟨by show hb ≠ mb; omega, by show hb ≠ M.sb; omega, by show hb ≠ M.ib; omega, by show hb ≠ M.cb; omega, by show hb ≠ pb; omega, by show hb ≠ dq; omega, by show hb ≠ aq; omega⟩
  · exact ⟨p1, p2, Ne.symm (nc Gp HP.d), Ne.symm (nc Gp HP.a)⟩
  · exact ⟨nc HP.m HP.d, nc q4 HP.d, nc G3 HP.d, nc q6 HP.d, da⟩
  · exact ⟨nc HP.m HP.a, nc q4 HP.a, nc G3 HP.a, nc q6 HP.a⟩
  · intro i hi
    have hi' : i < k := by have := HP.kk; simpa [this] using hi
    obtain ⟨r1, r2, _⟩ := F.peer i hi'
    exact ⟨r2, by show P i ≠ hb; omega, by show P i ≠ mb; omega, by show P i ≠ M.sb; omega, by show P i ≠ dq; omega, by show P i ≠ aq; omega⟩
  · rw [← live_sts]; exact hh p2 q4
  · show Hold u M.ib (nils M.k); rw [HP.kk]; exact hh p3 G3
  · show Hold u M.cb (zeros M.k); rw [HP.kk]; exact hh p4 q6
  · show (List.replicate k (0 : Int)).length = M.k; rw [HP.kk]; simp
  · show M.k ≤ 1000; rw [HP.kk]; omega
  · decide
  · decide
  · intro i hi
    have hi' : i < k := by have := HP.kk; simpa [this] using hi
    obtain ⟨r1, r2, r3, r4, r5⟩ := F.peer i hi'
    exact ⟨(Hps.cell i).trans (hpp i hi'), r3, r4, r5⟩
  · exact ⟨rfl, .inl ⟨rfl, rfl⟩⟩
  · exact (hq dq (by omega) (Ne.symm (nc Gp HP.d))).trans HP.d
  · exact (hq aq (by omega) (Ne.symm (nc Gp HP.a))).trans HP.a

/-- The main loop's state at its start: the law's own states are all live. -/
theorem lw_start {N N' k : Nat} {w W u : World} {M : Med} {hb mb pb dq aq : Nat} {P : Nat → Nat} {ch : Array Value} {t : Bool} (hk0 : 0 < k) (hk : k ≤ 8)
    (Hh : Hold W hb ((ch.setIfInBounds 5 (.bool true)).setIfInBounds 19 (.bool t))) (HC : HCells k ch mb pb dq aq) (HP : HParts N' k W M mb pb dq aq) (o : mb < hb ∧ M.sb < hb ∧ M.ib < hb ∧ M.cb < hb ∧ pb < hb ∧ dq < hb ∧ aq < hb) (F : Filled N w W pb k k P u) (hN : N ≤ N') (hNw : N ≤ w.heap.size) (hNh : N ≤ hb) :
    Lw N w ⟨hb, mb, M, pb, dq, aq, P, u.heap.size, t⟩ k (u.alloc (.cells (Array.replicate k (.int .u8 0)) 5)) 0 0 (List.replicate k 0) false (.slice none 0 0) (.slice none 0 0) [] := by
  have I := is_of_filled hk0 hk Hh HC HP o F
  have hNu : N ≤ u.heap.size := Nat.le_trans hNw F.bel.size
  refine ⟨⟨false, I.alloc _⟩, ?_, by simp [Value.ownBlock], ⟨rfl, .inl ⟨rfl, rfl⟩⟩, by simp [Value.ownBlock], fun g e => by simp [Value.ownBlock] at e, F.bel.alloc hNu _, ?_, HP.kk, hk, fun i => ?_, by simp, rfl, fun e => by cases e⟩
  · have e : stu (List.replicate k 0) = Array.replicate k (.int .u8 0) := by
      apply Array.ext
      · simp [stu]
      · intro i h1 h2; simp [stu]
    rw [e]
    exact hold_fresh u _ 5 rfl
  · exact ⟨hNh, Nat.le_trans hN HP.nm, Nat.le_trans hN HP.parts.2.2.1, Nat.le_trans hN HP.nd, Nat.le_trans hN HP.na, hNu⟩
  · left
    simp only [List.getD, List.getElem?_replicate]
    split <;> rfl
end Go.Proofs.Ybulkddig
