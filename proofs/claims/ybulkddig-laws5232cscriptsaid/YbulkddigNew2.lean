/-
  LawS5232CScript: the set-up: medium.New.
-/
import Derived.Test.YbulkddigNew
import Derived.Test.YbulkddigMed2
import Derived.Test.YbulkddigRely
namespace Go.Proofs.Ybulkddig
open Go.RowKit

theorem make_nils (w : World) (k : Nat) (hk : k ≤ 1000) :
    (Instr.makeSlice 121 (.int .i64 k) (.int .i64 k)).run Yba.prog w = .ok (.slice (some ⟨w.heap.size, 0, none⟩) k k) (w.alloc (.cells (nils k) 130)) := by
  obtain ⟨i, hi, hz, hs, hb⟩ : ∃ i, Yba.prog.info? 130 = some i ∧ i.zero = some (.pointer none) ∧ i.size = 1 ∧ i.bytes = 8 := info_parts (P := Yba.prog) (e := 130) (by kernel_rfl)
  have := run_makeSlice (w := w) 121 130 i (.pointer none) Yba.underlying121 hi hz .i64 .i64 k k (by omega) (by omega) (by rw [hs]; simp; omega) (by rw [hb]; omega) (by omega)
  rw [hs] at this
  simpa [Value.cells, made_rep, nils] using this
def live (k : Nat) : Array Value := Array.replicate k (.int .i8 0)
theorem make_live (w : World) (k : Nat) (hk : k ≤ 1000) :
    (Instr.makeSlice 122 (.int .i64 k) (.int .i64 k)).run Yba.prog w = .ok (.slice (some ⟨w.heap.size, 0, none⟩) k k) (w.alloc (.cells (live k) 118)) := by
  obtain ⟨i, hi, hz, hs, hb⟩ : ∃ i, Yba.prog.info? 118 = some i ∧ i.zero = some (.int .i8 0) ∧ i.size = 1 ∧ i.bytes = 1 := info_parts (P := Yba.prog) (e := 118) (by kernel_rfl)
  have := run_makeSlice (w := w) 122 118 i (.int .i8 0) Yba.underlying122 hi hz .i64 .i64 k k (by omega) (by omega) (by rw [hs]; simp; omega) (by rw [hb]; omega) (by omega)
  rw [hs] at this
  simpa [Value.cells, made_rep, live] using this
theorem live_sts (k : Nat) : live k = sts (List.replicate k 0) := by
  apply Array.ext
  · simp [live, sts]
  · intro i h1 h2
    simp [live, sts]

theorem Hold.inj {w : World} {b : Nat} {cs cs' : Array Value} (h : Hold w b cs) (h' : Hold w b cs') : cs = cs' := by
  obtain ⟨t, h⟩ := h
  obtain ⟨t', h'⟩ := h'
  rw [h] at h'
  injection h' with h'
  injection h'
theorem Hold.ne {w : World} {b b' : Nat} {cs cs' : Array Value} (h : Hold w b cs) (h' : Hold w b' cs') (hne : cs[0]? ≠ cs'[0]?) : b ≠ b' := by
  rintro rfl
  exact hne (by rw [h.inj h'])
theorem below_keep {u u' : World} {b : Nat} {o : Obj} (hb : Below u.heap.size u u') (h : u.heap[b]? = some o) : u'.heap[b]? = some o := (hb.block b (Array.getElem?_eq_some_iff.1 h).1).trans h
theorem Hold.keep {u u' : World} {b : Nat} {cs : Array Value} (hb : Below u.heap.size u u') (h : Hold u b cs) : Hold u' b cs := h.below hb h.lt

/-- What the parts of a new medium are. -/
def MParts (N k : Nat) (u : World) (b3 b7 cb : Nat) : Prop :=
  N ≤ b3 ∧ u.heap[b3]? = some (.cells (nils k) 130) ∧ N ≤ b7 ∧ Hold u b7 (live k) ∧ N ≤ cb ∧ Hold u cb (zeros k)
theorem MParts.keep {N k : Nat} {u u' : World} {b3 b7 cb : Nat} (hb : Below u.heap.size u u') (h : MParts N k u b3 b7 cb) : MParts N k u' b3 b7 cb := by
  obtain ⟨h1, h2, h3, h4, h5, h6⟩ := h
  exact ⟨h1, below_keep hb h2, h3, h4.keep hb, h5, h6.keep hb⟩

/-- What a new medium is. -/
def MNew (N k : Nat) (v : Value) (u : World) : Prop := ∃ (M : Med) (mb : Nat), v = .pointer (some ⟨mb, 0, none⟩) ∧ M.k = k ∧ N ≤ mb ∧ Hold u mb (M.cells 0 0) ∧ MParts N k u M.ib M.sb M.cb ∧ Apart M mb
theorem MNew.keep {N k : Nat} {v : Value} {u u' : World} (hb : Below u.heap.size u u') (h : MNew N k v u) : MNew N k v u' := by
  obtain ⟨M, mb, h1, h2, h3, h4, h5, h6⟩ := h
  exact ⟨M, mb, h1, h2, h3, h4.keep hb, h5.keep hb, h6⟩

/-- What a medium is, built, ahead of its box. -/
def MBuilt (N k : Nat) (v : Value) (u : World) : Prop := ∃ M : Med, v = .agg (M.cells 0 0) ∧ M.k = k ∧ MParts N k u M.ib M.sb M.cb
theorem MBuilt.keep {N k : Nat} {v : Value} {u u' : World} (hb : Below u.heap.size u u') (h : MBuilt N k v u) : MBuilt N k v u' := by
  obtain ⟨M, h1, h2, h3⟩ := h
  exact ⟨M, h1, h2, h3.keep hb⟩
/-- A new row: no broadcast; all nodes live; the tree. -/
def RNil (N k t : Nat) (v : Value) (u : World) : Prop := ∃ b, v = .slice (some ⟨b, 0, none⟩) k k ∧ N ≤ b ∧ u.heap[b]? = some (.cells (nils k) t)
def RLive (N k : Nat) (v : Value) (u : World) : Prop := ∃ b, v = .slice (some ⟨b, 0, none⟩) k k ∧ N ≤ b ∧ Hold u b (live k)
def RTree (N k : Nat) (v : Value) (u : World) : Prop := ∃ tb cb top, v = .agg #[.slice (some ⟨tb, 0, none⟩) (k + 1) (k + 1), .slice (some ⟨cb, 0, none⟩) k k, .int .i64 top] ∧ N ≤ cb ∧ Hold u cb (zeros k)
def RAny (k : Nat) (v : Value) : Prop := ∃ b, v = .slice (some ⟨b, 0, none⟩) k k

def newR (N k : Nat) (cfg drv : Value) : Nat → Value → World → Prop
  | 0, v, _ => v = cfg
  | 1, v, _ => v = drv
  | 3, v, u => RNil N k 130 v u
  | 5, v, _ => RAny k v
  | 7, v, u => RLive N k v u
  | 9, v, u => RTree N k v u
  | 10, v, u => MBuilt N k v u
  | 11, v, u => MNew N k v u
  | 12, v, u => MNew N k v u
  | _, v, _ => v = .int .i64 k

theorem newR_keep {N k : Nat} {cfg drv : Value} (j : Nat) (v : Value) (u u' : World) (hb : Below u.heap.size u u') (h : newR N k cfg drv j v u) : newR N k cfg drv j v u' := by
  unfold newR at h ⊢
  split <;> simp only at h
  all_goals first
    | exact h
    | exact h.keep hb
    | (obtain ⟨b, h1, h2, h3⟩ := h; exact ⟨b, h1, h2, below_keep hb h3⟩)
    | (obtain ⟨b, h1, h2, h3⟩ := h; exact ⟨b, h1, h2, h3.keep hb⟩)
    | (obtain ⟨tb, cb, top, h1, h2, h3⟩ := h; exact ⟨tb, cb, top, h1, h2, h3.keep hb⟩)

set_option maxRecDepth 100000 in
set_option maxHeartbeats 8000000 in
theorem med_new (w : World) (k : Nat) (hk0 : 0 < k) (hk : k ≤ 8) (ia na : Option Addr) (nl nc ic : Nat) :
    Calls Yba.prog 17 #[.agg #[.slice ia k ic, .slice na nl nc, .slice none 0 0, .int .i64 0], .iface 117 (.agg #[])] w fun e w' => ∃ v, e = .returned v ∧ MNew w.heap.size k v w' ∧ Below w.heap.size w w' := by
  have m1 := fun w => make_ints w k (by omega)
  have m2 := fun w => make_nils w k (by omega)
  have m3 := fun w => make_live w k (by omega)
  go_enter Yba.func17, Yba.ntmps17
  go_wp2
  have hW : Below w.heap.size w (w.alloc (.cells #[.slice ia k ic, .slice na nl nc, .slice none 0 0, .int .i64 0] 116)).drew := ((Below.refl _ _).alloc (Nat.le_refl _) _).drew
  have hH : Hold (w.alloc (.cells #[.slice ia k ic, .slice na nl nc, .slice none 0 0, .int .i64 0] 116)).drew w.heap.size #[.slice ia k ic, .slice na nl nc, .slice none 0 0, .int .i64 0] := hold_fresh w _ 116 rfl
  refine wp_region_rely (by kernel_rfl) (by kernel_rfl) (fun f => ⟨#[.agg #[.slice ia k ic, .slice na nl nc, .slice none 0 0, .int .i64 0], .iface 117 (.agg #[]), .pointer (some ⟨w.heap.size, 0, none⟩), undef, f 12, .int .i64 k, .pointer (some ⟨w.heap.size, 0, none⟩), .slice ia k ic, .int .i64 k, f 0, f 1, f 2, f 3, f 4, f 5, f 6, f 7, f 8, f 9, f 10, f 11], []⟩)
    (fun j => bif Nat.beq j 12 then .pointer none else undef) rfl (newR w.heap.size k (.agg #[.slice ia k ic, .slice na nl nc, .slice none 0 0, .int .i64 0]) (.iface 117 (.agg #[])))
    (fun u => Below w.heap.size w u ∧ Hold u w.heap.size #[.slice ia k ic, .slice na nl nc, .slice none 0 0, .int .i64 0]) ⟨hW, hH⟩ newR_keep ?_ ?_
  · skip
    refine AllL.cons (fun f u hS hpre K hK => ?_) ?_
    · clear hpre
      have H := hS.2
      have c0 := H.cell 0
      have c1 := H.cell 1
      have c2 := H.cell 2
      have c3 := H.cell 3
      simp at c0 c1 c2 c3
      rw [if_pos (by rfl)]
      go_simp
      exact hK.out _ _ _ hS (Below.refl _ _) rfl (by simp [upd])
    refine AllL.cons (fun f u hS hpre K hK => ?_) ?_
    · rw [if_pos (by rfl)]
      go_simp
      exact hK.out _ _ _ hS (Below.refl _ _) rfl (by simp [upd])
    refine AllL.cons (fun f u hS hpre K hK => ?_) ?_
    · rw [if_pos (by rfl)]
      go_simp
      exact hK.out _ _ _ hS (Below.refl _ _) rfl (by simp [upd])
    refine AllL.cons (fun f u hS hpre K hK => ?_) ?_
    · have h2 : f 2 = .int .i64 k := hpre ⟨2, .data⟩ (by simp) rfl
      clear hpre
      rw [if_pos (by rfl)]
      go_simp
      have hb : Below u.heap.size u (u.alloc (.cells (nils k) 130)) := (Below.refl _ _).alloc (Nat.le_refl _) _
      exact hK.out _ _ _ ⟨hS.1.trans (hb.mono hS.1.size), hS.2.alloc _⟩ hb (show RNil w.heap.size k 130 _ _ from ⟨_, rfl, hS.1.size, (MapKept.heap_alloc u _).1⟩) (by simp [upd, h2])
    refine AllL.cons (fun f u hS hpre K hK => ?_) ?_
    · rw [if_pos (by rfl)]
      go_simp
      exact hK.out _ _ _ hS (Below.refl _ _) rfl (by simp [upd])
    refine AllL.cons (fun f u hS hpre K hK => ?_) ?_
    · have h4 : f 4 = .int .i64 k := hpre ⟨4, .data⟩ (by simp) rfl
      clear hpre
      rw [if_pos (by rfl)]
      go_simp
      have hb : Below u.heap.size u (u.alloc (.cells (zeros k) 3)) := (Below.refl _ _).alloc (Nat.le_refl _) _
      exact hK.out _ _ _ ⟨hS.1.trans (hb.mono hS.1.size), hS.2.alloc _⟩ hb (show RAny k _ from ⟨u.heap.size, rfl⟩) (by simp [upd, h4])
    refine AllL.cons (fun f u hS hpre K hK => ?_) ?_
    · rw [if_pos (by rfl)]
      go_simp
      exact hK.out _ _ _ hS (Below.refl _ _) rfl (by simp [upd])
    refine AllL.cons (fun f u hS hpre K hK => ?_) ?_
    · have h6 : f 6 = .int .i64 k := hpre ⟨6, .data⟩ (by simp) rfl
      clear hpre
      rw [if_pos (by rfl)]
      go_simp
      have hb : Below u.heap.size u (u.alloc (.cells (live k) 118)) := (Below.refl _ _).alloc (Nat.le_refl _) _
      exact hK.out _ _ _ ⟨hS.1.trans (hb.mono hS.1.size), hS.2.alloc _⟩ hb (show RLive w.heap.size k _ _ from ⟨_, rfl, hS.1.size, hold_fresh u _ _ rfl⟩) (by simp [upd, h6])
    refine AllL.cons (fun f u hS hpre K hK => ?_) ?_
    · rw [if_pos (by rfl)]
      go_simp
      exact hK.out _ _ _ hS (Below.refl _ _) rfl (by simp [upd])
    refine AllL.cons (fun f u hS hpre K hK => ?_) ?_
    · have h8 : f 8 = .int .i64 k := hpre ⟨8, .data⟩ (by simp) rfl
      clear hpre
      rw [if_pos (by rfl)]
      go_simp
      refine (fenwick_new _ k hk0 hk).mono ?_
      rintro e w1 ⟨tb, cb, top, rfl, htb, hcb, hne, Ht, Hc, bf⟩
      go_simp
      exact hK.out _ _ _ ⟨hS.1.trans (bf.mono hS.1.size), hS.2.keep bf⟩ bf (show RTree w.heap.size k _ _ from ⟨tb, cb, top, rfl, Nat.le_trans hS.1.size hcb, Hc⟩) (by simp [upd, h8])
    refine AllL.cons (fun f u hS hpre K hK => ?_) ?_
    · have h0 : f 0 = .agg #[.slice ia k ic, .slice na nl nc, .slice none 0 0, .int .i64 0] := hpre ⟨0, .data⟩ (by simp) rfl
      have h1 : f 1 = .iface 117 (.agg #[]) := hpre ⟨1, .data⟩ (by simp) rfl
      obtain ⟨b3, h3, n3, H3⟩ : RNil w.heap.size k 130 (f 3) u := hpre ⟨3, .data⟩ (by simp) rfl
      obtain ⟨b5, h5⟩ : RAny k (f 5) := hpre ⟨5, .data⟩ (by simp) rfl
      obtain ⟨b7, h7, n7, H7⟩ : RLive w.heap.size k (f 7) u := hpre ⟨7, .data⟩ (by simp) rfl
      obtain ⟨tb, cb, top, h9, n9, H9⟩ : RTree w.heap.size k (f 9) u := hpre ⟨9, .data⟩ (by simp) rfl
      clear hpre
      rw [if_pos (by rfl)]
      go_simp
      exact hK.out _ _ _ hS (Below.refl _ _) (show MBuilt w.heap.size k _ u from ⟨⟨.slice ia k ic, .slice na nl nc, .iface 117 (.agg #[]), b3, b5, b7, tb, cb, k, top⟩, rfl, rfl, n3, H3, n7, H7, n9, H9⟩) (by simp [upd, h0, h1, h3, h5, h7, h9, Med.cells])
    refine AllL.cons (fun f u hS hpre K hK => ?_) ?_
    · obtain ⟨M, h10, hM, n3, H3, n7, H7, n9, H9⟩ : MBuilt w.heap.size k (f 10) u := hpre ⟨10, .data⟩ (by simp) rfl
      clear hpre
      rw [if_pos (by rfl)]
      go_simp
      have hb : Below u.heap.size u (u.alloc (.cells (M.cells 0 0) 126)) := (Below.refl _ _).alloc (Nat.le_refl _) _
      have G3 : Hold u M.ib (nils k) := ⟨130, H3⟩
      have l3 := G3.lt
      have l7 := H7.lt
      have l9 := H9.lt
      refine hK.out _ _ _ ⟨hS.1.trans (hb.mono hS.1.size), hS.2.alloc _⟩ hb (show MNew w.heap.size k _ _ from ⟨M, u.heap.size, rfl, hM, hS.1.size, hold_fresh u _ 126 rfl, ⟨n3, below_keep hb H3, n7, H7.alloc _, n9, H9.alloc _⟩, ?_, ?_, ?_, ?_, ?_, ?_⟩) (by simp [upd, h10])
      · omega
      · omega
      · omega
      · exact H7.ne G3 (by simp [live, nils, hk0])
      · exact H7.ne H9 (by simp [live, zeros, hk0])
      · exact G3.ne H9 (by simp [nils, zeros, hk0])
    refine AllL.cons (fun f u hS hpre K hK => ?_) ?_
    · have h11 : MNew w.heap.size k (f 11) u := hpre ⟨11, .data⟩ (by simp) rfl
      clear hpre
      obtain ⟨M, mb, e, hM⟩ := h11
      rw [if_pos (by rfl)]
      go_simp
      exact hK.out _ _ _ hS (Below.refl _ _) (show MNew w.heap.size k _ u from ⟨M, mb, rfl, hM⟩) (by simp [upd, e])
    exact AllL.nil
  · intro f u hS hR
    obtain ⟨M, mb, e, hM⟩ : MNew w.heap.size k (f 12) u := hR 12 (by simp)
    go_wp2
    rw [e]
    go_ret
    exact ⟨_, rfl, ⟨M, mb, rfl, hM⟩, hS.1⟩
end Go.Proofs.Ybulkddig
