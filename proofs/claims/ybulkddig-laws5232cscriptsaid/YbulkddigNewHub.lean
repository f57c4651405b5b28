/-
  LawS5232CScript: the set-up: NewHub.
-/
import Derived.Test.YbulkddigNew2
import Derived.Test.YbulkddigState
import Derived.Conc.SmallLaws
import Derived.Carry
namespace Go.Proofs.Ybulkddig
open Go.RowKit Go.Conc

/-- The layout's nodes: each an id and two coordinates. -/
def Nodes (w : World) (b k : Nat) : Prop := ∀ i, i < k → ∃ x : Int, w.cell? ⟨b, i * 3, none⟩ = some (.int .i64 x) ∧ w.cell? ⟨b, i * 3 + 1, none⟩ = some (.float .f64 0) ∧ w.cell? ⟨b, i * 3 + 2, none⟩ = some (.float .f64 0)

theorem run_store_float {P : Program} {w : World} {a : Addr} {m : Mode} : (store a (.float .f64 0) m).run P w = stored P w a (.float .f64 0) m := run_store P w a _ m rfl
attribute [local go_sem] run_store_float

theorem mk_chan (w : World) (n : Nat) (hn : n ≤ 1) : (Instr.makeChan 82 (.int .i64 n)).run Yba.prog w = .ok (.chan (some w.heap.size)) (w.alloc (.chan n #[] false 0 0 false)) := by
  obtain ⟨i, hi, hz, hs, hb⟩ : ∃ i, Yba.prog.info? 61 = some i ∧ i.zero = some (.agg #[]) ∧ i.size = 0 ∧ i.bytes = 0 := info_parts (P := Yba.prog) (e := 61) (by kernel_rfl)
  exact run_makeChan Yba.underlying82 hi .i64 n (by omega) (by rw [hb]; omega)
theorem mk_peers (w : World) (k : Nat) (hk : k ≤ 1000) :
    (Instr.makeSlice 69 (.int .i64 k) (.int .i64 k)).run Yba.prog w = .ok (.slice (some ⟨w.heap.size, 0, none⟩) k k) (w.alloc (.cells (nils k) 91)) := by
  obtain ⟨i, hi, hz, hs, hb⟩ : ∃ i, Yba.prog.info? 91 = some i ∧ i.zero = some (.pointer none) ∧ i.size = 1 ∧ i.bytes = 8 := info_parts (P := Yba.prog) (e := 91) (by kernel_rfl)
  have := run_makeSlice (w := w) 69 91 i (.pointer none) Yba.underlying69 hi hz .i64 .i64 k k (by omega) (by omega) (by rw [hs]; simp; omega) (by rw [hb]; omega) (by omega)
  rw [hs] at this
  simpa [Value.cells, made_rep, nils] using this

def RChan (N n : Nat) (v : Value) (u : World) : Prop := ∃ q, v = .chan (some q) ∧ N ≤ q ∧ u.heap[q]? = some (.chan n #[] false 0 0 false)
def RMap (v : Value) : Prop := ∃ q, v = .map (some q)

/-- What the parts of a new hub are. -/
structure HParts (N k : Nat) (u : World) (M : Med) (mb pb dq aq : Nat) : Prop where
  kk : M.k = k
  nm : N ≤ mb
  m : Hold u mb (M.cells 0 0)
  parts : MParts N k u M.ib M.sb M.cb
  apart : Apart M mb
  np : N ≤ pb
  p : u.heap[pb]? = some (.cells (nils k) 91)
  nd : N ≤ dq
  d : u.heap[dq]? = some (.chan 0 #[] false 0 0 false)
  na : N ≤ aq
  a : u.heap[aq]? = some (.chan 1 #[] false 0 0 false)
theorem HParts.keep {N k : Nat} {u u' : World} {M : Med} {mb pb dq aq : Nat} (hb : Below u.heap.size u u') (h : HParts N k u M mb pb dq aq) : HParts N k u' M mb pb dq aq :=
  ⟨h.kk, h.nm, h.m.keep hb, h.parts.keep hb, h.apart, h.np, below_keep hb h.p, h.nd, below_keep hb h.d, h.na, below_keep hb h.a⟩
/-- A new hub's cells. -/
structure HCells (k : Nat) (cs : Array Value) (mb pb dq aq : Nat) : Prop where
  rec_ : cs[5]? = some (.bool false)
  mu : cs[14]? = some (.int .i32 0)
  med : cs[16]? = some (.pointer (some ⟨mb, 0, none⟩))
  peers : cs[17]? = some (.slice (some ⟨pb, 0, none⟩) k k)
  joined : cs[18]? = some (.int .i64 0)
  started : cs[19]? = some (.bool false)
  ended : cs[20]? = some (.bool false)
  ent : cs[22]? = some (.slice none 0 0)
  done : cs[35]? = some (.chan (some dq))
  ans : cs[36]? = some (.chan (some aq))
def HBuilt (N k : Nat) (v : Value) (u : World) : Prop := ∃ cs M mb pb dq aq, v = .agg cs ∧ HCells k cs mb pb dq aq ∧ HParts N k u M mb pb dq aq
def HNew (N k : Nat) (v : Value) (u : World) : Prop := ∃ hb cs M mb pb dq aq, v = .pointer (some ⟨hb, 0, none⟩) ∧ N ≤ hb ∧ Hold u hb cs ∧ HCells k cs mb pb dq aq ∧ HParts N k u M mb pb dq aq ∧ mb < hb ∧ M.sb < hb ∧ M.ib < hb ∧ M.cb < hb ∧ pb < hb ∧ dq < hb ∧ aq < hb
theorem HBuilt.keep {N k : Nat} {v : Value} {u u' : World} (hb : Below u.heap.size u u') (h : HBuilt N k v u) : HBuilt N k v u' := by
  obtain ⟨cs, M, mb, pb, dq, aq, h1, h2, h3⟩ := h
  exact ⟨cs, M, mb, pb, dq, aq, h1, h2, h3.keep hb⟩
theorem HNew.keep {N k : Nat} {v : Value} {u u' : World} (hB : Below u.heap.size u u') (h : HNew N k v u) : HNew N k v u' := by
  obtain ⟨hb, cs, M, mb, pb, dq, aq, h1, h2, h3, h4, h5, h6⟩ := h
  exact ⟨hb, cs, M, mb, pb, dq, aq, h1, h2, h3.keep hB, h4, h5.keep hB, h6⟩
theorem RNil.keep {N k t : Nat} {v : Value} {u u' : World} (hb : Below u.heap.size u u') (h : RNil N k t v u) : RNil N k t v u' := by
  obtain ⟨b, h1, h2, h3⟩ := h
  exact ⟨b, h1, h2, below_keep hb h3⟩
theorem RChan.keep {N n : Nat} {v : Value} {u u' : World} (hb : Below u.heap.size u u') (h : RChan N n v u) : RChan N n v u' := by
  obtain ⟨b, h1, h2, h3⟩ := h
  exact ⟨b, h1, h2, below_keep hb h3⟩

def hubR (N k lb b ib : Nat) (nbs : Value) : Nat → Value → World → Prop
  | 0, v, _ => v = .pointer (some ⟨lb, 0, none⟩)
  | 1, v, _ => v = nbs
  | 2, v, _ => v = .int .u8 0
  | 3, v, _ => v = .int .i64 0
  | 4, v, _ => v = .slice (some ⟨ib, 0, none⟩) k k
  | 5, v, _ => v = nbs
  | 6, v, _ => v = .agg #[.slice (some ⟨ib, 0, none⟩) k k, nbs, .slice none 0 0, .int .i64 0]
  | 7, v, _ => v = .agg #[]
  | 8, v, _ => v = .iface 117 (.agg #[])
  | 9, v, u => MNew N k v u
  | 13, v, _ => v = .slice (some ⟨b, 0, none⟩) k k
  | 14, v, _ => v = .int .i64 k
  | 15, v, u => RNil N k 91 v u
  | 16, v, _ => RMap v
  | 17, v, u => RChan N 0 v u
  | 18, v, u => RChan N 1 v u
  | 19, v, u => HBuilt N k v u
  | 20, v, u => HNew N k v u
  | 21, v, u => HNew N k v u
  | _, v, _ => v = .pointer (some ⟨lb, 0, none⟩)

theorem hubR_keep {N k lb b ib : Nat} {nbs : Value} (j : Nat) (v : Value) (u u' : World) (hb : Below u.heap.size u u') (h : hubR N k lb b ib nbs j v u) : hubR N k lb b ib nbs j v u' := by
  unfold hubR at h ⊢
  split <;> simp only at h
  all_goals first
    | exact h
    | exact h.keep hb

set_option maxRecDepth 100000 in
set_option maxHeartbeats 8000000 in
theorem hub_new (w : World) (k lb b : Nat) (hk0 : 0 < k) (hk : k ≤ 8) (na : Option Addr) (nl nc : Nat) (hl : w.cell? ⟨lb, 0, none⟩ = some (.slice (some ⟨b, 0, none⟩) k k)) (hN : Nodes w b k) (hlb : lb < w.heap.size) (hb : b < w.heap.size) :
    Calls Yba.prog 10 #[.pointer (some ⟨lb, 0, none⟩), .slice na nl nc, .int .u8 0, .int .i64 0] w fun e w' => ∃ v, e = .returned v ∧ HNew w.heap.size k v w' ∧ Below w.heap.size w w' := by
  have m1 := fun w => make_ints w k (by omega)
  have m2 := fun w => mk_peers w k (by omega)
  have c0 : ∀ w, (Instr.makeChan 82 (.int .i64 0)).run Yba.prog w = .ok (.chan (some w.heap.size)) (w.alloc (.chan 0 #[] false 0 0 false)) := fun w => mk_chan w 0 (by omega)
  have c1 : ∀ w, (Instr.makeChan 82 (.int .i64 1)).run Yba.prog w = .ok (.chan (some w.heap.size)) (w.alloc (.chan 1 #[] false 0 0 false)) := fun w => mk_chan w 1 (by omega)
  have hmm := @run_makeMap Yba.prog
  go_enter Yba.func10, Yba.ntmps10
  go_wp2
  have B0 : Below w.heap.size w (w.alloc (.cells (zeros k) 3)) := (Below.refl _ _).alloc (Nat.le_refl _) _
  have H0 : Hold (w.alloc (.cells (zeros k) 3)) w.heap.size (zeros k) := hold_fresh _ _ _ rfl
  have s0 : (zeros k).size = k := by simp [zeros]
  go_loopg [23] k (fun q c wr => ∃ t : Nat, t ≤ k ∧ q = k - t ∧ c = .int .i64 t ∧ Below w.heap.size w wr ∧ ∃ cs, Hold wr w.heap.size cs ∧ cs.size = k)
  case atStart => exact ⟨0, Nat.zero_le _, rfl, rfl, B0, _, H0, s0⟩
  case round =>
    clear B0 H0 s0
    obtain ⟨t, ht, hq, rfl, bel, cs, H, hcs⟩ := hrel
    by_cases hlt : t < k
    · obtain ⟨x, hx, hy, hz⟩ := hN t hlt
      have hx' := (bel.cell (p := ⟨b, t * 3, none⟩) hb).trans hx
      have hy' := (bel.cell (p := ⟨b, t * 3 + 1, none⟩) hb).trans hy
      have hz' := (bel.cell (p := ⟨b, t * 3 + 2, none⟩) hb).trans hz
      have hxt : wr.cell? ⟨w.heap.size, t, none⟩ = some cs[t] := (H.cell t).trans (by simp [hcs, hlt])
      have hft := H.frozen t
      have hlH := H.lt
      go_wp2
      go_roundg (k - (t + 1))
      case measure => omega
      case rel =>
        refine ⟨t + 1, by omega, rfl, by go_num, ?_, cs.setIfInBounds t (.int .i64 x), (H.set t _ _ rfl).alloc _, by simpa using hcs⟩
        exact (bel.setCell (Nat.le_refl _) _).alloc (by simp; omega) _
    · have hl' := (bel.cell (p := ⟨lb, 0, none⟩) hlb).trans hl
      clear hN H hcs
      go_wp2
      refine wp_region_rely (by kernel_rfl) (by kernel_rfl) (fun f => ⟨#[.pointer (some ⟨lb, 0, none⟩), .slice na nl nc, .int .u8 0, .int .i64 0, undef, undef, undef, undef, f 21, .slice (some ⟨w.heap.size, 0, none⟩) k k, u10, u11, .pointer (some ⟨lb, 0, none⟩), .pointer (some ⟨lb, 0, none⟩), .pointer (some ⟨lb, 0, none⟩), .slice (some ⟨b, 0, none⟩) k k, .int .i64 k, .slice (some ⟨w.heap.size, 0, none⟩) k k, .pointer (some ⟨lb, 0, none⟩), .pointer (some ⟨lb, 0, none⟩), .pointer (some ⟨lb, 0, none⟩), .slice (some ⟨b, 0, none⟩) k k, .int .i64 k, .int .i64 t, .bool false, u25, u26, u27, u28, u29, u30, u31, u32, u33, f 0, f 1, f 2, f 3, f 4, f 5, f 6, f 7, f 8, f 9, f 10, f 11, f 12, f 13, f 14, f 15, f 16, f 17, f 18, f 19, f 20], []⟩)
        (fun j => if j = 21 then .pointer none else undef) rfl (hubR w.heap.size k lb b w.heap.size (.slice na nl nc))
        (fun u => Below w.heap.size w u ∧ u.cell? ⟨lb, 0, none⟩ = some (.slice (some ⟨b, 0, none⟩) k k)) ⟨bel.drew, hl'⟩ hubR_keep ?_ ?_
      rotate_left
      · intro f u hS hR
        obtain ⟨hb, cs, M, mb, pb, dq, aq, e, hH⟩ : HNew w.heap.size k (f 21) u := hR 21 (by simp)
        go_wp2
        rw [e]
        go_ret
        exact ⟨_, rfl, ⟨hb, cs, M, mb, pb, dq, aq, rfl, hH⟩, hS.1⟩
      refine AllL.cons (fun f u hS hpre K hK => ?_) ?_
      · rw [if_pos (by rfl)]
        go_simp
        exact hK.out _ _ _ hS (Below.refl _ _) rfl (by simp [upd])
      refine AllL.cons (fun f u hS hpre K hK => ?_) ?_
      · rw [if_pos (by rfl)]
        go_simp
        exact hK.out _ _ _ hS (Below.refl _ _) rfl (by simp [upd])
      refine AllL.cons (fun f u hS hpre K hK => ?_) ?_
      · rw [if_pos (by rfl)]
        go_simp
        exact hK.out _ _ _ hS (Below.refl _ _) rfl (by simp [upd])
      refine AllL.cons (fun f u hS hpre K hK => ?_) ?_
      · rw [if_pos (by rfl)]
        go_simp
        exact hK.out _ _ _ hS (Below.refl _ _) rfl (by simp [upd])
      refine AllL.cons (fun f u hS hpre K hK => ?_) ?_
      · rw [if_pos (by rfl)]
        go_simp
        exact hK.out _ _ _ hS (Below.refl _ _) rfl (by simp [upd])
      refine AllL.cons (fun f u hS hpre K hK => ?_) ?_
      · rw [if_pos (by rfl)]
        go_simp
        exact hK.out _ _ _ hS (Below.refl _ _) rfl (by simp [upd])
      refine AllL.cons (fun f u hS hpre K hK => ?_) ?_
      · have h4 : f 4 = .slice (some ⟨w.heap.size, 0, none⟩) k k := hpre ⟨4, .data⟩ (by simp) rfl
        have h5 : f 5 = .slice na nl nc := hpre ⟨5, .data⟩ (by simp) rfl
        clear hpre
        rw [if_pos (by rfl)]
        go_simp
        exact hK.out _ _ _ hS (Below.refl _ _) rfl (by simp [upd, h4, h5])
      refine AllL.cons (fun f u hS hpre K hK => ?_) ?_
      · rw [if_pos (by rfl)]
        go_simp
        exact hK.out _ _ _ hS (Below.refl _ _) rfl (by simp [upd])
      refine AllL.cons (fun f u hS hpre K hK => ?_) ?_
      · have h7 : f 7 = .agg #[] := hpre ⟨7, .data⟩ (by simp) rfl
        clear hpre
        rw [if_pos (by rfl)]
        go_simp
        exact hK.out _ _ _ hS (Below.refl _ _) rfl (by simp [upd, h7])
      refine AllL.cons (fun f u hS hpre K hK => ?_) ?_
      · have h6 : f 6 = .agg #[.slice (some ⟨w.heap.size, 0, none⟩) k k, .slice na nl nc, .slice none 0 0, .int .i64 0] := hpre ⟨6, .data⟩ (by simp) rfl
        have h8 : f 8 = .iface 117 (.agg #[]) := hpre ⟨8, .data⟩ (by simp) rfl
        clear hpre
        rw [if_pos (by rfl)]
        go_simp
        refine (med_new u k hk0 hk _ na nl nc k).mono ?_
        rintro e w1 ⟨v, rfl, hM, bf⟩
        obtain ⟨M, mb, rfl, hM1, hM2, hM3, hM4, hM5⟩ := hM
        go_simp
        exact hK.out _ _ _ ⟨hS.1.trans (bf.mono hS.1.size), (bf.cell (p := ⟨lb, 0, none⟩) (Nat.lt_of_lt_of_le hlb hS.1.size)).trans hS.2⟩ bf (show MNew w.heap.size k _ _ from ⟨M, mb, rfl, hM1, Nat.le_trans hS.1.size hM2, hM3, ⟨Nat.le_trans hS.1.size hM4.1, hM4.2.1, Nat.le_trans hS.1.size hM4.2.2.1, hM4.2.2.2.1, Nat.le_trans hS.1.size hM4.2.2.2.2.1, hM4.2.2.2.2.2⟩, hM5⟩) (by simp [upd, h6, h8])
      refine AllL.cons (fun f u hS hpre K hK => ?_) ?_
      · rw [if_pos (by rfl)]
        go_simp
        exact hK.out _ _ _ hS (Below.refl _ _) rfl (by simp [upd])
      refine AllL.cons (fun f u hS hpre K hK => ?_) ?_
      · have h10 : f 10 = .pointer (some ⟨lb, 0, none⟩) := hpre ⟨10, .data⟩ (by simp) rfl
        clear hpre
        rw [if_pos (by rfl)]
        go_simp
        exact hK.out _ _ _ hS (Below.refl _ _) rfl (by simp [upd, h10])
      refine AllL.cons (fun f u hS hpre K hK => ?_) ?_
      · have h11 : f 11 = .pointer (some ⟨lb, 0, none⟩) := hpre ⟨11, .data⟩ (by simp) rfl
        clear hpre
        rw [if_pos (by rfl)]
        go_simp
        exact hK.out _ _ _ hS (Below.refl _ _) rfl (by simp [upd, h11])
      refine AllL.cons (fun f u hS hpre K hK => ?_) ?_
      · have h12 : f 12 = .pointer (some ⟨lb, 0, none⟩) := hpre ⟨12, .data⟩ (by simp) rfl
        clear hpre
        have hc := hS.2
        rw [if_pos (by rfl)]
        go_simp
        exact hK.out _ _ _ hS (Below.refl _ _) rfl (by simp [upd, h12])
      refine AllL.cons (fun f u hS hpre K hK => ?_) ?_
      · have h13 : f 13 = .slice (some ⟨b, 0, none⟩) k k := hpre ⟨13, .data⟩ (by simp) rfl
        clear hpre
        rw [if_pos (by rfl)]
        go_simp
        exact hK.out _ _ _ hS (Below.refl _ _) rfl (by simp [upd, h13])
      refine AllL.cons (fun f u hS hpre K hK => ?_) ?_
      · have h14 : f 14 = .int .i64 k := hpre ⟨14, .data⟩ (by simp) rfl
        clear hpre
        rw [if_pos (by rfl)]
        go_simp
        have hB : Below u.heap.size u (u.alloc (.cells (nils k) 91)) := (Below.refl _ _).alloc (Nat.le_refl _) _
        exact hK.out _ _ _ ⟨hS.1.trans (hB.mono hS.1.size), (hB.cell (p := ⟨lb, 0, none⟩) (Nat.lt_of_lt_of_le hlb hS.1.size)).trans hS.2⟩ hB (show RNil w.heap.size k 91 _ _ from ⟨_, rfl, hS.1.size, (MapKept.heap_alloc u _).1⟩) (by simp [upd, h14])
      refine AllL.cons (fun f u hS hpre K hK => ?_) ?_
      · clear hpre
        rw [if_pos (by rfl)]
        go_simp
        have hB : Below u.heap.size u (u.alloc (.map #[] 0)) := (Below.refl _ _).alloc (Nat.le_refl _) _
        exact hK.out _ _ _ ⟨hS.1.trans (hB.mono hS.1.size), (hB.cell (p := ⟨lb, 0, none⟩) (Nat.lt_of_lt_of_le hlb hS.1.size)).trans hS.2⟩ hB (show RMap _ from ⟨u.heap.size, rfl⟩) (by simp [upd])
      refine AllL.cons (fun f u hS hpre K hK => ?_) ?_
      · clear hpre
        rw [if_pos (by rfl)]
        go_simp
        have hB : Below u.heap.size u (u.alloc (.chan 0 #[] false 0 0 false)) := (Below.refl _ _).alloc (Nat.le_refl _) _
        exact hK.out _ _ _ ⟨hS.1.trans (hB.mono hS.1.size), (hB.cell (p := ⟨lb, 0, none⟩) (Nat.lt_of_lt_of_le hlb hS.1.size)).trans hS.2⟩ hB (show RChan w.heap.size 0 _ _ from ⟨_, rfl, hS.1.size, (MapKept.heap_alloc u _).1⟩) (by simp [upd])
      refine AllL.cons (fun f u hS hpre K hK => ?_) ?_
      · clear hpre
        rw [if_pos (by rfl)]
        go_simp
        have hB : Below u.heap.size u (u.alloc (.chan 1 #[] false 0 0 false)) := (Below.refl _ _).alloc (Nat.le_refl _) _
        exact hK.out _ _ _ ⟨hS.1.trans (hB.mono hS.1.size), (hB.cell (p := ⟨lb, 0, none⟩) (Nat.lt_of_lt_of_le hlb hS.1.size)).trans hS.2⟩ hB (show RChan w.heap.size 1 _ _ from ⟨_, rfl, hS.1.size, (MapKept.heap_alloc u _).1⟩) (by simp [upd])
      refine AllL.cons (fun f u hS hpre K hK => ?_) ?_
      · have h0 : f 0 = .pointer (some ⟨lb, 0, none⟩) := hpre ⟨0, .data⟩ (by simp) rfl
        have h1 : f 1 = .slice na nl nc := hpre ⟨1, .data⟩ (by simp) rfl
        have h2 : f 2 = .int .u8 0 := hpre ⟨2, .data⟩ (by simp) rfl
        have h3 : f 3 = .int .i64 0 := hpre ⟨3, .data⟩ (by simp) rfl
        obtain ⟨M, mb, h9, m1, m2, m3, m4, m5⟩ : MNew w.heap.size k (f 9) u := hpre ⟨9, .data⟩ (by simp) rfl
        obtain ⟨pb, h15, p1, p2⟩ : RNil w.heap.size k 91 (f 15) u := hpre ⟨15, .data⟩ (by simp) rfl
        obtain ⟨mq, h16⟩ : RMap (f 16) := hpre ⟨16, .data⟩ (by simp) rfl
        obtain ⟨dq, h17, d1, d2⟩ : RChan w.heap.size 0 (f 17) u := hpre ⟨17, .data⟩ (by simp) rfl
        obtain ⟨aq, h18, a1, a2⟩ : RChan w.heap.size 1 (f 18) u := hpre ⟨18, .data⟩ (by simp) rfl
        clear hpre
        rw [if_pos (by rfl)]
        go_simp
        refine hK.out _ _ _ hS (Below.refl _ _) (show HBuilt w.heap.size k _ u from ⟨#[.nilFunc, .nilFunc, .bool false, .int .u64 0, .int .i64 0, .bool false, .pointer (some ⟨lb, 0, none⟩), .slice na nl nc, .int .u8 0, .int .i64 0, .int .i64 10000000000, .int .i64 1000000000, .int .i32 0, .int .u32 0, .int .i32 0, .int .u32 0, .pointer (some ⟨mb, 0, none⟩), .slice (some ⟨pb, 0, none⟩) k k, .int .i64 0, .bool false, .bool false, .map (some mq), .slice none 0 0, .int .i64 0, .int .i64 0, .int .i64 0, .map none, .bool false, .bool false, .bool false, .pointer none, .int .i64 0, .int .i64 0, .slice none 0 0, .slice none 0 0, .chan (some dq), .chan (some aq), .int .u64 0, .int .u32 0], M, mb, pb, dq, aq, rfl, ?_, ⟨m1, m2, m3, m4, m5, p1, p2, d1, d2, a1, a2⟩⟩) (by simp [upd, h0, h1, h2, h3, h9, h15, h16, h17, h18])
        constructor <;> rfl
      refine AllL.cons (fun f u hS hpre K hK => ?_) ?_
      · obtain ⟨cs, M, mb, pb, dq, aq, h19, hC, hP⟩ : HBuilt w.heap.size k (f 19) u := hpre ⟨19, .data⟩ (by simp) rfl
        clear hpre
        rw [if_pos (by rfl)]
        go_simp
        have hB : Below u.heap.size u (u.alloc (.cells cs 90)) := (Below.refl _ _).alloc (Nat.le_refl _) _
        have l1 := hP.m.lt
        obtain ⟨q1, q2, q3, q4, q5, q6⟩ := hP.parts
        have l2 := (Array.getElem?_eq_some_iff.1 q2).1
        have l3 := q4.lt
        have l4 := q6.lt
        have l5 := (Array.getElem?_eq_some_iff.1 hP.p).1
        have l6 := (Array.getElem?_eq_some_iff.1 hP.d).1
        have l7 := (Array.getElem?_eq_some_iff.1 hP.a).1
        exact hK.out _ _ _ ⟨hS.1.trans (hB.mono hS.1.size), (hB.cell (p := ⟨lb, 0, none⟩) (Nat.lt_of_lt_of_le hlb hS.1.size)).trans hS.2⟩ hB (show HNew w.heap.size k _ _ from ⟨u.heap.size, cs, M, mb, pb, dq, aq, rfl, hS.1.size, hold_fresh u _ 90 rfl, hC, hP.keep hB, l1, l3, l2, l4, l5, l6, l7⟩) (by simp [upd, h19])
      refine AllL.cons (fun f u hS hpre K hK => ?_) ?_
      · obtain ⟨hb, hH⟩ : HNew w.heap.size k (f 20) u := hpre ⟨20, .data⟩ (by simp) rfl
        obtain ⟨cs, M, mb, pb, dq, aq, h20, hH⟩ := hH
        clear hpre
        rw [if_pos (by rfl)]
        go_simp
        exact hK.out _ _ _ hS (Below.refl _ _) (show HNew w.heap.size k _ u from ⟨hb, cs, M, mb, pb, dq, aq, rfl, hH⟩) (by simp [upd, h20])
      exact AllL.nil
end Go.Proofs.Ybulkddig
