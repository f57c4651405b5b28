/-
  What the walk of LawS5229AModel carries from round to round.
-/
import Derived.Test.YbulkddgqMPtr
namespace Go.Proofs.Ybulkddgq
open Go.RowKit Go.Maps

/-- What is told of the script that came in. -/
def IsOps (w : World) (a : Option Addr) (len : Nat) : Prop :=
  len = 0 ∨ ∃ xb xo, a = some ⟨xb, xo, none⟩ ∧ xb < w.heap.size ∧ ∀ i, i < len → ∃ o k v s : Int, w.cell? ⟨xb, xo + i * 4, none⟩ = some (.int .u8 o) ∧ w.cell? ⟨xb, xo + i * 4 + 1, none⟩ = some (.int .u8 k) ∧
    w.cell? ⟨xb, xo + i * 4 + 2, none⟩ = some (.int .i64 v) ∧ w.cell? ⟨xb, xo + i * 4 + 3, none⟩ = some (.int .u8 s) ∧ 0 ≤ o ∧ o ≤ 255 ∧ 0 ≤ k ∧ k ≤ 255 ∧ 0 ≤ s ∧ s ≤ 255

/-- The entries that the law makes. -/
def Tame (c : Nat) (m : List Ent) : Prop := m.length ≤ c ∧ ∀ e ∈ m, 0 ≤ e.s ∧ e.s ≤ 15 ∧ 0 ≤ e.k ∧ e.k ≤ 7

/-- The law's slice: nil, or a row of the call's own, apart from the cache. -/
structure Has (w : World) (N : Nat) (bl : List Nat) (v : Value) (m : List Ent) : Prop where
  own : w.ownsRow N 31 3 v m.length (flat m)
  apart : ∀ g, v.ownBlock = some g → g ∉ bl

/-- What holds at the head of every round. -/
def Inv (N B M : Nat) (b : Int) (w0 w : World) (c : Nat) (v : Value) (m : List Ent) : Prop :=
  ∃ L, Lru (fun k => k < N) w B M b 0 (tot (ents L)) L ∧ ents L = m ∧ Tame c m ∧ Has w N (B :: M :: L.map (·.1)) v m ∧ Below N w0 w ∧ N ≤ w.heap.size

theorem seg_first {nx pv : Nat → Nat → Prop} {a z : Nat} {l : List Nat} (h : Seg nx pv a l z) : nx a (l.headD z) ∧ pv (l.headD z) a := by
  cases l with
  | nil => exact h
  | cons x l => exact ⟨h.1, h.2.1⟩

/-- 'len(m)' behind a guard that lets it by. -/
theorem wpList_len_want {w : World} {ops : Array Oper} {rest : List Oper} {o : Oper} {a : Act} {Q : Exit → Act → World → Prop} (hw : Region.wanted o (yielded ops a.tmps) = true) (m : Operand) (hop : o.op = Op.call { callee := Callee.builtin Builtin.len, args := #[m], argTypes := #[44] })
    (M n : Nat) (D : DataW Unit) (hm : a.eval m = .map (some M)) (hown : w.ownsMap Yba.prog 3 ptrElem M n D)
    (hK : wpList Yba.prog ops Q rest (a.put o.dst (.int .i64 (Maps.size D))) w) : wpList Yba.prog ops Q (o :: rest) a w := by
  refine wpList_step fun K' hK' => ?_
  rw [if_pos hw]
  unfold Oper.wp
  simp [execOp, hop, resolve, invoke, builtin, hm, hown.len Yba.underlying44 o.type, Result.andThen]
  exact hK' _ _ hK


/-- All blocks but the cache's own. -/
def foreign (w : World) (bl : List Nat) (q : Nat) : Prop := q < w.heap.size ∧ q ∉ bl

theorem foreign_of {N B M : Nat} {w : World} {b u : Int} {L : List (Nat × Ent)} (C : Lru (fun k => k < N) w B M b 0 u L) : Lru (foreign w (B :: M :: L.map (·.1))) w B M b 0 u L :=
  C.re _ (fun _ h c => c.2 h)

theorem row_heap {w w' : World} {N n : Nat} {v : Value} {xs : List Value} (h : w.ownsRow N 31 3 v n xs) (e : ∀ g, v.ownBlock = some g → w'.heap[g]? = w.heap[g]?) : w'.ownsRow N 31 3 v n xs := by
  refine ⟨h.1, ?_⟩
  rcases h.2 with hn | ⟨g, cap, cur, rfl, hb, hgg, rest⟩
  · exact .inl hn
  · exact .inr ⟨g, cap, cur, rfl, hb, (e g rfl).trans hgg, rest⟩

theorem Has.blk {w : World} {N : Nat} {bl : List Nat} {v : Value} {m : List Ent} (h : Has w N bl v m) {g : Nat} (hg : v.ownBlock = some g) : foreign w bl g ∧ N ≤ g :=
  ⟨⟨(h.own.lt g hg).2, h.apart g hg⟩, (h.own.lt g hg).1⟩

/-- Behind a call of the cache's. -/
theorem after_call {N B M : Nat} {w w' : World} {b u u' : Int} {L L' : List (Nat × Ent)} {v : Value} {m : List Ent} (C : Lru (fun k => k < N) w B M b 0 u L) (hN : N ≤ w.heap.size) (hs : Has w N (B :: M :: L.map (·.1)) v m)
    (C' : Lru (foreign w (B :: M :: L.map (·.1))) w' B M b 0 u' L') (K : Keep (foreign w (B :: M :: L.map (·.1))) w w') :
    Lru (fun k => k < N) w' B M b 0 u' L' ∧ Below N w w' ∧ N ≤ w'.heap.size ∧ Has w' N (B :: M :: L'.map (·.1)) v m := by
  have hlow : ∀ q, q < N → foreign w (B :: M :: L.map (·.1)) q := fun q hq => ⟨by omega, fun h => (C.own q h).1 hq⟩
  refine ⟨C'.re _ (fun x hx hlt => (C'.own x hx).1 (hlow x hlt)), ⟨K.os, K.tape, K.output, K.size, fun q hq => K.block q (hlow q hq)⟩, Nat.le_trans hN K.size, ?_⟩
  exact ⟨row_heap hs.own (fun g hg => K.block g (hs.blk hg).1), fun g hg h => (C'.own g h).1 (hs.blk hg).1⟩

/-- Behind something that writes the slice's own row and makes new blocks alone: the cache stands. -/
theorem cache_kept {F : Nat → Prop} {B M : Nat} {w w' : World} {b st u : Int} {L : List (Nat × Ent)} {row : Option Nat} (C : Lru F w B M b st u L) (hg : w.grownBy w' row) (hr : ∀ g, row = some g → g ∉ B :: M :: L.map (·.1)) : Lru F w' B M b st u L := by
  have hblk : ∀ q ∈ B :: M :: L.map (·.1), w'.heap[q]? = w.heap[q]? := fun q hq => hg.block q (C.own q hq).2 (fun e => hr q e.symm hq)
  have hin : ∀ q ∈ B :: L.map (·.1), q ∈ B :: M :: L.map (·.1) := by
    intro q hq
    rcases List.mem_cons.1 hq with rfl | hq
    · simp
    · exact List.mem_cons_of_mem _ (List.mem_cons_of_mem _ hq)
  obtain ⟨D, I⟩ := C.idx
  refine ⟨C.ring.kept (fun q o h => ?_) (fun q o h => ?_) (fun q h ⟨c, t, hc⟩ => ⟨c, t, (hblk q (hin q h)).trans hc⟩), D, I.kept (hblk M (by simp))⟩
  · exact World.cell?_of_block (w := w) (a := ⟨q, o, none⟩) (hblk q (hin q h))
  · exact World.frozen?_of_block (w := w) (a := ⟨q, o, none⟩) (hblk q (hin q h))

theorem Tame.mono {c c' : Nat} {m : List Ent} (h : Tame c m) (hc : c ≤ c') : Tame c' m := ⟨Nat.le_trans h.1 hc, h.2⟩
theorem Tame.mild {c : Nat} {m : List Ent} (h : Tame c m) (hc : c ≤ 1024) : Mild m :=
  ⟨by have := h.1; omega, fun e he => by have := h.2 e he; exact ⟨this.1, by omega, WalkArith.wf_i64 (by omega)⟩⟩

theorem strike_sub (k : Int) (m : List Ent) : (strike k m).Sublist m := List.filter_sublist

theorem trimR_sub (room : Int) : ∀ m : List Ent, (trimR room m).Sublist m
  | [] => List.Sublist.refl _
  | x :: r => by
    rw [trimR]
    split
    · exact (trimR_sub room r).cons x
    · exact List.Sublist.refl _
theorem trim_sub (room : Int) (m : List Ent) : (trim room m).Sublist m := by
  unfold trim
  have := (trimR_sub room m.reverse).reverse
  rw [List.reverse_reverse] at this
  exact this
theorem Tame.sub {c : Nat} {m m' : List Ent} (h : Tame c m) (s : m'.Sublist m) : Tame c m' := ⟨Nat.le_trans s.length_le h.1, fun e he => h.2 e (s.subset he)⟩
theorem Tame.add {c : Nat} {m : List Ent} {k v s : Int} (h : Tame c m) (hk : 0 ≤ k ∧ k ≤ 7) (hs : 0 ≤ s ∧ s ≤ 15) : Tame (c + 1) (⟨k, v, s⟩ :: m) :=
  ⟨by have := h.1; simp; omega, fun e he => by
    rcases List.mem_cons.1 he with rfl | he
    · exact ⟨hs.1, hs.2, hk.1, hk.2⟩
    · exact h.2 e he⟩

/-- By whether a key is kept. -/
theorem part_key {k : Int} {m : List Ent} (h : k ∈ m.map (fun e => e.k)) : ∃ a e b, m = a ++ e :: b ∧ e.k = k := by
  obtain ⟨e, he, rfl⟩ := List.mem_map.1 h
  obtain ⟨a, b, e1⟩ := List.append_of_mem he
  exact ⟨a, e, b, e1, rfl⟩

/-- The first entry's cells are there. -/
theorem Sl.three {w : World} {N g n cap : Nat} {xs : List Value} (h : Sl w N g n cap xs) (hn : 0 < n) : ∃ y0 y1 y2, w.cell? ⟨g, 0, none⟩ = some y0 ∧ w.cell? ⟨g, 1, none⟩ = some y1 ∧ w.cell? ⟨g, 2, none⟩ = some y2 := by
  have hl := h.1
  have hg : ∀ j, j < 3 → ∃ y, w.cell? ⟨g, j, none⟩ = some y := fun j hj => ⟨_, (World.ownsRow.cellAt h j (by omega)).trans (List.getElem?_eq_getElem (by omega))⟩
  obtain ⟨y0, h0⟩ := hg 0 (by omega)
  obtain ⟨y1, h1⟩ := hg 1 (by omega)
  obtain ⟨y2, h2⟩ := hg 2 (by omega)
  exact ⟨y0, y1, y2, h0, h1, h2⟩

theorem grownBy_trans {a b c : World} {row : Option Nat} (h : a.grownBy b row) (k : b.grownBy c row) : a.grownBy c row :=
  ⟨k.os.trans h.os, k.tape.trans h.tape, k.output.trans h.output, Nat.le_trans h.size k.size, fun i hi hr => (k.block i (Nat.lt_of_lt_of_le hi h.size) hr).trans (h.block i hi hr)⟩

/-- 'm[0] = e'. -/
theorem Sl.head {w : World} {N g n cap : Nat} {xs : List Value} (h : Sl w N g n cap xs) (hn : 0 < n) (e : Ent) :
    Sl (((w.setCell ⟨g, 0, none⟩ (.int .i64 e.k)).setCell ⟨g, 1, none⟩ (.int .i64 e.v)).setCell ⟨g, 2, none⟩ (.int .i64 e.s)) N g n cap (cells3 e ++ xs.drop 3) ∧ w.grownBy (((w.setCell ⟨g, 0, none⟩ (.int .i64 e.k)).setCell ⟨g, 1, none⟩ (.int .i64 e.v)).setCell ⟨g, 2, none⟩ (.int .i64 e.s)) (some g) := by
  have h1 := World.ownsRow.stored h 0 (.int .i64 e.k)
  have h2 := World.ownsRow.stored h1.1 1 (.int .i64 e.v)
  have h3 := World.ownsRow.stored h2.1 2 (.int .i64 e.s)
  refine ⟨?_, grownBy_trans (grownBy_trans h1.2 h2.2) h3.2⟩
  have hl := h.1
  have e1 : ((xs.set 0 (.int .i64 e.k)).set 1 (.int .i64 e.v)).set 2 (.int .i64 e.s) = cells3 e ++ xs.drop 3 := by
    match xs, hl with
    | [], hl => simp at hl; omega
    | [_], hl => simp at hl; omega
    | [_, _], hl => simp at hl; omega
    | _ :: _ :: _ :: r, _ => simp [cells3]
  rw [e1] at h3
  exact h3.1

/-- The entries behind the shift and the store at the head. -/
theorem shift_flat (a b : List Ent) (e : Ent) : cells3 e ++ (((flat (a ++ e :: b)).take 3 ++ ((flat (a ++ e :: b)).take (a.length * 3) ++ (flat (a ++ e :: b)).drop (3 + a.length * 3))).drop 3) = flat (e :: (a ++ b)) := by
  have hl : (flat (a ++ e :: b)).length = (a.length + (b.length + 1)) * 3 := by rw [flat_len]; simp
  have h3 : ((flat (a ++ e :: b)).take 3).length = 3 := by rw [List.length_take, hl]; omega
  have e1 : (flat (a ++ e :: b)).take (a.length * 3) = flat a := by
    rw [flat_append, List.take_append_of_le_length (by rw [flat_len]; omega)]
    exact List.take_of_length_le (by rw [flat_len]; omega)
  have e2 : (flat (a ++ e :: b)).drop (3 + a.length * 3) = flat b := by
    have : 3 + a.length * 3 = (flat a ++ cells3 e).length := by rw [List.length_append, flat_len]; simp [cells3]; omega
    rw [flat_append, flat_cons, ← List.append_assoc, this, List.drop_append_of_le_length (Nat.le_refl _), List.drop_length]
    rfl
  rw [e1, e2, List.drop_append_of_le_length (by omega), List.drop_of_length_le (by omega), flat_cons, flat_append]
  rfl

/-- zzs5229aidx where the key is not kept, whatever the slice (nil too). -/
theorem idx_absent {w : World} {N n cap : Nat} {av : Option Addr} {m : List Ent} (h : w.ownsRow N 31 3 (.slice av n cap) m.length (flat m)) (hn : m.length = n) (hlen : n ≤ 1024) (k : Int) (hno : k ∉ m.map (fun e => e.k)) :
    Calls Yba.prog 7 #[.slice av n cap, .int .i64 k] w fun e w' => e = .returned (.int .i64 (-1)) ∧ w = w' := by
  subst hn
  rcases h.2 with ⟨e, h0⟩ | ⟨g, cp, cur, e, _⟩
  · simp at e
    rw [h0]
    exact idx_nil w av cap k
  · obtain ⟨rfl, rfl⟩ : av = some ⟨g, 0, none⟩ ∧ cap = cp := by simpa using e
    exact idx_miss h rfl (by omega) k hno

theorem shift_flat2 (m : List Ent) (z : List Value) (hz : z.length = 3) (e : Ent) : cells3 e ++ (((flat m ++ z).take 3 ++ ((flat m ++ z).take (m.length * 3) ++ (flat m ++ z).drop (3 + m.length * 3))).drop 3) = flat (e :: m) := by
  have hl : (flat m ++ z).length = m.length * 3 + 3 := by rw [List.length_append, flat_len, hz]
  have h3 : ((flat m ++ z).take 3).length = 3 := by rw [List.length_take, hl]; omega
  have e1 : (flat m ++ z).take (m.length * 3) = flat m := by
    rw [List.take_append_of_le_length (by rw [flat_len]; omega)]
    exact List.take_of_length_le (by rw [flat_len]; omega)
  have e2 : (flat m ++ z).drop (3 + m.length * 3) = [] := List.drop_of_length_le (by rw [hl]; omega)
  rw [e1, e2, List.drop_append_of_le_length (by omega), List.drop_of_length_le (by omega), flat_cons, List.append_nil]
  rfl
end Go.Proofs.Ybulkddgq
