/-
  (*Cache).Add.
-/
import Derived.Test.YbulkddgqMGet
import Derived.Deep.LoopGhost
namespace Go.Proofs.Ybulkddgq
open Go.RowKit Go.Maps
open Go.MuLone

def ents (L : List (Nat × Ent)) : List Ent := L.map (fun x => x.2)
theorem ents_append (a b : List (Nat × Ent)) : ents (a ++ b) = ents a ++ ents b := by simp [ents]
theorem ents_keys (L : List (Nat × Ent)) : (ents L).map (fun e => e.k) = L.map (fun x => x.2.k) := by simp [ents]

/-- Bounds under which no sum wraps. -/
def Mild (m : List Ent) : Prop := m.length ≤ 2000 ∧ ∀ e ∈ m, 0 ≤ e.s ∧ e.s ≤ 100 ∧ (Lit.int .i64 e.k).wf = true

theorem tot_bounds : ∀ (m : List Ent), (∀ e ∈ m, 0 ≤ e.s ∧ e.s ≤ 100 ∧ (Lit.int .i64 e.k).wf = true) → 0 ≤ tot m ∧ tot m ≤ 100 * m.length
  | [], _ => by simp [tot_nil]
  | e :: m, h => by
    have h1 := tot_bounds m (fun x hx => h x (List.mem_cons_of_mem _ hx))
    have h2 := h e (by simp)
    rw [tot_cons, List.length_cons]
    omega

theorem Mild.tot {m : List Ent} (h : Mild m) : 0 ≤ Ybulkddgq.tot m ∧ Ybulkddgq.tot m ≤ 200000 := by
  have h1 := tot_bounds m h.2
  have h2 := h.1
  omega

theorem Mild.sub {m m' : List Ent} (h : Mild m) (s : m'.Sublist m) : Mild m' := ⟨Nat.le_trans s.length_le h.1, fun e he => h.2 e (s.subset he)⟩

set_option maxHeartbeats 400000 in
theorem fits_any (B : Nat) (bud s : Int) (w : World) (c0 : w.cell? ⟨B, 0, none⟩ = some (.int .i64 bud)) :
    Calls Yba.prog 12 #[.pointer (some ⟨B, 0, none⟩), .int .i64 s] w fun e w' => e = .returned (.bool (decide (s ≤ bud))) ∧ w = w' := by
  go_enter Yba.func12, Yba.ntmps12
  go_wp2
  all_goals
    go_ret
    simp_all

theorem Ring.blocks {F : Nat → Prop} {w : World} {B M : Nat} {bud st used : Int} {L : List (Nat × Ent)} (R : Ring F w B M bud st used L) : ∀ b ∈ B :: L.map (·.1), b < w.heap.size := by
  intro b hb
  rcases List.mem_cons.1 hb with rfl | hb
  · exact World.block_lt_of_cell? _ _ R.c0
  · obtain ⟨x, hx, rfl⟩ := List.mem_map.1 hb
    exact World.block_lt_of_cell? _ _ (R.nodes x hx).c0

theorem Lru.alloc {F : Nat → Prop} {w : World} {B M : Nat} {bud st used : Int} {L : List (Nat × Ent)} (C : Lru F w B M bud st used L) (o : Obj) : Lru F (w.alloc o) B M bud st used L := by
  obtain ⟨D, I⟩ := C.idx
  have hb := C.ring.blocks
  refine ⟨C.ring.kept (fun b o' h => ?_) (fun b o' h => ?_) (fun b h ⟨c, t, hc⟩ => ⟨c, t, (Below.heap_alloc w o b (hb b h)).trans hc⟩), D, I.kept (Below.heap_alloc w o M I.own.lt)⟩
  · exact World.cell?_of_block (w := w) (a := ⟨b, o', none⟩) (Below.heap_alloc w o b (hb b h))
  · exact World.frozen?_of_block (w := w) (a := ⟨b, o', none⟩) (Below.heap_alloc w o b (hb b h))

theorem Lru.drewN {F : Nat → Prop} {w : World} {B M : Nat} {bud st used : Int} {L : List (Nat × Ent)} (C : Lru F w B M bud st used L) (n : Nat) : Lru F (w.drewN n) B M bud st used L := by
  obtain ⟨D, I⟩ := C.idx
  exact ⟨C.ring.kept (fun _ _ _ => rfl) (fun _ _ _ => rfl) (fun _ _ h => h), D, I.kept rfl⟩
theorem Lru.drew {F : Nat → Prop} {w : World} {B M : Nat} {bud st used : Int} {L : List (Nat × Ent)} (C : Lru F w B M bud st used L) : Lru F w.drew B M bud st used L := C.drewN 1

theorem remove_lru {F : Nat → Prop} {w : World} {B M : Nat} {bud st : Int} {L1 L2 : List (Nat × Ent)} {bi : Nat} {en : Ent} (C : Lru F w B M bud st (tot (ents (L1 ++ (bi, en) :: L2))) (L1 ++ (bi, en) :: L2)) (hm : Mild (ents (L1 ++ (bi, en) :: L2))) :
    Calls Yba.prog 11 #[.pointer (some ⟨B, 0, none⟩), .pointer (some ⟨bi, 0, none⟩)] w fun e w' => e = .returned (.tuple #[]) ∧ Lru F w' B M bud st (tot (ents (L1 ++ L2))) (L1 ++ L2) ∧ Keep F w w' := by
  obtain ⟨D, I⟩ := C.idx
  have ht := hm.tot
  have he := hm.2 en (by simp [ents])
  refine (remove_ring C.ring I he.2.2 (by omega) (by omega)).mono ?_
  rintro e w' ⟨rfl, D', R', I', hb⟩
  refine ⟨rfl, ⟨?_, D', I'⟩, hb⟩
  have e1 : tot (ents (L1 ++ (bi, en) :: L2)) - en.s = tot (ents (L1 ++ L2)) := by
    rw [ents_append, ents_append, tot_append, tot_append]
    have : tot (ents ((bi, en) :: L2)) = en.s + tot (ents L2) := tot_cons _ _
    omega
  rw [← e1]; exact R'

/-- The block of a new item. -/
def itemObj (k v s : Int) : Obj := .cells #[.int .i64 k, .int .i64 v, .int .i64 s, .pointer none, .pointer none] 43

theorem node_new (F : Nat → Prop) (w : World) (k v s : Int) (h : ¬ F w.heap.size) : NodeAt F (w.alloc (itemObj k v s)) (w.heap.size, ⟨k, v, s⟩) := by
  have h0 := (MapKept.heap_alloc w (itemObj k v s)).1
  have hc : ∀ o, (w.alloc (itemObj k v s)).cell? ⟨w.heap.size, o, none⟩ = #[Value.int .i64 k, .int .i64 v, .int .i64 s, .pointer none, .pointer none][o]? := by
    intro o; unfold World.cell?; rw [h0]; rfl
  have hf : ∀ o, (w.alloc (itemObj k v s)).frozen? ⟨w.heap.size, o, none⟩ = false := by
    intro o; unfold World.frozen?; rw [h0]; simp [itemObj]
  exact ⟨h, hc 0, hc 1, hc 2, ⟨_, hc 3⟩, ⟨_, hc 4⟩, hf, _, _, h0⟩

theorem Lru.fresh {F : Nat → Prop} {w : World} {B M : Nat} {bud st used : Int} {L : List (Nat × Ent)} (C : Lru F w B M bud st used L) : w.heap.size ∉ B :: M :: L.map (·.1) := by
  obtain ⟨D, I⟩ := C.idx
  have hb := C.ring.blocks
  have hM := I.own.lt
  intro h
  rcases List.mem_cons.1 h with h | h
  · have := hb B (by simp); omega
  · rcases List.mem_cons.1 h with h | h
    · omega
    · have := hb _ (List.mem_cons_of_mem _ h); omega

set_option maxHeartbeats 1000000 in
theorem add_miss_no {F : Nat → Prop} {w : World} {B M : Nat} {bud : Int} {L : List (Nat × Ent)} (C : Lru F w B M bud 0 (tot (ents L)) L) (k v s : Int) (hk : (Lit.int .i64 k).wf = true) (hno : k ∉ L.map (fun x => x.2.k)) (hfit : ¬ s ≤ bud) :
    Calls Yba.prog 6 #[.pointer (some ⟨B, 0, none⟩), .int .i64 k, .int .i64 v, .int .i64 s] w fun e w' => e = .returned (.tuple #[]) ∧ Lru F w' B M bud 0 (tot (ents L)) L ∧ Keep F w w' := by
  have C1 := C.lock 1
  have c1 := C.ring.c1
  have f1 := C.ring.fr 1
  have c9 := C1.ring.c9
  have c0 := C1.ring.c0
  have hd : decide (s ≤ bud) = false := by simp; omega
  obtain ⟨D, I⟩ := C1.idx
  have hown := I.own
  have hhas : Maps.has D (.int .i64 k) = false := by
    cases e : Maps.has D (.int .i64 k)
    · rfl
    · exact absurd ((I.has _).1 e) hno
  go_enter_defers Yba.func6, Yba.ntmps6
  go_wp2_with (first
    | (go_at_call 9; refine (lock_free Yba.muLib ⟨B, 1, none⟩ _ c1 f1).mono ?_; rintro e w' ⟨rfl, rfl⟩)
    | (at_lookup; refine wpList_lookup_miss rfl _ _ rfl M _ D rfl hown k rfl hk hhas ?_)
    | (go_at_call 12; refine (fits_any B bud s _ c0).mono ?_; rw [hd]; rintro e w' ⟨rfl, rfl⟩))
  refine leaves_cons (f := 10) (args := #[.pointer (some ⟨B, 1, none⟩)]) (by simp) (by simp [go_sem]) ?_
  refine (unlock_deferred Yba.muLib ⟨B, 1, none⟩ .returning _ C1.ring.c1 (C1.ring.fr 1)).mono ?_
  rintro e u' w'' ⟨rfl, rfl, rfl⟩
  exact ⟨_, results_none rfl _ _ _, rfl, C1.lock 0, ((Keep.refl _ _).setCell C.ring.hB _).setCell C.ring.hB _⟩

set_option maxHeartbeats 1000000 in
theorem add_hit_no {F : Nat → Prop} {w : World} {B M : Nat} {bud : Int} {L1 L2 : List (Nat × Ent)} {bi : Nat} {en : Ent} (C : Lru F w B M bud 0 (tot (ents (L1 ++ (bi, en) :: L2))) (L1 ++ (bi, en) :: L2)) (v s : Int) (hk : (Lit.int .i64 en.k).wf = true) (hm : Mild (ents (L1 ++ (bi, en) :: L2))) (hfit : ¬ s ≤ bud) :
    Calls Yba.prog 6 #[.pointer (some ⟨B, 0, none⟩), .int .i64 en.k, .int .i64 v, .int .i64 s] w fun e w' => e = .returned (.tuple #[]) ∧ Lru F w' B M bud 0 (tot (ents (L1 ++ L2))) (L1 ++ L2) ∧ Keep F w w' := by
  have C1 := C.lock 1
  have c1 := C.ring.c1
  have f1 := C.ring.fr 1
  have c9 := C1.ring.c9
  have c0 := C1.ring.c0
  have hd : decide (s ≤ bud) = false := by simp; omega
  obtain ⟨D, I⟩ := C1.idx
  have hown := I.own
  have hhas := (I.has en.k).2 (by simp)
  have hat : at_ D en.k = .lit (.int .i64 bi) := I.at' (bi, en) (by simp)
  have hrm := remove_lru C1 hm
  go_enter_defers Yba.func6, Yba.ntmps6
  go_wp2_with (first
    | (go_at_call 9; refine (lock_free Yba.muLib ⟨B, 1, none⟩ _ c1 f1).mono ?_; rintro e w' ⟨rfl, rfl⟩)
    | (at_lookup; refine wpList_lookup_hit rfl _ _ rfl M _ D rfl hown en.k rfl hk bi hhas hat ?_)
    | (go_at_call 11; refine hrm.mono ?_; rintro e w1 ⟨rfl, C2, b1⟩; have d0 := C2.ring.c0)
    | (go_at_call 12; refine (fits_any B bud s _ d0).mono ?_; rw [hd]; rintro e w' ⟨rfl, rfl⟩))
  refine leaves_cons (f := 10) (args := #[.pointer (some ⟨B, 1, none⟩)]) (by simp) (by simp [go_sem]) ?_
  refine (unlock_deferred Yba.muLib ⟨B, 1, none⟩ .returning _ C2.ring.c1 (C2.ring.fr 1)).mono ?_
  rintro e u' w'' ⟨rfl, rfl, rfl⟩
  exact ⟨_, results_none rfl _ _ _, rfl, C2.lock 0, (((Keep.refl _ _).setCell C.ring.hB _).trans b1).setCell C.ring.hB _⟩

set_option maxHeartbeats 1600000 in
theorem add_miss_fits {F : Nat → Prop} {w : World} {B M : Nat} {bud : Int} {L : List (Nat × Ent)} (C : Lru F w B M bud 0 (tot (ents L)) L) (k v s : Int) (hk : (Lit.int .i64 k).wf = true) (hno : k ∉ L.map (fun x => x.2.k)) (hfit : s ≤ bud)
    (hm : Mild (ents L)) (hs : 0 ≤ s) (hs' : s ≤ 100) (hbud : bud ≤ 100000) (hF : ∀ k, F k → k < w.heap.size) :
    Calls Yba.prog 6 #[.pointer (some ⟨B, 0, none⟩), .int .i64 k, .int .i64 v, .int .i64 s] w fun e w' => e = .returned (.tuple #[]) ∧ ∃ L', Lru F w' B M bud 0 (tot (ents L')) L' ∧ ents L' = ⟨k, v, s⟩ :: trim (bud - s) (ents L) ∧ Keep F w w' := by
  have C1 := C.lock 1
  have c1 := C.ring.c1
  have f1 := C.ring.fr 1
  have c9 := C1.ring.c9
  have c0 := C1.ring.c0
  have bel1 : Keep F w (w.setCell ⟨B, 1, none⟩ (.int .i32 1)) := (Keep.refl _ _).setCell C.ring.hB _
  have hd : decide (s ≤ bud) = true := by simp; omega
  have hbud0 : 0 ≤ bud := by omega
  have hlook : ∃ n D, (w.setCell ⟨B, 1, none⟩ (.int .i32 1)).ownsMap Yba.prog 3 ptrElem M n D ∧ Maps.has D (.int .i64 k) = false := by
    obtain ⟨D, I⟩ := C1.idx
    refine ⟨_, D, I.own, ?_⟩
    cases e : Maps.has D (.int .i64 k)
    · rfl
    · exact absurd ((I.has _).1 e) hno
  obtain ⟨n, D, hown, hhas⟩ := hlook
  go_enter_defers Yba.func6, Yba.ntmps6
  go_wp2_with (first
    | (go_at_call 9; refine (lock_free Yba.muLib ⟨B, 1, none⟩ _ c1 f1).mono ?_; rintro e w' ⟨rfl, rfl⟩)
    | (at_lookup; refine wpList_lookup_miss rfl _ _ rfl M _ D rfl hown k rfl hk hhas ?_)
    | (go_at_call 12; refine (fits_any B bud s _ c0).mono ?_; rw [hd]; rintro e w' ⟨rfl, rfl⟩))
  have hatStart : ∃ L', L.length = L'.length ∧ Lru F (w.setCell ⟨B, 1, none⟩ (.int .i32 1)) B M bud 1 (tot (ents L')) L' ∧ Keep F w (w.setCell ⟨B, 1, none⟩ (.int .i32 1)) ∧ Aside (trim (bud - s) (ents L') = trim (bud - s) (ents L)) ∧ Mild (ents L') ∧ k ∉ L'.map (fun x => x.2.k) :=
    ⟨L, rfl, C1, bel1, rfl, hm, hno⟩
  clear hown hhas c9 c0 c1 f1 bel1 hm hno C1 C hd
  go_loopg [34] L.length (fun g _ wr => ∃ L', g = L'.length ∧ Lru F wr B M bud 1 (tot (ents L')) L' ∧ Keep F w wr ∧ Aside (trim (bud - s) (ents L') = trim (bud - s) (ents L)) ∧ Mild (ents L') ∧ k ∉ L'.map (fun x => x.2.k))
  case atStart => exact hatStart
  case round =>
    clear hatStart
    obtain ⟨L', hg, C, bel, htrim, hm, hno⟩ := hrel
    have HG : Hid (gk = L'.length) := hg
    clear hg
    have c0 := C.ring.c0
    have c3 := C.ring.c3
    obtain ⟨u, hu⟩ : ∃ u, u = tot (ents L') := ⟨_, rfl⟩
    have ht := hm.tot
    rw [← hu] at c3 ht
    have HU : Hid (u = tot (ents L')) := hu
    clear hu
    obtain ⟨ht1, ht2⟩ := ht
    by_cases hc : bud < u + s
    · rcases List.eq_nil_or_concat L' with hL | ⟨L0, x, hL⟩
      · exact absurd (HU.out.trans (by rw [hL]; rfl) : u = 0) (by omega)
      · subst hL
        obtain ⟨bi, en⟩ := x
        have hrm := remove_lru (L1 := L0) (L2 := []) (by simpa using C.drew) (by simpa using hm)
        have c7 : wr.cell? ⟨B, 7, none⟩ = some (.pointer (some ⟨bi, 0, none⟩)) := by
          have h1 := C.ring.seg
          have h2 := C.ring.ne.2.2 (bi, en) (by simp)
          rw [List.concat_eq_append, List.map_append] at h1
          have h3 := (seg_last h1).2
          unfold pvOf at h3
          rw [ro_self, ro_other h2] at h3
          exact h3
        have hkeep : Aside (trim (bud - s) (ents (L0 ++ [])) = trim (bud - s) (ents L)) ∧ Mild (ents (L0 ++ [])) ∧ k ∉ (L0 ++ []).map (fun x : Nat × Ent => x.2.k) := by
          have hs1 : ents (L0.concat (bi, en)) = ents L0 ++ [en] := by simp [ents]
          have hu := HU.out
          refine ⟨?_, ?_, ?_⟩
          · have h1 := htrim.out
            rw [hs1, trim_drop (by rw [← hs1]; omega)] at h1
            rw [List.append_nil]; exact h1
          · rw [List.append_nil]; refine hm.sub ?_; rw [hs1]; simp
          · rw [List.append_nil]; intro h; exact hno (by rw [List.concat_eq_append, List.map_append]; exact List.mem_append_left _ h)
        have hlen : Hid (L0.length < gk) := by have := HG.out; simp at this; show _ < _; omega
        clear HG HU htrim hm hno C
        go_wp2
        go_region
        go_wp2_with (go_at_call 11; refine hrm.mono ?_; rintro e w1 ⟨rfl, C1, b1⟩)
        go_roundg (L0 ++ []).length
        case measure => have := hlen.out; simpa using this
        case rel => exact ⟨L0 ++ [], rfl, C1, bel.drew.trans b1, hkeep⟩
    · have htr : Hid (trim (bud - s) (ents L) = ents L') := by
        have h1 := htrim.out
        rw [trim_fits (by have := HU.out; omega)] at h1
        exact h1.symm
      have Cn := (C.alloc (itemObj k v s)).drew
      have hfr := C.fresh
      have hpush := pushFront_ring Cn.ring ((node_new F wr k v s (bel.low hF)).kept rfl rfl rfl) hfr
      have bel2 : Keep F w (wr.alloc (itemObj k v s)).drew := (bel.alloc hF _).drew
      have hBM := C.ring.ne.1
      have hlo := C.ring.hB
      have hloM := C.ring.hM
      unfold itemObj at hpush
      obtain ⟨D', I'⟩ := Cn.idx
      have hlt : L'.length < maxLen := by have := hm.1; simp [ents] at this; unfold maxLen; omega
      have hkey := keyOf_int_mk Yba.underlying3 hk
      clear HG htrim
      go_wp2
      go_region
      go_wp2_with (first
        | (go_at_call 13; refine hpush.mono ?_; rintro e w2 ⟨rfl, R2, S2⟩; have c9 := R2.c9; have own2 := (I'.kept S2.map).own)
        | (at_mapUpdate; refine wpList_mapUpdate_in _ rfl _ _ _ 44 rfl 3 41 law3 Yba.underlying44 ptrElem M _ D' rfl own2 hlt _ _ _ rfl rfl hkey _ [] (ptrElem_mk _) ?_; intro w3 own3 turn3; have R3 := R2.turned turn3; have d3 : w3.cell? ⟨B, 3, none⟩ = some (.int .i64 u) := (by rw [HU.out]; exact R3.c3); have f3 := R3.fr 3))
      have R4 := R3.setUsed (u + s)
      have I4 := (I'.put (x := (wr.heap.size, ⟨k, v, s⟩)) hno own3).kept (Below.heap_setCell w3 ⟨B, 3, none⟩ (.int .i64 (u + s)) M hBM.symm)
      refine leaves_cons (f := 10) (args := #[.pointer (some ⟨B, 1, none⟩)]) (by simp) (by simp [go_sem]) ?_
      refine (unlock_deferred Yba.muLib ⟨B, 1, none⟩ .returning _ R4.c1 (R4.fr 1)).mono ?_
      rintro e u' w'' ⟨rfl, rfl, rfl⟩
      have et : u + s = tot (ents ((wr.heap.size, ⟨k, v, s⟩) :: L')) := by
        have : tot (ents ((wr.heap.size, ⟨k, v, s⟩) :: L')) = s + tot (ents L') := tot_cons _ _
        have := HU.out
        omega
      refine ⟨_, results_none rfl _ _ _, rfl, (wr.heap.size, ⟨k, v, s⟩) :: L', ?_, ?_, ?_⟩
      · rw [← et]; exact Lru.lock ⟨R4, _, I4⟩ 0
      · rw [htr.out]; rfl
      · exact ((below_turned (bel2.trans S2.below) hloM turn3).setCell hlo _).setCell hlo _

set_option maxHeartbeats 1600000 in
theorem add_hit_fits {F : Nat → Prop} {w : World} {B M : Nat} {bud : Int} {L1 L2 : List (Nat × Ent)} {bi : Nat} {en : Ent} (C : Lru F w B M bud 0 (tot (ents (L1 ++ (bi, en) :: L2))) (L1 ++ (bi, en) :: L2)) (v s : Int) (hk : (Lit.int .i64 en.k).wf = true) (hfit : s ≤ bud)
    (hm : Mild (ents (L1 ++ (bi, en) :: L2))) (hs : 0 ≤ s) (hs' : s ≤ 100) (hbud : bud ≤ 100000) (hF : ∀ k, F k → k < w.heap.size) :
    Calls Yba.prog 6 #[.pointer (some ⟨B, 0, none⟩), .int .i64 en.k, .int .i64 v, .int .i64 s] w fun e w' => e = .returned (.tuple #[]) ∧ ∃ L', Lru F w' B M bud 0 (tot (ents L')) L' ∧ ents L' = ⟨en.k, v, s⟩ :: trim (bud - s) (ents (L1 ++ L2)) ∧ Keep F w w' := by
  have C1 := C.lock 1
  have c1 := C.ring.c1
  have f1 := C.ring.fr 1
  have c9 := C1.ring.c9
  have c0 := C1.ring.c0
  have bel1 : Keep F w (w.setCell ⟨B, 1, none⟩ (.int .i32 1)) := (Keep.refl _ _).setCell C.ring.hB _
  have hd : decide (s ≤ bud) = true := by simp; omega
  have hbud0 : 0 ≤ bud := by omega
  have hlook : ∃ n D, (w.setCell ⟨B, 1, none⟩ (.int .i32 1)).ownsMap Yba.prog 3 ptrElem M n D ∧ Maps.has D (.int .i64 en.k) = true ∧ at_ D en.k = .lit (.int .i64 bi) := by
    obtain ⟨D, I⟩ := C1.idx
    exact ⟨_, D, I.own, (I.has en.k).2 (by simp), I.at' (bi, en) (by simp)⟩
  have hno : en.k ∉ (L1 ++ L2).map (fun x : Nat × Ent => x.2.k) := by
    obtain ⟨D, I⟩ := C1.idx
    exact (List.nodup_cons.1 (I.perm (L' := (bi, en) :: (L1 ++ L2)) List.perm_middle).keys).1
  have hm1 : Mild (ents (L1 ++ L2)) := hm.sub (by rw [ents_append, ents_append]; exact List.Sublist.append (List.Sublist.refl _) (List.sublist_cons_self _ _))
  have hrm0 := remove_lru C1 hm
  obtain ⟨ek, ev, es⟩ := en
  obtain ⟨k, rfl⟩ : ∃ k, k = ek := ⟨_, rfl⟩
  obtain ⟨n, D, hown, hhas, hat⟩ := hlook
  obtain ⟨L, hL⟩ : ∃ L, L = L1 ++ L2 := ⟨_, rfl⟩
  rw [← hL] at hno hm1 hrm0 ⊢
  clear hL C hm
  go_enter_defers Yba.func6, Yba.ntmps6
  go_wp2_with (first
    | (go_at_call 9; refine (lock_free Yba.muLib ⟨B, 1, none⟩ _ c1 f1).mono ?_; rintro e w' ⟨rfl, rfl⟩)
    | (at_lookup; refine wpList_lookup_hit rfl _ _ rfl M _ D rfl hown k rfl hk bi hhas hat ?_)
    | (go_at_call 11; refine hrm0.mono ?_; rintro e w1 ⟨rfl, C2, b1⟩; have d0 := C2.ring.c0)
    | (go_at_call 12; refine (fits_any B bud s _ d0).mono ?_; rw [hd]; rintro e w' ⟨rfl, rfl⟩))
  have hatStart : ∃ L', L.length = L'.length ∧ Lru F w1 B M bud 1 (tot (ents L')) L' ∧ Keep F w w1 ∧ Aside (trim (bud - s) (ents L') = trim (bud - s) (ents L)) ∧ Mild (ents L') ∧ k ∉ L'.map (fun x => x.2.k) :=
    ⟨L, rfl, C2, bel1.trans b1, rfl, hm1, hno⟩
  clear hown hhas hat c9 c0 c1 f1 bel1 hm1 hno C1 hd b1 C2 d0
  go_loopg [34] L.length (fun g _ wr => ∃ L', g = L'.length ∧ Lru F wr B M bud 1 (tot (ents L')) L' ∧ Keep F w wr ∧ Aside (trim (bud - s) (ents L') = trim (bud - s) (ents L)) ∧ Mild (ents L') ∧ k ∉ L'.map (fun x => x.2.k))
  case atStart => exact hatStart
  case round =>
    clear hatStart
    obtain ⟨L', hg, C, bel, htrim, hm, hno⟩ := hrel
    have HG : Hid (gk = L'.length) := hg
    clear hg
    have c0 := C.ring.c0
    have c3 := C.ring.c3
    obtain ⟨u, hu⟩ : ∃ u, u = tot (ents L') := ⟨_, rfl⟩
    have ht := hm.tot
    rw [← hu] at c3 ht
    have HU : Hid (u = tot (ents L')) := hu
    clear hu
    obtain ⟨ht1, ht2⟩ := ht
    by_cases hc : bud < u + s
    · rcases List.eq_nil_or_concat L' with hL | ⟨L0, x, hL⟩
      · exact absurd (HU.out.trans (by rw [hL]; rfl) : u = 0) (by omega)
      · subst hL
        obtain ⟨bi, en⟩ := x
        have hrm := remove_lru (L1 := L0) (L2 := []) (by simpa using C.drew) (by simpa using hm)
        have c7 : wr.cell? ⟨B, 7, none⟩ = some (.pointer (some ⟨bi, 0, none⟩)) := by
          have h1 := C.ring.seg
          have h2 := C.ring.ne.2.2 (bi, en) (by simp)
          rw [List.concat_eq_append, List.map_append] at h1
          have h3 := (seg_last h1).2
          unfold pvOf at h3
          rw [ro_self, ro_other h2] at h3
          exact h3
        have hkeep : Aside (trim (bud - s) (ents (L0 ++ [])) = trim (bud - s) (ents L)) ∧ Mild (ents (L0 ++ [])) ∧ k ∉ (L0 ++ []).map (fun x : Nat × Ent => x.2.k) := by
          have hs1 : ents (L0.concat (bi, en)) = ents L0 ++ [en] := by simp [ents]
          have hu := HU.out
          refine ⟨?_, ?_, ?_⟩
          · have h1 := htrim.out
            rw [hs1, trim_drop (by rw [← hs1]; omega)] at h1
            rw [List.append_nil]; exact h1
          · rw [List.append_nil]; refine hm.sub ?_; rw [hs1]; simp
          · rw [List.append_nil]; intro h; exact hno (by rw [List.concat_eq_append, List.map_append]; exact List.mem_append_left _ h)
        have hlen : Hid (L0.length < gk) := by have := HG.out; simp at this; show _ < _; omega
        clear HG HU htrim hm hno C
        go_wp2
        go_region
        go_wp2_with (go_at_call 11; refine hrm.mono ?_; rintro e w1 ⟨rfl, C1, b1⟩)
        go_roundg (L0 ++ []).length
        case measure => have := hlen.out; simpa using this
        case rel => exact ⟨L0 ++ [], rfl, C1, bel.drew.trans b1, hkeep⟩
    · have htr : Hid (trim (bud - s) (ents L) = ents L') := by
        have h1 := htrim.out
        rw [trim_fits (by have := HU.out; omega)] at h1
        exact h1.symm
      have Cn := (C.alloc (itemObj k v s)).drew
      have hfr := C.fresh
      have hpush := pushFront_ring Cn.ring ((node_new F wr k v s (bel.low hF)).kept rfl rfl rfl) hfr
      have bel2 : Keep F w (wr.alloc (itemObj k v s)).drew := (bel.alloc hF _).drew
      have hBM := C.ring.ne.1
      have hlo := C.ring.hB
      have hloM := C.ring.hM
      unfold itemObj at hpush
      obtain ⟨D', I'⟩ := Cn.idx
      have hlt : L'.length < maxLen := by have := hm.1; simp [ents] at this; unfold maxLen; omega
      have hkey := keyOf_int_mk Yba.underlying3 hk
      clear HG htrim
      go_wp2
      go_region
      go_wp2_with (first
        | (go_at_call 13; refine hpush.mono ?_; rintro e w2 ⟨rfl, R2, S2⟩; have c9 := R2.c9; have own2 := (I'.kept S2.map).own)
        | (at_mapUpdate; refine wpList_mapUpdate_in _ rfl _ _ _ 44 rfl 3 41 law3 Yba.underlying44 ptrElem M _ D' rfl own2 hlt _ _ _ rfl rfl hkey _ [] (ptrElem_mk _) ?_; intro w3 own3 turn3; have R3 := R2.turned turn3; have d3 : w3.cell? ⟨B, 3, none⟩ = some (.int .i64 u) := (by rw [HU.out]; exact R3.c3); have f3 := R3.fr 3))
      have R4 := R3.setUsed (u + s)
      have I4 := (I'.put (x := (wr.heap.size, ⟨k, v, s⟩)) hno own3).kept (Below.heap_setCell w3 ⟨B, 3, none⟩ (.int .i64 (u + s)) M hBM.symm)
      refine leaves_cons (f := 10) (args := #[.pointer (some ⟨B, 1, none⟩)]) (by simp) (by simp [go_sem]) ?_
      refine (unlock_deferred Yba.muLib ⟨B, 1, none⟩ .returning _ R4.c1 (R4.fr 1)).mono ?_
      rintro e u' w'' ⟨rfl, rfl, rfl⟩
      have et : u + s = tot (ents ((wr.heap.size, ⟨k, v, s⟩) :: L')) := by
        have : tot (ents ((wr.heap.size, ⟨k, v, s⟩) :: L')) = s + tot (ents L') := tot_cons _ _
        have := HU.out
        omega
      refine ⟨_, results_none rfl _ _ _, rfl, (wr.heap.size, ⟨k, v, s⟩) :: L', ?_, ?_, ?_⟩
      · rw [← et]; exact Lru.lock ⟨R4, _, I4⟩ 0
      · rw [htr.out]; rfl
      · exact ((below_turned (bel2.trans S2.below) hloM turn3).setCell hlo _).setCell hlo _

end Go.Proofs.Ybulkddgq
