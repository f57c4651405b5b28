/-
  New, Add and Get, each by what it makes of the list of items.
-/
import Derived.Test.YbulkddgqMAdd
namespace Go.Proofs.Ybulkddgq
open Go.RowKit Go.Maps

/-- What Get finds. -/
def look (k : Int) (m : List Ent) : Option Ent := m.find? (fun e => e.k == k)
def valOf (k : Int) (m : List Ent) : Int := match look k m with | some e => e.v | none => 0
def hasK (k : Int) (m : List Ent) : Bool := (look k m).isSome
/-- What Get makes of the list. -/
def touch (k : Int) (m : List Ent) : List Ent := match look k m with | some e => e :: strike k m | none => m

theorem look_none {k : Int} {m : List Ent} (h : k ∉ m.map (fun e => e.k)) : look k m = none := by
  refine List.find?_eq_none.2 fun e he c => h ?_
  have : e.k = k := by simpa using c
  exact this ▸ List.mem_map_of_mem (f := fun e : Ent => e.k) he

theorem look_some {a b : List Ent} {e : Ent} (h : ((a ++ e :: b).map (fun e => e.k)).Nodup) : look e.k (a ++ e :: b) = some e := by
  rw [List.map_append, List.map_cons] at h
  obtain ⟨_, _, h3⟩ := List.nodup_append.1 h
  have ha : e.k ∉ a.map (fun e => e.k) := fun c => h3 _ c e.k (by simp) rfl
  have e1 := look_none ha
  unfold look at e1 ⊢
  rw [List.find?_append, e1, List.find?_cons_of_pos (by simp)]
  rfl

/-- Where the key is kept, the list parts at it. -/
theorem part_at {k : Int} {L : List (Nat × Ent)} (h : k ∈ L.map (fun x => x.2.k)) : ∃ L1 bi en L2, L = L1 ++ (bi, en) :: L2 ∧ en.k = k := by
  obtain ⟨⟨bi, en⟩, hx, rfl⟩ := List.mem_map.1 h
  obtain ⟨L1, L2, e⟩ := List.append_of_mem hx
  exact ⟨L1, bi, en, L2, e, rfl⟩

theorem Lru.keys {F : Nat → Prop} {w : World} {B M : Nat} {bud st used : Int} {L : List (Nat × Ent)} (C : Lru F w B M bud st used L) : ((ents L).map (fun e => e.k)).Nodup := by
  obtain ⟨D, I⟩ := C.idx
  rw [ents_keys]; exact I.keys

theorem get_any {F : Nat → Prop} {w : World} {B M : Nat} {bud : Int} {L : List (Nat × Ent)} (C : Lru F w B M bud 0 (tot (ents L)) L) (k : Int) (hk : (Lit.int .i64 k).wf = true) :
    Calls Yba.prog 8 #[.pointer (some ⟨B, 0, none⟩), .int .i64 k] w fun e w' => e = .returned (.tuple #[.int .i64 (valOf k (ents L)), .bool (hasK k (ents L))]) ∧ ∃ L', Lru F w' B M bud 0 (tot (ents L')) L' ∧ ents L' = touch k (ents L) ∧ Keep F w w' := by
  have hkeys := C.keys
  by_cases h : k ∈ L.map (fun x => x.2.k)
  · obtain ⟨L1, bi, en, L2, rfl, rfl⟩ := part_at h
    rw [ents_append] at hkeys
    have e1 : look en.k (ents (L1 ++ (bi, en) :: L2)) = some en := by rw [ents_append]; exact look_some hkeys
    have e2 : strike en.k (ents (L1 ++ (bi, en) :: L2)) = ents (L1 ++ L2) := by rw [ents_append, ents_append]; exact strike_one hkeys
    refine (get_hit C hk).mono ?_
    rintro e w' ⟨rfl, C', hb⟩
    have et : tot (ents (L1 ++ (bi, en) :: L2)) = tot (ents ((bi, en) :: (L1 ++ L2))) := by
      have h1 : tot (ents ((bi, en) :: (L1 ++ L2))) = en.s + tot (ents (L1 ++ L2)) := tot_cons _ _
      have h2 : tot (ents ((bi, en) :: L2)) = en.s + tot (ents L2) := tot_cons _ _
      rw [h1, ents_append, ents_append, tot_append, tot_append, h2]
      omega
    rw [et] at C'
    refine ⟨by simp [valOf, hasK, e1], _, C', ?_, hb⟩
    simp only [touch, e1, e2]
    rfl
  · have e1 : look k (ents L) = none := look_none (by rw [ents_keys]; exact h)
    refine (get_miss C k hk h).mono ?_
    rintro e w' ⟨rfl, C', hb⟩
    exact ⟨by simp [valOf, hasK, e1], _, C', by simp [touch, e1], hb⟩

theorem add_any {F : Nat → Prop} {w : World} {B M : Nat} {bud : Int} {L : List (Nat × Ent)} (C : Lru F w B M bud 0 (tot (ents L)) L) (k v s : Int) (hk : (Lit.int .i64 k).wf = true)
    (hm : Mild (ents L)) (hs : 0 ≤ s) (hs' : s ≤ 100) (hbud : bud ≤ 100000) (hF : ∀ k, F k → k < w.heap.size) :
    Calls Yba.prog 6 #[.pointer (some ⟨B, 0, none⟩), .int .i64 k, .int .i64 v, .int .i64 s] w fun e w' => e = .returned (.tuple #[]) ∧ ∃ L', Lru F w' B M bud 0 (tot (ents L')) L' ∧ ents L' = addM bud (ents L) k v s ∧ Keep F w w' := by
  have hkeys := C.keys
  by_cases h : k ∈ L.map (fun x => x.2.k)
  · obtain ⟨L1, bi, en, L2, rfl, rfl⟩ := part_at h
    rw [ents_append] at hkeys
    have e2 : strike en.k (ents (L1 ++ (bi, en) :: L2)) = ents (L1 ++ L2) := by rw [ents_append, ents_append]; exact strike_one hkeys
    by_cases hf : s ≤ bud
    · refine (add_hit_fits C v s hk hf hm hs hs' hbud hF).mono ?_
      rintro e w' ⟨rfl, L', C', hL, hb⟩
      exact ⟨rfl, L', C', by rw [hL, addM, if_neg (by omega), e2], hb⟩
    · refine (add_hit_no C v s hk hm hf).mono ?_
      rintro e w' ⟨rfl, C', hb⟩
      exact ⟨rfl, _, C', by rw [addM, if_pos (by omega), e2], hb⟩
  · have e2 : strike k (ents L) = ents L := strike_none (by rw [ents_keys]; exact h)
    by_cases hf : s ≤ bud
    · refine (add_miss_fits C k v s hk h hf hm hs hs' hbud hF).mono ?_
      rintro e w' ⟨rfl, L', C', hL, hb⟩
      exact ⟨rfl, L', C', by rw [hL, addM, if_neg (by omega), e2], hb⟩
    · refine (add_miss_no C k v s hk h hf).mono ?_
      rintro e w' ⟨rfl, C', hb⟩
      exact ⟨rfl, _, C', by rw [addM, if_pos (by omega), e2], hb⟩

/-- The new cache's own cells. -/
def cacheCells (n : Nat) (bud : Int) : Array Value := #[.int .i64 bud, .int .i32 0, .int .u32 0, .int .i64 0, .int .i64 0, .int .i64 0, .int .i64 0, .pointer (some ⟨n + 1, 4, none⟩), .pointer (some ⟨n + 1, 4, none⟩), .map (some n)]

theorem lru_new (bud : Int) (w : World) : Lru (fun k => k < w.heap.size) (((w.alloc (.map #[] 0)).alloc (.cells (cacheCells w.heap.size bud) 46)).drew) (w.heap.size + 1) w.heap.size bud 0 (tot (ents [])) [] := by
  refine Lru.drew ?_
  have h0 := (MapKept.heap_alloc (w.alloc (.map #[] 0)) (.cells (cacheCells w.heap.size bud) 46)).1
  have hs : (w.alloc (.map #[] 0)).heap.size = w.heap.size + 1 := by simp
  rw [hs] at h0
  have hc : ∀ o, ((w.alloc (.map #[] 0)).alloc (.cells (cacheCells w.heap.size bud) 46)).cell? ⟨w.heap.size + 1, o, none⟩ = (cacheCells w.heap.size bud)[o]? := by
    intro o; unfold World.cell?; rw [h0]; rfl
  have hf : ∀ o, ((w.alloc (.map #[] 0)).alloc (.cells (cacheCells w.heap.size bud) 46)).frozen? ⟨w.heap.size + 1, o, none⟩ = false := by
    intro o; unfold World.frozen?; rw [h0]; simp
  refine ⟨⟨by omega, by omega, hc 0, hc 1, hc 3, hc 9, hf, ⟨_, _, h0⟩, by simp, ?_, by simp⟩, .map [], ?_⟩
  · refine ⟨?_, ?_⟩
    · unfold nxOf; rw [ro_self]; exact hc 8
    · unfold pvOf; rw [ro_self]; exact hc 7
  · have ho := (World.ownsMap_made w Yba.prog 3 ptrElem).alloc (.cells (cacheCells w.heap.size bud) 46)
    exact ⟨ho, fun k => by simp [Maps.has], by simp, by simp, rfl⟩

set_option maxHeartbeats 1000000 in
theorem new_any (bud : Int) (w : World) :
    Calls Yba.prog 5 #[.int .i64 bud] w fun e w' => e = .returned (.pointer (some ⟨w.heap.size + 1, 0, none⟩)) ∧ Lru (fun k => k < w.heap.size) w' (w.heap.size + 1) w.heap.size bud 0 (tot (ents [])) [] ∧ Below w.heap.size w w' := by
  have hmm := @run_makeMap Yba.prog
  go_enter Yba.func5, Yba.ntmps5
  go_wp2
  go_region
  go_wp2
  go_ret
  exact ⟨rfl, lru_new bud w, (((Below.refl _ _).alloc (Nat.le_refl _) _).alloc (by simp) _).drew⟩

/-- Which blocks are called foreign is the prover's choice, as long as the cache's own are not among them. -/
theorem Lru.re {F : Nat → Prop} {w : World} {B M : Nat} {bud st used : Int} {L : List (Nat × Ent)} (C : Lru F w B M bud st used L) (G : Nat → Prop) (hG : ∀ b ∈ B :: M :: L.map (·.1), ¬ G b) : Lru G w B M bud st used L := by
  have R := C.ring
  refine ⟨⟨hG B (by simp), hG M (by simp), R.c0, R.c1, R.c3, R.c9, R.fr, R.pl, fun x hx => ?_, R.seg, R.nd⟩, C.idx⟩
  have n := R.nodes x hx
  exact ⟨hG _ (List.mem_cons_of_mem _ (List.mem_cons_of_mem _ (List.mem_map_of_mem (f := fun x : Nat × Ent => x.1) hx))), n.c0, n.c1, n.c2, n.c3, n.c4, n.fr, n.pl⟩

theorem Lru.own {F : Nat → Prop} {w : World} {B M : Nat} {bud st used : Int} {L : List (Nat × Ent)} (C : Lru F w B M bud st used L) : ∀ b ∈ B :: M :: L.map (·.1), ¬ F b ∧ b < w.heap.size := by
  obtain ⟨D, I⟩ := C.idx
  have hb := C.ring.blocks
  intro b h
  rcases List.mem_cons.1 h with rfl | h
  · exact ⟨C.ring.hB, hb _ (by simp)⟩
  · rcases List.mem_cons.1 h with rfl | h
    · exact ⟨C.ring.hM, I.own.lt⟩
    · obtain ⟨x, hx, rfl⟩ := List.mem_map.1 h
      exact ⟨(C.ring.nodes x hx).lo, hb _ (List.mem_cons_of_mem _ h)⟩
end Go.Proofs.Ybulkddgq
