/-
  THE LAW's OWN SLICE OF ENTRIES, in memory of the call's own: three cells an entry. What striking one, shifting, storing at the head make of it.
-/
import Derived.Test.YbulkddgqMApi
import Derived.Deep.AppendLies
namespace Go.Proofs.Ybulkddgq
open Go.RowKit Go.Maps

def cells3 (e : Ent) : List Value := [.int .i64 e.k, .int .i64 e.v, .int .i64 e.s]
def flat (m : List Ent) : List Value := m.flatMap cells3
theorem flat_nil : flat [] = [] := rfl
theorem flat_cons (e : Ent) (m : List Ent) : flat (e :: m) = cells3 e ++ flat m := by simp [flat]
theorem flat_append (a b : List Ent) : flat (a ++ b) = flat a ++ flat b := by simp [flat]
theorem flat_len : ∀ m : List Ent, (flat m).length = m.length * 3
  | [] => rfl
  | e :: m => by rw [flat_cons, List.length_append, flat_len m, List.length_cons]; simp [cells3]; omega
theorem flat_oneCell : ∀ m : List Ent, ∀ u ∈ flat m, u.oneCell' = true
  | [], u, h => by simp [flat] at h
  | e :: m, u, h => by
    rw [flat_cons, List.mem_append] at h
    rcases h with h | h
    · simp [cells3] at h; rcases h with rfl | rfl | rfl <;> rfl
    · exact flat_oneCell m u h
/-- Entry number i's cells. -/
theorem flat_at (a b : List Ent) (e : Ent) (f : Nat) (hf : f < 3) : (flat (a ++ e :: b))[a.length * 3 + f]? = (cells3 e)[f]? := by
  rw [flat_append, flat_cons, List.getElem?_append_right (by rw [flat_len]; omega), flat_len, List.getElem?_append_left (by simp [cells3]; omega)]
  congr 1; omega

/-- The slice owns its entries. -/
abbrev Sl (w : World) (N g n cap : Nat) (xs : List Value) : Prop := w.ownsRow N 31 3 (.slice (some ⟨g, 0, none⟩) n cap) n xs

theorem Sl.row {w : World} {N g n cap : Nat} {xs : List Value} (h : Sl w N g n cap xs) : ∃ cur : Array Value, w.heap[g]? = some (.cells cur 31 (0, 0)) ∧ N ≤ g ∧ n ≤ cap ∧ cap ≤ maxLen ∧ cur.size = cap * 3 ∧ cur.toList.take (n * 3) = xs ∧ xs.length = n * 3 := by
  rcases h.2 with ⟨h', _⟩ | ⟨g', cap', cur, h', hb, hg, hnc, hcm, hcs, htake⟩
  · simp at h'
  · simp only [Value.slice.injEq, Option.some.injEq, Addr.mk.injEq, and_true, true_and] at h'
    obtain ⟨rfl, rfl⟩ := h'
    exact ⟨cur, hg, hb, hnc, hcm, hcs, htake, h.1⟩

theorem Sl.mk {w : World} {N g n cap : Nat} {xs : List Value} {cur : Array Value} (hg : w.heap[g]? = some (.cells cur 31 (0, 0))) (hb : N ≤ g) (hnc : n ≤ cap) (hcm : cap ≤ maxLen) (hcs : cur.size = cap * 3) (ht : cur.toList.take (n * 3) = xs) : Sl w N g n cap xs := by
  refine ⟨?_, .inr ⟨g, cap, cur, rfl, hb, hg, hnc, hcm, hcs, ht⟩⟩
  rw [← ht, List.length_take, Array.length_toList, hcs]
  have : n * 3 ≤ cap * 3 := Nat.mul_le_mul_right 3 hnc
  omega

theorem Sl.heap {w w' : World} {N g n cap : Nat} {xs : List Value} (h : Sl w N g n cap xs) (e : w'.heap[g]? = w.heap[g]?) : Sl w' N g n cap xs := by
  obtain ⟨cur, hg, hb, hnc, hcm, hcs, ht, _⟩ := h.row
  exact Sl.mk (e.trans hg) hb hnc hcm hcs ht

/-- Cut at a smaller length. -/
theorem Sl.cut {w : World} {N g n cap : Nat} {xs : List Value} (h : Sl w N g n cap xs) {p : Nat} (hp : p ≤ n) : Sl w N g p cap (xs.take (p * 3)) := by
  obtain ⟨cur, hg, hb, hnc, hcm, hcs, ht, _⟩ := h.row
  refine Sl.mk hg hb (Nat.le_trans hp hnc) hcm hcs ?_
  rw [← ht, List.take_take, Nat.min_eq_left (Nat.mul_le_mul_right 3 hp)]

/-- 'append(m[:j], m[j+1:]...)', m holding a, then e, then b. -/
theorem run_strike {w : World} {N g n cap : Nat} {a b : List Ent} {e : Ent} (h : Sl w N g n cap (flat (a ++ e :: b))) (hn : n = a.length + b.length + 1) (ty : TypeId) (ad : Addr) (c : Nat) (had : b ≠ [] → ad = ⟨g, (a.length + 1) * 3, none⟩) :
    ∃ w', (Builtin.append_ #[25, 25] ty #[.slice (some ⟨g, 0, none⟩) a.length cap, .slice (some ad) b.length c]).run Yba.prog w = .ok (.slice (some ⟨g, 0, none⟩) (a.length + b.length) cap) w' ∧
      Sl w' N g (a.length + b.length) cap (flat (a ++ b)) ∧ w.grownBy w' (some g) := by
  obtain ⟨cur, hg, hb, hnc, hcm, hcs, ht, hlen⟩ := h.row
  obtain ⟨i, hi, hz0, hz1, hz2⟩ : ∃ i, Yba.prog.info? 31 = some i ∧ i.zero = some (.agg #[.int .i64 0, .int .i64 0, .int .i64 0]) ∧ i.size = 3 ∧ i.bytes = 24 := info_parts (P := Yba.prog) (e := 31) (by kernel_rfl)
  have hcell : ∀ q, q < n * 3 → w.cell? ⟨g, q, none⟩ = (flat (a ++ e :: b))[q]? := fun q hq => World.ownsRow.cellAt h q hq
  have hnews : ∀ j u, (flat b)[j]? = some u → w.cell? (ad.add j) = some u := by
    intro j u hu
    have hj : j < (flat b).length := by
      rcases Nat.lt_or_ge j (flat b).length with h | h
      · exact h
      · rw [List.getElem?_eq_none h] at hu; cases hu
    have hbn : b ≠ [] := by rintro rfl; simp [flat] at hj
    rw [had hbn]
    have hadd : (⟨g, (a.length + 1) * 3, none⟩ : Addr).add j = ⟨g, (a.length + 1) * 3 + j, none⟩ := by unfold Addr.add; split <;> simp_all
    rw [flat_len] at hj
    rw [hadd, hcell _ (by omega), flat_append, flat_cons, List.getElem?_append_right (by rw [flat_len]; omega), flat_len, List.getElem?_append_right (by simp [cells3]; omega)]
    rw [← hu]; congr 1; simp [cells3]; omega
  have hrun := run_append_room (P := Yba.prog) w 25 ty 31 i Yba.underlying25 hi g a.length cap cur hg ad b.length c (flat b) (by rw [flat_len, hz1]) hnews (flat_oneCell b) (by omega) (by rw [flat_len, hz1, hcs]; omega)
  refine ⟨_, hrun, ?_, ⟨rfl, rfl, rfl, by simp [World.setRow], fun k _ hk => setRow_other w g k _ (fun c => hk (by rw [c]))⟩⟩
  rw [hz1]
  refine Sl.mk (setRow_heap w g cur _ 31 (0, 0) hg) hb (by omega) hcm ?_ ?_
  · have hl := congrArg List.length ht
    rw [List.length_take, Array.length_toList] at hl
    simp only [List.size_toArray, List.length_append, List.length_take, List.length_drop, Array.length_toList, flat_len]
    omega
  · have e1 : cur.toList.take (a.length * 3) = flat a := by
      have e0 : cur.toList.take (a.length * 3) = (cur.toList.take (n * 3)).take (a.length * 3) := by rw [List.take_take, Nat.min_eq_left (by omega)]
      rw [e0, ht, flat_append, List.take_append_of_le_length (by rw [flat_len]; omega)]
      exact List.take_of_length_le (by rw [flat_len]; omega)
    rw [e1]
    simp only [List.append_assoc]
    rw [← List.append_assoc, List.take_append_of_le_length (by rw [List.length_append, flat_len, flat_len]; omega), List.take_of_length_le (by rw [List.length_append, flat_len, flat_len]; omega), flat_append]

/-- 'copy(m[1:..], m[..:p])': p entries go over, one place up. -/
theorem run_shift {w : World} {N g n cap : Nat} {xs : List Value} (h : Sl w N g n cap xs) (h1 : ∀ u ∈ xs, u.oneCell' = true) (p : Nat) (hp : p + 1 ≤ n) (ty : TypeId) (dp : Addr) (dc sc : Nat) (hdp : 0 < p → dp = ⟨g, 3, none⟩) :
    ∃ w', (Builtin.copy_ #[25, 25] ty #[.slice (some dp) p dc, .slice (some ⟨g, 0, none⟩) p sc]).run Yba.prog w = .ok (goInt p) w' ∧
      Sl w' N g n cap (xs.take 3 ++ (xs.take (p * 3) ++ xs.drop (3 + p * 3))) ∧ w.grownBy w' (some g) := by
  obtain ⟨cur, hg, hb, hnc, hcm, hcs, ht, hlen⟩ := h.row
  obtain ⟨i, hi, hz0, hz1, hz2⟩ : ∃ i, Yba.prog.info? 31 = some i ∧ i.zero = some (.agg #[.int .i64 0, .int .i64 0, .int .i64 0]) ∧ i.size = 3 ∧ i.bytes = 24 := info_parts (P := Yba.prog) (e := 31) (by kernel_rfl)
  have hcell : ∀ q, q < n * 3 → w.cell? ⟨g, q, none⟩ = xs[q]? := fun q hq => World.ownsRow.cellAt h q hq
  have hsrc : ∀ j v, (xs.take (p * 3))[j]? = some v → w.cell? ((⟨g, 0, none⟩ : Addr).add j) = some v := by
    intro j v hv
    rw [List.getElem?_take] at hv
    split at hv
    · have hadd : (⟨g, 0, none⟩ : Addr).add j = ⟨g, j, none⟩ := by unfold Addr.add; split <;> simp_all
      rw [hadd, hcell j (by omega)]; exact hv
    · cases hv
  have hcl : (xs.take (p * 3)).length = p * 3 := by rw [List.length_take]; omega
  by_cases hp0 : p = 0
  · subst hp0
    refine ⟨w, ?_, ?_, ⟨rfl, rfl, rfl, Nat.le_refl _, fun _ _ _ => rfl⟩⟩
    · have hl := run_loadCells_list (P := Yba.prog) w ⟨g, 0, none⟩ [] (by simp)
      simp only [List.length_nil] at hl
      simp [Builtin.copy_, run_underlying Yba.underlying25, Builtin.lenOf, Builtin.firstCells, sizeOf, typeInfo, hi, storeCells, hl]
    · have e : xs.take 3 ++ (xs.take (0 * 3) ++ xs.drop (3 + 0 * 3)) = xs := by simp
      rw [e]; exact h
  · have hl := run_loadCells_list (P := Yba.prog) w ⟨g, 0, none⟩ (xs.take (p * 3)) hsrc
    have hst := run_storeCells_at Yba.prog g 3 31 (xs.take (p * 3)) 0 cur w hg (by rw [hcl, hcs]; omega) (fun v hv => h1 v (List.mem_of_mem_take hv))
    rw [hcl] at hl hst
    rw [hdp (by omega)]
    refine ⟨w.setRow g (cur.toList.take (3 + 0) ++ xs.take (p * 3) ++ cur.toList.drop (3 + 0 + p * 3)).toArray, ?_, ?_, ⟨rfl, rfl, rfl, ?_, ?_⟩⟩
    · simp [Builtin.copy_, run_underlying Yba.underlying25, Builtin.lenOf, Builtin.firstCells, sizeOf, typeInfo, hi, hz1, hl, hst]
    · refine Sl.mk (setRow_heap w g cur (cur.toList.take (3 + 0) ++ xs.take (p * 3) ++ cur.toList.drop (3 + 0 + p * 3)).toArray 31 (0, 0) hg) hb hnc hcm ?_ ?_
      · simp only [List.size_toArray, List.length_append, List.length_take, List.length_drop, Array.length_toList, hcs, hlen]
        omega
      · have e1 : cur.toList.take 3 = xs.take 3 := by rw [← ht, List.take_take, Nat.min_eq_left (by omega)]
        have e2 : (cur.toList.drop (3 + p * 3)).take (n * 3 - (3 + p * 3)) = xs.drop (3 + p * 3) := by rw [← ht, List.drop_take]
        simp only [Nat.add_zero]
        rw [e1, List.append_assoc, List.take_append, List.take_append, hcl]
        have hl3 : (xs.take 3).length = 3 := by rw [List.length_take]; omega
        have t1 : (xs.take 3).take (n * 3) = xs.take 3 := List.take_of_length_le (by rw [hl3]; omega)
        have t2 : (xs.take (p * 3)).take (n * 3 - 3) = xs.take (p * 3) := List.take_of_length_le (by rw [hcl]; omega)
        rw [hl3, t1, t2, Nat.sub_sub, e2]
    · simp [World.setRow]
    · exact fun k _ hk => setRow_other w g k _ (fun c => hk (by rw [c]))
end Go.Proofs.Ybulkddgq
