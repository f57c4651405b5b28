/-
  LawS5232CScript: the record: add, crash.
-/
import Derived.Test.YbulkddigMed2
import Derived.Deep.RegionLaw
import Derived.Deep.AppendLies
import Derived.OwnWalk
namespace Go.Proofs.Ybulkddig
open Go.RowKit

/-- A crash of node i, as the record holds it. -/
def entry (i : Nat) : List Value := [.string crashS, .int .i64 i, .int .i64 0, .int .i8 0, .bool false, .slice none 0 0]
theorem entry_one (i : Nat) : ∀ u ∈ entry i, u.oneCell' = true := by
  intro u hu
  simp [entry] at hu
  rcases hu with rfl | rfl | rfl | rfl | rfl | rfl <;> rfl

/-- The hub's block is hb; the rest that lay there is as it was, but for the row 'row'. -/
structure Put (w w' : World) (hb : Nat) (row : Option Nat) : Prop where
  os : w'.os = w.os
  tape : w'.tape = w.tape
  output : w'.output = w.output
  size : w.heap.size ≤ w'.heap.size
  block : ∀ q, q < w.heap.size → q ≠ hb → row ≠ some q → w'.heap[q]? = w.heap[q]?

theorem own_form {w : World} {N e size : Nat} {v : Value} {n : Nat} {xs : List Value} (h : w.ownsRow N e size v n xs) : ∃ av cv, v = .slice av n cv := by
  rcases h.2 with ⟨rfl, rfl⟩ | ⟨g, cap, cur, rfl, _⟩
  · exact ⟨none, 0, rfl⟩
  · exact ⟨_, cap, rfl⟩

theorem new2 (w : World) (o1 o2 : Obj) : ((w.alloc o1).alloc o2).heap[w.heap.size + 1]? = some o2 := by
  have h := (MapKept.heap_alloc (w.alloc o1) o2).1
  have hs : (w.alloc o1).heap.size = w.heap.size + 1 := by simp
  rw [hs] at h; exact h

theorem Hold.grown {w w' : World} {b : Nat} {cs : Array Value} {row : Option Nat} (h : Hold w b cs) (hg : w.grownBy w' row) (hne : row ≠ some b) : Hold w' b cs := by
  obtain ⟨t, e⟩ := h
  exact ⟨t, (hg.block b (Array.getElem?_eq_some_iff.1 e).1 (fun h => hne h.symm)).trans e⟩

theorem own_other {w : World} {N e size g hb j n cap : Nat} {xs : List Value} {u : Value} (h : w.ownsRow N e size (.slice (some ⟨g, 0, none⟩) n cap) n xs) (hne : g ≠ hb) : (w.setCell ⟨hb, j, none⟩ u).ownsRow N e size (.slice (some ⟨g, 0, none⟩) n cap) n xs := by
  refine ⟨h.1, ?_⟩
  rcases h.2 with ⟨h, _⟩ | ⟨g', cap', cur, he, h1, h2, h3⟩
  · cases h
  · cases he
    exact .inr ⟨g, cap, cur, rfl, h1, (Below.heap_setCell w _ u g hne).trans h2, h3⟩

set_option maxHeartbeats 2000000 in
theorem add_any (w : World) (hb N n i : Nat) (cs : Array Value) (v : Value) (xs : List Value) (H : Hold w hb cs) (hv : cs[22]? = some v) (hown : w.ownsRow N 109 6 v n xs) (hne : v.ownBlock ≠ some hb) (hN : N ≤ w.heap.size) (hn : n ≤ 2000) :
    Calls Yba.prog 34 #[.pointer (some ⟨hb, 22, none⟩), .agg (act i)] w fun e w' => e = .returned (.int .i64 n) ∧
      ∃ v', Hold w' hb (cs.setIfInBounds 22 v') ∧ w'.ownsRow N 109 6 v' (n + 1) (xs ++ entry i) ∧ (v'.ownBlock = v.ownBlock ∨ ∃ g, v'.ownBlock = some g ∧ w.heap.size ≤ g) ∧ Put w w' hb v.ownBlock := by
  obtain ⟨av, cv, rfl⟩ := own_form hown
  have hlt := H.lt
  have c22 : w.cell? ⟨hb, 22, none⟩ = some (.slice av n cv) := (H.cell 22).trans hv
  have f22 := H.frozen 22
  obtain ⟨i0, hi0, hz0, hz1, hz2⟩ : ∃ i, Yba.prog.info? 109 = some i ∧ i.zero = some (.agg #[.string { data := #[] }, .int .i64 0, .int .i64 0, .int .i8 0, .bool false, .slice none 0 0]) ∧ i.size = 6 ∧ i.bytes = 72 := info_parts (P := Yba.prog) (e := 109) (by kernel_rfl)
  have H2 : Hold ((w.alloc (.cells (act i) 107)).alloc (.cells (entry i).toArray 109)) hb cs := (H.alloc _).alloc _
  have hown2 : ((w.alloc (.cells (act i) 107)).alloc (.cells (entry i).toArray 109)).ownsRow N 109 6 (.slice av n cv) n xs := (hown.alloc _).alloc _
  have hnews : ∀ j u, (entry i)[j]? = some u → ((w.alloc (.cells (act i) 107)).alloc (.cells (entry i).toArray 109)).cell? ((⟨w.heap.size + 1, 0, none⟩ : Addr).add j) = some u := fun j u h => World.news_of_block (cs := (entry i).toArray) (new2 w _ _) j u (by simpa using h)
  have hmax : n + 1 ≤ maxLen := by unfold maxLen; omega
  unfold act crashS
  go_enter Yba.func34, Yba.ntmps34
  go_wp2
  go_region_law ((refine step_append_lies _ (by rfl) _ _ 71 (by rfl) N 109 i0 (.agg #[.string { data := #[] }, .int .i64 0, .int .i64 0, .int .i8 0, .bool false, .slice none 0 0]) 6 72 Yba.underlying71 hi0 hz0 hz1 hz2 rfl (by decide) (.slice av n cv) n xs (by rfl) (by exact hown2) ⟨w.heap.size + 1, 0, none⟩ 1 1 (entry i) (by rfl) rfl (by exact hnews) (entry_one i) (by decide) hmax (by omega) (by simp; omega) (w.heap.size + 2) (by simp) ?_; intro g cap w2 hown3 hgrow0 hat hlt2; have hgrow : ((w.alloc (.cells (act i) 107)).alloc (.cells (entry i).toArray 109)).grownBy w2 (Value.slice av n cv).ownBlock := ⟨hgrow0.os, hgrow0.tape, hgrow0.output, hgrow0.size, hgrow0.block⟩; clear hgrow0; have H3 : Hold w2 hb cs := H2.grown hgrow hne; have c22' : w2.cell? ⟨hb, 22, none⟩ = some (.slice av n cv) := (H3.cell 22).trans hv; have f22' := H3.frozen 22))
  all_goals
    go_wp2
    go_ret
    have hgb : g ≠ hb := by
      rcases hat with h | h
      · exact fun e => hne (e ▸ h)
      · omega
    refine ⟨rfl, .slice (some ⟨g, 0, none⟩) (n + 1) cap, H3.set 22 _ _ rfl, own_other hown3 hgb, ?_, ?_⟩
    · rcases hat with h | h
      · exact .inl h.symm
      · exact .inr ⟨g, rfl, by omega⟩
    · have hsz := hgrow.size
      simp at hsz
      refine ⟨hgrow.os, hgrow.tape, hgrow.output, by simp [World.setCell]; omega, fun q hq h1 h2 => ?_⟩
      rw [Below.heap_setCell _ _ _ _ h1, hgrow.block q (by simp; omega) (fun h => h2 h.symm), Below.heap_alloc _ _ _ (by simp; omega), Below.heap_alloc _ _ _ hq]
end Go.Proofs.Ybulkddig
