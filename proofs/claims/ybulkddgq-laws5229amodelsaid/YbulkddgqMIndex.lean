/-
  The laws on the slice, as steps of a region that draws its order; and zzs5229aidx.
-/
import Derived.Test.YbulkddgqMSlice
namespace Go.Proofs.Ybulkddgq
open Go.RowKit Go.Maps

theorem step_strike {ops : Array Oper} {o : Oper} {act : Act} {w : World} {K : Act → World → Prop} {Q : Exit → Act → World → Prop} {E : Prop}
    (hgd : o.guard = none) (s x : Operand) (hop : o.op = Op.call { callee := Callee.builtin Builtin.append, args := #[s, x], argTypes := #[25, 25] })
    {N g n cap : Nat} {a b : List Ent} {e : Ent} (h : Sl w N g n cap (flat (a ++ e :: b))) (hn : n = a.length + b.length + 1)
    (hs : act.eval s = .slice (some ⟨g, 0, none⟩) a.length cap) (ad : Addr) (bl c : Nat) (hx : act.eval x = .slice (some ad) bl c) (hbl : bl = b.length) (had : b ≠ [] → ad = ⟨g, (a.length + 1) * 3, none⟩)
    (hK : ∀ w', Sl w' N g (a.length + b.length) cap (flat (a ++ b)) → w.grownBy w' (some g) → K (act.put o.dst (.slice (some ⟨g, 0, none⟩) (a.length + b.length) cap)) w') :
    if Region.wanted o (yielded ops act.tmps) = true then Oper.wp Yba.prog o act w K Q else E := by
  have hw : Region.wanted o (yielded ops act.tmps) = true := by simp [Region.wanted, hgd]
  rw [if_pos hw]
  subst hbl
  obtain ⟨w', hrun, r1, r2⟩ := run_strike h hn o.type ad c had
  unfold Oper.wp
  simp [execOp, hop, resolve, invoke, builtin, hs, hx, hrun, Result.andThen]
  exact hK w' r1 r2

theorem step_shift {ops : Array Oper} {o : Oper} {act : Act} {w : World} {K : Act → World → Prop} {Q : Exit → Act → World → Prop} {E : Prop}
    (hgd : o.guard = none) (d s : Operand) (hop : o.op = Op.call { callee := Callee.builtin Builtin.copy, args := #[d, s], argTypes := #[25, 25] })
    {N g n cap : Nat} {xs : List Value} (h : Sl w N g n cap xs) (h1 : ∀ u ∈ xs, u.oneCell' = true) (p : Nat) (hp : p + 1 ≤ n)
    (dp : Addr) (p' p'' dc sc : Nat) (hd : act.eval d = .slice (some dp) p' dc) (hs : act.eval s = .slice (some ⟨g, 0, none⟩) p'' sc) (e1 : p' = p) (e2 : p'' = p) (hdp : 0 < p → dp = ⟨g, 3, none⟩)
    (hK : ∀ w', Sl w' N g n cap (xs.take 3 ++ (xs.take (p * 3) ++ xs.drop (3 + p * 3))) → w.grownBy w' (some g) → K (act.put o.dst (goInt p)) w') :
    if Region.wanted o (yielded ops act.tmps) = true then Oper.wp Yba.prog o act w K Q else E := by
  have hw : Region.wanted o (yielded ops act.tmps) = true := by simp [Region.wanted, hgd]
  rw [if_pos hw]
  subst e1
  subst e2
  obtain ⟨w', hrun, r1, r2⟩ := run_shift h h1 p'' hp o.type dp dc sc hdp
  unfold Oper.wp
  simp [execOp, hop, resolve, invoke, builtin, hd, hs, hrun, Result.andThen]
  exact hK w' r1 r2

theorem keyAt {w : World} {N g n cap : Nat} {m : List Ent} (h : Sl w N g n cap (flat m)) (hn : n = m.length) (i : Nat) (hi : i < m.length) (f : Nat) (hf : f < 3) : w.cell? ⟨g, i * 3 + f, none⟩ = (cells3 m[i])[f]? := by
  rw [World.ownsRow.cellAt h _ (by omega)]
  have e := flat_at (m.take i) (m.drop (i + 1)) m[i] f hf
  rw [← List.drop_eq_getElem_cons hi, List.take_append_drop, List.length_take, Nat.min_eq_left (by omega)] at e
  exact e

set_option maxHeartbeats 400000 in
theorem idx_nil (w : World) (ad : Option Addr) (cap : Nat) (k : Int) : Calls Yba.prog 7 #[.slice ad 0 cap, .int .i64 k] w fun e w' => e = .returned (.int .i64 (-1)) ∧ w = w' := by
  go_enter Yba.func7, Yba.ntmps7
  go_wp2
  refine wp_loop_rounds 1 ?_
  rw [rounds_succ]
  go_wp2
  go_ret
  exact ⟨rfl, rfl⟩

set_option maxHeartbeats 400000 in
theorem idx_miss {w : World} {N g n cap : Nat} {m : List Ent} (h : Sl w N g n cap (flat m)) (hn : n = m.length) (hlen : n ≤ 2000) (k : Int) (hno : k ∉ m.map (fun e => e.k)) :
    Calls Yba.prog 7 #[.slice (some ⟨g, 0, none⟩) n cap, .int .i64 k] w fun e w' => e = .returned (.int .i64 (-1)) ∧ w = w' := by
  have hcell : ∀ i (hi : i < m.length), w.cell? ⟨g, i * 3, none⟩ = some (.int .i64 m[i].k) ∧ (m[i].k == k) = false := by
    intro i hi
    refine ⟨keyAt h hn i hi 0 (by omega), ?_⟩
    have : m[i].k ≠ k := fun c => hno (c ▸ List.mem_map_of_mem (f := fun e : Ent => e.k) (List.getElem_mem hi))
    simp [this]
  clear h
  go_enter Yba.func7, Yba.ntmps7
  go_wp2
  go_loop [8] (fun i => ∃ c : Nat, c ≤ n ∧ i = .int .i64 c) (fun i => n - (intOf i).toNat)
  case atStart => exact ⟨0, Nat.zero_le _, rfl⟩
  case round =>
    obtain ⟨c, hc, rfl⟩ := hrel
    by_cases hlt : c < n
    · obtain ⟨h1, h2⟩ := hcell c (by omega)
      go_wp2
      go_round
      case rel => exact ⟨c + 1, by omega, by go_num⟩
      case measure => simp [intOf]; omega
    · go_wp2
      go_ret
      exact ⟨rfl, rfl⟩

set_option maxHeartbeats 400000 in
theorem idx_hit {w : World} {N g n cap : Nat} {a b : List Ent} {e : Ent} (h : Sl w N g n cap (flat (a ++ e :: b))) (hn : n = (a ++ e :: b).length) (hlen : n ≤ 2000) (hno : e.k ∉ a.map (fun e => e.k)) :
    Calls Yba.prog 7 #[.slice (some ⟨g, 0, none⟩) n cap, .int .i64 e.k] w fun r w' => r = .returned (.int .i64 a.length) ∧ w = w' := by
  have hl : a.length < n := by simp at hn; omega
  have hcell : ∀ i (hi : i < a.length), ∃ x, w.cell? ⟨g, i * 3, none⟩ = some (.int .i64 x) ∧ (x == e.k) = false := by
    intro i hi
    have hi' : i < (a ++ e :: b).length := by omega
    refine ⟨_, keyAt h hn i hi' 0 (by omega), ?_⟩
    have e1 : (a ++ e :: b)[i] = a[i] := List.getElem_append_left hi
    rw [e1]
    have : a[i].k ≠ e.k := fun c => hno (c ▸ List.mem_map_of_mem (f := fun e : Ent => e.k) (List.getElem_mem hi))
    simp [this]
  have hat : w.cell? ⟨g, a.length * 3, none⟩ = some (.int .i64 e.k) := (World.ownsRow.cellAt h (a.length * 3 + 0) (by omega)).trans (flat_at a b e 0 (by omega))
  clear h
  go_enter Yba.func7, Yba.ntmps7
  go_wp2
  go_loop [8] (fun i => ∃ c : Nat, c ≤ a.length ∧ i = .int .i64 c) (fun i => n - (intOf i).toNat)
  case atStart => exact ⟨0, Nat.zero_le _, rfl⟩
  case round =>
    obtain ⟨c, hc, rfl⟩ := hrel
    by_cases hlt : c < a.length
    · obtain ⟨x, h1, h2⟩ := hcell c (by omega)
      go_wp2
      go_round
      case rel => exact ⟨c + 1, by omega, by go_num⟩
      case measure => simp [intOf]; omega
    · obtain rfl : c = a.length := by omega
      clear hn
      go_wp2
      go_ret
      exact ⟨rfl, rfl⟩
end Go.Proofs.Ybulkddgq
