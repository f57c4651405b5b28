/-
  LawS5232BExact: the callees' contracts.
-/
import Derived.Test.YbulkddigRows
import Derived.WalkKit
import Derived.WalkSpells
import Derived.Deep.Draws
import Derived.Deep.QuietTactic
import Derived.BigQuiet
import Derived.Deep.LoopGhost
import Derived.Deep.MidRow
namespace Go.Proofs.Ybulkddig
open Go.RowKit

/-- The numbers that came in: nothing to read, or a row of plain cells. -/
def Row (w : World) (a : Option Addr) (len : Nat) (zs : List Int) : Prop :=
  len ≤ zs.length ∧ (len = 0 ∨ ∃ b off, a = some ⟨b, off, none⟩ ∧ b < w.heap.size ∧ ∀ i, i < len → w.cell? ⟨b, off + i, none⟩ = some (.int .i64 (zs.getD i 0)))

theorem Row.below {w w' : World} {a : Option Addr} {len : Nat} {zs : List Int} (h : Row w a len zs) (hb : Below w.heap.size w w') : Row w' a len zs := by
  refine ⟨h.1, ?_⟩
  rcases h.2 with h | ⟨b, off, e, hlt, hc⟩
  · exact .inl h
  · exact .inr ⟨b, off, e, Nat.lt_of_lt_of_le hlt hb.size, fun i hi => (hb.cell (p := ⟨b, off + i, none⟩) hlt).trans (hc i hi)⟩

/-- The greatest of 0 and the numbers. -/
def hi (zs : List Int) : Int := zs.foldl (fun h x => if h < x then x else h) 0
theorem hi_snoc (zs : List Int) (x : Int) : hi (zs ++ [x]) = if hi zs < x then x else hi zs := by unfold hi; rw [List.foldl_append]; rfl
theorem take_snoc (zs : List Int) (c : Nat) (h : c < zs.length) : zs.take (c + 1) = zs.take c ++ [zs.getD c 0] := by
  rw [List.take_succ_eq_append_getElem h]; simp [List.getD, List.getElem?_eq_getElem h]

set_option maxHeartbeats 400000 in
theorem model_not (w : World) (a : Option Addr) (len cap : Nat) (last st : Int) (hs0 : 0 ≤ st) (hs1 : st ≤ 255) (h4 : ¬ st % 6 = 4) :
    Calls Yba.prog 8 #[.slice a len cap, .int .i64 last, .int .u8 st] w fun e w' => e = .returned (.tuple #[.int .i64 0, .bool false]) ∧ w = w' := by
  go_enter Yba.func8, Yba.ntmps8
  go_wp2
  go_ret2
  exact ⟨rfl, rfl⟩

set_option maxHeartbeats 400000 in
theorem model_yes (w : World) (a : Option Addr) (len cap : Nat) (zs : List Int) (last st : Int) (hs0 : 0 ≤ st) (hs1 : st ≤ 255) (h4 : st % 6 = 4) (hlen : len ≤ 1024) (hr : Row w a len zs) :
    Calls Yba.prog 8 #[.slice a len cap, .int .i64 last, .int .u8 st] w fun e w' => e = .returned (.tuple #[.int .i64 (hi (zs.take len ++ [last])), .bool true]) ∧ w = w' := by
  go_enter Yba.func8, Yba.ntmps8
  go_wp2
  go_loop [8, 9] (fun h i => ∃ c : Nat, c ≤ len ∧ i = .int .i64 c ∧ h = .int .i64 (hi (zs.take c))) (fun _ i => len - (intOf i).toNat)
  case atStart => exact ⟨0, Nat.zero_le _, rfl, rfl⟩
  case round =>
    obtain ⟨c, hc, rfl, rfl⟩ := hrel
    obtain ⟨h, hh⟩ : ∃ h, h = hi (zs.take c) := ⟨_, rfl⟩
    rw [← hh]
    by_cases hlt : c < len
    · rcases hr.2 with hz | ⟨b, off, rfl, hb, hcell⟩
      · omega
      have h1 := hcell c hlt
      obtain ⟨x, hx⟩ : ∃ x, x = zs.getD c 0 := ⟨_, rfl⟩
      rw [← hx] at h1
      have HS : Hid (hi (zs.take (c + 1)) = if h < x then x else h) := by
        show _ = _
        rw [take_snoc zs c (by have := hr.1; omega), hi_snoc, ← hh, ← hx]
      clear hh hx hcell
      by_cases hlx : h < x
      · go_wp2
        go_round
        case rel => exact ⟨c + 1, by omega, by go_num, by rw [HS.out, if_pos hlx]⟩
        case measure => simp [intOf]; omega
      · go_wp2
        go_round
        case rel => exact ⟨c + 1, by omega, by go_num, by rw [HS.out, if_neg (by omega)]⟩
        case measure => simp [intOf]; omega
    · obtain rfl : c = len := by omega
      have HS : Hid (hi (zs.take c ++ [last]) = if h < last then last else h) := by
        show _ = _
        rw [hi_snoc, ← hh]
      clear hh
      by_cases hlx : h < last
      · go_wp2
        go_ret2
        exact ⟨by rw [HS.out, if_pos hlx]; rfl, rfl⟩
      · go_wp2
        go_ret2
        exact ⟨by rw [HS.out, if_neg (by omega)]; rfl, rfl⟩

/-- The instances' cells: all plain; the phase of each of the first c. -/
def Part (xs : List Value) (c : Nat) (zs : List Int) : Prop := (∀ u ∈ xs, u.oneCell' = true) ∧ ∀ i, i < c → xs[i * 19 + 2]? = some (.int .i64 (zs.getD i 0))

theorem made_plain (n : Nat) : ∀ u ∈ (madeCells #[.int .i64 0, .int .i64 0, .int .i64 0, .int .i8 0, .int .i64 0, .int .i64 0, .int .i64 0, .int .i64 0, .int .i64 0, .int .i64 0, .int .i64 0, .int .i64 0, .int .i64 0, .int .i64 0, .int .i64 0, .int .i64 0, .bool false, .bool false, .int .i64 0] n).toList, u.oneCell' = true := by
  intro u hu
  simp only [madeCells, Array.toList_map, List.mem_map] at hu
  obtain ⟨j, _, rfl⟩ := hu
  have h : ∀ r, r < 19 → (#[Value.int .i64 0, .int .i64 0, .int .i64 0, .int .i8 0, .int .i64 0, .int .i64 0, .int .i64 0, .int .i64 0, .int .i64 0, .int .i64 0, .int .i64 0, .int .i64 0, .int .i64 0, .int .i64 0, .int .i64 0, .int .i64 0, .bool false, .bool false, .int .i64 0][r]!).oneCell' = true := by
    intro r hr
    match r, hr with
    | 0, _ => rfl | 1, _ => rfl | 2, _ => rfl | 3, _ => rfl | 4, _ => rfl | 5, _ => rfl | 6, _ => rfl | 7, _ => rfl | 8, _ => rfl | 9, _ => rfl | 10, _ => rfl | 11, _ => rfl | 12, _ => rfl | 13, _ => rfl | 14, _ => rfl | 15, _ => rfl | 16, _ => rfl | 17, _ => rfl | 18, _ => rfl
    | r + 19, hr => omega
  exact h _ (Nat.mod_lt _ (by simp))

theorem Part.set {xs : List Value} {c : Nat} {zs : List Int} (h : Part xs c zs) (j : Nat) (u : Value) (hu : u.oneCell' = true) (hj : ∀ i, i < c → j ≠ i * 19 + 2) : Part (xs.set j u) c zs := by
  refine ⟨fun v hv => ?_, fun i hi => ?_⟩
  · rcases List.mem_or_eq_of_mem_set hv with h1 | h1
    · exact h.1 v h1
    · rw [h1]; exact hu
  · rw [List.getElem?_set, if_neg (hj i hi)]; exact h.2 i hi

/-- What zzs5232bbuild leaves: the node in block B, its instances in block g. -/
structure Built (N : Nat) (w : World) (B g len : Nat) (xs : List Value) (zs : List Int) (last st : Int) : Prop where
  lo : N ≤ g
  ne : g ≠ B
  loB : N ≤ B
  own : w.ownsRow N 37 19 (.slice (some ⟨g, 0, none⟩) (len + 1) (len + 1)) (len + 1) xs
  part : Part xs len zs
  last : xs[len * 19 + 2]? = some (.int .i64 last)
  stage : xs[len * 19 + 3]? = some (.int .i8 st)
  width : w.cell? ⟨B, 1, none⟩ = some (.int .i64 ((len : Int) + 1))
  inst : w.cell? ⟨B, 4, none⟩ = some (.slice (some ⟨g, 0, none⟩) (len + 1) (len + 1))

theorem info37 : ∃ i, Yba.prog.info? 37 = some i ∧ i.zero = some (.agg #[.int .i64 0, .int .i64 0, .int .i64 0, .int .i8 0, .int .i64 0, .int .i64 0, .int .i64 0, .int .i64 0, .int .i64 0, .int .i64 0, .int .i64 0, .int .i64 0, .int .i64 0, .int .i64 0, .int .i64 0, .int .i64 0, .bool false, .bool false, .int .i64 0]) ∧ i.size = 19 ∧ i.bytes = 144 := info_parts (P := Yba.prog) (e := 37) (by kernel_rfl)

set_option maxHeartbeats 1000000 in
theorem build_any (w : World) (a : Option Addr) (len cap : Nat) (zs : List Int) (last st : Int) (hs0 : 0 ≤ st) (hs1 : st ≤ 255) (hlen : len ≤ 1024) (hr : Row w a len zs) :
    Calls Yba.prog 6 #[.slice a len cap, .int .i64 last, .int .u8 st, .int .u64 0] w fun e w' => ∃ B g xs, e = .returned (.pointer (some ⟨B, 0, none⟩)) ∧ Built w.heap.size w' B g len xs zs last (st % 6) ∧ Below w.heap.size w w' := by
  obtain ⟨i, hi, hz0, hz1, hz2⟩ := info37
  go_enter Yba.func6, Yba.ntmps6
  go_wp2_with (at_make; refine wpList_make_full _ rfl _ _ 40 rfl w.heap.size 37 i _ 19 Yba.underlying40 hi hz0 hz1 .i64 .i64 _ _ (len + 1) rfl rfl (by simp) (by simp) (by rw [hz2]; omega) (by unfold maxLen; omega) (Nat.le_refl _) ?_; intro w1 hown hgrow)
  have hlt0 : w.heap.size < w1.heap.size := (hown.lt w.heap.size rfl).2
  go_loopg [11] len (fun q i wr => ∃ (c : Nat) (xs : List Value), c ≤ len ∧ q = len - c ∧ i = .int .i64 c ∧ wr.ownsRow w.heap.size 37 19 (.slice (some ⟨w.heap.size, 0, none⟩) (len + 1) (len + 1)) (len + 1) xs ∧ Part xs c zs ∧ Below w.heap.size w wr)
  case atStart => exact ⟨0, _, Nat.zero_le _, rfl, rfl, hown, ⟨made_plain _, fun i hi => by omega⟩, (Below.refl _ _).grown hgrow (Nat.le_refl _) (fun _ h => by cases h)⟩
  case round =>
    clear hown hgrow hlt0
    obtain ⟨c, xs, hc, hq, rfl, hown, hpart, bel⟩ := hrel
    have hcell : ∀ j, j < (len + 1) * 19 → ∃ y, wr.cell? ⟨w.heap.size, j, none⟩ = some y := fun j hj => ⟨_, (World.ownsRow.cellAt hown j hj).trans (List.getElem?_eq_getElem (by rw [hown.1]; exact hj))⟩
    by_cases hlt : c < len
    · rcases hr.2 with hz | ⟨b, off, rfl, hb, hcells⟩
      · omega
      have x1 := (bel.cell (p := ⟨b, off + c, none⟩) hb).trans (hcells c hlt)
      obtain ⟨x, hx⟩ : ∃ x, x = zs.getD c 0 := ⟨_, rfl⟩
      rw [← hx] at x1
      have HX : Hid (x = zs.getD c 0) := hx
      obtain ⟨y2, t2⟩ := hcell (c * 19 + 2) (by omega)
      obtain ⟨y3, t3⟩ := hcell (c * 19 + 3) (by omega)
      have f2 := World.ownsRow.frozenAt hown (c * 19 + 2)
      have f3 := World.ownsRow.frozenAt hown (c * 19 + 3)
      have HQ : Hid (gk = len - c) := hq
      clear hcells hcell hx hq
      go_wp2
      have o1 := World.ownsRow.stored hown (c * 19 + 2) (.int .i64 x)
      have o2 := World.ownsRow.stored o1.1 (c * 19 + 3) (.int .i8 4)
      have hbel := ((bel.setCell (p := ⟨w.heap.size, c * 19 + 2, none⟩) (Nat.le_refl _) (.int .i64 x)).setCell (p := ⟨w.heap.size, c * 19 + 3, none⟩) (Nat.le_refl _) (.int .i8 4))
      go_roundg (len - (c + 1))
      case measure => have := HQ.out; omega
      case rel =>
        refine ⟨c + 1, _, by omega, rfl, by go_num, o2.1, ?_, hbel⟩
        refine Part.set ⟨(hpart.set _ _ rfl (fun i hi => by omega)).1, fun i hi => ?_⟩ _ _ rfl (fun i hi => by omega)
        by_cases e : i = c
        · subst e
          rw [List.getElem?_set_self (by rw [hown.1]; omega), HX.out]
        · exact (hpart.set _ _ rfl (fun i hi => by omega)).2 i (by omega)
    · obtain rfl : c = len := by omega
      obtain ⟨y2, t2⟩ := hcell (c * 19 + 2) (by omega)
      obtain ⟨y3, t3⟩ := hcell (c * 19 + 3) (by omega)
      have f2 := World.ownsRow.frozenAt hown (c * 19 + 2)
      have f3 := World.ownsRow.frozenAt hown (c * 19 + 3)
      clear hcell hq
      go_wp2
      go_ret
      have o1 := World.ownsRow.stored hown (c * 19 + 2) (.int .i64 last)
      have o2 := World.ownsRow.stored o1.1 (c * 19 + 3) (.int .i8 (st % 6))
      have hbel := ((bel.setCell (p := ⟨w.heap.size, c * 19 + 2, none⟩) (Nat.le_refl _) (.int .i64 last)).setCell (p := ⟨w.heap.size, c * 19 + 3, none⟩) (Nat.le_refl _) (.int .i8 (st % 6)))
      have hsz : ((wr.setCell ⟨w.heap.size, c * 19 + 2, none⟩ (.int .i64 last)).setCell ⟨w.heap.size, c * 19 + 3, none⟩ (.int .i8 (st % 6))).heap.size = wr.heap.size := by simp
      have hlt1 : w.heap.size < wr.heap.size := (hown.lt w.heap.size rfl).2
      refine ⟨wr.heap.size, w.heap.size, (xs.set (c * 19 + 2) (.int .i64 last)).set (c * 19 + 3) (.int .i8 (st % 6)), rfl, ?_, hbel.alloc (by rw [hsz]; exact Nat.le_of_lt hlt1) _⟩
      generalize (wr.setCell ⟨w.heap.size, c * 19 + 2, none⟩ (.int .i64 last)).setCell ⟨w.heap.size, c * 19 + 3, none⟩ (.int .i8 (st % 6)) = w2 at o2 hsz hbel ⊢
      have h0 := (MapKept.heap_alloc w2 (.cells #[.int .i64 0, .int .i64 ((c : Int) + 1), .nilFunc, .int .i64 0, .slice (some ⟨w.heap.size, 0, none⟩) (c + 1) (c + 1)] 42)).1
      rw [hsz] at h0
      refine ⟨Nat.le_refl _, Nat.ne_of_lt hlt1, Nat.le_of_lt hlt1, o2.1.alloc _, (hpart.set _ _ rfl (fun i hi => by omega)).set _ _ rfl (fun i hi => by omega), ?_, ?_, ?_, ?_⟩
      · rw [List.getElem?_set_ne (by omega), List.getElem?_set_self (by rw [hown.1]; omega)]
      · rw [List.getElem?_set_self (by rw [List.length_set, hown.1]; omega)]
      · unfold World.cell?; rw [h0]; rfl
      · unfold World.cell?; rw [h0]; rfl

set_option maxHeartbeats 1000000 in
theorem decision_any {N : Nat} {w : World} {B g len : Nat} {xs : List Value} {zs : List Int} {last st : Int} (h : Built N w B g len xs zs last st) (hlen : len ≤ 1024) :
    Calls Yba.prog 16 #[.pointer (some ⟨B, 0, none⟩)] w fun e w' => ∃ v k, e = .returned (.tuple #[v, .bool (st == 4)]) ∧ w' = w.drewN k := by
  have hw := h.width
  have hin := h.inst
  have hc : ∀ j v, j < (len + 1) * 19 → xs[j]? = some v → w.cell? ⟨g, j, none⟩ = some v := fun j v hj hv => (World.ownsRow.cellAt h.own j hj).trans hv
  have c3 := hc (len * 19 + 3) _ (by omega) h.stage
  have c1 : w.cell? ⟨g, len * 19 + 1, none⟩ = some (xs.getD (len * 19 + 1) undef) := hc (len * 19 + 1) _ (by omega) (by rw [List.getD, List.getElem?_eq_getElem (by rw [h.own.1]; omega)]; rfl)
  obtain ⟨v, hv⟩ : ∃ v, v = xs.getD (len * 19 + 1) undef := ⟨_, rfl⟩
  rw [← hv] at c1
  have hw1 : IntKind.i64.wrap ((len : Int) + 1 - 1) = (len : Int) := by rw [IntKind.wrap_i64]; omega
  have hb1 : (len : Int) < (len : Int) + 1 := by omega
  clear h hc hv
  go_enter Yba.func16, Yba.ntmps16
  go_wp2
  go_quiet (fail)
  go_wp2
  go_quiet (fail)
  go_wp2
  go_ret2
  exact ⟨_, _, rfl, World.drewN_drewN _ _ _⟩

theorem Built.below {N : Nat} {w w' : World} {B g len : Nat} {xs : List Value} {zs : List Int} {last st : Int} (h : Built N w B g len xs zs last st) (hb : Below w.heap.size w w') : Built N w' B g len xs zs last st := by
  have hg := (h.own.lt g rfl).2
  have hB := World.block_lt_of_cell? w ⟨B, 1, none⟩ h.width
  refine ⟨h.lo, h.ne, h.loB, ?_, h.part, h.last, h.stage, (hb.cell (p := ⟨B, 1, none⟩) hB).trans h.width, (hb.cell (p := ⟨B, 4, none⟩) hB).trans h.inst⟩
  refine ⟨h.own.1, ?_⟩
  rcases h.own.2 with hn | ⟨g', cap, cur, e, h1, h2, rest⟩
  · exact .inl hn
  · refine .inr ⟨g', cap, cur, e, h1, ?_, rest⟩
    simp only [Value.slice.injEq, Option.some.injEq, Addr.mk.injEq, and_true] at e
    rw [hb.block g' (by rw [← e.1]; exact hg)]; exact h2

/-- The phases, one after the other. -/
theorem phase_at {N : Nat} {w : World} {B g len : Nat} {xs : List Value} {zs : List Int} {last st : Int} (h : Built N w B g len xs zs last st) (hz : len ≤ zs.length) (c : Nat) (hc : c ≤ len) :
    xs[c * 19 + 2]? = some (.int .i64 ((zs.take len ++ [last]).getD c 0)) := by
  have hl : (zs.take len).length = len := by rw [List.length_take]; omega
  by_cases e : c < len
  · have e1 : (zs.take len ++ [last]).getD c 0 = zs.getD c 0 := by
      rw [List.getD_eq_getElem?_getD, List.getD_eq_getElem?_getD, List.getElem?_append_left (by omega), List.getElem?_take, if_pos e]
    rw [h.part.2 c e, e1]
  · obtain rfl : c = len := by omega
    have e1 : (zs.take c ++ [last]).getD c 0 = last := by
      rw [List.getD_eq_getElem?_getD, List.getElem?_append_right (by omega), hl]; simp
    rw [h.last, e1]

set_option maxHeartbeats 1000000 in
theorem dp_not {N : Nat} {w : World} {B g len : Nat} {xs : List Value} {zs : List Int} {last st : Int} (h : Built N w B g len xs zs last st) (hlen : len ≤ 1024) (h4 : (st == 4) = false) :
    Calls Yba.prog 7 #[.pointer (some ⟨B, 0, none⟩)] w fun e w' => ∃ k, e = .returned (.tuple #[.int .i64 0, .bool false]) ∧ w' = w.drewN k := by
  have hd := decision_any h hlen
  rw [h4] at hd
  clear h
  go_enter Yba.func7, Yba.ntmps7
  go_wp2_with (go_at_call 16; refine hd.mono ?_; rintro e w1 ⟨v, k, rfl, rfl⟩)
  go_ret2
  exact ⟨k, rfl, rfl⟩

set_option maxRecDepth 100000 in
set_option maxHeartbeats 1000000 in
theorem dp_yes {N : Nat} {w : World} {B g len : Nat} {xs : List Value} {zs : List Int} {last st : Int} (h : Built N w B g len xs zs last st) (hz : len ≤ zs.length) (hlen : len ≤ 1024) (h4 : (st == 4) = true) :
    Calls Yba.prog 7 #[.pointer (some ⟨B, 0, none⟩)] w fun e w' => e = .returned (.tuple #[.int .i64 (hi (zs.take len ++ [last])), .bool true]) ∧ Below w.heap.size w w' := by
  have hd := decision_any h hlen
  rw [h4] at hd
  have hin := h.inst
  obtain ⟨ph, hph⟩ : ∃ ph, ph = zs.take len ++ [last] := ⟨_, rfl⟩
  have hphl : ph.length = len + 1 := by rw [hph, List.length_append, List.length_take]; simp; omega
  have hat : ∀ c, c ≤ len → xs[c * 19 + 2]? = some (.int .i64 (ph.getD c 0)) := by rw [hph]; exact phase_at h hz
  rw [← hph]
  have hg := (h.own.lt g rfl).2
  clear hph
  go_enter Yba.func7, Yba.ntmps7
  go_wp2_with (go_at_call 16; refine hd.mono ?_; rintro e w1 ⟨v, k, rfl, rfl⟩)
  clear hd
  have hi37 : (Yba.prog.info? 37).map (·.size) = some 19 := by kernel_rfl
  go_loopg [6, 21] (len + 1) (fun q hh i wr => ∃ c : Nat, c ≤ len + 1 ∧ q = len + 1 - c ∧ i = .int .i64 c ∧ hh = .int .i64 (hi (ph.take c)) ∧ Below w.heap.size w wr)
  case atStart => exact ⟨0, Nat.zero_le _, rfl, rfl, rfl, ⟨rfl, rfl, rfl, Nat.le_refl _, fun _ _ => rfl⟩⟩
  case round =>
    obtain ⟨c, hc, hq, rfl, rfl, bel⟩ := hrel
    obtain ⟨t, ht⟩ : ∃ t, t = hi (ph.take c) := ⟨_, rfl⟩
    rw [← ht]
    by_cases hlt : c < len + 1
    · have hB := h.below bel
      have hrange : wr.rangeAt g (c * 19) ((xs.drop (c * 19)).take 19) := by
        intro j v hv
        rw [List.getElem?_take] at hv
        split at hv
        · rw [List.getElem?_drop] at hv
          exact (World.ownsRow.cellAt hB.own _ (by omega)).trans hv
        · cases hv
      have hlen19 : ((xs.drop (c * 19)).take 19).length = 19 := by rw [List.length_take, List.length_drop, h.own.1]; omega
      obtain ⟨x, hx⟩ : ∃ x, x = ph.getD c 0 := ⟨_, rfl⟩
      have hx2 : ((xs.drop (c * 19)).take 19)[2]? = some (.int .i64 x) := by
        rw [List.getElem?_take, if_pos (by omega), List.getElem?_drop, hx]; exact hat c (by omega)
      have hone : ∀ u ∈ (xs.drop (c * 19)).take 19, u.oneCell' = true := fun u hu => h.part.1 u (List.mem_of_mem_drop (List.mem_of_mem_take hu))
      have HS : Hid (hi (ph.take (c + 1)) = if t < x then x else t) := by
        show _ = _
        rw [take_snoc ph c (by omega), hi_snoc, ← ht, ← hx]
      have hin2 := hB.inst
      have HQ : Hid (gk = len + 1 - c) := hq
      generalize (xs.drop (c * 19)).take 19 = cs at hrange hlen19 hx2 hone
      obtain ⟨zr, hzr⟩ : ∃ zr : Array Value, zr = #[.int .i64 0, .int .i64 0, .int .i64 0, .int .i8 0, .int .i64 0, .int .i64 0, .int .i64 0, .int .i64 0, .int .i64 0, .int .i64 0, .int .i64 0, .int .i64 0, .int .i64 0, .int .i64 0, .int .i64 0, .int .i64 0, .bool false, .bool false, .int .i64 0] := ⟨_, rfl⟩
      have hnew : (wr.alloc (.cells #[.int .i64 0, .int .i64 0, .int .i64 0, .int .i8 0, .int .i64 0, .int .i64 0, .int .i64 0, .int .i64 0, .int .i64 0, .int .i64 0, .int .i64 0, .int .i64 0, .int .i64 0, .int .i64 0, .int .i64 0, .int .i64 0, .bool false, .bool false, .int .i64 0] 37)).heap[wr.heap.size]? = some (.cells zr 37 (0, 0)) := by rw [hzr]; exact (MapKept.heap_alloc wr _).1
      have hzs : zr.size = 19 := by rw [hzr]; rfl
      have hrd : ((wr.alloc (.cells #[.int .i64 0, .int .i64 0, .int .i64 0, .int .i8 0, .int .i64 0, .int .i64 0, .int .i64 0, .int .i64 0, .int .i64 0, .int .i64 0, .int .i64 0, .int .i64 0, .int .i64 0, .int .i64 0, .int .i64 0, .int .i64 0, .bool false, .bool false, .int .i64 0] 37)).setRow wr.heap.size cs.toArray).cell? ⟨wr.heap.size, 2, none⟩ = some (.int .i64 x) := by
        have h1 := setRow_heap _ wr.heap.size zr cs.toArray 37 (0, 0) hnew
        unfold World.cell?; rw [h1]; simpa using hx2
      have hi37' : (Yba.prog.info? 37).map (·.size) = some cs.length := by rw [hlen19]; exact hi37
      have hone' := all_oneCell_toArray hone
      clear hzr ht hx hat hone hB hx2 hq
      go_wp2_with (first
        | (refine wpList_load_mid rfl 37 _ rfl g (c * 19) rfl cs _ hrange Yba.underlying37 rfl hi37' ?_)
        | (refine wpList_store_row rfl 37 _ _ rfl wr.heap.size cs.toArray rfl rfl 37 zr hnew (by simpa using hi37') (by simp [hzs, hlen19]) hone' ?_))
      all_goals
        go_roundg (len + 1 - (c + 1))
        case measure => have := HQ.out; omega
        case rel =>
          refine ⟨c + 1, by omega, rfl, by go_num, ?_, (bel.alloc bel.size _).trans ⟨rfl, rfl, rfl, by simp [World.setRow], fun q hq => setRow_other _ wr.heap.size q _ (by have := bel.size; omega)⟩⟩
          rw [HS.out]; first | rw [if_pos (by omega)] | rw [if_neg (by omega)]
    · obtain rfl : c = len + 1 := by omega
      have ht2 : Hid (hi ph = t) := by rw [ht, List.take_of_length_le (by omega)]; rfl
      clear ht hq hat
      go_wp2
      go_ret2
      exact ⟨by rw [ht2.out]; rfl, bel⟩

set_option maxHeartbeats 1000000 in
theorem exact_long (w : World) (a : Option Addr) (len cap : Nat) (last st : Int) (hlen : 1024 < len) :
    Calls Yba.prog 3 #[.slice a len cap, .int .i64 last, .int .u8 st] w fun e w' => e = .returned (.bool true) ∧ Below w.heap.size w w' := by
  have h : (1024 : Int) < len := by omega
  go_enter Yba.func3, Yba.ntmps3
  go_wp2
  go_ret
  exact ⟨rfl, Below.refl _ _⟩

theorem drewN_below (N : Nat) (w : World) (k : Nat) : Below N w (w.drewN k) := ⟨rfl, rfl, rfl, Nat.le_refl _, fun _ _ => rfl⟩

set_option maxHeartbeats 2000000 in
theorem exact_walk (w : World) (a : Option Addr) (len cap : Nat) (zs : List Int) (last st : Int) (hs0 : 0 ≤ st) (hs1 : st ≤ 255) (hlen : len ≤ 1024) (hr : Row w a len zs) :
    Calls Yba.prog 3 #[.slice a len cap, .int .i64 last, .int .u8 st] w fun e w' => e = .returned (.bool true) ∧ Below w.heap.size w w' := by
  have hbuild := build_any w a len cap zs last st hs0 hs1 hlen hr
  have hz := hr.1
  have hcall : ∃ p ok, (∀ W, Row W a len zs → Calls Yba.prog 8 #[.slice a len cap, .int .i64 last, .int .u8 st] W fun e w' => e = .returned (.tuple #[.int .i64 p, .bool ok]) ∧ W = w') ∧
      (∀ W N B g xs, Built N W B g len xs zs last (st % 6) → Calls Yba.prog 7 #[.pointer (some ⟨B, 0, none⟩)] W fun e w' => e = .returned (.tuple #[.int .i64 p, .bool ok]) ∧ Below W.heap.size W w') := by
    by_cases h4 : st % 6 = 4
    · exact ⟨_, true, fun W hW => model_yes W a len cap zs last st hs0 hs1 h4 hlen hW, fun W N B g xs h => dp_yes h hz hlen (by simp [h4])⟩
    · refine ⟨0, false, fun W _ => model_not W a len cap last st hs0 hs1 h4, fun W N B g xs h => (dp_not h hlen (by simp [h4])).mono ?_⟩
      rintro e w' ⟨k, rfl, rfl⟩
      exact ⟨rfl, drewN_below _ _ _⟩
  obtain ⟨p, ok, hmod, hdp⟩ := hcall
  go_enter Yba.func3, Yba.ntmps3
  go_wp2_with (first
    | (go_at_call 6; refine hbuild.mono ?_; rintro e w1 ⟨B, g, xs, rfl, hB1, bel1⟩; have hdp1 := hdp _ _ _ _ _ hB1; clear hbuild)
    | (go_at_call 7; refine hdp1.mono ?_; rintro e w2 ⟨rfl, bel2⟩; have hB2 := hB1.below bel2; have belw2 := bel1.trans (bel2.mono bel1.size); have hmod2 := hmod _ (hr.below belw2); clear hdp1)
    | (go_at_call 8; refine hmod2.mono ?_; rintro e w3 ⟨rfl, rfl⟩))
  have hrow := hr.below belw2
  have hin := hB2.inst
  have hcell : ∀ j v, j < (len + 1) * 19 → xs[j]? = some v → w2.cell? ⟨g, j, none⟩ = some v := fun j v hj hv => (World.ownsRow.cellAt hB2.own j hj).trans hv
  have hph := hB2.part.2
  have hla := hcell _ _ (by omega) hB2.last
  clear hB1 hB2 bel1 bel2 hmod hmod2 hdp
  go_loopg [12] len (fun q i w3 => ∃ c k : Nat, c ≤ len ∧ q = len - c ∧ i = .int .i64 c ∧ w2.drewN k = w3)
  case atStart => exact ⟨0, 0, Nat.zero_le _, rfl, rfl, rfl⟩
  case round =>
    obtain ⟨c, k, hc, hq, rfl, rfl⟩ := hrel
    have HQ : Hid (gk = len - c) := hq
    clear hq
    by_cases hlt : c < len
    · rcases hrow.2 with h0 | ⟨b, off, rfl, hb, hcells⟩
      · omega
      have x1 := hcells c hlt
      have x2 := hcell _ _ (by omega) (hph c hlt)
      obtain ⟨x, hx⟩ : ∃ x, x = zs.getD c 0 := ⟨_, rfl⟩
      rw [← hx] at x1 x2
      have hl1 : (c : Int) < len := by omega
      have hl2 : (c : Int) < (len : Int) + 1 := by omega
      clear hx hcells hcell hph hla
      go_wp2
      go_quiet (fail)
      go_wp2
      go_roundg (len - (c + 1))
      case measure => have := HQ.out; omega
      case rel => exact ⟨c + 1, _, by omega, rfl, by go_num, rfl⟩
    · obtain rfl : c = len := by omega
      go_wp2
      go_ret
      exact ⟨rfl, belw2.trans (drewN_below _ _ _)⟩
end Go.Proofs.Ybulkddig
