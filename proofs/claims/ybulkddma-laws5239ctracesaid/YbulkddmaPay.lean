/-
  LawS5239CTrace: the payload and its copy; the blocks that the call lays.
-/
import Derived.Test.YbulkddmaCalls
import Derived.Lib.SliceRun
import Derived.Lib.SlBuf
import Derived.Laws.CopyRow
namespace Go.Proofs.Ybulkddma
open Go.RowKit

/-- The payload and its copy bear the same bytes. -/
def Pay (w : World) (pa ad : Option Addr) (len : Nat) : Prop :=
  len = 0 ∨ ∃ b o b' o', pa = some ⟨b, o, none⟩ ∧ ad = some ⟨b', o', none⟩ ∧ b < w.heap.size ∧ b' < w.heap.size ∧ ∀ i, i < len → ∃ n : Int, w.cell? ⟨b, o + i, none⟩ = some (.int .u8 n) ∧ w.cell? ⟨b', o' + i, none⟩ = some (.int .u8 n)

theorem Pay.below {w w' : World} {pa ad : Option Addr} {len M : Nat} (h : Pay w pa ad len) (hb : Below M w w') (hM : w.heap.size ≤ M) (hs : w.heap.size ≤ w'.heap.size) : Pay w' pa ad len := by
  rcases h with h | ⟨b, o, b', o', e, e', l, l', hc⟩
  · exact .inl h
  · refine .inr ⟨b, o, b', o', e, e', by omega, by omega, fun i hi => ?_⟩
    obtain ⟨n, h1, h2⟩ := hc i hi
    exact ⟨n, (hb.cell (p := ⟨b, o + i, none⟩) (by show b < M; omega)).trans h1, (hb.cell (p := ⟨b', o' + i, none⟩) (by show b' < M; omega)).trans h2⟩

/-- The bytes that came in. -/
def Bytes (w : World) (a : Option Addr) (len : Nat) : Prop :=
  len = 0 ∨ ∃ b o, a = some ⟨b, o, none⟩ ∧ b < w.heap.size ∧ ∀ i, i < len → ∃ n : Int, w.cell? ⟨b, o + i, none⟩ = some (.int .u8 n)

theorem hold_new (w : World) (cs : Array Value) (t : TypeId) : Hold (w.alloc (.cells cs t)) w.heap.size cs := ⟨t, (MapKept.heap_alloc w _).1⟩
theorem size_alloc (w : World) (o : Obj) : (w.alloc o).heap.size = w.heap.size + 1 := by simp
theorem hold_at (w : World) (cs : Array Value) (t : TypeId) {n : Nat} (h : w.heap.size = n) : Hold (w.alloc (.cells cs t)) n cs := by rw [← h]; exact hold_new w cs t

/-- Seven blocks laid one behind another. -/
theorem seven (w : World) (c0 c1 c2 c3 c4 c5 c6 : Array Value) (t0 t1 t2 t3 t4 t5 t6 : TypeId) {n : Nat} (hn : w.heap.size = n) {V : World}
    (e : V = ((((((w.alloc (.cells c0 t0)).alloc (.cells c1 t1)).alloc (.cells c2 t2)).alloc (.cells c3 t3)).alloc (.cells c4 t4)).alloc (.cells c5 t5)).alloc (.cells c6 t6)) :
    Hold V (n + 1) c1 ∧ Hold V (n + 1 + 1) c2 ∧ Hold V (n + 1 + 2) c3 ∧ Hold V (n + 1 + 3) c4 ∧ Hold V (n + 1 + 4) c5 ∧ Hold V (n + 1 + 5) c6 ∧ Below n w V ∧ V.heap.size = n + 7 := by
  subst e
  refine ⟨?_, ?_, ?_, ?_, ?_, ?_, ?_, ?_⟩
  · exact (((((hold_at _ c1 t1 (by simp [hn])).alloc _).alloc _).alloc _).alloc _).alloc _
  · exact ((((hold_at _ c2 t2 (by simp [hn])).alloc _).alloc _).alloc _).alloc _
  · exact (((hold_at _ c3 t3 (by simp [hn])).alloc _).alloc _).alloc _
  · exact ((hold_at _ c4 t4 (by simp [hn])).alloc _).alloc _
  · exact (hold_at _ c5 t5 (by simp [hn])).alloc _
  · exact hold_at _ c6 t6 (by simp [hn])
  · exact (((((((Below.refl _ _).alloc (by omega) _).alloc (by simp; omega) _).alloc (by simp; omega) _).alloc (by simp; omega) _).alloc (by simp; omega) _).alloc (by simp; omega) _).alloc (by simp; omega) _
  · simp [hn]

theorem byte_size : (Yba.prog.info? 5).map (·.size) = some 1 := by kernel_rfl
theorem byte_info : ∃ i, Yba.prog.info? 5 = some i ∧ i.zero = some (.int .u8 0) ∧ i.size = 1 ∧ i.bytes = 1 := ⟨_, rfl, rfl, rfl, rfl⟩

theorem make_bytes (w : World) (len : Nat) (h : len ≤ 65536) :
    (Instr.makeSlice 24 (.int .i64 len) (.int .i64 len)).run Yba.prog w = .ok (.slice (some ⟨w.heap.size, 0, none⟩) len len) (w.alloc (.cells (madeCells #[.int .u8 0] len) 5)) := by
  obtain ⟨i, hi, hz, hs, hb⟩ := byte_info
  have := run_makeSlice (w := w) 24 5 i (.int .u8 0) Yba.underlying24 hi hz .i64 .i64 len len (by omega) (by omega) (by rw [hs]; simp; omega) (by rw [hb]; omega) (by omega)
  rw [hs] at this
  simpa [Value.cells] using this

theorem made_size (len : Nat) : (madeCells #[.int .u8 0] len).size = len := by simp [madeCells]

/-- 'copy(p, payload)' into the block that was just made. -/
theorem copy_bytes (w : World) (ad : Option Addr) (len cap : Nat) (hb : Bytes w ad len) (hnn : ad ≠ none) :
    ∃ w', (Builtin.copy_ #[24, 24] 3 #[.slice (some ⟨w.heap.size, 0, none⟩) len len, .slice ad len cap]).run Yba.prog (w.alloc (.cells (madeCells #[.int .u8 0] len) 5)) = .ok (goInt len) w' ∧
      Below w.heap.size w w' ∧ Pay w' (some ⟨w.heap.size, 0, none⟩) ad len ∧ w'.heap.size = w.heap.size + 1 := by
  have hg := (MapKept.heap_alloc w (.cells (madeCells #[.int .u8 0] len) 5)).1
  have b1 : Below w.heap.size w (w.alloc (.cells (madeCells #[.int .u8 0] len) 5)) := (Below.refl _ _).alloc (Nat.le_refl _) _
  obtain ⟨a, rfl⟩ : ∃ a, ad = some a := by cases ad with | none => exact absurd rfl hnn | some a => exact ⟨a, rfl⟩
  rcases hb with h0 | ⟨b, o, he, hlt, hc⟩
  · subst h0
    have h := run_copy_row (P := Yba.prog) (w.alloc (.cells (madeCells #[.int .u8 0] 0) 5)) 24 24 3 5 w.heap.size 0 0 0 a 0 cap _ 5 [] Yba.underlying24 byte_size hg rfl (by simp) (by simp) (by simp)
    refine ⟨_, h, ?_, .inl rfl, by simp [World.setRow]⟩
    exact b1.trans ⟨rfl, rfl, rfl, by simp [World.setRow], fun q hq => setRow_other _ _ q _ (by omega)⟩
  · obtain rfl : a = ⟨b, o, none⟩ := by simpa using he
    have hx : ∃ xs : List Int, xs.length = len ∧ ∀ i, i < len → w.cell? ⟨b, o + i, none⟩ = some (.int .u8 (xs.getD i 0)) := by
      clear hg b1 he hnn
      induction len with
      | zero => exact ⟨[], rfl, by simp⟩
      | succ k ih =>
        obtain ⟨xs, h1, h2⟩ := ih (fun i hi => hc i (by omega))
        obtain ⟨n, hn⟩ := hc k (by omega)
        refine ⟨xs ++ [n], by simp [h1], fun i hi => ?_⟩
        by_cases hik : i < k
        · rw [h2 i hik]; simp [List.getD, List.getElem?_append_left (show i < xs.length by omega)]
        · obtain rfl : i = k := by omega
          rw [hn]; simp [List.getD, ← h1]
    obtain ⟨xs, hxl, hxc⟩ := hx
    have hcell : ∀ i, i < len → (w.alloc (.cells (madeCells #[.int .u8 0] len) 5)).cell? ⟨b, o + i, none⟩ = some (.int .u8 (xs.getD i 0)) := fun i hi => (b1.cell (p := ⟨b, o + i, none⟩) hlt).trans (hxc i hi)
    have h := run_copy_row (P := Yba.prog) (w.alloc (.cells (madeCells #[.int .u8 0] len) 5)) 24 24 3 5 w.heap.size 0 len len ⟨b, o, none⟩ len cap _ 5 (xs.map (Value.int .u8)) Yba.underlying24 byte_size hg (by simp [hxl]) (by
        intro j v hv
        have hj : j < len := by
          have := (List.getElem?_eq_some_iff.1 hv).1; simpa [hxl] using this
        rw [Go.WideShapes.add_plain, hcell j hj]
        rw [List.getElem?_map, List.getElem?_eq_getElem (by omega)] at hv
        rw [List.getD_eq_getElem?_getD, List.getElem?_eq_getElem (by omega)]
        simpa using hv) (by simp [hxl, made_size]) (by intro v hv; simp at hv; obtain ⟨n, _, rfl⟩ := hv; rfl)
    have hrow : ((madeCells #[.int .u8 0] len).toList.take 0 ++ xs.map (Value.int .u8) ++ (madeCells #[.int .u8 0] len).toList.drop (0 + (xs.map (Value.int .u8)).length)).toArray = (xs.map (Value.int .u8)).toArray := by
      rw [List.drop_of_length_le (by simp [hxl, made_size])]; simp
    rw [hrow] at h
    have hsz : (xs.map (Value.int .u8)).length = len := by simp [hxl]
    rw [hsz] at h
    have b2 : Below w.heap.size w ((w.alloc (.cells (madeCells #[.int .u8 0] len) 5)).setRow w.heap.size (xs.map (Value.int .u8)).toArray) :=
      b1.trans ⟨rfl, rfl, rfl, by simp [World.setRow], fun q hq => setRow_other _ _ q _ (by omega)⟩
    refine ⟨_, h, b2, .inr ⟨w.heap.size, 0, b, o, rfl, rfl, by simp [World.setRow], by simp [World.setRow]; omega, fun i hi => ⟨xs.getD i 0, ?_, (b2.cell (p := ⟨b, o + i, none⟩) hlt).trans (hxc i hi)⟩⟩, by simp [World.setRow]⟩
    have hr := setRow_heap _ w.heap.size _ (xs.map (Value.int .u8)).toArray 5 (0, 0) hg
    unfold World.cell?
    rw [hr]
    simp [List.getElem?_eq_getElem (show i < xs.length by omega), List.getD]
end Go.Proofs.Ybulkddma
