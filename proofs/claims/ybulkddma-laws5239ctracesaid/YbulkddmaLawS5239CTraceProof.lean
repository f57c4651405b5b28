/-
  LawS5239CTrace: the row, out of the walk. After the shell that the kit's tool writes for a law.
-/
import Derived.Test.YbulkddmaRows
import Derived.WalkKit
import Derived.ProofKit
import Derived.OpenShut
import Derived.ShutString
import Derived.ChangeOld
import Derived.Below
import Derived.Lib.SmallJoins
import Derived.Test.YbulkddmaWalk
namespace Go.Proofs.Ybulkddma.lawS5239CTrace
open Go.ChangeShapes Go.WideShapes Go.ChangeAt Go.RowKit Go.Joins
open Go.ChangeMaps (open_string shut_string)

theorem own : ownKnob Yba.prog.godebug = none := by kernel_rfl
theorem laidOut : laidOutB Yba.prog = true := by kernel_rfl
theorem cells26 : Yba.prog.cellsOf 26 = 8 := by kernel_rfl
theorem cells4 : Yba.prog.cellsOf 4 = 1 := by kernel_rfl
theorem cells5 : Yba.prog.cellsOf 5 = 1 := by kernel_rfl
theorem cells22 : Yba.prog.cellsOf 22 = 1 := by kernel_rfl
theorem cells23 : Yba.prog.cellsOf 23 = 1 := by kernel_rfl
theorem cells24 : Yba.prog.cellsOf 24 = 1 := by kernel_rfl

theorem list8 {α : Type} {l : List α} (h : l.length = 8) : ∃ a b c d e f g i, l = [a, b, c, d, e, f, g, i] := by
  match l, h with
  | [a, b, c, d, e, f, g, i], _ => exact ⟨a, b, c, d, e, f, g, i, rfl⟩

theorem open_msg {H : Type} {enc : TypeId × Value → H} {w : World} {r : Reach} {b0 : Nat} {v : Value} {d : DataW H} {p : List MemPlace}
    (hv : Value.okWide Yba.prog w r b0 26 v) (h : DataW.Trod enc Yba.prog w 0 (fun _ => true) true 26 v d p) :
    ∃ m : Msg, v = .agg m.cells ∧ Bytes w m.pa m.pl ∧ (m.pa = none → m.pl = 0 ∧ m.pc = 0) := by
  obtain ⟨cs, rfl, hsz⟩ := okWide_struct Yba.underlying26 hv
  obtain ⟨fuel, hf⟩ := h
  obtain ⟨ys, n', _, _, _, _, hg⟩ := DataW.trod_struct Yba.underlying26 hf
  obtain ⟨cl⟩ := cs
  rw [cells26] at hsz
  obtain ⟨c0, c1, c2, c3, c4, c5, c6, c7, rfl⟩ := list8 (l := cl) (by simpa using hsz)
  have hlen : ys.length = 8 := by assumption
  obtain ⟨y0, y1, y2, y3, y4, y5, y6, y7, rfl⟩ := list8 hlen
  have g0 := hg 0 _ rfl
  have g1 := hg 1 _ rfl
  have g2 := hg 2 _ rfl
  have g3 := hg 3 _ rfl
  have g4 := hg 4 _ rfl
  have g5 := hg 5 _ rfl
  have g6 := hg 6 _ rfl
  have g7 := hg 7 _ rfl
  simp [cells4, cells5, cells22, cells23, cells24, Value.cells] at g0 g1 g2 g3 g4 g5 g6 g7
  obtain ⟨b0, e0, _⟩ := DataW.trod_bool Yba.underlying4 g0
  obtain ⟨b1, e1, _⟩ := DataW.trod_int Yba.underlying5 g1
  obtain ⟨b2, e2, _⟩ := DataW.trod_int Yba.underlying22 g2
  obtain ⟨b3, e3, _⟩ := DataW.trod_int Yba.underlying22 g3
  obtain ⟨b4, e4, _⟩ := DataW.trod_int Yba.underlying22 g4
  obtain ⟨b5, e5, _⟩ := DataW.trod_int Yba.underlying23 g5
  obtain ⟨b6, e6, _⟩ := DataW.trod_int Yba.underlying5 g6
  simp at e0 e1 e2 e3 e4 e5 e6
  subst e0 e1 e2 e3 e4 e5 e6
  rcases open_ints Yba.underlying24 Yba.underlying5 (by kernel_rfl) g7 with ⟨hcs, _⟩ | ⟨x, l, c, zs, hcs, _, hl, hm, hz, _, hcell, hwz⟩
  · simp at hcs
    subst hcs
    exact ⟨⟨b0, b1, b2, b3, b4, b5, b6, none, 0, 0⟩, rfl, .inl rfl, fun _ => ⟨rfl, rfl⟩⟩
  · simp at hcs
    subst hcs
    refine ⟨⟨b0, b1, b2, b3, b4, b5, b6, some x, l, c⟩, rfl, ?_, fun h => by cases h⟩
    have hz' : zs.length = c := by simpa using hz
    show Bytes w (some x) l
    by_cases h0 : l = 0
    · exact .inl h0
    right
    obtain ⟨b, o, spot⟩ := x
    have q0 := hcell 0 (by omega)
    have hspot : spot = none := by simpa [Addr.add] using World.cell?_spot q0
    subst hspot
    refine ⟨b, o, rfl, World.block_lt_of_cell? w ⟨b, o, none⟩ (by simpa [Addr.add] using q0), fun i hi => ?_⟩
    have ci := hcell i (by omega)
    rw [Go.WideShapes.add_plain] at ci
    exact ⟨_, ci⟩

set_option maxRecDepth 100000 in
set_option maxHeartbeats 400000 in
/-- A payload of more than 65536 bytes: true at once. -/
theorem long (m : Msg) (s : ByteArray) (on : Bool) (w : World) (hlen : 65536 < m.pl) :
    Calls Yba.prog 3 #[.agg m.cells, .string s, .bool on] w fun e w' => e = .returned (.bool true) ∧ Below w.heap.size w w' := by
  obtain ⟨ka, id, ix, bg, ln, pt, xi, pa, len, cap⟩ := m
  have h : (65536 : Int) < len := by have : 65536 < len := hlen; omega
  unfold Msg.cells
  go_enter Yba.func3, Yba.ntmps3
  go_wp2
  go_ret
  exact ⟨rfl, (Below.refl _ _).alloc (Nat.le_refl _) _⟩

theorem walk (m : Msg) (s : ByteArray) (on : Bool) (w : World) (hb : Bytes w m.pa m.pl) (hn : m.pa = none → m.pl = 0 ∧ m.pc = 0) :
    Calls Yba.prog 3 #[.agg m.cells, .string s, .bool on] w fun e w' => e = .returned (.bool true) ∧ Below w.heap.size w w' := by
  by_cases h : m.pl ≤ 65536
  · exact trace_walk m s on w h hb hn
  · exact long m s on w (by omega)

set_option maxRecDepth 100000 in
theorem lifted (os : Os) (started : os.Started) (H : Type) (enc : TypeId × Value → H) :
    ReturnsInHanded {} Yba.checked os 3 .any (Rows.lawS5239CTraceSpec.pre6 enc Yba.prog Yba.f3 Rows.lawS5239CTraceRow.domain false) (Rows.lawS5239CTraceSpec.post enc Yba.prog Yba.f3 false true false false) := by
  refine returnsInHanded_of_change (C := Yba.checked) own started (by kernel_rfl) Yba.func3
    (ChangeSpec.witness6 (enc := enc) (C := Yba.checked) false ⟨#[], #[.agg #[.bool false, .int .u8 0, .int .u32 0, .int .u32 0, .int .u32 0, .int .u16 0, .int .u8 0, .slice none 0 0], .string ⟨#[]⟩, .bool false], []⟩ 8 (by kernel_rfl) (by kernel_rfl) (by kernel_rfl) (by kernel_rfl)) ?_
  intro W base args ds gs before hval0 hW hcnd _
  have hval : ∀ (j : Nat) t v, Yba.f3.params[j]? = some t → args[j]? = some v → Value.okWide Yba.prog W .any base t v := hval0
  have hW' := hW
  obtain ⟨p, q, hA0, hV, rfl, hfz, hnd⟩ := hW
  have hA : DataW.TrodAll enc Yba.prog W 0 (fun _ => true) true Yba.f3.params.toList args.toList ds p := hA0
  rw [Yba.params3] at hA hval
  obtain ⟨v0, vs0, d0, ds0, p0, q0, hargs, rfl, rfl, h0, r0⟩ := trodAll_cons hA
  obtain ⟨v1, vs1, d1, ds1, p1, q1, rfl, rfl, rfl, h1, r1⟩ := trodAll_cons r0
  obtain ⟨v2, vs2, d2, ds2, p2, q2, rfl, rfl, rfl, h2, r2⟩ := trodAll_cons r1
  obtain ⟨rfl, rfl, rfl⟩ := trodAll_nil r2
  obtain rfl : args = #[v0, v1, v2] := by cases args; simp_all
  obtain ⟨rfl, rfl⟩ := trodVars_none hV
  have k0 := h0
  have lt0 : ∀ x ∈ p0, x.block < W.heap.size := by obtain ⟨m, hm⟩ := k0; exact DataW.trod_lt m _ _ _ hm
  obtain ⟨m, rfl, hb, hn⟩ := open_msg (hval 0 26 v0 rfl rfl) h0
  obtain ⟨a1, rfl, rfl, rfl, w1⟩ := open_string Yba.underlying9 (hval 1 9 v1 rfl rfl) h1
  obtain ⟨a2, rfl, rfl, rfl⟩ := open_bool Yba.underlying4 (hval 2 4 v2 rfl rfl) h2
  clear hA0 hval0
  refine (walk m a1 a2 W hb hn).mono fun e W' ⟨he, bel⟩ => ?_
  subst he
  exact ⟨_, rfl, _, _, _, [], _, [], hW', trodAll_mk1 (shut_bool Yba.underlying4 _), (trodAll_cons_mk (Below.trod laidOut (by kernel_rfl) (of_decide_eq_true (by kernel_rfl)) k0 bel lt0) (trodAll_cons_mk (shut_string Yba.underlying9 w1) (trodAll_cons_mk (shut_bool Yba.underlying4 _) trodAll_mk0))), rfl, bel.frame _, fun h => by cases h⟩

theorem over : Rows.lawS5239CTraceRow.holds Yba.pinned (OpenSpec.ofChange Rows.lawS5239CTraceSpec) :=
  OpenClaim.holds_of_wide 3 Yba.f3 rfl rfl rfl rfl rfl rfl rfl ⟨rfl, rfl, rfl, rfl, rfl⟩ rfl rfl rfl rfl rfl (by kernel_rfl) Yba.func3 (by kernel_rfl)
    (of_decide_eq_true (by kernel_rfl)) (by unfold Func.isWrapper; first | (rw [if_pos (by decide +kernel)]; kernel_rfl) | (rw [if_neg (by decide +kernel)]; exact ⟨rfl, rfl⟩))
    (fun os started H enc _ => lifted os started H enc)

/-- The statement. -/
theorem proved : Rows.LawS5239CTraceSaid := over
#print axioms proved
end Go.Proofs.Ybulkddma.lawS5239CTrace
