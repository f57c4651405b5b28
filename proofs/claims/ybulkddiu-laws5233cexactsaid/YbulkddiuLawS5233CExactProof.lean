/-
  LawS5233CExact: the 21 ways joined, and the row out of the walk. After the shell that the kit's tool writes for a law.
-/
import Derived.Test.YbulkddiuRows
import Derived.WalkKit
import Derived.ProofKit
import Derived.OpenShut
import Derived.ShutString
import Derived.ChangeOld
import Derived.Below
import Derived.Test.YbulkddiuOpen
import Derived.Test.YbulkddiuExactT
import Derived.Test.YbulkddiuExactN
import Derived.Test.YbulkddiuExactY
namespace Go.Proofs.Ybulkddiu.lawS5233CExact
open Go.ChangeShapes Go.WideShapes Go.ChangeAt Go.RowKit
open Go.ChangeMaps (open_string shut_string)

theorem own : ownKnob Yba.prog.godebug = none := by kernel_rfl
theorem laidOut : laidOutB Yba.prog = true := by kernel_rfl

theorem walk (s : St) (c : Int) (w : World) :
    Calls Yba.prog 3 #[.agg s.cells, .int .u8 c] w fun e w' => e = .returned (.bool true) ∧ Below w.heap.size w w' := by
  obtain ⟨i, sp, la, fs, fn, rs, rn, tb, ae, sa⟩ := s
  cases sa
  · by_cases hc : c = 32
    · subst hc
      cases i
      · cases la
        · cases fs
          · exact way_yFn sp fn rn rs tb ae w
          · by_cases hl : sp < fn
            · exact way_yFl sp fn rn rs tb ae hl w
            · exact way_yFg sp fn rn rs tb ae hl w
        · cases rs
          · exact way_yLn sp fn rn fs tb ae w
          · by_cases hl : sp < rn
            · exact way_yLl sp fn rn fs tb ae hl w
            · exact way_yLg sp fn rn fs tb ae hl w
      · exact way_yi sp fn rn la fs rs tb ae w
    · cases i
      · cases la
        · cases fs
          · exact way_nFn sp fn rn rs tb ae c hc w
          · by_cases hl : sp < fn
            · exact way_nFl sp fn rn rs tb ae c hc hl w
            · exact way_nFg sp fn rn rs tb ae c hc hl w
        · cases rs
          · exact way_nLn sp fn rn fs tb ae c hc w
          · by_cases hl : sp < rn
            · exact way_nLl sp fn rn fs tb ae c hc hl w
            · exact way_nLg sp fn rn fs tb ae c hc hl w
      · exact way_ni sp fn rn la fs rs tb ae c hc w
  · cases i
    · cases la
      · cases fs
        · exact way_tFn sp fn rn rs tb ae c w
        · by_cases hl : sp < fn
          · exact way_tFl sp fn rn rs tb ae c hl w
          · exact way_tFg sp fn rn rs tb ae c hl w
      · cases rs
        · exact way_tLn sp fn rn fs tb ae c w
        · by_cases hl : sp < rn
          · exact way_tLl sp fn rn fs tb ae c hl w
          · exact way_tLg sp fn rn fs tb ae c hl w
    · exact way_ti sp fn rn la fs rs tb ae c w

set_option maxRecDepth 100000 in
theorem lifted (os : Os) (started : os.Started) (H : Type) (enc : TypeId × Value → H) :
    ReturnsInHanded {} Yba.checked os 3 .any (Rows.lawS5233CExactSpec.pre6 enc Yba.prog Yba.f3 Rows.lawS5233CExactRow.domain false) (Rows.lawS5233CExactSpec.post enc Yba.prog Yba.f3 false true false false) := by
  refine returnsInHanded_of_change (C := Yba.checked) own started (by kernel_rfl) Yba.func3
    (ChangeSpec.witness6 (enc := enc) (C := Yba.checked) false ⟨#[], #[.agg #[.bool false, .int .i64 0, .bool false, .bool false, .int .i64 0, .bool false, .int .i64 0, .bool false, .bool false, .bool false], .int .u8 0], []⟩ 8 (by kernel_rfl) (by kernel_rfl) (by kernel_rfl) (by kernel_rfl)) ?_
  intro W base args ds gs before hval0 hW hcnd _
  have hval : ∀ (j : Nat) t v, Yba.f3.params[j]? = some t → args[j]? = some v → Value.okWide Yba.prog W .any base t v := hval0
  have hW' := hW
  obtain ⟨p, q, hA0, hV, rfl, hfz, hnd⟩ := hW
  have hA : DataW.TrodAll enc Yba.prog W 0 (fun _ => true) true Yba.f3.params.toList args.toList ds p := hA0
  rw [Yba.params3] at hA hval
  obtain ⟨v0, vs0, d0, ds0, p0, q0, hargs, rfl, rfl, h0, r0⟩ := trodAll_cons hA
  obtain ⟨v1, vs1, d1, ds1, p1, q1, rfl, rfl, rfl, h1, r1⟩ := trodAll_cons r0
  obtain ⟨rfl, rfl, rfl⟩ := trodAll_nil r1
  obtain rfl : args = #[v0, v1] := by cases args; simp_all
  obtain ⟨rfl, rfl⟩ := trodVars_none hV
  have k0 := h0
  have lt0 : ∀ x ∈ p0, x.block < W.heap.size := by obtain ⟨m, hm⟩ := k0; exact DataW.trod_lt m _ _ _ hm
  obtain ⟨s, rfl⟩ := open_st (hval 0 23 v0 rfl rfl) h0
  obtain ⟨a1, rfl, rfl, rfl, w1⟩ := open_int Yba.underlying5 (hval 1 5 v1 rfl rfl) h1
  clear hA0 hval0
  refine (walk s a1 W).mono fun e W' ⟨he, bel⟩ => ?_
  subst he
  exact ⟨_, rfl, _, _, _, [], _, [], hW', trodAll_mk1 (shut_bool Yba.underlying4 _), (trodAll_cons_mk (Below.trod laidOut (by kernel_rfl) (of_decide_eq_true (by kernel_rfl)) k0 bel lt0) (trodAll_cons_mk (shut_int Yba.underlying5 w1) trodAll_mk0)), rfl, bel.frame _, fun h => by cases h⟩

theorem over : Rows.lawS5233CExactRow.holds Yba.pinned (OpenSpec.ofChange Rows.lawS5233CExactSpec) :=
  OpenClaim.holds_of_wide 3 Yba.f3 rfl rfl rfl rfl rfl rfl rfl ⟨rfl, rfl, rfl, rfl, rfl⟩ rfl rfl rfl rfl rfl (by kernel_rfl) Yba.func3 (by kernel_rfl)
    (of_decide_eq_true (by kernel_rfl)) (by unfold Func.isWrapper; first | (rw [if_pos (by decide +kernel)]; kernel_rfl) | (rw [if_neg (by decide +kernel)]; exact ⟨rfl, rfl⟩))
    (fun os started H enc _ => lifted os started H enc)

/-- The statement. -/
theorem proved : Rows.LawS5233CExactSaid := over
#print axioms proved
end Go.Proofs.Ybulkddiu.lawS5233CExact
