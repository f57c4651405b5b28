/-
  LawS5232CScript: endIfOver.
-/
import Derived.Test.YbulkddigHub
import Derived.Deep.QuietTactic
import Derived.BigQuiet
import Derived.Deep.LoopGhost
namespace Go.Proofs.Ybulkddig
open Go.RowKit Go.Conc

section
variable {c : Cst} {w w' : World} {st : List Int} {cr lf : Int} {ended : Bool} {v : Value} {n : Nat} {xs : List Value} {full : Bool} {mu : Int}

/-- The counts that the medium answers. -/
def cnt (cr lf : Int) : Array Value := #[.int .i64 0, .int .i64 0, .int .i64 cr, .int .i64 lf, .int .i64 0]

set_option maxHeartbeats 4000000 in
theorem over_not (h : Is c w st cr lf ended v n xs full mu) (hs : c.started = false) :
    Calls Yba.prog 23 #[.pointer (some ⟨c.hb, 0, none⟩)] w fun e w' => e = .returned (.tuple #[]) ∧ Is c w' st cr lf ended v n xs full mu ∧ Fr w w' c.C v.ownBlock := by
  obtain ⟨cs, H, HI⟩ := h.hub
  have h16 : w.cell? ⟨c.hb, 16, none⟩ = some (.pointer (some ⟨c.mb, 0, none⟩)) := (H.cell 16).trans HI.med
  have hct := counts_any h.lies.m
  have hlt := H.lt
  have I1 : Is c ((w.alloc (.cells (cnt cr lf) 101)).alloc (.cells (cnt cr lf) 101)) st cr lf ended v n xs full mu := (h.alloc _).alloc _
  have F1 : Fr w ((w.alloc (.cells (cnt cr lf) 101)).alloc (.cells (cnt cr lf) 101)) c.C v.ownBlock := (Fr.alloc w _ _ _).trans (Fr.alloc _ _ _ _) (.inl rfl)
  have h19 : w.cell? ⟨c.hb, 19, none⟩ = some (.bool false) := (H.cell 19).trans (hs ▸ HI.started)
  go_enter Yba.func23, Yba.ntmps23
  go_wp2_with (go_at_call 13; refine hct.mono ?_; rintro e w1 ⟨rfl, rfl⟩)
  go_quiet (fail)
  go_wp2
  refine bodyPost_ret (results_none rfl _ _ _) rfl ?_
  exact ⟨rfl, I1.same (Nat.le_refl _) (fun _ _ => rfl), F1.trans ⟨rfl, rfl, rfl, Nat.le_refl _, fun _ _ _ _ => rfl⟩ (.inl rfl)⟩

set_option maxHeartbeats 4000000 in
theorem over_lt (h : Is c w st cr lf ended v n xs full mu) (hs : c.started = true) (hk : lf + cr < c.M.k) :
    Calls Yba.prog 23 #[.pointer (some ⟨c.hb, 0, none⟩)] w fun e w' => e = .returned (.tuple #[]) ∧ Is c w' st cr lf ended v n xs full mu ∧ Fr w w' c.C v.ownBlock := by
  obtain ⟨cs, H, HI⟩ := h.hub
  have h16 : w.cell? ⟨c.hb, 16, none⟩ = some (.pointer (some ⟨c.mb, 0, none⟩)) := (H.cell 16).trans HI.med
  have hct := counts_any h.lies.m
  have hlt := H.lt
  have I1 : Is c ((w.alloc (.cells (cnt cr lf) 101)).alloc (.cells (cnt cr lf) 101)) st cr lf ended v n xs full mu := (h.alloc _).alloc _
  have F1 : Fr w ((w.alloc (.cells (cnt cr lf) 101)).alloc (.cells (cnt cr lf) 101)) c.C v.ownBlock := (Fr.alloc w _ _ _).trans (Fr.alloc _ _ _ _) (.inl rfl)
  have h19 : w.cell? ⟨c.hb, 19, none⟩ = some (.bool true) := (H.cell 19).trans (hs ▸ HI.started)
  have h17 : w.cell? ⟨c.hb, 17, none⟩ = some (.slice (some ⟨c.pb, 0, none⟩) c.M.k c.M.k) := (H.cell 17).trans HI.peers
  obtain ⟨cr0, cr1⟩ := h.lies.cr0
  obtain ⟨lf0, lf1⟩ := h.lies.lf0
  go_enter Yba.func23, Yba.ntmps23
  go_wp2_with (go_at_call 13; refine hct.mono ?_; rintro e w1 ⟨rfl, rfl⟩)
  go_quiet (fail)
  go_wp2
  refine bodyPost_ret (results_none rfl _ _ _) rfl ?_
  exact ⟨rfl, I1.same (Nat.le_refl _) (fun _ _ => rfl), F1.trans ⟨rfl, rfl, rfl, Nat.le_refl _, fun _ _ _ _ => rfl⟩ (.inl rfl)⟩

set_option maxHeartbeats 4000000 in
theorem over_yes (h : Is c w st cr lf false v n xs full mu) (hs : c.started = true) (hk : lf + cr = c.M.k) :
    Calls Yba.prog 23 #[.pointer (some ⟨c.hb, 0, none⟩)] w fun e w' => e = .returned (.tuple #[]) ∧ Is c w' st cr lf true v n xs full mu ∧ Fr w w' c.C v.ownBlock := by
  obtain ⟨cs, H, HI⟩ := h.hub
  have h16 : w.cell? ⟨c.hb, 16, none⟩ = some (.pointer (some ⟨c.mb, 0, none⟩)) := (H.cell 16).trans HI.med
  have hct := counts_any h.lies.m
  have hlt := H.lt
  have I1 : Is c ((w.alloc (.cells (cnt cr lf) 101)).alloc (.cells (cnt cr lf) 101)) st cr lf false v n xs full mu := (h.alloc _).alloc _
  have F1 : Fr w ((w.alloc (.cells (cnt cr lf) 101)).alloc (.cells (cnt cr lf) 101)) c.C v.ownBlock := (Fr.alloc w _ _ _).trans (Fr.alloc _ _ _ _) (.inl rfl)
  have h19 : w.cell? ⟨c.hb, 19, none⟩ = some (.bool true) := (H.cell 19).trans (hs ▸ HI.started)
  have h17 : w.cell? ⟨c.hb, 17, none⟩ = some (.slice (some ⟨c.pb, 0, none⟩) c.M.k c.M.k) := (H.cell 17).trans HI.peers
  obtain ⟨cr0, cr1⟩ := h.lies.cr0
  obtain ⟨lf0, lf1⟩ := h.lies.lf0
  have hk1 : ¬ lf + cr < c.M.k := by omega
  have hkd : decide (lf + cr < (c.M.k : Int)) = false := decide_eq_false hk1
  go_enter Yba.func23, Yba.ntmps23
  go_wp2_with (go_at_call 13; refine hct.mono ?_; rintro e w1 ⟨rfl, rfl⟩)
  go_quiet (fail)
  go_wp2
  obtain ⟨W, hW⟩ : ∃ W, W = (((w.alloc (.cells (cnt cr lf) 101)).alloc (.cells (cnt cr lf) 101)).drewN nq) := ⟨_, rfl⟩
  have I2 : Is c W st cr lf false v n xs full mu := by rw [hW]; exact I1.same (Nat.le_refl _) (fun _ _ => rfl)
  have F2 : Fr w W c.C v.ownBlock := by rw [hW]; exact F1.trans ⟨rfl, rfl, rfl, Nat.le_refl _, fun _ _ _ _ => rfl⟩ (.inl rfl)
  unfold cnt at hW
  rw [← hW]
  clear hW I1 F1 hct
  have hle := I2.lies.le
  obtain ⟨cs2, H2, HI2⟩ := I2.hub
  have h16' : W.cell? ⟨c.hb, 16, none⟩ = some (.pointer (some ⟨c.mb, 0, none⟩)) := (H2.cell 16).trans HI2.med
  go_loopg [32] c.M.k (fun q x wr => W = wr ∧ ∃ m : Nat, m ≤ c.M.k ∧ q = c.M.k - m ∧ x = .int .i64 m)
  case atStart => exact ⟨rfl, 0, Nat.zero_le _, rfl, rfl⟩
  case round =>
    obtain ⟨rfl, m, hm, hq, rfl⟩ := hrel
    by_cases hlt2 : m < c.M.k
    · go_wp2_with (go_at_call 35; refine (inflight_any I2.lies.m I2.lies.i hlt2).mono ?_; rintro e w3 ⟨rfl, rfl⟩)
      go_roundg (c.M.k - (m + 1))
      case measure => omega
      case rel => exact ⟨rfl, m + 1, by omega, rfl, by go_num⟩
    · go_wp2_with (go_at_call 36; refine (end_is I2).mono ?_; rintro e w3 ⟨rfl, I3, F3⟩)
      go_end0
      exact ⟨rfl, I3, F2.trans F3 (.inl rfl)⟩

end
end Go.Proofs.Ybulkddig
