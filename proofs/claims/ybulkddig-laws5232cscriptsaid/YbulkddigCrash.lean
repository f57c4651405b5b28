/-
  LawS5232CScript: the hub's crash.
-/
import Derived.Test.YbulkddigOver
import Derived.Test.YbulkddigDo
import Derived.Deep.QuietTactic
import Derived.BigQuiet
import Derived.Test.YbulkddigLocks
import Derived.Conc.MuLone
import Derived.Defers
namespace Go.Proofs.Ybulkddig
open Go.RowKit Go.Conc Go.MuLone

section
variable {c : Cst} {w w' : World} {st : List Int} {cr lf : Int} {ended : Bool} {v : Value} {n : Nat} {xs : List Value} {full : Bool}

set_option maxHeartbeats 4000000 in
theorem crash_dead (h : Is c w st cr lf ended v n xs full 0) {i : Nat} (hi : i < c.M.k) (hs : st.getD i 0 = 1) :
    Calls Yba.prog 12 #[.pointer (some ⟨c.hb, 0, none⟩), .pointer (some ⟨c.P i, 0, none⟩)] w fun e w' => e = .returned (.tuple #[]) ∧ Is c w' st cr lf ended v n xs full 0 ∧ Fr w w' c.C v.ownBlock := by
  obtain ⟨cs, H, HI⟩ := h.hub
  have h14 : w.cell? ⟨c.hb, 14, none⟩ = some (.int .i32 0) := (H.cell 14).trans HI.mu
  have f14 := H.frozen 14
  have I1 := h.lock 1
  obtain ⟨cs1, H1, HI1⟩ := I1.hub
  have F1 : Fr w (w.setCell ⟨c.hb, 14, none⟩ (.int .i32 1)) c.C v.ownBlock := Fr.setCell w c.hb 14 _ _ (.inl rfl)
  obtain ⟨W1, hW1⟩ : ∃ W1, W1 = w.setCell ⟨c.hb, 14, none⟩ (.int .i32 1) := ⟨_, rfl⟩
  rw [← hW1] at I1 H1 F1
  have h16 : W1.cell? ⟨c.hb, 16, none⟩ = some (.pointer (some ⟨c.mb, 0, none⟩)) := (H1.cell 16).trans HI1.med
  obtain ⟨p0, p1, p4, p5⟩ := I1.peers i hi
  have hcr : ∀ m, Calls Yba.prog 14 #[.pointer (some ⟨c.mb, 0, none⟩), .int .i64 i] (W1.drewN m) fun e w' => e = .returned (.bool (st.getD i 0 == 1)) ∧ w' = W1.drewN m := fun m => (crashed_any (w := W1.drewN m) I1.lies.m I1.lies.s I1.lies.k hi).mono fun e w' ⟨a, b⟩ => ⟨a, b.symm⟩
  have hlf : ∀ m, Calls Yba.prog 15 #[.pointer (some ⟨c.mb, 0, none⟩), .int .i64 i] (W1.drewN m) fun e w' => e = .returned (.bool (st.getD i 0 == 2)) ∧ w' = W1.drewN m := fun m => (left_any (w := W1.drewN m) I1.lies.m I1.lies.s I1.lies.k hi).mono fun e w' ⟨a, b⟩ => ⟨a, b.symm⟩
  have HW : Hid (W1 = w.setCell ⟨c.hb, 14, none⟩ (.int .i32 1)) := hW1
  clear hW1
  have e1 : (st.getD i 0 == 1) = true := by rw [hs]; rfl
  rw [e1] at hcr
  go_enter_defers Yba.func12, Yba.ntmps12
  go_wp2_with (go_at_call 19; refine (lock_free Yba.muLib ⟨c.hb, 14, none⟩ _ h14 f14).mono ?_; rintro e w1 ⟨rfl, hw1⟩; obtain rfl : W1 = w1 := HW.out.trans hw1.symm; clear hw1)
  go_quiet (first
    | (go_at_call 14; exact Calls.quiet_of_same (hcr _))
    | (go_at_call 15; exact Calls.quiet_of_same (hlf _)))
  go_wp2
  refine leaves_cons (f := 20) (args := #[.pointer (some ⟨c.hb, 14, none⟩)]) (by simp) (by simp [go_sem]) ?_
  refine (unlock_deferred Yba.muLib ⟨c.hb, 14, none⟩ .returning (W1.drewN nq) ((H1.cell 14).trans HI1.mu) (H1.frozen 14)).mono ?_
  rintro e u' w'' ⟨rfl, rfl, rfl⟩
  have I2 : Is c (W1.drewN nq) st cr lf ended v n xs full 1 := I1.same (Nat.le_refl _) (fun _ _ => rfl)
  have F2 : Fr w (W1.drewN nq) c.C v.ownBlock := F1.trans ⟨rfl, rfl, rfl, Nat.le_refl _, fun _ _ _ _ => rfl⟩ (.inl rfl)
  exact ⟨_, results_none rfl _ _ _, rfl, I2.lock 0, F2.trans (Fr.setCell _ c.hb 14 _ _ (.inl rfl)) (.inl rfl)⟩

set_option maxHeartbeats 4000000 in
theorem crash_left (h : Is c w st cr lf ended v n xs full 0) {i : Nat} (hi : i < c.M.k) (hs : st.getD i 0 = 2) :
    Calls Yba.prog 12 #[.pointer (some ⟨c.hb, 0, none⟩), .pointer (some ⟨c.P i, 0, none⟩)] w fun e w' => e = .returned (.tuple #[]) ∧ Is c w' st cr lf ended v n xs full 0 ∧ Fr w w' c.C v.ownBlock := by
  obtain ⟨cs, H, HI⟩ := h.hub
  have h14 : w.cell? ⟨c.hb, 14, none⟩ = some (.int .i32 0) := (H.cell 14).trans HI.mu
  have f14 := H.frozen 14
  have I1 := h.lock 1
  obtain ⟨cs1, H1, HI1⟩ := I1.hub
  have F1 : Fr w (w.setCell ⟨c.hb, 14, none⟩ (.int .i32 1)) c.C v.ownBlock := Fr.setCell w c.hb 14 _ _ (.inl rfl)
  obtain ⟨W1, hW1⟩ : ∃ W1, W1 = w.setCell ⟨c.hb, 14, none⟩ (.int .i32 1) := ⟨_, rfl⟩
  rw [← hW1] at I1 H1 F1
  have h16 : W1.cell? ⟨c.hb, 16, none⟩ = some (.pointer (some ⟨c.mb, 0, none⟩)) := (H1.cell 16).trans HI1.med
  obtain ⟨p0, p1, p4, p5⟩ := I1.peers i hi
  have hcr : ∀ m, Calls Yba.prog 14 #[.pointer (some ⟨c.mb, 0, none⟩), .int .i64 i] (W1.drewN m) fun e w' => e = .returned (.bool (st.getD i 0 == 1)) ∧ w' = W1.drewN m := fun m => (crashed_any (w := W1.drewN m) I1.lies.m I1.lies.s I1.lies.k hi).mono fun e w' ⟨a, b⟩ => ⟨a, b.symm⟩
  have hlf : ∀ m, Calls Yba.prog 15 #[.pointer (some ⟨c.mb, 0, none⟩), .int .i64 i] (W1.drewN m) fun e w' => e = .returned (.bool (st.getD i 0 == 2)) ∧ w' = W1.drewN m := fun m => (left_any (w := W1.drewN m) I1.lies.m I1.lies.s I1.lies.k hi).mono fun e w' ⟨a, b⟩ => ⟨a, b.symm⟩
  have HW : Hid (W1 = w.setCell ⟨c.hb, 14, none⟩ (.int .i32 1)) := hW1
  clear hW1
  have e1 : (st.getD i 0 == 1) = false := by rw [hs]; rfl
  have e2 : (st.getD i 0 == 2) = true := by rw [hs]; rfl
  rw [e1] at hcr
  rw [e2] at hlf
  go_enter_defers Yba.func12, Yba.ntmps12
  go_wp2_with (go_at_call 19; refine (lock_free Yba.muLib ⟨c.hb, 14, none⟩ _ h14 f14).mono ?_; rintro e w1 ⟨rfl, hw1⟩; obtain rfl : W1 = w1 := HW.out.trans hw1.symm; clear hw1)
  go_quiet (first
    | (go_at_call 14; exact Calls.quiet_of_same (hcr _))
    | (go_at_call 15; exact Calls.quiet_of_same (hlf _)))
  go_wp2
  refine leaves_cons (f := 20) (args := #[.pointer (some ⟨c.hb, 14, none⟩)]) (by simp) (by simp [go_sem]) ?_
  refine (unlock_deferred Yba.muLib ⟨c.hb, 14, none⟩ .returning (W1.drewN nq) ((H1.cell 14).trans HI1.mu) (H1.frozen 14)).mono ?_
  rintro e u' w'' ⟨rfl, rfl, rfl⟩
  have I2 : Is c (W1.drewN nq) st cr lf ended v n xs full 1 := I1.same (Nat.le_refl _) (fun _ _ => rfl)
  have F2 : Fr w (W1.drewN nq) c.C v.ownBlock := F1.trans ⟨rfl, rfl, rfl, Nat.le_refl _, fun _ _ _ _ => rfl⟩ (.inl rfl)
  exact ⟨_, results_none rfl _ _ _, rfl, I2.lock 0, F2.trans (Fr.setCell _ c.hb 14 _ _ (.inl rfl)) (.inl rfl)⟩

set_option maxHeartbeats 4000000 in
theorem crash_not (h : Is c w st cr lf ended v n xs full 0) {i : Nat} (hi : i < c.M.k) (hs : st.getD i 0 = 0) (hc : cr < 1000000) (hn : n ≤ 2000) (ht : c.started = false) :
    Calls Yba.prog 12 #[.pointer (some ⟨c.hb, 0, none⟩), .pointer (some ⟨c.P i, 0, none⟩)] w fun e w' => e = .returned (.tuple #[]) ∧ ∃ v', Is c w' (st.set i 1) (cr + 1) lf ended v' (n + 1) (xs ++ entry i) true 0 ∧ Fr w w' c.C v.ownBlock ∧ (v'.ownBlock = v.ownBlock ∨ ∃ g, v'.ownBlock = some g ∧ w.heap.size ≤ g) := by
  obtain ⟨cs, H, HI⟩ := h.hub
  have h14 : w.cell? ⟨c.hb, 14, none⟩ = some (.int .i32 0) := (H.cell 14).trans HI.mu
  have f14 := H.frozen 14
  have I1 := h.lock 1
  obtain ⟨cs1, H1, HI1⟩ := I1.hub
  have F1 : Fr w (w.setCell ⟨c.hb, 14, none⟩ (.int .i32 1)) c.C v.ownBlock := Fr.setCell w c.hb 14 _ _ (.inl rfl)
  obtain ⟨W1, hW1⟩ : ∃ W1, W1 = w.setCell ⟨c.hb, 14, none⟩ (.int .i32 1) := ⟨_, rfl⟩
  rw [← hW1] at I1 H1 F1
  have h16 : W1.cell? ⟨c.hb, 16, none⟩ = some (.pointer (some ⟨c.mb, 0, none⟩)) := (H1.cell 16).trans HI1.med
  obtain ⟨p0, p1, p4, p5⟩ := I1.peers i hi
  have hcr : ∀ m, Calls Yba.prog 14 #[.pointer (some ⟨c.mb, 0, none⟩), .int .i64 i] (W1.drewN m) fun e w' => e = .returned (.bool (st.getD i 0 == 1)) ∧ w' = W1.drewN m := fun m => (crashed_any (w := W1.drewN m) I1.lies.m I1.lies.s I1.lies.k hi).mono fun e w' ⟨a, b⟩ => ⟨a, b.symm⟩
  have hlf : ∀ m, Calls Yba.prog 15 #[.pointer (some ⟨c.mb, 0, none⟩), .int .i64 i] (W1.drewN m) fun e w' => e = .returned (.bool (st.getD i 0 == 2)) ∧ w' = W1.drewN m := fun m => (left_any (w := W1.drewN m) I1.lies.m I1.lies.s I1.lies.k hi).mono fun e w' ⟨a, b⟩ => ⟨a, b.symm⟩
  have HW : Hid (W1 = w.setCell ⟨c.hb, 14, none⟩ (.int .i32 1)) := hW1
  clear hW1
  have e1 : (st.getD i 0 == 1) = false := by rw [hs]; rfl
  have e2 : (st.getD i 0 == 2) = false := by rw [hs]; rfl
  rw [e1] at hcr
  rw [e2] at hlf
  go_enter_defers Yba.func12, Yba.ntmps12
  go_wp2_with (go_at_call 19; refine (lock_free Yba.muLib ⟨c.hb, 14, none⟩ _ h14 f14).mono ?_; rintro e w1 ⟨rfl, hw1⟩; obtain rfl : W1 = w1 := HW.out.trans hw1.symm; clear hw1)
  go_quiet (first
    | (go_at_call 14; exact Calls.quiet_of_same (hcr _))
    | (go_at_call 15; exact Calls.quiet_of_same (hlf _)))
  have I2 : Is c (W1.drewN nq) st cr lf ended v n xs full 1 := I1.same (Nat.le_refl _) (fun _ _ => rfl)
  have F2 : Fr w (W1.drewN nq) c.C v.ownBlock := F1.trans ⟨rfl, rfl, rfl, Nat.le_refl _, fun _ _ _ _ => rfl⟩ (.inl rfl)
  have hdo := do_is I2 hi hc hn
  unfold act crashS at hdo
  go_wp2_with (first
    | (go_at_call 21; refine hdo.mono ?_; rintro e w3 ⟨rfl, v', I3, F3, fresh⟩)
    | (go_at_call 22; refine (note_is I3).mono ?_; rintro e w4 ⟨rfl, I4, F4⟩)
    | (go_at_call 23; refine (over_not I4 ht).mono ?_; rintro e w5 ⟨rfl, I5, F5⟩))
  refine leaves_cons (f := 20) (args := #[.pointer (some ⟨c.hb, 14, none⟩)]) (by simp) (by simp [go_sem]) ?_
  obtain ⟨cs5, H5, HI5⟩ := I5.hub
  refine (unlock_deferred Yba.muLib ⟨c.hb, 14, none⟩ .returning w5 ((H5.cell 14).trans HI5.mu) (H5.frozen 14)).mono ?_
  rintro e u' w'' ⟨rfl, rfl, rfl⟩
  have hr : v'.ownBlock = v.ownBlock ∨ ∀ g, v'.ownBlock = some g → w.heap.size ≤ g := by
    rcases fresh with e | ⟨g, e, hg⟩
    · exact .inl e
    · exact .inr (fun g' h => by rw [e] at h; cases h; exact Nat.le_trans F2.size hg)
  refine ⟨_, results_none rfl _ _ _, rfl, v', I5.lock 0, (((F2.trans F3 (.inl rfl)).trans F4 hr).trans F5 hr).trans (Fr.setCell _ c.hb 14 _ v.ownBlock (.inl rfl)) (.inl rfl), ?_⟩
  rcases fresh with e | ⟨g, e, hg⟩
  · exact .inl e
  · exact .inr ⟨g, e, Nat.le_trans F2.size hg⟩

set_option maxHeartbeats 4000000 in
theorem crash_lt (h : Is c w st cr lf ended v n xs full 0) {i : Nat} (hi : i < c.M.k) (hs : st.getD i 0 = 0) (hc : cr < 1000000) (hn : n ≤ 2000) (ht : c.started = true) (hk : lf + (cr + 1) < c.M.k) :
    Calls Yba.prog 12 #[.pointer (some ⟨c.hb, 0, none⟩), .pointer (some ⟨c.P i, 0, none⟩)] w fun e w' => e = .returned (.tuple #[]) ∧ ∃ v', Is c w' (st.set i 1) (cr + 1) lf ended v' (n + 1) (xs ++ entry i) true 0 ∧ Fr w w' c.C v.ownBlock ∧ (v'.ownBlock = v.ownBlock ∨ ∃ g, v'.ownBlock = some g ∧ w.heap.size ≤ g) := by
  obtain ⟨cs, H, HI⟩ := h.hub
  have h14 : w.cell? ⟨c.hb, 14, none⟩ = some (.int .i32 0) := (H.cell 14).trans HI.mu
  have f14 := H.frozen 14
  have I1 := h.lock 1
  obtain ⟨cs1, H1, HI1⟩ := I1.hub
  have F1 : Fr w (w.setCell ⟨c.hb, 14, none⟩ (.int .i32 1)) c.C v.ownBlock := Fr.setCell w c.hb 14 _ _ (.inl rfl)
  obtain ⟨W1, hW1⟩ : ∃ W1, W1 = w.setCell ⟨c.hb, 14, none⟩ (.int .i32 1) := ⟨_, rfl⟩
  rw [← hW1] at I1 H1 F1
  have h16 : W1.cell? ⟨c.hb, 16, none⟩ = some (.pointer (some ⟨c.mb, 0, none⟩)) := (H1.cell 16).trans HI1.med
  obtain ⟨p0, p1, p4, p5⟩ := I1.peers i hi
  have hcr : ∀ m, Calls Yba.prog 14 #[.pointer (some ⟨c.mb, 0, none⟩), .int .i64 i] (W1.drewN m) fun e w' => e = .returned (.bool (st.getD i 0 == 1)) ∧ w' = W1.drewN m := fun m => (crashed_any (w := W1.drewN m) I1.lies.m I1.lies.s I1.lies.k hi).mono fun e w' ⟨a, b⟩ => ⟨a, b.symm⟩
  have hlf : ∀ m, Calls Yba.prog 15 #[.pointer (some ⟨c.mb, 0, none⟩), .int .i64 i] (W1.drewN m) fun e w' => e = .returned (.bool (st.getD i 0 == 2)) ∧ w' = W1.drewN m := fun m => (left_any (w := W1.drewN m) I1.lies.m I1.lies.s I1.lies.k hi).mono fun e w' ⟨a, b⟩ => ⟨a, b.symm⟩
  have HW : Hid (W1 = w.setCell ⟨c.hb, 14, none⟩ (.int .i32 1)) := hW1
  clear hW1
  have e1 : (st.getD i 0 == 1) = false := by rw [hs]; rfl
  have e2 : (st.getD i 0 == 2) = false := by rw [hs]; rfl
  rw [e1] at hcr
  rw [e2] at hlf
  go_enter_defers Yba.func12, Yba.ntmps12
  go_wp2_with (go_at_call 19; refine (lock_free Yba.muLib ⟨c.hb, 14, none⟩ _ h14 f14).mono ?_; rintro e w1 ⟨rfl, hw1⟩; obtain rfl : W1 = w1 := HW.out.trans hw1.symm; clear hw1)
  go_quiet (first
    | (go_at_call 14; exact Calls.quiet_of_same (hcr _))
    | (go_at_call 15; exact Calls.quiet_of_same (hlf _)))
  have I2 : Is c (W1.drewN nq) st cr lf ended v n xs full 1 := I1.same (Nat.le_refl _) (fun _ _ => rfl)
  have F2 : Fr w (W1.drewN nq) c.C v.ownBlock := F1.trans ⟨rfl, rfl, rfl, Nat.le_refl _, fun _ _ _ _ => rfl⟩ (.inl rfl)
  have hdo := do_is I2 hi hc hn
  unfold act crashS at hdo
  go_wp2_with (first
    | (go_at_call 21; refine hdo.mono ?_; rintro e w3 ⟨rfl, v', I3, F3, fresh⟩)
    | (go_at_call 22; refine (note_is I3).mono ?_; rintro e w4 ⟨rfl, I4, F4⟩)
    | (go_at_call 23; refine (over_lt I4 ht hk).mono ?_; rintro e w5 ⟨rfl, I5, F5⟩))
  refine leaves_cons (f := 20) (args := #[.pointer (some ⟨c.hb, 14, none⟩)]) (by simp) (by simp [go_sem]) ?_
  obtain ⟨cs5, H5, HI5⟩ := I5.hub
  refine (unlock_deferred Yba.muLib ⟨c.hb, 14, none⟩ .returning w5 ((H5.cell 14).trans HI5.mu) (H5.frozen 14)).mono ?_
  rintro e u' w'' ⟨rfl, rfl, rfl⟩
  have hr : v'.ownBlock = v.ownBlock ∨ ∀ g, v'.ownBlock = some g → w.heap.size ≤ g := by
    rcases fresh with e | ⟨g, e, hg⟩
    · exact .inl e
    · exact .inr (fun g' h => by rw [e] at h; cases h; exact Nat.le_trans F2.size hg)
  refine ⟨_, results_none rfl _ _ _, rfl, v', I5.lock 0, (((F2.trans F3 (.inl rfl)).trans F4 hr).trans F5 hr).trans (Fr.setCell _ c.hb 14 _ v.ownBlock (.inl rfl)) (.inl rfl), ?_⟩
  rcases fresh with e | ⟨g, e, hg⟩
  · exact .inl e
  · exact .inr ⟨g, e, Nat.le_trans F2.size hg⟩

set_option maxHeartbeats 4000000 in
theorem crash_over (h : Is c w st cr lf false v n xs full 0) {i : Nat} (hi : i < c.M.k) (hs : st.getD i 0 = 0) (hc : cr < 1000000) (hn : n ≤ 2000) (ht : c.started = true) (hk : lf + (cr + 1) = c.M.k) :
    Calls Yba.prog 12 #[.pointer (some ⟨c.hb, 0, none⟩), .pointer (some ⟨c.P i, 0, none⟩)] w fun e w' => e = .returned (.tuple #[]) ∧ ∃ v', Is c w' (st.set i 1) (cr + 1) lf true v' (n + 1) (xs ++ entry i) true 0 ∧ Fr w w' c.C v.ownBlock ∧ (v'.ownBlock = v.ownBlock ∨ ∃ g, v'.ownBlock = some g ∧ w.heap.size ≤ g) := by
  obtain ⟨cs, H, HI⟩ := h.hub
  have h14 : w.cell? ⟨c.hb, 14, none⟩ = some (.int .i32 0) := (H.cell 14).trans HI.mu
  have f14 := H.frozen 14
  have I1 := h.lock 1
  obtain ⟨cs1, H1, HI1⟩ := I1.hub
  have F1 : Fr w (w.setCell ⟨c.hb, 14, none⟩ (.int .i32 1)) c.C v.ownBlock := Fr.setCell w c.hb 14 _ _ (.inl rfl)
  obtain ⟨W1, hW1⟩ : ∃ W1, W1 = w.setCell ⟨c.hb, 14, none⟩ (.int .i32 1) := ⟨_, rfl⟩
  rw [← hW1] at I1 H1 F1
  have h16 : W1.cell? ⟨c.hb, 16, none⟩ = some (.pointer (some ⟨c.mb, 0, none⟩)) := (H1.cell 16).trans HI1.med
  obtain ⟨p0, p1, p4, p5⟩ := I1.peers i hi
  have hcr : ∀ m, Calls Yba.prog 14 #[.pointer (some ⟨c.mb, 0, none⟩), .int .i64 i] (W1.drewN m) fun e w' => e = .returned (.bool (st.getD i 0 == 1)) ∧ w' = W1.drewN m := fun m => (crashed_any (w := W1.drewN m) I1.lies.m I1.lies.s I1.lies.k hi).mono fun e w' ⟨a, b⟩ => ⟨a, b.symm⟩
  have hlf : ∀ m, Calls Yba.prog 15 #[.pointer (some ⟨c.mb, 0, none⟩), .int .i64 i] (W1.drewN m) fun e w' => e = .returned (.bool (st.getD i 0 == 2)) ∧ w' = W1.drewN m := fun m => (left_any (w := W1.drewN m) I1.lies.m I1.lies.s I1.lies.k hi).mono fun e w' ⟨a, b⟩ => ⟨a, b.symm⟩
  have HW : Hid (W1 = w.setCell ⟨c.hb, 14, none⟩ (.int .i32 1)) := hW1
  clear hW1
  have e1 : (st.getD i 0 == 1) = false := by rw [hs]; rfl
  have e2 : (st.getD i 0 == 2) = false := by rw [hs]; rfl
  rw [e1] at hcr
  rw [e2] at hlf
  go_enter_defers Yba.func12, Yba.ntmps12
  go_wp2_with (go_at_call 19; refine (lock_free Yba.muLib ⟨c.hb, 14, none⟩ _ h14 f14).mono ?_; rintro e w1 ⟨rfl, hw1⟩; obtain rfl : W1 = w1 := HW.out.trans hw1.symm; clear hw1)
  go_quiet (first
    | (go_at_call 14; exact Calls.quiet_of_same (hcr _))
    | (go_at_call 15; exact Calls.quiet_of_same (hlf _)))
  have I2 : Is c (W1.drewN nq) st cr lf false v n xs full 1 := I1.same (Nat.le_refl _) (fun _ _ => rfl)
  have F2 : Fr w (W1.drewN nq) c.C v.ownBlock := F1.trans ⟨rfl, rfl, rfl, Nat.le_refl _, fun _ _ _ _ => rfl⟩ (.inl rfl)
  have hdo := do_is I2 hi hc hn
  unfold act crashS at hdo
  go_wp2_with (first
    | (go_at_call 21; refine hdo.mono ?_; rintro e w3 ⟨rfl, v', I3, F3, fresh⟩)
    | (go_at_call 22; refine (note_is I3).mono ?_; rintro e w4 ⟨rfl, I4, F4⟩)
    | (go_at_call 23; refine (over_yes I4 ht hk).mono ?_; rintro e w5 ⟨rfl, I5, F5⟩))
  refine leaves_cons (f := 20) (args := #[.pointer (some ⟨c.hb, 14, none⟩)]) (by simp) (by simp [go_sem]) ?_
  obtain ⟨cs5, H5, HI5⟩ := I5.hub
  refine (unlock_deferred Yba.muLib ⟨c.hb, 14, none⟩ .returning w5 ((H5.cell 14).trans HI5.mu) (H5.frozen 14)).mono ?_
  rintro e u' w'' ⟨rfl, rfl, rfl⟩
  have hr : v'.ownBlock = v.ownBlock ∨ ∀ g, v'.ownBlock = some g → w.heap.size ≤ g := by
    rcases fresh with e | ⟨g, e, hg⟩
    · exact .inl e
    · exact .inr (fun g' h => by rw [e] at h; cases h; exact Nat.le_trans F2.size hg)
  refine ⟨_, results_none rfl _ _ _, rfl, v', I5.lock 0, (((F2.trans F3 (.inl rfl)).trans F4 hr).trans F5 hr).trans (Fr.setCell _ c.hb 14 _ v.ownBlock (.inl rfl)) (.inl rfl), ?_⟩
  rcases fresh with e | ⟨g, e, hg⟩
  · exact .inl e
  · exact .inr ⟨g, e, Nat.le_trans F2.size hg⟩

end
end Go.Proofs.Ybulkddig
