/-
  LawS5232CScript: the hub's do, at a crash.
-/
import Derived.Test.YbulkddigHub
namespace Go.Proofs.Ybulkddig
open Go.RowKit Go.Conc

section
variable {c : Cst} {w w' : World} {st : List Int} {cr lf : Int} {ended : Bool} {v : Value} {n : Nat} {xs : List Value} {full : Bool} {mu : Int}

set_option maxHeartbeats 4000000 in
theorem do_is (h : Is c w st cr lf ended v n xs full mu) {i : Nat} (hi : i < c.M.k) (hc : cr < 1000000) (hn : n ≤ 2000) :
    Calls Yba.prog 21 #[.pointer (some ⟨c.hb, 0, none⟩), .agg (act i)] w fun e w' => e = .returned (.int .i64 (-1)) ∧ ∃ v', Is c w' (st.set i 1) (cr + 1) lf ended v' (n + 1) (xs ++ entry i) full mu ∧ Fr w w' c.C v.ownBlock ∧ (v'.ownBlock = v.ownBlock ∨ ∃ g, v'.ownBlock = some g ∧ w.heap.size ≤ g) := by
  have I1 := (h.alloc (.cells (act i) 107)).drew
  obtain ⟨cs0, H0, HI0⟩ := (h.alloc (.cells (act i) 107)).hub
  have h16 : (w.alloc (.cells (act i) 107)).cell? ⟨c.hb, 16, none⟩ = some (.pointer (some ⟨c.mb, 0, none⟩)) := (H0.cell 16).trans HI0.med
  have hdo := do_med I1.lies hi hc
  obtain ⟨W1, hW1⟩ : ∃ W1, W1 = med1 c w i cr := ⟨_, rfl⟩
  have I2 : Is c W1 (st.set i 1) (cr + 1) lf ended v n xs full mu := by rw [hW1]; exact med1_is h hc
  have F1 : Fr w W1 c.C v.ownBlock := by rw [hW1]; exact med1_fr i _
  have X := med1_box h i
  rw [← hW1] at X
  obtain ⟨cs, H, HI⟩ := I2.hub
  have h5 : W1.cell? ⟨c.hb, 5, none⟩ = some (.bool true) := (H.cell 5).trans HI.rec_
  have h17 : W1.cell? ⟨c.hb, 17, none⟩ = some (.slice (some ⟨c.pb, 0, none⟩) c.M.k c.M.k) := (H.cell 17).trans HI.peers
  have x0 : W1.cell? ⟨w.heap.size, 0, none⟩ = some (.string { data := #[99, 114, 97, 115, 104] }) := X.cell 0
  have x1 : W1.cell? ⟨w.heap.size, 1, none⟩ = some (.int .i64 i) := X.cell 1
  obtain ⟨p0, p1, p4, p5⟩ := I2.peers i hi
  have hl := I2.size
  have hlt := I2.apt.lt.1
  have hun := untaken_any (w := W1.drew) (c.P i) p4 p5
  have hrc := rec_crash W1.drew c.hb c.Nb n i cs v xs H HI.ent I2.own (own_lt I2.own hlt) hl hn
  have HW : Hid (W1 = med1 c w i cr) := hW1
  clear hW1
  unfold act crashS at hdo h16 ⊢
  go_enter Yba.func21, Yba.ntmps21
  go_wp2
  go_region_with (go_at_call 31; refine hdo.mono ?_; rintro e w1 ⟨rfl, hw1⟩; obtain rfl : W1 = w1 := HW.out.trans hw1; clear hw1)
  all_goals
    go_wp2
    go_region_with (first
      | (go_at_call 33; refine hun.mono ?_; rintro e w3 ⟨rfl, rfl⟩)
      | (go_at_call 32; refine hrc.mono ?_; rintro e w2 ⟨rfl, v', H2, own2, fresh, put⟩))
  all_goals
    go_wp2
    go_ret
    refine ⟨rfl, v', I2.drew.hubbed (row := v.ownBlock) H2 (HI.setEnt v') (Fr.put put rfl) (fun g e => (own_in I2.own e).1) own2, (F1.trans (Fr.drew _ c.C v.ownBlock) (.inl rfl)).trans (Fr.put put (.inl rfl)) (.inl rfl), ?_⟩
    rcases fresh with e | ⟨g, e, hg⟩
    · exact .inl e
    · exact .inr ⟨g, e, Nat.le_trans F1.size hg⟩
end
end Go.Proofs.Ybulkddig
