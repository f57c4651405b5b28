/-
  THE WALK of LawS5229AEvict.
-/
import Derived.Test.YbulkddgqEvictPlain
namespace Go.Proofs.Ybulkddgq
open Go.RowKit Go.Maps

theorem wf_nat {k : Nat} (h : k ≤ 1000000) : (Lit.int .i64 (k : Int)).wf = true := WalkArith.wf_i64 (by omega)

theorem ents_len (L : List (Nat × Ent)) : (ents L).length = L.length := by simp [ents]

set_option maxHeartbeats 1000000 in
theorem evict_walk (a0 a1 : Int) (l0 : 0 ≤ a0) (h0 : a0 ≤ 255) (l1 : 0 ≤ a1) (h1 : a1 ≤ 255) (w : World) :
    Calls Yba.prog 4 #[.int .u8 a0, .int .u8 a1] w fun e w' => e = .returned (.bool true) ∧ Below w.heap.size w w' := by
  obtain ⟨n, hn⟩ : ∃ n : Nat, a0 % 16 + 1 = n := ⟨(a0 % 16 + 1).toNat, by omega⟩
  have hn0 : 0 < n := by omega
  have hn1 : n < 17 := by omega
  obtain ⟨j, hj⟩ : ∃ j : Nat, a1 % n = j := ⟨(a1 % n).toNat, by have := Int.emod_nonneg a1 (b := n) (by omega); omega⟩
  have hjn : j < n := by have := Int.emod_lt_of_pos a1 (b := n) (by omega); omega
  go_enter Yba.func4, Yba.ntmps4
  go_wp2_with (go_at_call 5; refine (new_any _ _).mono ?_; rintro e w1 ⟨rfl, C, bel⟩)
  obtain ⟨N, hN⟩ : ∃ N, N = w.heap.size := ⟨_, rfl⟩
  obtain ⟨B, hB⟩ : ∃ B, B = N + 1 := ⟨_, rfl⟩
  rw [← hN] at C bel ⊢
  rw [← hB] at C ⊢
  have HN : Hid (N = w.heap.size) := hN
  clear hN hB
  go_loopg [7] n (fun g i wr => ∃ (c : Nat) (L : List (Nat × Ent)), c ≤ n ∧ g = n - c ∧ i = .int .i64 c ∧ Lru N wr B N n 0 (tot (ents L)) L ∧ ents L = fillTo c ∧ Below N w wr)
  case atStart => exact ⟨0, [], Nat.zero_le _, rfl, rfl, C, rfl, bel⟩
  case round =>
    clear C bel
    obtain ⟨c, L, hc, hg, rfl, C, hL, bel⟩ := hrel
    by_cases hlt : c < n
    · have hadd := add_any C c (c + 100) 1 (wf_nat (by omega)) (by rw [hL]; exact fill_mild (by omega)) (by omega) (by omega) (by omega)
      have HL : Hid (ents L = fillTo c ∧ gk = n - c) := ⟨hL, hg⟩
      clear hL hg
      go_wp2_with (go_at_call 6; refine hadd.mono ?_; rintro e w2 ⟨rfl, L', C', hL', b'⟩)
      have hL2 : ents L' = fillTo (c + 1) := by rw [hL', HL.out.1]; exact fill_add hlt
      go_roundg (n - (c + 1))
      case measure => have := HL.out.2; omega
      case rel => exact ⟨c + 1, L', by omega, rfl, by go_num, C', hL2, bel.trans b'⟩
    · obtain rfl : c = n := by omega
      clear hg
      obtain ⟨m1, m2, k1, v1, k2, k3, v3, k4, len4, len5⟩ := ev_facts hn1 hjn
      have hget := get_any C j (wf_nat (by omega))
      rw [hL, k1, v1] at hget
      clear hL
      go_wp2_with (go_at_call 8; refine hget.mono ?_; rintro e w2 ⟨rfl, L1, C1, hL1, b1⟩)
      have e1 : ents L1 = ev1 c j := hL1
      have hadd := add_any C1 c (c + 100) 1 (wf_nat (by omega)) (by rw [e1]; exact m2) (by omega) (by omega) (by omega)
      rw [e1] at hadd
      clear hL1 e1 m1 m2
      refine hadd.mono ?_
      rintro e w3 ⟨rfl, L2, C2, hL2, b2⟩
      have e2 : ents L2 = ev2 c j := hL2
      have hgev := get_any C2 (evK c j) (by unfold evK; split <;> decide)
      rw [e2, k2] at hgev
      clear hL2 e2
      have hb : ((((j : Int) == 0) = true ∧ (1 : Int) < c ∧ evK c j = 1) ∨ (((j : Int) == 0) = true ∧ (c : Int) ≤ 1 ∧ evK c j = 0)) ∨ ((((j : Int) == 0) = false ∧ (1 : Int) < c ∧ evK c j = 0) ∨ (((j : Int) == 0) = false ∧ (c : Int) ≤ 1 ∧ evK c j = 0)) := by
        unfold evK
        by_cases q1 : j = 0 <;> by_cases q2 : 1 < c <;> simp [q1, q2] <;> omega
      rcases hb with (⟨hj0, hn2, hev⟩ | ⟨hj0, hn2, hev⟩) | (⟨hj0, hn2, hev⟩ | ⟨hj0, hn2, hev⟩)
      all_goals
        rw [hev] at hgev
        have HE : Hid (ev3 c j = touch (evK c j) (ev2 c j)) := rfl
        rw [hev] at HE
        clear hev
        go_wp2_with fail
        refine hgev.mono ?_
        rintro e w4 ⟨rfl, L3, C3, hL3, b3⟩
        have e3 : ents L3 = ev3 c j := hL3.trans HE.out.symm
        have hg3 := get_any C3 c (wf_nat (by omega))
        rw [e3, k3, v3] at hg3
        clear hL3 e3 HE
        go_wp2_with fail
        refine hg3.mono ?_
        rintro e w5 ⟨rfl, L4, C4, hL4, b4⟩
        have e4 : ents L4 = ev4 c j := hL4
        clear hL4
      · have q4 := k4 (by omega)
        have hg4 := get_any C4 j (wf_nat (by omega))
        rw [e4, q4.1, q4.2] at hg4
        clear e4 q4 k4
        go_wp2_with fail
        refine hg4.mono ?_
        rintro e w6 ⟨rfl, L5, C5, hL5, b5⟩
        have e5 : ents L5 = ev5 c j := hL5
        have c9 := C5.ring.c9
        obtain ⟨D, I⟩ := C5.idx
        have hsz : Maps.size D = c := I.size.trans (by rw [← ents_len, e5]; exact len5)
        have hown := I.own
        clear e5 hL5 len5 len4
        go_wp2_with (at_len; refine wpList_len_own _ rfl _ 44 rfl 3 41 Yba.underlying44 _ N _ D rfl hown ?_; rw [hsz])
        go_ret
        exact ⟨by simp, HN.out ▸ ((((bel.trans b1).trans b2).trans b3).trans b4).trans b5⟩
      · have c9 := C4.ring.c9
        obtain ⟨D, I⟩ := C4.idx
        have hsz : Maps.size D = c := I.size.trans (by rw [← ents_len, e4]; exact len4)
        have hown := I.own
        clear e4 k4 len4 len5
        go_wp2_with (at_len; refine wpList_len_own _ rfl _ 44 rfl 3 41 Yba.underlying44 _ N _ D rfl hown ?_; rw [hsz])
        go_ret
        exact ⟨by simp, HN.out ▸ (((bel.trans b1).trans b2).trans b3).trans b4⟩
      · have q4 := k4 (by omega)
        have hg4 := get_any C4 j (wf_nat (by omega))
        rw [e4, q4.1, q4.2] at hg4
        clear e4 q4 k4
        go_wp2_with fail
        refine hg4.mono ?_
        rintro e w6 ⟨rfl, L5, C5, hL5, b5⟩
        have e5 : ents L5 = ev5 c j := hL5
        have c9 := C5.ring.c9
        obtain ⟨D, I⟩ := C5.idx
        have hsz : Maps.size D = c := I.size.trans (by rw [← ents_len, e5]; exact len5)
        have hown := I.own
        clear e5 hL5 len5 len4
        go_wp2_with (at_len; refine wpList_len_own _ rfl _ 44 rfl 3 41 Yba.underlying44 _ N _ D rfl hown ?_; rw [hsz])
        go_ret
        exact ⟨by simp, HN.out ▸ ((((bel.trans b1).trans b2).trans b3).trans b4).trans b5⟩
      · have c9 := C4.ring.c9
        obtain ⟨D, I⟩ := C4.idx
        have hsz : Maps.size D = c := I.size.trans (by rw [← ents_len, e4]; exact len4)
        have hown := I.own
        clear e4 k4 len4 len5
        go_wp2_with (at_len; refine wpList_len_own _ rfl _ 44 rfl 3 41 Yba.underlying44 _ N _ D rfl hown ?_; rw [hsz])
        go_ret
        exact ⟨by simp, HN.out ▸ (((bel.trans b1).trans b2).trans b3).trans b4⟩
end Go.Proofs.Ybulkddgq
