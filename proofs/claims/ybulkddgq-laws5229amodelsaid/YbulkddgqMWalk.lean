/-
  THE WALK of LawS5229AModel.
-/
import Derived.Test.YbulkddgqMHelp
import Derived.Deep.QuietTactic
import Derived.Deep.RegionHeld3
import Derived.BigQuiet
namespace Go.Proofs.Ybulkddgq
open Go.RowKit Go.Maps

set_option maxRecDepth 100000 in
set_option maxHeartbeats 8000000 in
theorem model_walk (a0 : Int) (l0 : 0 ≤ a0) (h0 : a0 ≤ 255) (w : World) (ad : Option Addr) (len cap : Nat) (hlen : len ≤ 1024) (hops : IsOps w ad len) :
    Calls Yba.prog 3 #[.int .u8 a0, .slice ad len cap] w fun e w' => e = .returned (.bool true) ∧ Below w.heap.size w w' := by
  obtain ⟨b, hb⟩ : ∃ b : Int, a0 % 64 = b := ⟨_, rfl⟩
  have hb0 : 0 ≤ b := by omega
  have hb1 : b ≤ 63 := by omega
  go_enter Yba.func3, Yba.ntmps3
  go_wp2_with (go_at_call 5; refine (new_any _ _).mono ?_; rintro e w1 ⟨rfl, C, bel⟩)
  obtain ⟨N, hN⟩ : ∃ N, N = w.heap.size := ⟨_, rfl⟩
  obtain ⟨B, hB⟩ : ∃ B, B = N + 1 := ⟨_, rfl⟩
  rw [← hN] at C bel ⊢
  rw [← hB] at C ⊢
  have HN : Hid (N = w.heap.size) := hN
  clear hN hB
  go_loopg [7, 8, 31] len (fun q v u i wr => ∃ (c : Nat) (m : List Ent), c ≤ len ∧ q = len - c ∧ i = .int .i64 c ∧ u = .int .i64 (tot m) ∧ Inv N B N b w wr c v m)
  case atStart =>
    exact ⟨0, [], Nat.zero_le _, rfl, rfl, rfl, [], C, rfl, ⟨Nat.le_refl _, by simp⟩, ⟨World.ownsRow_nil _ _ _ _, by simp [Value.ownBlock]⟩, bel, by rw [HN.out]; exact bel.size⟩
  case round =>
    clear C bel
    obtain ⟨c, m, hc, hq, rfl, rfl, hinv⟩ := hrel
    by_cases hlt : c < len
    · obtain ⟨L, C, rfl, ht, hs, bel, hNs⟩ := hinv
      have hlenm : (ents L).length = L.length := by simp [ents]
      obtain ⟨av, cv, hv⟩ : ∃ av cv, u7 = .slice av L.length cv := by
        rcases hs.own.2 with ⟨e, h⟩ | ⟨g, cp, cur, e, _⟩
        · exact ⟨none, 0, by rw [e, ← hlenm, h]⟩
        · exact ⟨_, cp, by rw [e, hlenm]⟩
      subst hv
      rcases hops with hz | ⟨xb, xo, rfl, hxb, hcells⟩
      · omega
      obtain ⟨o, k0, v0, s0, p0, p1, p2, p3, lo, ho, lk, hk, ls, hs0⟩ := hcells c hlt
      have hxN : xb < N := by rw [HN.out]; exact hxb
      have q0 := (bel.cell (p := ⟨xb, xo + c * 4, none⟩) hxN).trans p0
      have q1 := (bel.cell (p := ⟨xb, xo + c * 4 + 1, none⟩) hxN).trans p1
      have q2 := (bel.cell (p := ⟨xb, xo + c * 4 + 2, none⟩) hxN).trans p2
      have q3 := (bel.cell (p := ⟨xb, xo + c * 4 + 3, none⟩) hxN).trans p3
      clear hcells p0 p1 p2 p3
      have hL : L.length ≤ 1024 := by have := ht.1; omega
      by_cases ho2 : o % 2 = 0
      · have ho2b : (o % 2 == 0) = true := by simp [ho2]
        clear ho2
        obtain ⟨k, hk8⟩ : ∃ k, k0 % 8 = k := ⟨_, rfl⟩
        obtain ⟨s, hs16⟩ : ∃ s, s0 % 16 = s := ⟨_, rfl⟩
        have hkl : 0 ≤ k ∧ k ≤ 7 := by omega
        have hsl0 : 0 ≤ s := by omega
        have hsl1 : s ≤ 15 := by omega
        have hkw : (Lit.int .i64 k).wf = true := WalkArith.wf_i64 (by omega)
        have C1 := C.alloc (.cells #[.int .u8 o, .int .u8 k0, .int .i64 v0, .int .u8 s0] 27)
        have hs1 : Has (wr.alloc (.cells #[.int .u8 o, .int .u8 k0, .int .i64 v0, .int .u8 s0] 27)) N (B :: N :: L.map (·.1)) (.slice av L.length cv) (ents L) :=
          ⟨hs.own.alloc _, hs.apart⟩
        have hN1 : N ≤ (wr.alloc (.cells #[.int .u8 o, .int .u8 k0, .int .i64 v0, .int .u8 s0] 27)).heap.size := by simp; omega
        have bel1 : Below N w (wr.alloc (.cells #[.int .u8 o, .int .u8 k0, .int .i64 v0, .int .u8 s0] 27)) := bel.alloc hNs _
        have hadd := add_any (foreign_of C1) k v0 s hkw (ht.mild (by omega)) hsl0 (by omega) (by omega) (fun q h => h.1)
        have hforeign : foreign (wr.alloc (.cells #[.int .u8 o, .int .u8 k0, .int .i64 v0, .int .u8 s0] 27)) (B :: N :: L.map (·.1)) wr.heap.size :=
          ⟨by simp, fun h => by have := (C.own _ h).2; omega⟩
        have hopw := (MapKept.heap_alloc wr (.cells #[.int .u8 o, .int .u8 k0, .int .i64 v0, .int .u8 s0] 27)).1
        have HQ : Hid (gk = len - c) := hq
        clear hq
        have htot := (ht.mild (by omega)).tot
        obtain ⟨u, hu⟩ : ∃ u, u = tot (ents L) := ⟨_, rfl⟩
        rw [← hu] at htot ⊢
        have HU : Hid (u = tot (ents L)) := hu
        clear hu
        obtain ⟨hu0, hu1⟩ := htot
        by_cases hin : k ∈ (ents L).map (fun e => e.k)
        · obtain ⟨ea, ⟨ek, ev, es⟩, eb, hm, hek⟩ := part_key hin
          obtain rfl : k = ek := hek.symm
          have hkeys := C.keys
          rw [hm] at hkeys
          have e2 : strike k (ents L) = ea ++ eb := by rw [hm]; exact strike_one (e := ⟨k, ev, es⟩) hkeys
          have hnk : k ∉ ea.map (fun e => e.k) := by
            rw [List.map_append, List.map_cons] at hkeys
            exact fun c => (List.nodup_append.1 hkeys).2.2 _ c k (by simp) rfl
          have hlab : L.length = ea.length + eb.length + 1 := by rw [← hlenm, hm]; simp; omega
          obtain ⟨g, cp, hgv, hNg, hgs⟩ := hs.own.form (by rw [hlenm]; omega)
          rw [hlenm] at hgv
          obtain ⟨rfl, rfl⟩ : av = some ⟨g, 0, none⟩ ∧ cv = cp := by simpa using hgv
          have hgne : g ≠ wr.heap.size := by omega
          have hes := ht.2 ⟨k, ev, es⟩ (by rw [hm]; simp)
          have hes0 : 0 ≤ es := hes.1
          have hes1 : es ≤ 15 := hes.2.1
          have HU1 : Hid (u - es = tot (ea ++ eb)) := by
            have h1 := HU.out
            rw [hm, tot_append, tot_cons] at h1
            show _ = _
            rw [tot_append]; simp only at h1; omega
          have ht1 : Tame c (ea ++ eb) := ht.sub (by rw [hm]; exact List.Sublist.append (List.Sublist.refl _) (List.sublist_cons_self _ _))
          have HM : Hid (ents L = ea ++ ⟨k, ev, es⟩ :: eb ∧ L.length = ea.length + eb.length + 1 ∧ (ents L).length = L.length ∧ strike k (ents L) = ea ++ eb) := ⟨hm, hlab, hlenm, e2⟩
          have hja : (ea.length : Int) < L.length := by omega
          have hja' : ea.length < L.length := by omega
          clear hkeys e2 hgv hlab hm hlenm hin hs C bel hNs hes ht HU
          go_wp2_with (first
            | (go_at_call 6; refine hadd.mono ?_; rintro r wa ⟨rfl, L', C2, hL', K2⟩; obtain ⟨Ca, bela, hNa, hsa⟩ := after_call C1 hN1 hs1 C2 K2; have hopa := (K2.block _ hforeign).trans hopw; have hsla : Sl wa N g L.length cv (flat (ea ++ ⟨k, ev, es⟩ :: eb)) := (by have h := hsa.own; rw [HM.out.2.2.1, HM.out.1] at h; exact h); have hidx := idx_hit hsla (by rw [HM.out.2.1]; simp; omega) (by omega) hnk; have mm2 : wa.cell? ⟨g, ea.length * 3 + 2, none⟩ = some (.int .i64 es) := (World.ownsRow.cellAt hsla (ea.length * 3 + 2) (by omega)).trans (flat_at ea eb ⟨k, ev, es⟩ 2 (by omega)); clear K2 C2 hs1 C1 hadd hopw hforeign)
            | (go_at_call 7; refine hidx.mono ?_; rintro r w3 ⟨rfl, rfl⟩))
          have hcap : L.length ≤ cv := by obtain ⟨cur, _, _, h, _⟩ := hsla.row; exact h
          have hw1 : IntKind.i64.wrap ((ea.length : Int) + 1) = (ea.length : Int) + 1 := by rw [IntKind.wrap_i64]; omega
          have hj0 : (0 : Int) ≤ (ea.length : Int) + 1 := by omega
          have hj1 : (ea.length : Int) + 1 ≤ L.length := by omega
          have hj2 : ea.length ≤ cv := by omega
          have hj3 : (ea.length : Int) ≤ cv := by omega
          have hj4 : ¬ cv = 0 := by omega
          obtain ⟨ad, had⟩ : ∃ ad, (if cv = ea.length + 1 then some ⟨g, 0, none⟩ else some ⟨g, (ea.length + 1) * 3, none⟩ : Option Addr) = some ad := by split <;> exact ⟨_, rfl⟩
          have HD : Hid (eb ≠ [] → ad = ⟨g, (ea.length + 1) * 3, none⟩) := by
            intro h
            have h1 := HM.out.2.1
            have h2 : 0 < eb.length := List.length_pos_iff.2 h
            rw [if_neg (by omega)] at had
            exact (Option.some.inj had).symm
          have hbl : L.length - (ea.length + 1) = eb.length := by have := HM.out.2.1; omega
          have HBL : Hid (L.length - (ea.length + 1) = eb.length) := hbl
          clear hbl hidx
          go_region_held3 (fun _ => True) (exact True.intro) ((refine step_strike (by rfl) _ _ (by rfl) (by exact hsla) HM.out.2.1 (by rfl) ad (L.length - (ea.length + 1)) (cv - (ea.length + 1)) (by rfl) HBL HD ?_; intro w2 hsl2 hgr2))
          have hgr2' : wa.grownBy w2 (some g) := ⟨hgr2.os, hgr2.tape, hgr2.output, hgr2.size, hgr2.block⟩
          have hapa := hsa.apart g rfl
          have C3 := cache_kept Ca hgr2' (fun q hq => by cases hq; exact hapa)
          have hopb := (hgr2'.block wr.heap.size (Array.getElem?_eq_some_iff.1 hopa).1 (by simpa using hgne.symm)).trans hopa
          have hN3 : N ≤ w2.heap.size := Nat.le_trans hNa hgr2'.size
          have bel4 : Below N w w2 := (bel1.trans bela).grown hgr2' hNa (fun q hq => by cases hq; exact hNg)
          obtain ⟨m1, av1, n1, cv1, hst⟩ : ∃ (m1 : List Ent) (av1 : Option Addr) (n1 cv1 : Nat), m1 = ea ++ eb ∧ av1 = some ⟨g, 0, none⟩ ∧ n1 = ea.length + eb.length ∧ cv1 = cv := ⟨_, _, _, _, rfl, rfl, rfl, rfl⟩
          have hml : m1.length = n1 := by rw [hst.1, hst.2.2.1]; simp
          have HB : Hid (m1 = strike k (ents L) ∧ m1.length = n1 ∧ u - es = tot m1) := ⟨by rw [hst.1]; exact HM.out.2.2.2.symm, hml, by rw [hst.1]; exact HU1.out⟩
          have hs4 : Has w2 N (B :: N :: L'.map (·.1)) (.slice av1 n1 cv1) m1 := by
            rw [hst.2.1, hst.2.2.2]
            refine ⟨?_, fun q hq => by cases hq; exact hapa⟩
            rw [hml, hst.2.2.1, hst.1]; exact hsl2
          have hapo : ∀ q, (Value.slice av1 n1 cv1).ownBlock = some q → q ≠ wr.heap.size := by
            rw [hst.2.1]; intro q hq; cases hq; exact hgne
          have ht4 : Tame c m1 := by rw [hst.1]; exact ht1
          have hn1 : n1 ≤ 1024 := by have := HM.out.2.1; rw [hst.2.2.1]; omega
          rw [← hst.2.1, ← hst.2.2.1, ← hst.2.2.2]
          clear hst hml hsl2 hgr2 hgr2' hapa Ca hopa hNa bela bel1 hsla hsa mm2 hcap hw1 hj0 hj1 hj2 hj3 hj4 had HD HBL ht1 HU1 hNg hgs hgne hnk hja hja' hL
          have hue0 : -100 ≤ u - es := by omega
          have hue1 : u - es ≤ 200000 := by omega
          by_cases hfit : b < s
          · go_wp2
            go_roundg (len - (c + 1))
            case measure => have := HQ.out; omega
            case rel =>
              obtain ⟨B1, B2, B3⟩ := HB.out
              exact ⟨c + 1, m1, by omega, rfl, by go_num, by rw [B3], L', C3, hL'.trans (by rw [addM, if_pos hfit, B1]), ht4.mono (Nat.le_succ c), hs4, bel4, hN3⟩
          · go_wp2_with fail
            go_loopg [7, 8] n1 (fun q v uu w3 => ∃ (m2 : List Ent) (a2 : Option Addr) (c2 : Nat) (u2 : Int), q = m2.length ∧ v = .slice a2 m2.length c2 ∧ uu = .int .i64 u2 ∧ Hid (u2 = tot m2) ∧ Aside (trim (b - s) m2 = trim (b - s) m1) ∧ m2.Sublist m1 ∧ Has w2 N (B :: N :: L'.map (·.1)) (.slice a2 m2.length c2) m2 ∧ (∀ g, (Value.slice a2 m2.length c2).ownBlock = some g → g ≠ wr.heap.size) ∧ w2 = w3)
            case atStart =>
              have h1 := HB.out
              exact ⟨m1, av1, cv1, _, h1.2.1.symm, by rw [h1.2.1], rfl, h1.2.2, rfl, List.Sublist.refl _, by rw [h1.2.1]; exact hs4, by rw [h1.2.1]; exact hapo, rfl⟩
            case round =>
              obtain ⟨m2, a2, c2, u2, hgk, rfl, rfl, HU2, htrim, hsub, hs5, hapo2, rfl⟩ := hrel
              have ht5 : Tame c m2 := ht4.sub hsub
              have hb5 := (ht5.mild (by omega)).tot
              have hu2 : 0 ≤ u2 ∧ u2 ≤ 200000 := by rw [HU2.out]; exact hb5
              obtain ⟨hu20, hu21⟩ := hu2
              have hl5 : m2.length ≤ 1024 := Nat.le_trans hsub.length_le (by rw [HB.out.2.1]; exact hn1)
              clear hb5 hs4 hapo
              by_cases hc2 : b < u2 + s
              · rcases List.eq_nil_or_concat m2 with hL2 | ⟨m3, x, hL2⟩
                · exact absurd (HU2.out.trans (by rw [hL2]; rfl) : u2 = 0) (by omega)
                · rw [List.concat_eq_append] at hL2
                  subst hL2
                  have hlen3 : (m3 ++ [x]).length = m3.length + 1 := by simp
                  obtain ⟨g, cp, hgv, hNg, hgs⟩ := hs5.own.form (by simp)
                  obtain ⟨rfl, rfl⟩ : a2 = some ⟨g, 0, none⟩ ∧ c2 = cp := by simpa using hgv
                  have hsl5 : Sl w2 N g (m3.length + 1) c2 (flat (m3 ++ [x])) := by have h := hs5.own; rw [hlen3] at h; exact h
                  have x2 : w2.cell? ⟨g, m3.length * 3 + 2, none⟩ = some (.int .i64 x.s) := (World.ownsRow.cellAt hsl5 (m3.length * 3 + 2) (by omega)).trans (flat_at m3 [] x 2 (by omega))
                  have hxs := ht5.2 x (by simp)
                  obtain ⟨hxs0, hxs1, _⟩ := hxs
                  have hlen4 : m3.length + 1 ≤ 1024 := by rw [← hlen3]; exact hl5
                  have hcap5 : m3.length ≤ c2 := by obtain ⟨cur, _, _, h, _⟩ := hsl5.row; omega
                  have hcut : Sl w2 N g m3.length c2 (flat m3) := by
                    have h := hsl5.cut (p := m3.length) (by omega)
                    rw [flat_append, List.take_append_of_le_length (by rw [flat_len]; omega), List.take_of_length_le (by rw [flat_len]; omega)] at h
                    exact h
                  have hap5 := hs5.apart g rfl
                  have hao5 := hapo2 g rfl
                  clear hgv hs5 hsl5 hapo2 ht5
                  go_wp2
                  go_roundg m3.length
                  case measure => rw [hgk]; simp
                  case rel => exact ⟨m3, some ⟨g, 0, none⟩, c2, u2 - x.s, rfl, rfl, rfl, by have := HU2.out; rw [tot_append, tot_cons, tot_nil] at this; show _ = _; omega, (trim_drop (by rw [← HU2.out]; omega)).symm.trans htrim.out, (List.sublist_append_left m3 [x]).trans hsub, ⟨hcut, fun q hq => by cases hq; exact hap5⟩, fun q hq => by cases hq; exact hao5, rfl⟩
              · have htr : Hid (trim (b - s) m1 = m2) := by
                  have h1 := htrim.out
                  rw [trim_fits (by rw [← HU2.out]; omega)] at h1
                  exact h1.symm
                clear hgk htrim
                obtain ⟨i0, hi0, hz0, hz1, hz2⟩ : ∃ i, Yba.prog.info? 31 = some i ∧ i.zero = some (.agg #[.int .i64 0, .int .i64 0, .int .i64 0]) ∧ i.size = 3 ∧ i.bytes = 24 := info_parts (P := Yba.prog) (e := 31) (by kernel_rfl)
                have hnews : ∀ j u, [Value.int .i64 0, .int .i64 0, .int .i64 0][j]? = some u → (w2.alloc (.cells #[.int .i64 0, .int .i64 0, .int .i64 0] 31)).cell? ((⟨w2.heap.size, 0, none⟩ : Addr).add j) = some u :=
                  World.news_of_block (cs := #[.int .i64 0, .int .i64 0, .int .i64 0]) (MapKept.heap_alloc w2 (.cells #[.int .i64 0, .int .i64 0, .int .i64 0] 31)).1
                have hone3 : ∀ u ∈ [Value.int .i64 0, .int .i64 0, .int .i64 0], u.oneCell' = true := by simp [Value.oneCell']
                have hmax : m2.length + 1 ≤ maxLen := by unfold maxLen; omega
                have hbyt : (m2.length + 1) * 24 ≤ 140737488355328 := by omega
                have hNal : N ≤ (w2.alloc (.cells #[.int .i64 0, .int .i64 0, .int .i64 0] 31)).heap.size := by simp; omega
                have hown5 := hs5.own.alloc (.cells #[.int .i64 0, .int .i64 0, .int .i64 0] 31)
                have hnot : ¬ b < u2 + s := hc2
                go_wp2_with (at_builtin; refine wpList_append_lies _ rfl _ _ 25 rfl N 31 i0 (.agg #[.int .i64 0, .int .i64 0, .int .i64 0]) 3 24 Yba.underlying25 hi0 hz0 hz1 hz2 rfl (by decide) _ m2.length (flat m2) rfl (by exact hown5) ⟨w2.heap.size, 0, none⟩ 1 1 [.int .i64 0, .int .i64 0, .int .i64 0] rfl rfl hnews hone3 (by decide) hmax hbyt hNal (w2.heap.size + 1) (by simp) ?_; intro g1 cap1 w4 hown4 hgrow4 hat4 hlt4)
                have hcap1 : m2.length + 1 ≤ cap1 := by obtain ⟨cur, _, _, h, _⟩ := Sl.row hown4; exact h
                have hp1 : m2.length ≤ cap1 := by omega
                have hp2 : (m2.length : Int) ≤ cap1 := by omega
                have hp3 : (1 : Int) ≤ (m2.length : Int) + 1 := by omega
                have hp4 : ¬ cap1 = 0 := by omega
                have hw1 : IntKind.i64.wrap ((m2.length : Int) + 1 - 1) = (m2.length : Int) := by rw [IntKind.wrap_i64]; omega
                have hw2 : IntKind.i64.wrap (m2.length : Int) = (m2.length : Int) := by rw [IntKind.wrap_i64]; omega
                obtain ⟨dp, hdp⟩ : ∃ dp, (if cap1 = 1 then some ⟨g1, 0, none⟩ else some ⟨g1, 3, none⟩ : Option Addr) = some dp := by split <;> exact ⟨_, rfl⟩
                have HD : Hid (0 < m2.length → dp = ⟨g1, 3, none⟩) := by
                  intro h
                  rw [if_neg (by omega)] at hdp
                  exact (Option.some.inj hdp).symm
                have hone5 : ∀ u ∈ flat m2 ++ [Value.int .i64 0, .int .i64 0, .int .i64 0], u.oneCell' = true := fun u hu => by
                  rcases List.mem_append.1 hu with h | h
                  · exact flat_oneCell m2 u h
                  · exact hone3 u h
                clear hnews hone3 hmax hbyt hNal hown5 hi0 hz0 hz1 hz2
                go_region_held3 (fun _ => True) (exact True.intro) ((refine step_shift (by rfl) _ _ (by rfl) (by exact hown4) hone5 m2.length (by omega) dp m2.length m2.length (cap1 - 1) cap1 (by rfl) (by rfl) rfl rfl HD ?_; intro w5 hsl6 hgr6))
                clear hp1 hp2 hp3 hp4 hw1 hw2 hdp HD hone5
                have hoplt : wr.heap.size < w2.heap.size := (Array.getElem?_eq_some_iff.1 hopb).1
                have hg1o : wr.heap.size ≠ g1 := by
                  rcases hat4 with h | h
                  · exact (hapo2 g1 h).symm
                  · omega
                have hgr6' : w4.grownBy w5 (some g1) := ⟨hgr6.os, hgr6.tape, hgr6.output, hgr6.size, hgr6.block⟩
                have opv : w5.cell? ⟨wr.heap.size, 2, none⟩ = some (.int .i64 v0) := by
                  have h1 : w5.heap[wr.heap.size]? = some (.cells #[.int .u8 o, .int .u8 k0, .int .i64 v0, .int .u8 s0] 27) := by
                    rw [hgr6'.block _ (Nat.lt_of_lt_of_le (by simp; omega) hgrow4.size) (by simpa using hg1o), hgrow4.block _ (by simp; omega) (fun e => hapo2 _ e.symm rfl), Below.heap_alloc _ _ _ hoplt]
                    exact hopb
                  unfold World.cell?; rw [h1]; rfl
                have hNg1 : N ≤ g1 := by obtain ⟨_, _, h, _⟩ := Sl.row hown4; exact h
                have hg1a : g1 ∉ B :: N :: L'.map (·.1) := by
                  rcases hat4 with h | h
                  · exact hs5.apart g1 h
                  · intro hm; have := (C3.own g1 hm).2; omega
                have C4 := cache_kept (C3.alloc (.cells #[.int .i64 0, .int .i64 0, .int .i64 0] 31)) hgrow4 (fun q hq => hs5.apart q hq)
                have C5 := cache_kept C4 hgr6' (fun q hq => by cases hq; exact hg1a)
                have bel5 : Below N w w5 := ((bel4.alloc hN3 _).grown hgrow4 (by simp; omega) (fun q hq => (hs5.blk hq).2)).grown hgr6' (Nat.le_trans (by simp; omega) hgrow4.size) (fun q hq => by cases hq; exact hNg1)
                have hN5 : N ≤ w5.heap.size := Nat.le_trans (Nat.le_trans (by simp; omega) hgrow4.size) hgr6'.size
                obtain ⟨y0, y1, y2, t0, t1, t2⟩ := hsl6.three (by omega)
                have f0 := World.ownsRow.frozenAt hsl6 0
                have f1 := World.ownsRow.frozenAt hsl6 1
                have f2 := World.ownsRow.frozenAt hsl6 2
                have hh := hsl6.head (by omega) ⟨k, v0, s⟩
                rw [shift_flat2 _ _ rfl] at hh
                have C6 := cache_kept C5 hh.2 (fun q hq => by cases hq; exact hg1a)
                clear C3 C4 C5 hsl6 hgr6 hgrow4 hown4 hat4 hopb hapo2 hs5
                go_wp2
                go_roundg (len - (c + 1))
                case measure => have := HQ.out; omega
                case rel =>
                  obtain ⟨B1, B2, B3⟩ := HB.out
                  have em : addM b (ents L) k v0 s = ⟨k, v0, s⟩ :: m2 := by rw [addM, if_neg (by omega), ← B1, htr.out]
                  refine ⟨c + 1, ⟨k, v0, s⟩ :: m2, by omega, rfl, by go_num, ?_, L', C6, hL'.trans em, ht5.add hkl ⟨hsl0, hsl1⟩, ⟨hh.1, fun q hq => by cases hq; exact hg1a⟩, bel5.grown hh.2 hN5 (fun q hq => by cases hq; exact hNg1), Nat.le_trans hN5 hh.2.size⟩
                  rw [tot_cons, ← HU2.out]; go_num
        · have e2 : strike k (ents L) = ents L := strike_none hin
          have HM : Hid ((ents L).length = L.length) := hlenm
          have HS : Hid (strike k (ents L) = ents L) := e2
          have hgo : ∀ g, (Value.slice av L.length cv).ownBlock = some g → g = wr.heap.size → False := fun g hg h => by have := (hs.blk hg).1.1; omega
          clear hlenm e2 hs C bel hNs
          by_cases hfit : b < s
          · go_wp2_with (first
              | (go_at_call 6; refine hadd.mono ?_; rintro r w2 ⟨rfl, L', C2, hL', K2⟩; obtain ⟨C3, bel3, hN3, hs3⟩ := after_call C1 hN1 hs1 C2 K2; have hopb := (K2.block _ hforeign).trans hopw; have hidx := idx_absent hs3.own HM.out (by omega) k hin; clear K2 C2 hs1 C1 hadd hopw hforeign)
              | (go_at_call 7; refine hidx.mono ?_; rintro r w3 ⟨rfl, rfl⟩))
            go_roundg (len - (c + 1))
            case measure => have := HQ.out; omega
            case rel => exact ⟨c + 1, ents L, by omega, rfl, by go_num, by rw [HU.out], L', C3, hL'.trans (by rw [addM, if_pos hfit, HS.out]), ht.mono (Nat.le_succ c), hs3, bel1.trans bel3, hN3⟩
          · go_wp2_with (first
              | (go_at_call 6; refine hadd.mono ?_; rintro r w2 ⟨rfl, L', C2, hL', K2⟩; obtain ⟨C3, bel3, hN3, hs3⟩ := after_call C1 hN1 hs1 C2 K2; have hopb := (K2.block _ hforeign).trans hopw; have hidx := idx_absent hs3.own HM.out (by omega) k hin; clear K2 C2 hs1 C1 hadd hopw hforeign)
              | (go_at_call 7; refine hidx.mono ?_; rintro r w3 ⟨rfl, rfl⟩))
            have hapo : ∀ g, (Value.slice av L.length cv).ownBlock = some g → g ≠ wr.heap.size := fun g hg h => hgo g hg h
            obtain ⟨m1, av1, n1, cv1, hst⟩ : ∃ (m1 : List Ent) (av1 : Option Addr) (n1 cv1 : Nat), m1 = ents L ∧ av1 = av ∧ n1 = L.length ∧ cv1 = cv := ⟨_, _, _, _, rfl, rfl, rfl, rfl⟩
            have HB : Hid (m1 = strike k (ents L) ∧ m1.length = n1 ∧ u = tot m1) := by
              rw [hst.1, hst.2.2.1]; exact ⟨HS.out.symm, HM.out, HU.out⟩
            have hs4 : Has w2 N (B :: N :: L'.map (·.1)) (.slice av1 n1 cv1) m1 := by rw [hst.1, hst.2.1, hst.2.2.1, hst.2.2.2]; exact hs3
            have bel4 := bel1.trans bel3
            have ht4 : Tame c m1 := by rw [hst.1]; exact ht
            rw [← hst.2.1, ← hst.2.2.1, ← hst.2.2.2] at hapo ⊢
            have hn1 : n1 ≤ 1024 := by rw [hst.2.2.1]; exact hL
            clear hst hs3 HS HM HU hidx ht bel1 bel3 hL
            go_loopg [7, 8] n1 (fun q v uu w3 => ∃ (m2 : List Ent) (a2 : Option Addr) (c2 : Nat) (u2 : Int), q = m2.length ∧ v = .slice a2 m2.length c2 ∧ uu = .int .i64 u2 ∧ Hid (u2 = tot m2) ∧ Aside (trim (b - s) m2 = trim (b - s) m1) ∧ m2.Sublist m1 ∧ Has w2 N (B :: N :: L'.map (·.1)) (.slice a2 m2.length c2) m2 ∧ (∀ g, (Value.slice a2 m2.length c2).ownBlock = some g → g ≠ wr.heap.size) ∧ w2 = w3)
            case atStart =>
              have h1 := HB.out
              exact ⟨m1, av1, cv1, _, h1.2.1.symm, by rw [h1.2.1], rfl, h1.2.2, rfl, List.Sublist.refl _, by rw [h1.2.1]; exact hs4, by rw [h1.2.1]; exact hapo, rfl⟩
            case round =>
              obtain ⟨m2, a2, c2, u2, hgk, rfl, rfl, HU2, htrim, hsub, hs5, hapo2, rfl⟩ := hrel
              have ht5 : Tame c m2 := ht4.sub hsub
              have hb5 := (ht5.mild (by omega)).tot
              have hu2 : 0 ≤ u2 ∧ u2 ≤ 200000 := by rw [HU2.out]; exact hb5
              obtain ⟨hu20, hu21⟩ := hu2
              have hl5 : m2.length ≤ 1024 := Nat.le_trans hsub.length_le (by rw [HB.out.2.1]; exact hn1)
              clear hb5 hs4 hapo
              by_cases hc2 : b < u2 + s
              · rcases List.eq_nil_or_concat m2 with hL2 | ⟨m3, x, hL2⟩
                · exact absurd (HU2.out.trans (by rw [hL2]; rfl) : u2 = 0) (by omega)
                · rw [List.concat_eq_append] at hL2
                  subst hL2
                  have hlen3 : (m3 ++ [x]).length = m3.length + 1 := by simp
                  obtain ⟨g, cp, hgv, hNg, hgs⟩ := hs5.own.form (by simp)
                  obtain ⟨rfl, rfl⟩ : a2 = some ⟨g, 0, none⟩ ∧ c2 = cp := by simpa using hgv
                  have hsl5 : Sl w2 N g (m3.length + 1) c2 (flat (m3 ++ [x])) := by have h := hs5.own; rw [hlen3] at h; exact h
                  have x2 : w2.cell? ⟨g, m3.length * 3 + 2, none⟩ = some (.int .i64 x.s) := (World.ownsRow.cellAt hsl5 (m3.length * 3 + 2) (by omega)).trans (flat_at m3 [] x 2 (by omega))
                  have hxs := ht5.2 x (by simp)
                  obtain ⟨hxs0, hxs1, _⟩ := hxs
                  have hlen4 : m3.length + 1 ≤ 1024 := by rw [← hlen3]; exact hl5
                  have hcap5 : m3.length ≤ c2 := by obtain ⟨cur, _, _, h, _⟩ := hsl5.row; omega
                  have hcut : Sl w2 N g m3.length c2 (flat m3) := by
                    have h := hsl5.cut (p := m3.length) (by omega)
                    rw [flat_append, List.take_append_of_le_length (by rw [flat_len]; omega), List.take_of_length_le (by rw [flat_len]; omega)] at h
                    exact h
                  have hap5 := hs5.apart g rfl
                  have hao5 := hapo2 g rfl
                  clear hgv hs5 hsl5 hapo2 ht5
                  go_wp2
                  go_roundg m3.length
                  case measure => rw [hgk]; simp
                  case rel => exact ⟨m3, some ⟨g, 0, none⟩, c2, u2 - x.s, rfl, rfl, rfl, by have := HU2.out; rw [tot_append, tot_cons, tot_nil] at this; show _ = _; omega, (trim_drop (by rw [← HU2.out]; omega)).symm.trans htrim.out, (List.sublist_append_left m3 [x]).trans hsub, ⟨hcut, fun q hq => by cases hq; exact hap5⟩, fun q hq => by cases hq; exact hao5, rfl⟩
              · have htr : Hid (trim (b - s) m1 = m2) := by
                  have h1 := htrim.out
                  rw [trim_fits (by rw [← HU2.out]; omega)] at h1
                  exact h1.symm
                clear hgk htrim
                obtain ⟨i0, hi0, hz0, hz1, hz2⟩ : ∃ i, Yba.prog.info? 31 = some i ∧ i.zero = some (.agg #[.int .i64 0, .int .i64 0, .int .i64 0]) ∧ i.size = 3 ∧ i.bytes = 24 := info_parts (P := Yba.prog) (e := 31) (by kernel_rfl)
                have hnews : ∀ j u, [Value.int .i64 0, .int .i64 0, .int .i64 0][j]? = some u → (w2.alloc (.cells #[.int .i64 0, .int .i64 0, .int .i64 0] 31)).cell? ((⟨w2.heap.size, 0, none⟩ : Addr).add j) = some u :=
                  World.news_of_block (cs := #[.int .i64 0, .int .i64 0, .int .i64 0]) (MapKept.heap_alloc w2 (.cells #[.int .i64 0, .int .i64 0, .int .i64 0] 31)).1
                have hone3 : ∀ u ∈ [Value.int .i64 0, .int .i64 0, .int .i64 0], u.oneCell' = true := by simp [Value.oneCell']
                have hmax : m2.length + 1 ≤ maxLen := by unfold maxLen; omega
                have hbyt : (m2.length + 1) * 24 ≤ 140737488355328 := by omega
                have hNal : N ≤ (w2.alloc (.cells #[.int .i64 0, .int .i64 0, .int .i64 0] 31)).heap.size := by simp; omega
                have hown5 := hs5.own.alloc (.cells #[.int .i64 0, .int .i64 0, .int .i64 0] 31)
                have hnot : ¬ b < u2 + s := hc2
                go_wp2_with (at_builtin; refine wpList_append_lies _ rfl _ _ 25 rfl N 31 i0 (.agg #[.int .i64 0, .int .i64 0, .int .i64 0]) 3 24 Yba.underlying25 hi0 hz0 hz1 hz2 rfl (by decide) _ m2.length (flat m2) rfl (by exact hown5) ⟨w2.heap.size, 0, none⟩ 1 1 [.int .i64 0, .int .i64 0, .int .i64 0] rfl rfl hnews hone3 (by decide) hmax hbyt hNal (w2.heap.size + 1) (by simp) ?_; intro g1 cap1 w4 hown4 hgrow4 hat4 hlt4)
                have hcap1 : m2.length + 1 ≤ cap1 := by obtain ⟨cur, _, _, h, _⟩ := Sl.row hown4; exact h
                have hp1 : m2.length ≤ cap1 := by omega
                have hp2 : (m2.length : Int) ≤ cap1 := by omega
                have hp3 : (1 : Int) ≤ (m2.length : Int) + 1 := by omega
                have hp4 : ¬ cap1 = 0 := by omega
                have hw1 : IntKind.i64.wrap ((m2.length : Int) + 1 - 1) = (m2.length : Int) := by rw [IntKind.wrap_i64]; omega
                have hw2 : IntKind.i64.wrap (m2.length : Int) = (m2.length : Int) := by rw [IntKind.wrap_i64]; omega
                obtain ⟨dp, hdp⟩ : ∃ dp, (if cap1 = 1 then some ⟨g1, 0, none⟩ else some ⟨g1, 3, none⟩ : Option Addr) = some dp := by split <;> exact ⟨_, rfl⟩
                have HD : Hid (0 < m2.length → dp = ⟨g1, 3, none⟩) := by
                  intro h
                  rw [if_neg (by omega)] at hdp
                  exact (Option.some.inj hdp).symm
                have hone5 : ∀ u ∈ flat m2 ++ [Value.int .i64 0, .int .i64 0, .int .i64 0], u.oneCell' = true := fun u hu => by
                  rcases List.mem_append.1 hu with h | h
                  · exact flat_oneCell m2 u h
                  · exact hone3 u h
                clear hnews hone3 hmax hbyt hNal hown5 hi0 hz0 hz1 hz2
                go_region_held3 (fun _ => True) (exact True.intro) ((refine step_shift (by rfl) _ _ (by rfl) (by exact hown4) hone5 m2.length (by omega) dp m2.length m2.length (cap1 - 1) cap1 (by rfl) (by rfl) rfl rfl HD ?_; intro w5 hsl6 hgr6))
                clear hp1 hp2 hp3 hp4 hw1 hw2 hdp HD hone5
                have hoplt : wr.heap.size < w2.heap.size := (Array.getElem?_eq_some_iff.1 hopb).1
                have hg1o : wr.heap.size ≠ g1 := by
                  rcases hat4 with h | h
                  · exact (hapo2 g1 h).symm
                  · omega
                have hgr6' : w4.grownBy w5 (some g1) := ⟨hgr6.os, hgr6.tape, hgr6.output, hgr6.size, hgr6.block⟩
                have opv : w5.cell? ⟨wr.heap.size, 2, none⟩ = some (.int .i64 v0) := by
                  have h1 : w5.heap[wr.heap.size]? = some (.cells #[.int .u8 o, .int .u8 k0, .int .i64 v0, .int .u8 s0] 27) := by
                    rw [hgr6'.block _ (Nat.lt_of_lt_of_le (by simp; omega) hgrow4.size) (by simpa using hg1o), hgrow4.block _ (by simp; omega) (fun e => hapo2 _ e.symm rfl), Below.heap_alloc _ _ _ hoplt]
                    exact hopb
                  unfold World.cell?; rw [h1]; rfl
                have hNg1 : N ≤ g1 := by obtain ⟨_, _, h, _⟩ := Sl.row hown4; exact h
                have hg1a : g1 ∉ B :: N :: L'.map (·.1) := by
                  rcases hat4 with h | h
                  · exact hs5.apart g1 h
                  · intro hm; have := (C3.own g1 hm).2; omega
                have C4 := cache_kept (C3.alloc (.cells #[.int .i64 0, .int .i64 0, .int .i64 0] 31)) hgrow4 (fun q hq => hs5.apart q hq)
                have C5 := cache_kept C4 hgr6' (fun q hq => by cases hq; exact hg1a)
                have bel5 : Below N w w5 := ((bel4.alloc hN3 _).grown hgrow4 (by simp; omega) (fun q hq => (hs5.blk hq).2)).grown hgr6' (Nat.le_trans (by simp; omega) hgrow4.size) (fun q hq => by cases hq; exact hNg1)
                have hN5 : N ≤ w5.heap.size := Nat.le_trans (Nat.le_trans (by simp; omega) hgrow4.size) hgr6'.size
                obtain ⟨y0, y1, y2, t0, t1, t2⟩ := hsl6.three (by omega)
                have f0 := World.ownsRow.frozenAt hsl6 0
                have f1 := World.ownsRow.frozenAt hsl6 1
                have f2 := World.ownsRow.frozenAt hsl6 2
                have hh := hsl6.head (by omega) ⟨k, v0, s⟩
                rw [shift_flat2 _ _ rfl] at hh
                have C6 := cache_kept C5 hh.2 (fun q hq => by cases hq; exact hg1a)
                clear C3 C4 C5 hsl6 hgr6 hgrow4 hown4 hat4 hopb hapo2 hs5
                go_wp2
                go_roundg (len - (c + 1))
                case measure => have := HQ.out; omega
                case rel =>
                  obtain ⟨B1, B2, B3⟩ := HB.out
                  have em : addM b (ents L) k v0 s = ⟨k, v0, s⟩ :: m2 := by rw [addM, if_neg (by omega), ← B1, htr.out]
                  refine ⟨c + 1, ⟨k, v0, s⟩ :: m2, by omega, rfl, by go_num, ?_, L', C6, hL'.trans em, ht5.add hkl ⟨hsl0, hsl1⟩, ⟨hh.1, fun q hq => by cases hq; exact hg1a⟩, bel5.grown hh.2 hN5 (fun q hq => by cases hq; exact hNg1), Nat.le_trans hN5 hh.2.size⟩
                  rw [tot_cons, ← HU2.out]; go_num
      · have ho2b : (o % 2 == 0) = false := by simp [ho2]
        clear ho2
        obtain ⟨k, hk8⟩ : ∃ k, k0 % 8 = k := ⟨_, rfl⟩
        have hkl : 0 ≤ k ∧ k ≤ 7 := by omega
        have hkw : (Lit.int .i64 k).wf = true := WalkArith.wf_i64 (by omega)
        have C1 := C.alloc (.cells #[.int .u8 o, .int .u8 k0, .int .i64 v0, .int .u8 s0] 27)
        have hs1 : Has (wr.alloc (.cells #[.int .u8 o, .int .u8 k0, .int .i64 v0, .int .u8 s0] 27)) N (B :: N :: L.map (·.1)) (.slice av L.length cv) (ents L) :=
          ⟨hs.own.alloc _, hs.apart⟩
        have hN1 : N ≤ (wr.alloc (.cells #[.int .u8 o, .int .u8 k0, .int .i64 v0, .int .u8 s0] 27)).heap.size := by simp; omega
        have bel1 : Below N w (wr.alloc (.cells #[.int .u8 o, .int .u8 k0, .int .i64 v0, .int .u8 s0] 27)) := bel.alloc hNs _
        have hget := get_any (foreign_of C1) k hkw
        have HQ : Hid (gk = len - c) := hq
        clear hq
        by_cases hin : k ∈ (ents L).map (fun e => e.k)
        · obtain ⟨ea, ⟨ek, ev, es⟩, eb, hm, hek⟩ := part_key hin
          obtain rfl : ek = k := hek
          have hkeys := C.keys
          rw [hm] at hkeys
          have e1 : look ek (ents L) = some ⟨ek, ev, es⟩ := by rw [hm]; exact look_some hkeys
          have e2 : touch ek (ents L) = ⟨ek, ev, es⟩ :: (ea ++ eb) := by
            simp only [touch, e1]
            rw [hm, strike_one (e := ⟨ek, ev, es⟩) hkeys]
          have e3 : valOf ek (ents L) = ev := by simp [valOf, e1]
          have e4 : hasK ek (ents L) = true := by simp [hasK, e1]
          rw [e2, e3, e4] at hget
          have hnk : ek ∉ ea.map (fun e => e.k) := by
            rw [List.map_append, List.map_cons] at hkeys
            exact fun c => (List.nodup_append.1 hkeys).2.2 _ c ek (by simp) rfl
          have hlab : L.length = ea.length + eb.length + 1 := by rw [← hlenm, hm]; simp; omega
          obtain ⟨g, cp, hgv, hNg, hgs⟩ := hs.own.form (by rw [hlenm]; omega)
          rw [hlenm] at hgv
          obtain ⟨rfl, rfl⟩ : av = some ⟨g, 0, none⟩ ∧ cv = cp := by simpa using hgv
          have HM : Hid (ents L = ea ++ ⟨ek, ev, es⟩ :: eb ∧ L.length = ea.length + eb.length + 1 ∧ (ents L).length = L.length ∧ touch ek (ents L) = ⟨ek, ev, es⟩ :: (ea ++ eb)) := ⟨hm, hlab, hlenm, e2⟩
          have hja : (ea.length : Int) < L.length := by omega
          have hja' : ea.length < L.length := by omega
          clear hkeys e1 e2 e3 e4 hgv hlab hm hlenm hin hs C bel hNs
          go_wp2_with (first
            | (go_at_call 8; refine hget.mono ?_; rintro r w2 ⟨rfl, L', C2, hL', K2⟩; obtain ⟨C3, bel3, hN3, hs3⟩ := after_call C1 hN1 hs1 C2 K2; have hsl3 : Sl w2 N g L.length cv (flat (ea ++ ⟨ek, ev, es⟩ :: eb)) := (by have h := hs3.own; rw [HM.out.2.2.1, HM.out.1] at h; exact h); have hidx := idx_hit hsl3 (by rw [HM.out.2.1]; simp; omega) (by omega) hnk; have m0 : w2.cell? ⟨g, ea.length * 3, none⟩ = some (.int .i64 ek) := (World.ownsRow.cellAt hsl3 (ea.length * 3) (by omega)).trans (flat_at ea eb ⟨ek, ev, es⟩ 0 (by omega)); have m1 : w2.cell? ⟨g, ea.length * 3 + 1, none⟩ = some (.int .i64 ev) := (World.ownsRow.cellAt hsl3 (ea.length * 3 + 1) (by omega)).trans (flat_at ea eb ⟨ek, ev, es⟩ 1 (by omega)); have m2 : w2.cell? ⟨g, ea.length * 3 + 2, none⟩ = some (.int .i64 es) := (World.ownsRow.cellAt hsl3 (ea.length * 3 + 2) (by omega)).trans (flat_at ea eb ⟨ek, ev, es⟩ 2 (by omega)); clear K2 C2 hs1 C1 hget)
            | (go_at_call 7; refine hidx.mono ?_; rintro r w3 ⟨rfl, rfl⟩))
          have hcap : (L.length : Int) ≤ cv := by obtain ⟨cur, _, _, h, _⟩ := hsl3.row; omega
          have hsl4 : Sl (w2.alloc (.cells #[.int .i64 ek, .int .i64 ev, .int .i64 es] 31)) N g L.length cv (flat (ea ++ ⟨ek, ev, es⟩ :: eb)) := World.ownsRow.alloc hsl3 _
          have hone := flat_oneCell (ea ++ ⟨ek, ev, es⟩ :: eb)
          have hw1 : IntKind.i64.wrap ((ea.length : Int) + 1) = (ea.length : Int) + 1 := by rw [IntKind.wrap_i64]; omega
          have hj1 : (1 : Int) ≤ (ea.length : Int) + 1 := by omega
          have hj2 : (ea.length : Int) + 1 ≤ cv := by omega
          have hj3 : (ea.length : Int) ≤ cv := by omega
          have hj4 : ea.length ≤ cv := by omega
          have hj5 : ¬ cv = 0 := by omega
          obtain ⟨dp, hdp⟩ : ∃ dp, (if cv = 1 then some ⟨g, 0, none⟩ else some ⟨g, 3, none⟩ : Option Addr) = some dp := by split <;> exact ⟨_, rfl⟩
          have HD : Hid (0 < ea.length → dp = ⟨g, 3, none⟩) := by
            intro h
            rw [if_neg (by omega)] at hdp
            exact (Option.some.inj hdp).symm
          have hgs2 : g < w2.heap.size := (hs3.blk rfl).1.1
          have hap3 := hs3.apart g rfl
          go_region_held3 (fun _ => True) (exact True.intro) ((refine step_shift (by rfl) _ _ (by rfl) (by exact hsl4) hone ea.length (by omega) dp ea.length ea.length (cv - 1) cv (by rfl) (by rfl) rfl rfl HD ?_; intro w4 hsl5 hgr5))
          clear hw1 hj1 hj2 hj3 hj4 hj5 hdp HD m0 m1 m2 hcap hone
          have hlz : ∀ j, j < 3 → w4.cell? ⟨w2.heap.size, j, none⟩ = #[Value.int .i64 ek, .int .i64 ev, .int .i64 es][j]? := by
            intro j hj
            rw [hgr5.cell_far ⟨w2.heap.size, j, none⟩ (by simp) (by simp; omega)]
            have h0 := (MapKept.heap_alloc w2 (.cells #[.int .i64 ek, .int .i64 ev, .int .i64 es] 31)).1
            show (w2.alloc (.cells #[.int .i64 ek, .int .i64 ev, .int .i64 es] 31)).cell? _ = _
            unfold World.cell?; rw [h0]; rfl
          have z0 : w4.cell? ⟨w2.heap.size, 0, none⟩ = some (.int .i64 ek) := hlz 0 (by omega)
          have z1 : w4.cell? ⟨w2.heap.size, 1, none⟩ = some (.int .i64 ev) := hlz 1 (by omega)
          have z2 : w4.cell? ⟨w2.heap.size, 2, none⟩ = some (.int .i64 es) := hlz 2 (by omega)
          obtain ⟨y0, y1, y2, t0, t1, t2⟩ := hsl5.three (by omega)
          have f0 := World.ownsRow.frozenAt hsl5 0
          have f1 := World.ownsRow.frozenAt hsl5 1
          have f2 := World.ownsRow.frozenAt hsl5 2
          have hh := hsl5.head (by omega) ⟨ek, ev, es⟩
          rw [shift_flat] at hh
          have hpos : ¬ L.length = 0 := by omega
          have hpos2 : (0 : Int) < L.length := by omega
          clear hsl4 hsl5 hsl3 hlz hidx
          go_wp2
          go_roundg (len - (c + 1))
          case measure => have := HQ.out; omega
          case rel =>
            have hgr5' : (w2.alloc (.cells #[.int .i64 ek, .int .i64 ev, .int .i64 es] 31)).grownBy w4 (some g) := ⟨hgr5.os, hgr5.tape, hgr5.output, hgr5.size, hgr5.block⟩
            have hgr := grownBy_trans (a := w2) (World.grownBy_alloc w2 _ (some g)) (grownBy_trans (b := w4) hgr5' hh.2)
            obtain ⟨M1, M2, M3, M4⟩ := HM.out
            refine ⟨c + 1, touch ek (ents L), by omega, rfl, by go_num, ?_, L', cache_kept C3 hgr (fun q hq => by cases hq; exact hap3), hL'.trans M4.symm, ?_, ⟨?_, fun q hq => by cases hq; exact hap3⟩, (bel1.trans bel3).grown hgr hN3 (fun q hq => by cases hq; exact hNg), Nat.le_trans hN3 hgr.size⟩
            · rw [M4, M1, tot_cons, tot_append, tot_append, tot_cons]; go_num
            · rw [M4]
              have h1 := ht.mono (Nat.le_succ c)
              rw [M1] at h1
              refine ⟨by have := h1.1; simp at this ⊢; omega, fun x hx => h1.2 x ?_⟩
              simp at hx ⊢
              rcases hx with h | h | h
              · exact .inr (.inl h)
              · exact .inl h
              · exact .inr (.inr h)
            · rw [M4]
              have hl : (⟨ek, ev, es⟩ :: (ea ++ eb) : List Ent).length = L.length := by simp; omega
              rw [hl]; exact hh.1
        · have e1 : look k (ents L) = none := look_none hin
          have e2 : touch k (ents L) = ents L := by simp [touch, e1]
          have e3 : valOf k (ents L) = 0 := by simp [valOf, e1]
          have e4 : hasK k (ents L) = false := by simp [hasK, e1]
          rw [e2, e3, e4] at hget
          have HM : Hid ((ents L).length = L.length) := hlenm
          clear hlenm e1 e2 e3 e4 hs C bel hNs
          go_wp2_with (first
            | (go_at_call 8; refine hget.mono ?_; rintro r w2 ⟨rfl, L', C2, hL', K2⟩; obtain ⟨C3, bel3, hN3, hs3⟩ := after_call C1 hN1 hs1 C2 K2; have hidx := idx_absent hs3.own HM.out (by omega) k hin; clear K2 C2 hs1 C1 hget)
            | (go_at_call 7; refine hidx.mono ?_; rintro r w3 ⟨rfl, rfl⟩))
          go_roundg (len - (c + 1))
          case measure => have := HQ.out; omega
          case rel => exact ⟨c + 1, ents L, by omega, rfl, by go_num, rfl, L', C3, hL', ht.mono (Nat.le_succ c), hs3, bel1.trans bel3, hN3⟩
    · obtain ⟨L, C, rfl, ht, hs, bel, hNs⟩ := hinv
      have hlenm : (ents L).length = L.length := by simp [ents]
      obtain ⟨av, cv, hv⟩ : ∃ av cv, u7 = .slice av L.length cv := by
        rcases hs.own.2 with ⟨e, h⟩ | ⟨g, cp, cur, e, _⟩
        · exact ⟨none, 0, by rw [e, ← hlenm, h]⟩
        · exact ⟨_, cp, by rw [e, hlenm]⟩
      subst hv
      have c3 := C.ring.c3
      have c9 := C.ring.c9
      obtain ⟨u, hu⟩ : ∃ u, u = tot (ents L) := ⟨_, rfl⟩
      rw [← hu] at c3 ⊢
      obtain ⟨D, I⟩ := C.idx
      have hown := I.own
      have hsz := I.size
      have hL : L.length ≤ 1024 := by have := ht.1; omega
      obtain ⟨pb, po, hpb⟩ : ∃ pb po, pb = (L.map (·.1)).headD B ∧ po = ro B pb := ⟨_, _, rfl, rfl⟩
      have c8 : wr.cell? ⟨B, 8, none⟩ = some (.pointer (some ⟨pb, po, none⟩)) := by
        have h1 := (seg_first C.ring.seg).1
        unfold nxOf at h1
        rw [ro_self, ← hpb.1, ← hpb.2] at h1
        exact h1
      have HP : Hid (pb = (L.map (·.1)).headD B ∧ po = ro B pb) := hpb
      clear hu hq hpb
      go_wp2_with (at_len; refine wpList_len_want (by rfl) _ rfl N _ D rfl hown ?_; rw [hsz])
      clear hown hsz c3 c8
      go_loopg [19, 190] L.length (fun q p i w3 => ∃ (La Lb : List (Nat × Ent)) (k pb po : Nat), L = La ++ Lb ∧ q = Lb.length ∧ i = .int .i64 La.length ∧ p = .pointer (some ⟨pb, po, none⟩) ∧ Hid (pb = (Lb.map (·.1)).headD B ∧ po = ro B pb) ∧ w3 = wr.drewN k)
      case atStart => exact ⟨[], L, 0, pb, po, rfl, rfl, rfl, rfl, HP, rfl⟩
      case round =>
        clear HP
        obtain ⟨La, Lb, k, pb, po, hLL, hq, rfl, rfl, HP, rfl⟩ := hrel
        cases Lb with
        | nil =>
          have hpb : pb = B ∧ po = 4 := by have h := HP.out; simp at h; exact ⟨h.1, by rw [h.2, h.1, ro_self]⟩
          obtain ⟨rfl, rfl⟩ := hpb
          have hll : ¬ La.length < L.length := by rw [hLL]; simp
          clear hLL HP
          have peq := ptr_eql_same ⟨pb, 4, none⟩
          go_wp2
          go_ret
          exact ⟨rfl, HN.out ▸ ⟨bel.os, bel.tape, bel.output, bel.size, bel.block⟩⟩
        | cons x Lb =>
          obtain ⟨xb, xk, xv, xs⟩ := x
          have hmem : (xb, ⟨xk, xv, xs⟩) ∈ L := by rw [hLL]; simp
          have hne := C.ring.ne.2.2 _ hmem
          have hneB : ¬ xb = B := hne
          have hpb : pb = xb ∧ po = 0 := by have h := HP.out; simp at h; exact ⟨h.1, by rw [h.2, h.1, ro_other hne]⟩
          obtain ⟨rfl, rfl⟩ := hpb
          have hnode := C.ring.nodes _ hmem
          have k0 : wr.cell? ⟨pb, 0, none⟩ = some (.int .i64 xk) := hnode.c0
          have k1 : wr.cell? ⟨pb, 1, none⟩ = some (.int .i64 xv) := hnode.c1
          have k2 : wr.cell? ⟨pb, 2, none⟩ = some (.int .i64 xs) := hnode.c2
          obtain ⟨nb, no, hnb⟩ : ∃ nb no, nb = (Lb.map (·.1)).headD B ∧ no = ro B nb := ⟨_, _, rfl, rfl⟩
          have hlink : wr.cell? ⟨pb, 4, none⟩ = some (.pointer (some ⟨nb, no, none⟩)) ∧ wr.cell? ⟨nb, no + 3, none⟩ = some (.pointer (some ⟨pb, 0, none⟩)) := by
            have h1 := C.ring.seg
            rw [hLL, List.map_append, List.map_cons] at h1
            have h2 := seg_first (seg_split _ _ h1).2
            unfold nxOf pvOf at h2
            rw [ro_other hne, ← hnb.1, ← hnb.2] at h2
            exact h2
          obtain ⟨k4, n3⟩ := hlink
          have HP2 : Hid (nb = (Lb.map (·.1)).headD B ∧ no = ro B nb) := hnb
          have hll : La.length < L.length := by rw [hLL]; simp
          have hll2 : (La.length : Int) < L.length := by omega
          obtain ⟨g, cp, hgv, hNg, hgs⟩ := hs.own.form (by rw [hlenm]; omega)
          rw [hlenm] at hgv
          obtain ⟨rfl, rfl⟩ : av = some ⟨g, 0, none⟩ ∧ cv = cp := by simpa using hgv
          have hsl : Sl wr N g (ents L).length cv (flat (ents L)) := by have := hs.own; rw [hlenm] at this ⊢; exact this
          have hent : ents L = ents La ++ ⟨xk, xv, xs⟩ :: ents Lb := by rw [hLL, ents_append]; rfl
          have hla : (ents La).length = La.length := by simp [ents]
          have m0 : wr.cell? ⟨g, La.length * 3, none⟩ = some (.int .i64 xk) := by
            have h1 := World.ownsRow.cellAt hsl (La.length * 3) (by rw [hlenm]; omega)
            rw [h1, hent, ← hla]; exact flat_at _ _ _ 0 (by omega)
          have m1 : wr.cell? ⟨g, La.length * 3 + 1, none⟩ = some (.int .i64 xv) := by
            have h1 := World.ownsRow.cellAt hsl (La.length * 3 + 1) (by rw [hlenm]; omega)
            rw [h1, hent, ← hla]; exact flat_at _ _ _ 1 (by omega)
          have m2 : wr.cell? ⟨g, La.length * 3 + 2, none⟩ = some (.int .i64 xs) := by
            have h1 := World.ownsRow.cellAt hsl (La.length * 3 + 2) (by rw [hlenm]; omega)
            rw [h1, hent, ← hla]; exact flat_at _ _ _ 2 (by omega)
          have hkw : (Lit.int .i64 xk).wf = true := by
            have := ht.2 ⟨xk, xv, xs⟩ (by rw [hent]; simp)
            exact WalkArith.wf_i64 (by simp at this; omega)
          have look : ∀ j, (Instr.lookup 44 (.map (some N)) (.int .i64 xk) false).run Yba.prog (wr.drewN j) = .ok (.pointer (some ⟨pb, 0, none⟩)) (wr.drewN j) := fun j => look_plain (I.kept (w' := wr.drewN j) rfl) hmem hkw
          have peq : ∀ j, (binOp .eql 41 (.pointer (some ⟨pb, 0, none⟩)) (.pointer (some ⟨B, 4, none⟩))).run Yba.prog (wr.drewN j) = .ok (.bool false) (wr.drewN j) := fun j => ptr_eql_other hne (hnode.pl.drewN j) (C.ring.pl.drewN j)
          have pne := ptr_neq_same ⟨pb, 0, none⟩
          have HLL : Hid (L = La ++ (pb, ⟨xk, xv, xs⟩) :: Lb ∧ gk = ((pb, ⟨xk, xv, xs⟩) :: Lb : List (Nat × Ent)).length) := ⟨hLL, hq⟩
          clear hLL hq hent hla hsl hgv HP hnb hs hlenm hne C I ht hnode hmem hkw
          go_wp2
          go_quiet (fail)
          go_wp2
          go_quiet (fail)
          go_wp2
          go_roundg Lb.length
          case measure => have := HLL.out.2; simp at this; omega
          case rel => exact ⟨La ++ [(pb, ⟨xk, xv, xs⟩)], Lb, _, nb, no, by rw [HLL.out.1]; simp, rfl, by simp, rfl, HP2, rfl⟩
end Go.Proofs.Ybulkddgq
