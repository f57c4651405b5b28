/-
  THE WALK of LawS5232CScript.
-/
import Derived.Test.YbulkddigSetup
import Derived.Deep.CutBlock
import Derived.Deep.DeepCutAuto
import Derived.Deep.QuietTactic
import Derived.BigQuiet
namespace Go.Proofs.Ybulkddig
open Go.RowKit

/-- The bytes that came in: each of the first len lies in a block that was there, and is a byte. -/
def Bytes (w : World) (a : Option Addr) (len : Nat) : Prop :=
  len = 0 ∨ ∃ b o, a = some ⟨b, o, none⟩ ∧ b < w.heap.size ∧ ∀ i, i < len → ∃ n : Int, w.cell? ⟨b, o + i, none⟩ = some (.int .u8 n) ∧ 0 ≤ n ∧ n ≤ 255

theorem idx_of (op : Int) {k : Nat} (hk : 0 < k) : ∃ i : Nat, i < k ∧ op / 2 % (k : Int) = i := by
  have h1 := Int.emod_nonneg (op / 2) (b := (k : Int)) (by omega)
  have h2 := Int.emod_lt_of_pos (op / 2) (b := (k : Int)) (by omega)
  exact ⟨(op / 2 % (k : Int)).toNat, by omega, by omega⟩

section
variable {N k : Nat} {w wr w1 : World} {c : Cst} {cr lf : Nat} {st : List Int} {ended : Bool} {v vw : Value} {ws : List Nat} {i : Nat}
theorem Lw.leaveS (h : Lw N w c k wr cr lf st ended v vw ws) (i : Nat) (x : Int) (o : Nat) (y : Int) : Hold (mark wr c.mb c.M i x o y) c.Nb (stu st) := by
  obtain ⟨full, I⟩ := h.is
  obtain ⟨l1, l2, l3, l4, l5, l6, l7, l8⟩ := I.apt.lt
  exact (h.s.other _ _ _ (by omega)).other _ _ _ (by omega)
theorem crash_news (w1 : World) (c : Cst) (i : Nat) : ∀ j u, [Value.int .i64 (i : Int)][j]? = some u → (crashW w1 c i).cell? ((⟨w1.heap.size, 0, none⟩ : Addr).add j) = some u := by
  intro j u h
  have hs : (w1.setCell ⟨c.Nb, i, none⟩ (.int .u8 1)).heap.size = w1.heap.size := by simp [World.setCell]
  have hh : (crashW w1 c i).heap[w1.heap.size]? = some (.cells #[.int .i64 (i : Int)] 3) := by
    rw [← hs]
    exact (MapKept.heap_alloc _ _).1
  exact World.news_of_block hh j u (by simpa using h)
theorem crash_at {vw : Value} {g n cap H : Nat} (h : vw.ownBlock = some g ∨ g = H) : (Value.slice (some ⟨g, 0, none⟩) n cap).ownBlock = vw.ownBlock ∨ (Value.slice (some ⟨g, 0, none⟩) n cap).ownBlock = some H := by
  rcases h with h | h
  · left; rw [h]; rfl
  · right; rw [h]; rfl
theorem own_at {w : World} {N e size n cv : Nat} {av : Option Addr} {xs : List Value} (h : w.ownsRow N e size (.slice av n cv) n xs) (hn : 0 < n) : ∃ g, av = some ⟨g, 0, none⟩ ∧ n ≤ cv ∧ g < w.heap.size ∧ ∀ p u, xs[p]? = some u → w.cell? ⟨g, p, none⟩ = some u := by
  rcases h.2 with ⟨_, h0⟩ | ⟨g, cap, cur, he, _, hg, hle, _, hsz, ht⟩
  · omega
  · injection he with e1 e2 e3
    subst e3
    refine ⟨g, e1, hle, (Array.getElem?_eq_some_iff.1 hg).1, fun p u hp => ?_⟩
    have hc : w.cell? ⟨g, p, none⟩ = cur[p]? := by unfold World.cell?; rw [hg]; rfl
    rw [hc, ← Array.getElem?_toList]
    rw [← ht, List.getElem?_take] at hp
    split at hp
    · exact hp
    · cases hp
theorem Lw.frS (h : Lw N w c k wr cr lf st ended v vw ws) (f : Fr wr w1 c.C v.ownBlock) : Hold w1 c.Nb (stu st) := by
  obtain ⟨ts, es⟩ := h.s
  exact ⟨ts, (f.block _ h.s.lt (h.notC (Nat.le_refl _)) h.sv).trans es⟩
end

/-- Behind NewHub and the two stores. -/
theorem hub_set {w wr w1 : World} {k hb mb pb dq aq : Nat} {M : Med} {cs ch : Array Value} {o1 o2 : Obj} (bel : Below w.heap.size w wr) (H : Hold wr w.heap.size cs) (hcs : NodeRow k cs)
    (bel1 : Below ((wr.alloc o1).alloc o2).heap.size ((wr.alloc o1).alloc o2) w1) (n0 : ((wr.alloc o1).alloc o2).heap.size ≤ hb) (Hh : Hold w1 hb ch) (HC : HCells k ch mb pb dq aq) (HP : HParts ((wr.alloc o1).alloc o2).heap.size k w1 M mb pb dq aq)
    (o : mb < hb ∧ M.sb < hb ∧ M.ib < hb ∧ M.cb < hb ∧ pb < hb ∧ dq < hb ∧ aq < hb) (t : Bool) :
    ∃ N', w.heap.size ≤ N' ∧ w.heap.size ≤ hb ∧ w.heap.size ≠ pb ∧ w.heap.size ≤ pb ∧ pb < hb ∧ HParts N' k ((w1.setCell ⟨hb, 5, none⟩ (.bool true)).setCell ⟨hb, 19, none⟩ (.bool t)) M mb pb dq aq ∧
      Hold ((w1.setCell ⟨hb, 5, none⟩ (.bool true)).setCell ⟨hb, 19, none⟩ (.bool t)) hb ((ch.setIfInBounds 5 (.bool true)).setIfInBounds 19 (.bool t)) ∧
      (∃ cs, Hold ((w1.setCell ⟨hb, 5, none⟩ (.bool true)).setCell ⟨hb, 19, none⟩ (.bool t)) w.heap.size cs ∧ NodeRow k cs) ∧
      Below w.heap.size w ((w1.setCell ⟨hb, 5, none⟩ (.bool true)).setCell ⟨hb, 19, none⟩ (.bool t)) ∧
      ((w1.setCell ⟨hb, 5, none⟩ (.bool true)).setCell ⟨hb, 19, none⟩ (.bool t)).cell? ⟨hb, 17, none⟩ = some (.slice (some ⟨pb, 0, none⟩) k k) := by
  have hl := H.lt
  have hs : ((wr.alloc o1).alloc o2).heap.size = wr.heap.size + 2 := by simp
  have hnp := HP.np
  have Hh2 : Hold ((w1.setCell ⟨hb, 5, none⟩ (.bool true)).setCell ⟨hb, 19, none⟩ (.bool t)) hb ((ch.setIfInBounds 5 (.bool true)).setIfInBounds 19 (.bool t)) := (Hh.set 5 _ _ rfl).set 19 _ _ rfl
  refine ⟨_, by omega, by omega, by omega, by omega, o.2.2.2.2.1, HP.kept (fun q hq => ?_) o, Hh2, ⟨cs, ?_, hcs⟩, ?_, ?_⟩
  · rw [Below.heap_setCell _ _ _ _ (show q ≠ hb by omega), Below.heap_setCell _ _ _ _ (show q ≠ hb by omega)]
  · exact ((((H.alloc o1).alloc o2).keep bel1).other _ _ _ (by omega)).other _ _ _ (by omega)
  · exact ((((bel.alloc (by omega) o1).alloc (by simp; omega) o2).trans (bel1.mono (by omega))).setCell (p := ⟨hb, 5, none⟩) (by show w.heap.size ≤ hb; omega) _).setCell (p := ⟨hb, 19, none⟩) (by show w.heap.size ≤ hb; omega) _
  · refine (Hh2.cell 17).trans ?_
    rw [Array.getElem?_setIfInBounds_ne (by decide), Array.getElem?_setIfInBounds_ne (by decide)]
    exact HC.peers

set_option maxRecDepth 100000 in
set_option maxHeartbeats 8000000 in
theorem script_walk (k : Nat) (n : Int) (hn0 : 0 ≤ n) (hn1 : n ≤ 255) (hk0 : 0 < k) (hk : k ≤ 8) (hkn : IntKind.i64.wrap (1 + n % 8) = k) (t : Bool) (ad : Option Addr) (len cap : Nat) (w : World) (hlen : len ≤ 1024) (hbs : Bytes w ad len) :
    Calls Yba.prog 5 #[.int .u8 n, .bool t, .slice ad len cap] w fun e w' => e = .returned (.bool true) ∧ Below w.heap.size w w' := by
  have hlen' : ¬ (1024 : Int) < len := by omega
  have m1 := fun w => make_nodes w k (by omega)
  have m2 := fun w => make_nbs w k (by omega)
  have m3 := fun w => make_bytes w k (by omega)
  go_enter Yba.func5, Yba.ntmps5
  go_wp2
  have B0 : Below w.heap.size w (w.alloc (.cells (madeCells #[.int .i64 0, .float .f64 0, .float .f64 0] (3 * k)) 50)) := (Below.refl _ _).alloc (Nat.le_refl _) _
  have H0 : Hold (w.alloc (.cells (madeCells #[.int .i64 0, .float .f64 0, .float .f64 0] (3 * k)) 50)) w.heap.size (madeCells #[.int .i64 0, .float .f64 0, .float .f64 0] (3 * k)) := hold_fresh _ _ _ rfl
  go_loopg [9] k (fun q x wr => ∃ c : Nat, c ≤ k ∧ q = k - c ∧ x = .int .i64 c ∧ Below w.heap.size w wr ∧ ∃ cs, Hold wr w.heap.size cs ∧ NodeRow k cs)
  case atStart => exact ⟨0, Nat.zero_le _, rfl, rfl, B0, _, H0, nodeRow_new k⟩
  case round =>
    clear B0 H0
    obtain ⟨c, hc, hq, rfl, bel, cs, H, hcs⟩ := hrel
    by_cases hlt : c < k
    · obtain ⟨x, hx, hy, hz⟩ := hcs c hlt
      have hx' := (H.cell _).trans hx
      have hft := H.frozen (c * 3)
      go_wp2
      go_roundg (k - (c + 1))
      case measure => omega
      case rel =>
        refine ⟨c + 1, by omega, rfl, by go_num, bel.setCell (Nat.le_refl _) _, cs.setIfInBounds (c * 3) _, H.set (c * 3) _ _ rfl, hcs.set c _⟩
    · have hN := hcs.nodes H
      have hlt1 := H.lt
      have hL : ∀ v : Value, ((wr.alloc (.cells (madeCells #[.slice none 0 0] k) 22)).alloc (.cells #[v] 56)).cell? ⟨wr.heap.size + 1, 0, none⟩ = some v := fun v => World.news_of_block (cs := #[v]) (new2 wr _ _) 0 v rfl
      have hN2 : ∀ v : Value, Nodes ((wr.alloc (.cells (madeCells #[.slice none 0 0] k) 22)).alloc (.cells #[v] 56)) w.heap.size k := fun v => hcs.nodes ((H.alloc _).alloc _)
      have hS2 : ∀ v : Value, ((wr.alloc (.cells (madeCells #[.slice none 0 0] k) 22)).alloc (.cells #[v] 56)).heap.size = wr.heap.size + 2 := fun v => by simp
      go_wp2_with (go_at_call 10; refine (hub_new _ k (wr.heap.size + 1) w.heap.size hk0 hk _ _ _ (hL _) (hN2 _) (by rw [hS2]; omega) (by rw [hS2]; omega)).mono ?_; rintro e w1 ⟨v, rfl, ⟨hb, ch, M, mb, pb, dq, aq, rfl, n0, Hh, HC, HP, o1, o2, o3, o4, o5, o6, o7⟩, bel1⟩; have c5 : w1.cell? ⟨hb, 5, none⟩ = some (.bool false) := (Hh.cell 5).trans HC.rec_; have c19 : w1.cell? ⟨hb, 19, none⟩ = some (.bool false) := (Hh.cell 19).trans HC.started; have f5 := Hh.frozen 5; have f19 := Hh.frozen 19)
      obtain ⟨N', hN', hNh, hne, hNp, hph, HP2, Hh2, hNW, belW, c17⟩ := hub_set bel H hcs bel1 n0 Hh HC HP ⟨o1, o2, o3, o4, o5, o6, o7⟩ t
      generalize ((w1.setCell ⟨hb, 5, none⟩ (.bool true)).setCell ⟨hb, 19, none⟩ (.bool t)) = W at *
      clear hN hL hN2 hS2 c5 c19 f5 f19 Hh HP H hcs bel1 n0 bel hlt1
      have F0 := Filled.start belW HP2.p
      go_loopg [12] k (fun q x wr => ∃ (c : Nat) (P : Nat → Nat), c ≤ k ∧ q = k - c ∧ x = .int .i64 c ∧ Filled w.heap.size w W pb k c P wr)
      case atStart => exact ⟨0, _, Nat.zero_le _, rfl, rfl, F0⟩
      case round =>
        clear F0
        obtain ⟨i, P, hi, hq2, rfl, F⟩ := hrel
        have hlh := Hh2.lt
        by_cases hlt2 : i < k
        · obtain ⟨csN, HN, hcsN⟩ := hNW
          obtain ⟨x, hx, _, _⟩ := hcsN i hlt2
          have hlN := HN.lt
          obtain ⟨ps, Hps, hps, hpp⟩ := F.row
          have hlp := Hps.lt
          have x17 : wr.cell? ⟨hb, 17, none⟩ = some (.slice (some ⟨pb, 0, none⟩) k k) := (World.cell?_of_block (F.block hb hlh (by omega))).trans c17
          have xN : wr.cell? ⟨w.heap.size, i * 3, none⟩ = some (.int .i64 x) := (World.cell?_of_block (F.block _ hlN hne)).trans ((HN.cell _).trans hx)
          have xp : wr.cell? ⟨pb, i, none⟩ = some ps[i] := (Hps.cell i).trans (by simp [hps, hlt2])
          have xf := Hps.frozen i
          have hsz := F.size
          have y1 : hb < wr.heap.size := by omega
          have y2 : w.heap.size < wr.heap.size := by omega
          go_wp2
          go_region
          go_wp2
          go_roundg (k - (i + 1))
          case measure => omega
          case rel => exact ⟨i + 1, _, by omega, rfl, by go_num, F.step x hlt2 hNp (by omega)⟩
        · have hik : k = i := by omega
          subst hik
          clear hNW c17 belW
          obtain ⟨C, eh, en, et, L0⟩ : ∃ C : Cst, C.hb = hb ∧ C.Nb = wr.heap.size ∧ C.started = t ∧ Lw w.heap.size w C k (wr.alloc (.cells (Array.replicate k (.int .u8 0)) 5)) 0 0 (List.replicate k 0) false (.slice none 0 0) (.slice none 0 0) [] := ⟨_, rfl, rfl, rfl, lw_start hk0 hk Hh2 HC HP2 ⟨o1, o2, o3, o4, o5, o6, o7⟩ F hN' (Nat.le_refl _) hNh⟩
          clear Hh2 HC HP2 F o1 o2 o3 o4 o5 o6 o7 hph hNh hNp hne
          go_wp2
          subst eh
          have HT : Hid (C.started = t) := et
          clear et
          rw [← en]
          generalize wr.alloc (.cells (Array.replicate k (.int .u8 0)) 5) = W0 at L0 ⊢
          clear hlh en
          go_loopg [14, 15, 16, 17, 83] len (fun q x14 x15 x16 x17 x83 wr => ∃ (cc cr lf : Nat) (st : List Int) (ended : Bool) (v vw : Value) (ws : List Nat), cc ≤ len ∧ q = len - cc ∧ x14 = .int .i64 cr ∧ x15 = .int .i64 lf ∧ vw = x16 ∧ x17 = .bool ended ∧ x83 = .int .i64 cc ∧ Lw w.heap.size w C k wr cr lf st ended v vw ws)
          case atStart => exact ⟨0, 0, 0, _, _, _, _, _, Nat.zero_le _, rfl, rfl, rfl, rfl, rfl, rfl, L0⟩
          case round =>
            clear L0
            obtain ⟨cc, cr, lf, st, ended, v, vw, ws, hcc, hq3, rfl, rfl, rfl, rfl, rfl, L⟩ := hrel
            by_cases hlt3 : cc < len
            · rcases hbs with hz | ⟨xb, xo, rfl, hxb, hcells⟩
              · omega
              obtain ⟨op, p0, hp0, hp1⟩ := hcells cc hlt3
              have q0 := (L.bel.cell (p := ⟨xb, xo + cc, none⟩) hxb).trans p0
              clear hcells p0
              obtain ⟨i, hi, hik⟩ : ∃ i : Nat, i < k ∧ op / 2 % (k : Int) = i := idx_of op hk0
              obtain ⟨full, I⟩ := L.is
              obtain ⟨cs, H, HI⟩ := I.hub
              have hkk := L.kk
              have hi' : i < C.M.k := by omega
              have hlv := L.live
              have Hln : Hid (ws.length = cr) := L.len
              have hwl : ws.length ≤ 8 := by have := L.len; omega
              have h16 : wr.cell? ⟨C.hb, 16, none⟩ = some (.pointer (some ⟨C.mb, 0, none⟩)) := (H.cell 16).trans HI.med
              have h17 : wr.cell? ⟨C.hb, 17, none⟩ = some (.slice (some ⟨C.pb, 0, none⟩) k k) := (H.cell 17).trans (by rw [HI.peers, hkk])
              have hp := (I.peers i hi').1
              have hx : wr.cell? ⟨C.Nb, i, none⟩ = some (.int .u8 (st.getD i 0)) := (L.s.cell i).trans (stu_at st i (by rw [L.length]; exact hi))
              have hfz := L.s.frozen i
              have Hkk : Hid (C.M.k = k) := hkk
              clear hkk
              by_cases s0 : st.getD i 0 = 0
              · have hlo := L.liveOne hi s0
                rw [s0] at hx
                cases hbt : (bits BinOp.and IntKind.u8 op 1 == 0) with
                | true =>
                  have hlv2 := leave_any (i := i) I.lies hi' (by omega)
                  go_wp2_with (go_at_call 11; refine hlv2.mono ?_; rintro e w1 ⟨rfl, hw1⟩; have H1 : Hid (mark wr C.mb C.M i 2 14 ((lf : Int) + 1) = w1) := hw1; have S1 : Hold w1 C.Nb (stu st) := (by rw [← hw1]; exact L.leaveS i 2 14 _); have y0 : w1.cell? ⟨C.Nb, i, none⟩ = some (.int .u8 0) := (by rw [S1.cell i, stu_at st i (by rw [L.length]; exact hi), s0]); have y1 := S1.frozen i; clear hw1)
                  go_roundg (len - (cc + 1))
                  case measure => omega
                  case rel =>
                    refine ⟨cc + 1, cr, lf + 1, st.set i 2, ended, v, vw, ws, by omega, rfl, rfl, by go_num, rfl, rfl, by go_num, ?_⟩
                    have LL := L.leave hi s0
                    rw [H1.out] at LL
                    exact LL
                | false =>
                  have he := L.notOver hi s0
                  subst he
                  have hcl := crash_live (i := i) I hi' s0 (by omega) (by omega) (by rw [Hkk.out]; omega) rfl
                  rw [Hkk.out, HT.out] at hcl
                  have hmax : ws.length + 1 ≤ maxLen := by unfold maxLen; omega
                  obtain ⟨i0, hi0, hz0, hz1, hz2⟩ := info3
                  cases t with
                  | false =>
                    go_wp2_with (first
                      | (go_at_call 12; refine hcl.mono ?_; rintro e w1 ⟨rfl, v', I1, F1, fresh⟩; have S1 := L.frS F1; have y0 : w1.cell? ⟨C.Nb, i, none⟩ = some (.int .u8 0) := (by rw [S1.cell i, stu_at st i (by rw [L.length]; exact hi), s0]); have y1 := S1.frozen i; have hown5 : ((w1.setCell ⟨C.Nb, i, none⟩ (.int .u8 1)).alloc (.cells #[.int .i64 i] 3)).ownsRow C.Nb 3 1 vw ws.length (wantRow ws) := L.crashOwn F1; have hnews : ∀ j u, [Value.int .i64 (i : Int)][j]? = some u → ((w1.setCell ⟨C.Nb, i, none⟩ (.int .u8 1)).alloc (.cells #[.int .i64 i] 3)).cell? ((⟨w1.heap.size, 0, none⟩ : Addr).add j) = some u := crash_news w1 C i; have hNal : C.Nb ≤ ((w1.setCell ⟨C.Nb, i, none⟩ (.int .u8 1)).alloc (.cells #[.int .i64 i] 3)).heap.size := (by have hl1 := S1.lt; have hl2 := crashW_size w1 C i; unfold crashW at hl2; omega))
                      | (at_builtin; refine wpList_append_lies _ rfl _ _ 22 rfl C.Nb 3 i0 (.int .i64 0) 1 8 Yba.underlying22 hi0 hz0 hz1 hz2 rfl (by decide) vw ws.length (wantRow ws) (by rfl) (by exact hown5) ⟨w1.heap.size, 0, none⟩ 1 1 [.int .i64 i] (by rfl) rfl hnews (by simp [Value.oneCell']) (by decide) hmax (by omega) hNal (w1.heap.size + 1) (by simp [World.setCell]) ?_; intro g1 cap1 w4 hown4 hgrow4 hat4 hlt4))
                    go_roundg (len - (cc + 1))
                    case measure => omega
                    case rel => exact ⟨cc + 1, cr + 1, lf, st.set i 1, (false && decide ((cr : Int) + 1 + lf = k)), v', _, ws ++ [i], by omega, rfl, by go_num, rfl, rfl, rfl, by go_num, L.crashed hi s0 (by rw [HT.out, Hkk.out]) I1 F1 fresh hown4 hgrow4 (crash_at hat4)⟩
                  | true =>
                    by_cases hE : (cr : Int) + 1 + lf = k
                    · have hE' : ((cr : Int) + 1 + lf == k) = true := by simp [hE]
                      have HE : Hid ((cr : Int) + 1 + lf = k) := hE
                      clear hE
                      go_wp2_with (first
                        | (go_at_call 12; refine hcl.mono ?_; rintro e w1 ⟨rfl, v', I1, F1, fresh⟩; have S1 := L.frS F1; have y0 : w1.cell? ⟨C.Nb, i, none⟩ = some (.int .u8 0) := (by rw [S1.cell i, stu_at st i (by rw [L.length]; exact hi), s0]); have y1 := S1.frozen i; have hown5 : ((w1.setCell ⟨C.Nb, i, none⟩ (.int .u8 1)).alloc (.cells #[.int .i64 i] 3)).ownsRow C.Nb 3 1 vw ws.length (wantRow ws) := L.crashOwn F1; have hnews : ∀ j u, [Value.int .i64 (i : Int)][j]? = some u → ((w1.setCell ⟨C.Nb, i, none⟩ (.int .u8 1)).alloc (.cells #[.int .i64 i] 3)).cell? ((⟨w1.heap.size, 0, none⟩ : Addr).add j) = some u := crash_news w1 C i; have hNal : C.Nb ≤ ((w1.setCell ⟨C.Nb, i, none⟩ (.int .u8 1)).alloc (.cells #[.int .i64 i] 3)).heap.size := (by have hl1 := S1.lt; have hl2 := crashW_size w1 C i; unfold crashW at hl2; omega))
                        | (at_builtin; refine wpList_append_lies _ rfl _ _ 22 rfl C.Nb 3 i0 (.int .i64 0) 1 8 Yba.underlying22 hi0 hz0 hz1 hz2 rfl (by decide) vw ws.length (wantRow ws) (by rfl) (by exact hown5) ⟨w1.heap.size, 0, none⟩ 1 1 [.int .i64 i] (by rfl) rfl hnews (by simp [Value.oneCell']) (by decide) hmax (by omega) hNal (w1.heap.size + 1) (by simp [World.setCell]) ?_; intro g1 cap1 w4 hown4 hgrow4 hat4 hlt4))
                      go_roundg (len - (cc + 1))
                      case measure => omega
                      case rel => exact ⟨cc + 1, cr + 1, lf, st.set i 1, (true && decide ((cr : Int) + 1 + lf = k)), v', _, ws ++ [i], by omega, rfl, by go_num, rfl, rfl, (by simp [HE.out]), by go_num, L.crashed hi s0 (by rw [HT.out, Hkk.out]) I1 F1 fresh hown4 hgrow4 (crash_at hat4)⟩
                    · have hE' : ((cr : Int) + 1 + lf == k) = false := by simp [hE]
                      have HE : Hid (¬ (cr : Int) + 1 + lf = k) := hE
                      clear hE
                      go_wp2_with (first
                        | (go_at_call 12; refine hcl.mono ?_; rintro e w1 ⟨rfl, v', I1, F1, fresh⟩; have S1 := L.frS F1; have y0 : w1.cell? ⟨C.Nb, i, none⟩ = some (.int .u8 0) := (by rw [S1.cell i, stu_at st i (by rw [L.length]; exact hi), s0]); have y1 := S1.frozen i; have hown5 : ((w1.setCell ⟨C.Nb, i, none⟩ (.int .u8 1)).alloc (.cells #[.int .i64 i] 3)).ownsRow C.Nb 3 1 vw ws.length (wantRow ws) := L.crashOwn F1; have hnews : ∀ j u, [Value.int .i64 (i : Int)][j]? = some u → ((w1.setCell ⟨C.Nb, i, none⟩ (.int .u8 1)).alloc (.cells #[.int .i64 i] 3)).cell? ((⟨w1.heap.size, 0, none⟩ : Addr).add j) = some u := crash_news w1 C i; have hNal : C.Nb ≤ ((w1.setCell ⟨C.Nb, i, none⟩ (.int .u8 1)).alloc (.cells #[.int .i64 i] 3)).heap.size := (by have hl1 := S1.lt; have hl2 := crashW_size w1 C i; unfold crashW at hl2; omega))
                        | (at_builtin; refine wpList_append_lies _ rfl _ _ 22 rfl C.Nb 3 i0 (.int .i64 0) 1 8 Yba.underlying22 hi0 hz0 hz1 hz2 rfl (by decide) vw ws.length (wantRow ws) (by rfl) (by exact hown5) ⟨w1.heap.size, 0, none⟩ 1 1 [.int .i64 i] (by rfl) rfl hnews (by simp [Value.oneCell']) (by decide) hmax (by omega) hNal (w1.heap.size + 1) (by simp [World.setCell]) ?_; intro g1 cap1 w4 hown4 hgrow4 hat4 hlt4))
                      go_roundg (len - (cc + 1))
                      case measure => omega
                      case rel => exact ⟨cc + 1, cr + 1, lf, st.set i 1, (true && decide ((cr : Int) + 1 + lf = k)), v', _, ws ++ [i], by omega, rfl, by go_num, rfl, rfl, (by simp [HE.out]), by go_num, L.crashed hi s0 (by rw [HT.out, Hkk.out]) I1 F1 fresh hown4 hgrow4 (crash_at hat4)⟩
              · obtain ⟨x, hxs, hx0⟩ : ∃ x, st.getD i 0 = x ∧ (x == 0) = false := ⟨_, rfl, by simpa using s0⟩
                rw [hxs] at hx
                have Hxs : Hid (st.getD i 0 = x) := hxs
                have hcd : Hid (st.getD i 0 = 1 ∨ st.getD i 0 = 2) := (L.code i).resolve_left s0
                clear hxs s0
                cases hbt : (bits BinOp.and IntKind.u8 op 1 == 0) with
                | true =>
                  go_wp2
                  go_roundg (len - (cc + 1))
                  case measure => omega
                  case rel => exact ⟨cc + 1, cr, lf, st, ended, v, vw, ws, by omega, rfl, rfl, rfl, rfl, rfl, by go_num, L⟩
                | false =>
                  have hcs := crash_still (i := i) I hi' hcd.out
                  go_wp2_with (go_at_call 12; refine hcs.mono ?_; rintro e w1 ⟨rfl, I1, F1⟩; have S1 := L.frS F1; have y0 : w1.cell? ⟨C.Nb, i, none⟩ = some (.int .u8 x) := (by rw [S1.cell i, stu_at st i (by rw [L.length]; exact hi), Hxs.out]))
                  go_roundg (len - (cc + 1))
                  case measure => omega
                  case rel => exact ⟨cc + 1, cr, lf, st, ended, v, vw, ws, by omega, rfl, rfl, rfl, rfl, rfl, by go_num, L.still I1 F1⟩
            · obtain ⟨full, I⟩ := L.is
              obtain ⟨cs, H, HI⟩ := I.hub
              have h16 : wr.cell? ⟨C.hb, 16, none⟩ = some (.pointer (some ⟨C.mb, 0, none⟩)) := (H.cell 16).trans HI.med
              have hct := counts_any I.lies.m
              clear hbs
              go_wp2_with (go_at_call 13; refine hct.mono ?_; rintro e w1 ⟨rfl, rfl⟩)
              have L4 := (L.grow ((Below.refl wr.heap.size wr).alloc (Nat.le_refl _) (.cells #[.int .i64 0, .int .i64 0, .int .i64 cr, .int .i64 lf, .int .i64 0] 101))).grow ((Below.refl _ _).alloc (Nat.le_refl _) (.cells #[.int .i64 0, .int .i64 0, .int .i64 cr, .int .i64 lf, .int .i64 0] 101))
              generalize (wr.alloc (.cells #[.int .i64 0, .int .i64 0, .int .i64 cr, .int .i64 lf, .int .i64 0] 101)).alloc (.cells #[.int .i64 0, .int .i64 0, .int .i64 cr, .int .i64 lf, .int .i64 0] 101) = W4 at L4 ⊢
              clear hct h16 H HI I L
              go_loopg [22] k (fun q x wr => ∃ c4 : Nat, c4 ≤ k ∧ q = k - c4 ∧ x = .int .i64 c4 ∧ Lw w.heap.size w C k wr cr lf st ended v vw ws)
              case atStart => exact ⟨0, Nat.zero_le _, rfl, rfl, L4⟩
              case round =>
                clear L4
                obtain ⟨i, hi, hq4, rfl, L⟩ := hrel
                obtain ⟨full, I⟩ := L.is
                obtain ⟨cs, H, HI⟩ := I.hub
                have h16 : wr.cell? ⟨C.hb, 16, none⟩ = some (.pointer (some ⟨C.mb, 0, none⟩)) := (H.cell 16).trans HI.med
                by_cases hlt4 : i < k
                · have hi' : i < C.M.k := by have := L.kk; omega
                  have hx : wr.cell? ⟨C.Nb, i, none⟩ = some (.int .u8 (st.getD i 0)) := (L.s.cell i).trans (stu_at st i (by rw [L.length]; exact hlt4))
                  have hcr : ∀ m, Calls Yba.prog 14 #[.pointer (some ⟨C.mb, 0, none⟩), .int .i64 i] (wr.drewN m) fun e w' => e = .returned (.bool (st.getD i 0 == 1)) ∧ w' = wr.drewN m := fun m => (crashed_any (w := wr.drewN m) I.lies.m I.lies.s I.lies.k hi').mono fun e w' ⟨a, b⟩ => ⟨a, b.symm⟩
                  have hlf : ∀ m, Calls Yba.prog 15 #[.pointer (some ⟨C.mb, 0, none⟩), .int .i64 i] (wr.drewN m) fun e w' => e = .returned (.bool (st.getD i 0 == 2)) ∧ w' = wr.drewN m := fun m => (left_any (w := wr.drewN m) I.lies.m I.lies.s I.lies.k hi').mono fun e w' ⟨a, b⟩ => ⟨a, b.symm⟩
                  rcases L.code i with e0 | e0 | e0
                  · rw [e0] at hx hcr hlf
                    clear e0
                    have b1 : ((0 : Int) == 1) = false := rfl
                    have b2 : ((0 : Int) == 2) = false := rfl
                    rw [b1] at hcr
                    rw [b2] at hlf
                    clear b1 b2
                    go_wp2
                    go_quiet (first
                      | (go_at_call 14; exact Calls.quiet_of_same (hcr _))
                      | (go_at_call 15; exact Calls.quiet_of_same (hlf _)))
                    go_wp2
                    go_roundg (k - (i + 1))
                    case measure => omega
                    case rel => exact ⟨i + 1, by omega, rfl, by go_num, L.grow ⟨rfl, rfl, rfl, Nat.le_refl _, fun _ _ => rfl⟩⟩
                  · rw [e0] at hx hcr hlf
                    clear e0
                    have b1 : ((1 : Int) == 1) = true := rfl
                    have b2 : ((1 : Int) == 2) = false := rfl
                    rw [b1] at hcr
                    rw [b2] at hlf
                    clear b1 b2
                    go_wp2
                    go_quiet (first
                      | (go_at_call 14; exact Calls.quiet_of_same (hcr _))
                      | (go_at_call 15; exact Calls.quiet_of_same (hlf _)))
                    go_wp2
                    go_roundg (k - (i + 1))
                    case measure => omega
                    case rel => exact ⟨i + 1, by omega, rfl, by go_num, L.grow ⟨rfl, rfl, rfl, Nat.le_refl _, fun _ _ => rfl⟩⟩
                  · rw [e0] at hx hcr hlf
                    clear e0
                    have b1 : ((2 : Int) == 1) = false := rfl
                    have b2 : ((2 : Int) == 2) = true := rfl
                    rw [b1] at hcr
                    rw [b2] at hlf
                    clear b1 b2
                    go_wp2
                    go_quiet (first
                      | (go_at_call 14; exact Calls.quiet_of_same (hcr _))
                      | (go_at_call 15; exact Calls.quiet_of_same (hlf _)))
                    go_wp2
                    go_roundg (k - (i + 1))
                    case measure => omega
                    case rel => exact ⟨i + 1, by omega, rfl, by go_num, L.grow ⟨rfl, rfl, rfl, Nat.le_refl _, fun _ _ => rfl⟩⟩
                · obtain ⟨av, cv, rfl⟩ := own_form I.own
                  obtain ⟨aw, cw, rfl⟩ := own_form L.want
                  have h18 : wr.cell? ⟨C.hb, 18, none⟩ = some (.int .i64 0) := (H.cell 18).trans HI.joined
                  have h19 : wr.cell? ⟨C.hb, 19, none⟩ = some (.bool t) := (H.cell 19).trans (by rw [HI.started, HT.out])
                  have h20 : wr.cell? ⟨C.hb, 20, none⟩ = some (.bool ended) := (H.cell 20).trans HI.ended
                  have h22 : wr.cell? ⟨C.hb, 22, none⟩ = some (.slice av ws.length cv) := (H.cell 22).trans HI.ent
                  go_wp2
                  have L5 := L
                  clear h16 h18 h19 h20 h22 H HI I
                  go_loopg [23] ws.length (fun q x wr => ∃ j : Nat, j ≤ ws.length ∧ q = ws.length - j ∧ x = .int .i64 j ∧ Lw w.heap.size w C k wr cr lf st ended (.slice av ws.length cv) (.slice aw ws.length cw) ws)
                  case atStart => exact ⟨0, Nat.zero_le _, rfl, rfl, L5⟩
                  case round =>
                    clear L5 L
                    obtain ⟨j, hj, hq5, rfl, L⟩ := hrel
                    have hwl : ws.length ≤ 8 := by have := L.len; have := L.live; omega
                    by_cases hlt5 : j < ws.length
                    · obtain ⟨full, I⟩ := L.is
                      obtain ⟨cs, H, HI⟩ := I.hub
                      obtain ⟨g, rfl, hgc, hgl, hgat⟩ := own_at I.own (by omega)
                      obtain ⟨gw, rfl, hgwc, hgwl, hgwat⟩ := own_at L.want (by omega)
                      have h22 : wr.cell? ⟨C.hb, 22, none⟩ = some (.slice (some ⟨g, 0, none⟩) ws.length cv) := (H.cell 22).trans HI.ent
                      have zw : wr.cell? ⟨gw, j, none⟩ = some (.int .i64 (ws.getD j 0 : Nat)) := hgwat j _ (wantRow_at ws j hlt5)
                      have z0 : wr.cell? ⟨g, j * 6, none⟩ = some (.string ⟨#[99, 114, 97, 115, 104]⟩) := hgat _ _ (recRow_at ws j 0 hlt5 (by decide))
                      have z1 : wr.cell? ⟨g, j * 6 + 1, none⟩ = some (.int .i64 (ws.getD j 0 : Nat)) := hgat _ _ (recRow_at ws j 1 hlt5 (by decide))
                      have z2 : wr.cell? ⟨g, j * 6 + 2, none⟩ = some (.int .i64 0) := hgat _ _ (recRow_at ws j 2 hlt5 (by decide))
                      have z3 : wr.cell? ⟨g, j * 6 + 3, none⟩ = some (.int .i8 0) := hgat _ _ (recRow_at ws j 3 hlt5 (by decide))
                      have z4 : wr.cell? ⟨g, j * 6 + 4, none⟩ = some (.bool false) := hgat _ _ (recRow_at ws j 4 hlt5 (by decide))
                      have z5 : wr.cell? ⟨g, j * 6 + 5, none⟩ = some (.slice none 0 0) := hgat _ _ (recRow_at ws j 5 hlt5 (by decide))
                      generalize ws.getD j 0 = x at zw z1
                      clear hgat hgwat H HI I
                      go_wp2
                      go_quiet (fail)
                      go_wp2
                      go_roundg (ws.length - (j + 1))
                      case measure => omega
                      case rel => exact ⟨j + 1, by omega, rfl, by go_num, (L.grow ((Below.refl _ _).alloc (Nat.le_refl _) _)).grow ⟨rfl, rfl, rfl, Nat.le_refl _, fun _ _ => rfl⟩⟩
                    · go_wp2
                      go_ret
                      exact ⟨rfl, L.bel⟩
end Go.Proofs.Ybulkddig
