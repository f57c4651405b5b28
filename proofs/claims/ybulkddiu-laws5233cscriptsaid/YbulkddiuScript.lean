/-
  THE WALK of LawS5233CScript.
-/
import Derived.Test.YbulkddiuAt
import Derived.Deep.CutBlock
import Derived.Deep.DeepCutAuto
namespace Go.Proofs.Ybulkddiu
open Go.RowKit

def St.zero : St := ⟨false, 0, false, false, 0, false, 0, false, false, false⟩

/-- The bytes that came in: each of the first len lies in a block that was there, and is a byte. -/
def Bytes (w : World) (a : Option Addr) (len : Nat) : Prop :=
  len = 0 ∨ ∃ b o, a = some ⟨b, o, none⟩ ∧ b < w.heap.size ∧ ∀ i, i < len → ∃ n : Int, w.cell? ⟨b, o + i, none⟩ = some (.int .u8 n) ∧ 0 ≤ n ∧ n ≤ 255

/-- Both blocks hold the state s. -/
def Both (N : Nat) (w wr : World) (c : Nat) (s : St) : Prop := At wr N s ∧ At wr (N + 1) s ∧ 0 ≤ s.sp ∧ s.sp ≤ c ∧ Below N w wr

theorem textF_sp (s : St) : (textF s).sp = s.sp := by
  unfold textF; split
  · rfl
  · split <;> rfl

theorem both_next {N c : Nat} {w wr w1 : World} {s s' : St} (h : Both N w wr c s) (k k' : Nat) (h0 : 0 ≤ s'.sp) (h1 : s'.sp ≤ c + 1)
    (e : ((((wr.setRow N s'.cells).drewN k).setRow (N + 1) s'.cells).drewN k') = w1) : Both N w w1 (c + 1) s' := by
  obtain ⟨B1, B2, _, _, bel⟩ := h
  subst e
  refine ⟨(B1.row s' k).other (by omega) _ _, (B2.other (by omega) s'.cells k).row s' k', h0, by omega, ?_⟩
  exact row_below (row_below bel (Nat.le_refl _) _ _) (Nat.le_succ _) _ _

set_option linter.unusedSimpArgs false in
set_option maxHeartbeats 4000000 in
theorem script_walk (ad : Option Addr) (len cap : Nat) (w : World) (hlen : len ≤ 1024) (hbs : Bytes w ad len) :
    Calls Yba.prog 4 #[.slice ad len cap] w fun e w' => e = .returned (.bool true) ∧ Below w.heap.size w w' := by
  go_enter Yba.func4, Yba.ntmps4
  go_wp2
  have A := at_new w St.zero 27
  have A1 := A.alloc (.cells St.zero.cells 23)
  have A2 := at_new (w.alloc (.cells St.zero.cells 27)) St.zero 23
  have hs2 : (w.alloc (.cells St.zero.cells 27)).heap.size = w.heap.size + 1 := by simp
  rw [hs2] at A2
  have bel : Below w.heap.size w ((w.alloc (.cells St.zero.cells 27)).alloc (.cells St.zero.cells 23)) := ((Below.refl _ _).alloc (Nat.le_refl _) _).alloc (by simp) _
  clear hs2 A
  obtain ⟨N, hN⟩ : ∃ N, N = w.heap.size := ⟨_, rfl⟩
  rw [← hN] at A1 A2 bel ⊢
  have HN : Hid (N = w.heap.size) := hN
  clear hN
  go_loopg [13] len (fun q i wr => ∃ (c : Nat) (s : St), c ≤ len ∧ q = len - c ∧ i = .int .i64 c ∧ Both N w wr c s)
  case atStart => exact ⟨0, St.zero, Nat.zero_le _, rfl, rfl, A1, A2, by decide, by decide, bel⟩
  case round =>
    clear A1 A2 bel
    obtain ⟨c, s, hc, hq, rfl, HB⟩ := hrel
    by_cases hlt : c < len
    · rcases hbs with hz | ⟨xb, xo, rfl, hxb, hcells⟩
      · omega
      obtain ⟨n, p0, hn0, hn1⟩ := hcells c hlt
      have q0 := (HB.2.2.2.2.cell (p := ⟨xb, xo + c, none⟩) (by rw [HN.out]; exact hxb)).trans p0
      clear hcells p0
      go_upto_block 2 with fail
      go_cut [13] (fun i wx => i = .int .i64 c ∧ ∃ s', Both N w wx (c + 1) s')
      case first =>
        have B1 := HB.1
        have B2 := HB.2.1
        have hp0 := HB.2.2.1
        have hp1 := HB.2.2.2.1
        obtain ⟨i, sp, la, fs, fn, rs, rn, tb, ae, sa⟩ := s
        have x0 := B1.cell 0
        have x1 := B1.cell 1
        have x2 := B1.cell 2
        have x3 := B1.cell 3
        have x4 := B1.cell 4
        have x5 := B1.cell 5
        have x6 := B1.cell 6
        have x7 := B1.cell 7
        have x8 := B1.cell 8
        have x9 := B1.cell 9
        simp [St.cells] at x0 x1 x2 x3 x4 x5 x6 x7 x8 x9
        rcases (show n % 5 = 0 ∨ n % 5 = 1 ∨ n % 5 = 2 ∨ n % 5 = 3 ∨ n % 5 = 4 by omega) with h5 | h5 | h5 | h5 | h5
        · have b0 : (n % 5 == 0) = true := by simp [h5]
          clear h5
          cases ae
          · go_wp2_with (go_at_call 7; refine (space_any _ _ _ B1 hp0 (by show sp ≤ 1000000; omega)).mono ?_; rintro e w1 ⟨rfl, hw1⟩; have H1 : Hid (wr.setRow N (spaceF ⟨i, sp, la, fs, fn, rs, rn, tb, false, sa⟩).cells = w1) := hw1; have B3 : At w1 (N + 1) ⟨i, sp, la, fs, fn, rs, rn, tb, false, sa⟩ := (by rw [← hw1]; exact B2.other (by omega) _ 0); have e1 : w1.cell? ⟨N + 1, 1, none⟩ = some (.int .i64 sp) := B3.cell 1; have e8 : w1.cell? ⟨N + 1, 8, none⟩ = some (.bool false) := B3.cell 8; have g1 := B3.frozen 1; clear hw1)
            go_meet
            case rel =>
              refine ⟨rfl, spaceF ⟨i, sp, la, fs, fn, rs, rn, tb, false, sa⟩, ?_⟩
              refine both_next HB 0 0 (show 0 ≤ sp + 1 by omega) (show sp + 1 ≤ c + 1 by omega) ?_
              rw [B3.as_row, ← H1.out]
              simp [spaceF, St.cells, World.drewN_zero]
          · go_wp2_with (go_at_call 7; refine (space_any _ _ _ B1 hp0 (by show sp ≤ 1000000; omega)).mono ?_; rintro e w1 ⟨rfl, hw1⟩; have H1 : Hid (wr.setRow N (spaceF ⟨i, sp, la, fs, fn, rs, rn, tb, true, sa⟩).cells = w1) := hw1; have B3 : At w1 (N + 1) ⟨i, sp, la, fs, fn, rs, rn, tb, true, sa⟩ := (by rw [← hw1]; exact B2.other (by omega) _ 0); have e1 : w1.cell? ⟨N + 1, 1, none⟩ = some (.int .i64 sp) := B3.cell 1; have e8 : w1.cell? ⟨N + 1, 8, none⟩ = some (.bool true) := B3.cell 8; have e9 : w1.cell? ⟨N + 1, 9, none⟩ = some (.bool sa) := B3.cell 9; have g1 := B3.frozen 1; have g8 := B3.frozen 8; have g9 := B3.frozen 9; clear hw1)
            go_meet
            case rel =>
              refine ⟨rfl, spaceF ⟨i, sp, la, fs, fn, rs, rn, tb, true, sa⟩, ?_⟩
              refine both_next HB 0 0 (show 0 ≤ sp + 1 by omega) (show sp + 1 ≤ c + 1 by omega) ?_
              rw [B3.as_row, B3.row_set, B3.row_set, ← H1.out]
              simp [spaceF, St.cells, World.drewN_zero]
        · have b0 : (n % 5 == 0) = false := by simp [h5]
          have b1 : (n % 5 == 1) = true := by simp [h5]
          clear h5
          go_wp2_with (go_at_call 8; refine (newline_any _ _ _ B1).mono ?_; rintro e w1 ⟨rfl, hw1⟩; have H1 : Hid (wr.setRow N (newF ⟨i, sp, la, fs, fn, rs, rn, tb, ae, sa⟩).cells = w1) := hw1; have B3 : At w1 (N + 1) ⟨i, sp, la, fs, fn, rs, rn, tb, ae, sa⟩ := (by rw [← hw1]; exact B2.other (by omega) _ 0); have e0 : w1.cell? ⟨N + 1, 0, none⟩ = some (.bool i) := B3.cell 0; have e1 : w1.cell? ⟨N + 1, 1, none⟩ = some (.int .i64 sp) := B3.cell 1; have e2 : w1.cell? ⟨N + 1, 2, none⟩ = some (.bool la) := B3.cell 2; have e8 : w1.cell? ⟨N + 1, 8, none⟩ = some (.bool ae) := B3.cell 8; have g0 := B3.frozen 0; have g1 := B3.frozen 1; have g2 := B3.frozen 2; have g8 := B3.frozen 8; clear hw1)
          go_meet
          case rel =>
            refine ⟨rfl, newF ⟨i, sp, la, fs, fn, rs, rn, tb, ae, sa⟩, ?_⟩
            refine both_next HB 0 0 (show (0 : Int) ≤ 0 by omega) (show (0 : Int) ≤ c + 1 by omega) ?_
            rw [B3.as_row, B3.row_set, B3.row_set, B3.row_set, ← H1.out]
            simp [newF, St.cells, World.drewN_zero]
        · have b0 : (n % 5 == 0) = false := by simp [h5]
          have b1 : (n % 5 == 1) = false := by simp [h5]
          have b2 : (n % 5 == 2) = true := by simp [h5]
          clear h5
          cases i
          · go_wp2_with (first
              | (go_at_call 9; refine (tab_any _ _ _ B1).mono ?_; rintro e w1 ⟨rfl, k, hw1⟩; have H1 : Hid ((wr.setRow N (tabF ⟨false, sp, la, fs, fn, rs, rn, tb, ae, sa⟩).cells).drewN k = w1) := hw1; have B3 : At w1 (N + 1) ⟨false, sp, la, fs, fn, rs, rn, tb, ae, sa⟩ := (by rw [← hw1]; exact B2.other (by omega) _ _); have e0 : w1.cell? ⟨N + 1, 0, none⟩ = some (.bool false) := B3.cell 0; have e7 : w1.cell? ⟨N + 1, 7, none⟩ = some (.bool tb) := B3.cell 7; have g7 := B3.frozen 7; clear hw1)
              | (go_at_call 10; refine (zztext_any _ _ _ (B3.set 7 (.bool true) ⟨false, sp, la, fs, fn, rs, rn, true, ae, sa⟩ rfl)).mono ?_; rintro e w2 ⟨rfl, k2, hw2⟩; have H2 : Hid (w2 = ((w1.setCell ⟨N + 1, 7, none⟩ (.bool true)).setRow (N + 1) (textF ⟨false, sp, la, fs, fn, rs, rn, true, ae, sa⟩).cells).drewN k2) := hw2; clear hw2))
            go_meet
            case rel =>
              refine ⟨rfl, tabF ⟨false, sp, la, fs, fn, rs, rn, tb, ae, sa⟩, ?_⟩
              refine both_next HB k k2 (by unfold tabF; rw [textF_sp]; exact hp0) (by unfold tabF; rw [textF_sp]; show sp ≤ c + 1; omega) ?_
              rw [H2.out, B3.set_row, ← H1.out]
              simp [tabF]
          · go_wp2_with (first
              | (go_at_call 9; refine (tab_any _ _ _ B1).mono ?_; rintro e w1 ⟨rfl, k, hw1⟩; have H1 : Hid ((wr.setRow N (tabF ⟨true, sp, la, fs, fn, rs, rn, tb, ae, sa⟩).cells).drewN k = w1) := hw1; have B3 : At w1 (N + 1) ⟨true, sp, la, fs, fn, rs, rn, tb, ae, sa⟩ := (by rw [← hw1]; exact B2.other (by omega) _ _); have e0 : w1.cell? ⟨N + 1, 0, none⟩ = some (.bool true) := B3.cell 0; clear hw1)
              | (go_at_call 10; refine (zztext_any _ _ _ B3).mono ?_; rintro e w2 ⟨rfl, k2, hw2⟩; have H2 : Hid (w2 = (w1.setRow (N + 1) (textF ⟨true, sp, la, fs, fn, rs, rn, tb, ae, sa⟩).cells).drewN k2) := hw2; clear hw2))
            go_meet
            case rel =>
              refine ⟨rfl, tabF ⟨true, sp, la, fs, fn, rs, rn, tb, ae, sa⟩, ?_⟩
              refine both_next HB k k2 (by unfold tabF; rw [textF_sp]; exact hp0) (by unfold tabF; rw [textF_sp]; show sp ≤ c + 1; omega) ?_
              rw [H2.out, ← H1.out]
              simp [tabF]
        · have b0 : (n % 5 == 0) = false := by simp [h5]
          have b1 : (n % 5 == 1) = false := by simp [h5]
          have b2 : (n % 5 == 2) = false := by simp [h5]
          have b3 : (n % 5 == 3) = true := by simp [h5]
          clear h5
          go_wp2_with (first
            | (go_at_call 11; refine (text_any _ _ _ B1).mono ?_; rintro e w1 ⟨rfl, k, hw1⟩; have H1 : Hid (w1 = (wr.setRow N (textF ⟨i, sp, la, fs, fn, rs, rn, tb, ae, sa⟩).cells).drewN k) := hw1; have B3 : At w1 (N + 1) ⟨i, sp, la, fs, fn, rs, rn, tb, ae, sa⟩ := (by rw [hw1]; exact B2.other (by omega) _ _); clear hw1)
            | (go_at_call 10; refine (zztext_any _ _ _ B3).mono ?_; rintro e w2 ⟨rfl, k2, hw2⟩; have H2 : Hid (w2 = (w1.setRow (N + 1) (textF ⟨i, sp, la, fs, fn, rs, rn, tb, ae, sa⟩).cells).drewN k2) := hw2; clear hw2))
          go_meet
          case rel => exact ⟨rfl, textF ⟨i, sp, la, fs, fn, rs, rn, tb, ae, sa⟩, both_next HB k k2 (by rw [textF_sp]; exact hp0) (by rw [textF_sp]; show sp ≤ c + 1; omega) (by rw [H2.out, H1.out])⟩
        · have b0 : (n % 5 == 0) = false := by simp [h5]
          have b1 : (n % 5 == 1) = false := by simp [h5]
          have b2 : (n % 5 == 2) = false := by simp [h5]
          have b3 : (n % 5 == 3) = false := by simp [h5]
          clear h5
          have esc : ∀ v : Int, (escF ⟨i, sp, la, fs, fn, rs, rn, tb, ae, sa⟩ v).sp = sp := fun v => by unfold escF; exact textF_sp _
          rcases (show n / 5 % 4 = 0 ∨ n / 5 % 4 = 1 ∨ n / 5 % 4 = 2 ∨ n / 5 % 4 = 3 by omega) with h4 | h4 | h4 | h4
          · go_wp2_with (first
              | (go_at_call 6; refine (escape_any _ _ _ 32 B1).mono ?_; rintro e w1 ⟨rfl, k, hw1⟩; have H1 : Hid ((wr.setRow N (escF ⟨i, sp, la, fs, fn, rs, rn, tb, ae, sa⟩ 32).cells).drewN k = w1) := hw1; have B3 : At w1 (N + 1) ⟨i, sp, la, fs, fn, rs, rn, tb, ae, sa⟩ := (by rw [← hw1]; exact B2.other (by omega) _ _); clear hw1)
              | (go_at_call 12; refine (zzescape_any _ _ _ 32 B3).mono ?_; rintro e w2 ⟨rfl, k2, hw2⟩; have H2 : Hid ((w1.setRow (N + 1) (escF ⟨i, sp, la, fs, fn, rs, rn, tb, ae, sa⟩ 32).cells).drewN k2 = w2) := hw2; clear hw2))
            go_meet
            case rel => exact ⟨rfl, escF ⟨i, sp, la, fs, fn, rs, rn, tb, ae, sa⟩ 32, both_next HB k k2 (by rw [esc]; exact hp0) (by rw [esc]; show sp ≤ c + 1; omega) (by rw [← H2.out, ← H1.out])⟩
          · go_wp2_with (first
              | (go_at_call 6; refine (escape_any _ _ _ 10 B1).mono ?_; rintro e w1 ⟨rfl, k, hw1⟩; have H1 : Hid ((wr.setRow N (escF ⟨i, sp, la, fs, fn, rs, rn, tb, ae, sa⟩ 10).cells).drewN k = w1) := hw1; have B3 : At w1 (N + 1) ⟨i, sp, la, fs, fn, rs, rn, tb, ae, sa⟩ := (by rw [← hw1]; exact B2.other (by omega) _ _); clear hw1)
              | (go_at_call 12; refine (zzescape_any _ _ _ 10 B3).mono ?_; rintro e w2 ⟨rfl, k2, hw2⟩; have H2 : Hid ((w1.setRow (N + 1) (escF ⟨i, sp, la, fs, fn, rs, rn, tb, ae, sa⟩ 10).cells).drewN k2 = w2) := hw2; clear hw2))
            go_meet
            case rel => exact ⟨rfl, escF ⟨i, sp, la, fs, fn, rs, rn, tb, ae, sa⟩ 10, both_next HB k k2 (by rw [esc]; exact hp0) (by rw [esc]; show sp ≤ c + 1; omega) (by rw [← H2.out, ← H1.out])⟩
          · go_wp2_with (first
              | (go_at_call 6; refine (escape_any _ _ _ 120 B1).mono ?_; rintro e w1 ⟨rfl, k, hw1⟩; have H1 : Hid ((wr.setRow N (escF ⟨i, sp, la, fs, fn, rs, rn, tb, ae, sa⟩ 120).cells).drewN k = w1) := hw1; have B3 : At w1 (N + 1) ⟨i, sp, la, fs, fn, rs, rn, tb, ae, sa⟩ := (by rw [← hw1]; exact B2.other (by omega) _ _); clear hw1)
              | (go_at_call 12; refine (zzescape_any _ _ _ 120 B3).mono ?_; rintro e w2 ⟨rfl, k2, hw2⟩; have H2 : Hid ((w1.setRow (N + 1) (escF ⟨i, sp, la, fs, fn, rs, rn, tb, ae, sa⟩ 120).cells).drewN k2 = w2) := hw2; clear hw2))
            go_meet
            case rel => exact ⟨rfl, escF ⟨i, sp, la, fs, fn, rs, rn, tb, ae, sa⟩ 120, both_next HB k k2 (by rw [esc]; exact hp0) (by rw [esc]; show sp ≤ c + 1; omega) (by rw [← H2.out, ← H1.out])⟩
          · go_wp2_with (first
              | (go_at_call 6; refine (escape_any _ _ _ 39 B1).mono ?_; rintro e w1 ⟨rfl, k, hw1⟩; have H1 : Hid ((wr.setRow N (escF ⟨i, sp, la, fs, fn, rs, rn, tb, ae, sa⟩ 39).cells).drewN k = w1) := hw1; have B3 : At w1 (N + 1) ⟨i, sp, la, fs, fn, rs, rn, tb, ae, sa⟩ := (by rw [← hw1]; exact B2.other (by omega) _ _); clear hw1)
              | (go_at_call 12; refine (zzescape_any _ _ _ 39 B3).mono ?_; rintro e w2 ⟨rfl, k2, hw2⟩; have H2 : Hid ((w1.setRow (N + 1) (escF ⟨i, sp, la, fs, fn, rs, rn, tb, ae, sa⟩ 39).cells).drewN k2 = w2) := hw2; clear hw2))
            go_meet
            case rel => exact ⟨rfl, escF ⟨i, sp, la, fs, fn, rs, rn, tb, ae, sa⟩ 39, both_next HB k k2 (by rw [esc]; exact hp0) (by rw [esc]; show sp ≤ c + 1; omega) (by rw [← H2.out, ← H1.out])⟩
      case rest =>
        clear HB q0
        obtain ⟨rfl, s1, B1, B2, hp0, hp1, bel2⟩ := hcut
        have HF : Hid (0 ≤ s1.sp ∧ s1.sp ≤ (c + 1 : Nat)) := ⟨hp0, hp1⟩
        clear hp0 hp1
        obtain ⟨i, sp, la, fs, fn, rs, rn, tb, ae, sa⟩ := s1
        have p0 := B1.cell 0
        have p1 := B1.cell 1
        have p2 := B1.cell 2
        have p3 := B1.cell 3
        have p4 := B1.cell 4
        have p5 := B1.cell 5
        have p6 := B1.cell 6
        have p7 := B1.cell 7
        have p8 := B1.cell 8
        have p9 := B1.cell 9
        have q0 := B2.cell 0
        have q1 := B2.cell 1
        have q2 := B2.cell 2
        have q3 := B2.cell 3
        have q4 := B2.cell 4
        have q5 := B2.cell 5
        have q6 := B2.cell 6
        have q7 := B2.cell 7
        have q8 := B2.cell 8
        have q9 := B2.cell 9
        simp [St.cells] at p0 p1 p2 p3 p4 p5 p6 p7 p8 p9 q0 q1 q2 q3 q4 q5 q6 q7 q8 q9
        have heq := neq_same ⟨i, sp, la, fs, fn, rs, rn, tb, ae, sa⟩
        unfold St.cells at heq
        have hb2 := fun W => build_any W ⟨i, sp, la, fs, fn, rs, rn, tb, ae, sa⟩
        unfold St.cells at hb2
        have B1' : At wc.drew N ⟨i, sp, la, fs, fn, rs, rn, tb, ae, sa⟩ := B1
        have B2' : At wc.drew (N + 1) ⟨i, sp, la, fs, fn, rs, rn, tb, ae, sa⟩ := B2
        go_wp2
        go_region_with (go_at_call 5; refine (hb2 _).mono ?_; rintro e w3 ⟨rfl, bel3⟩; have P1 := B1'.below bel3 B1'.lt; have P2 := B2'.below bel3 B2'.lt; have r0 := P1.cell 0; have r1 := P1.cell 1; have r2 := P1.cell 2; have r3 := P1.cell 3; have r4 := P1.cell 4; have r5 := P1.cell 5; have r6 := P1.cell 6; have r7 := P1.cell 7; have r8 := P1.cell 8; have r9 := P1.cell 9; simp [St.cells] at r0 r1 r2 r3 r4 r5 r6 r7 r8 r9)
        all_goals
          go_wp2
          go_roundg (len - (c + 1))
          case measure => omega
          case rel => exact ⟨c + 1, ⟨i, sp, la, fs, fn, rs, rn, tb, ae, sa⟩, by omega, rfl, by go_num, P1, P2, HF.out.1, HF.out.2, bel2.drew.trans (bel3.mono (by rw [HN.out]; exact bel2.size))⟩
    · have bel := HB.2.2.2.2
      go_wp2
      go_ret
      exact ⟨rfl, by rw [← HN.out]; exact bel⟩
end Go.Proofs.Ybulkddiu
