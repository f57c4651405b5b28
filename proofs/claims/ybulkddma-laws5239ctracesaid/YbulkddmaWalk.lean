/-
  LawS5239CTrace: the walk.
-/
import Derived.Test.YbulkddmaPay
import Derived.Test.YbulkddmaReceived
import Derived.Deep.DeepCutAuto
import Derived.BigQuiet
import Derived.Deep.QuietTactic
import Derived.OwnWalk
import Derived.Laws.EntriesVeiled
namespace Go.Proofs.Ybulkddma
open Go.RowKit

theorem after_on {w wc V w2 w3 : World} {N n : Nat} {c0 c1 c2 c3 c4 ca : Array Value} {pa ad : Option Addr} {len : Nat} {o : Obj} (hn : wc.heap.size = n) (hN : N < n) (belV : Below n wc V)
    (Y0 : Hold w2 (n + 1) c0) (Y1 : Hold w2 (n + 1 + 1) c1) (Y2 : Hold w2 (n + 1 + 2) c2) (Y3 : Hold w2 (n + 1 + 3) c3) (Y4 : Hold w2 (n + 1 + 4) c4)
    (belY : Below (n + 1) V w2) (A1 : Hold wc N ca) (pay : Pay wc pa ad len) (bel : Below N w wc) (hw3 : w2.alloc o = w3) :
    Hold w3 (n + 1) c0 ∧ Hold w3 (n + 1 + 1) c1 ∧ Hold w3 (n + 1 + 1 + 1) c2 ∧ Hold w3 (n + 1 + 1 + 1 + 1) c3 ∧ Hold w3 (n + 1 + 1 + 1 + 1 + 1) c4 ∧ Hold w3 N ca ∧ Pay w3 pa ad len ∧ Below N w w3 := by
  subst hw3
  have b2 : Below n wc w2 := belV.trans (belY.mono (by omega))
  have b3 : Below n wc (w2.alloc o) := b2.alloc (by have := b2.size; omega) o
  exact ⟨Y0.alloc _, Y1.alloc _, Y2.alloc _, Y3.alloc _, Y4.alloc _, A1.below b3 hN, pay.below b3 (by omega) (by have := b3.size; omega), bel.trans (b3.mono (by omega))⟩

set_option linter.unusedSimpArgs false in
set_option linter.unusedVariables false in
set_option maxRecDepth 100000 in
set_option maxHeartbeats 4000000 in
theorem trace_walk (m : Msg) (s : ByteArray) (on : Bool) (w : World) (hlen : m.pl ≤ 65536) (hb : Bytes w m.pa m.pl) (hn : m.pa = none → m.pl = 0 ∧ m.pc = 0) :
    Calls Yba.prog 3 #[.agg m.cells, .string s, .bool on] w fun e w' => e = .returned (.bool true) ∧ Below w.heap.size w w' := by
  obtain ⟨ka, id, ix, bg, ln, pt, xi, ad, len, cap⟩ := m
  have qn : ∀ (w : World) (a : Option Addr) (n c n' c' : Nat), (binOp .neq 24 (.slice a n c) (.slice none n' c')).run Yba.prog w = .ok (.bool (!a.isNone)) w := fun w a n c n' c' => run_neq_slice_nil_any w _ _ a n c n' c' Yba.underlying24
  have qe : ∀ (w : World) (a : Option Addr) (n c n' c' : Nat), (binOp .eql 24 (.slice a n c) (.slice none n' c')).run Yba.prog w = .ok (.bool a.isNone) w := fun w a n c n' c' => Lib.run_eql_slice_nil w _ _ a n c n' c' Yba.underlying24
  have hmf : ∀ (fn : Fn) (first cap : Array Value) (w : World), (Instr.makeFunc fn first cap).run Yba.prog w = .ok (.func fn first cap) w := fun _ _ _ _ => rfl
  have hta : ∀ w : World, (Instr.typeAssert (.iface 32 (.agg #[.string s])) 36 32 true).run Yba.prog w = .ok (.tuple #[.agg #[.string s], .bool true]) w := fun _ => by kernel_rfl
  have hl : len ≤ 65536 := hlen
  have hmk := fun w => make_bytes w len hl
  have A0 := hold_new w (Msg.cells ⟨ka, id, ix, bg, ln, pt, xi, ad, len, cap⟩) 26
  have c0 := A0.cell 0
  have c1 := A0.cell 1
  have c2 := A0.cell 2
  have c3 := A0.cell 3
  have c4 := A0.cell 4
  have c5 := A0.cell 5
  have c6 := A0.cell 6
  have c7 := A0.cell 7
  simp [Msg.cells] at c0 c1 c2 c3 c4 c5 c6 c7
  unfold Msg.cells
  go_enter Yba.func3, Yba.ntmps3
  go_upto_if 24 with fail
  go_cut [7] (fun p wx => ∃ (pa : Option Addr) (pc : Nat), p = .slice pa len pc ∧ pa.isNone = ad.isNone ∧ Hold wx w.heap.size (Msg.cells ⟨ka, id, ix, bg, ln, pt, xi, ad, len, cap⟩) ∧ Pay wx pa ad len ∧ Below w.heap.size w wx)
  case first =>
    cases ad with
    | none =>
      obtain ⟨h1, h2⟩ := hn rfl
      have h1' : len = 0 := h1
      have h2' : cap = 0 := h2
      subst h1' h2'
      go_wp2
      go_meet
      case rel => exact ⟨none, 0, rfl, rfl, A0, .inl rfl, (Below.refl _ _).alloc (Nat.le_refl _) _⟩
    | some a =>
      obtain ⟨wq, hcp, belq, payq, szq⟩ := copy_bytes (w.alloc (.cells (Msg.cells ⟨ka, id, ix, bg, ln, pt, xi, some a, len, cap⟩) 26)) (some a) len cap (by
        rcases hb with h | ⟨b, o, e, l, hc⟩
        · exact .inl h
        · exact .inr ⟨b, o, e, by simp; omega, fun i hi => by obtain ⟨n, h⟩ := hc i hi; exact ⟨n, (((Below.refl _ _).alloc (Nat.le_refl _) _ : Below w.heap.size w _).cell (p := ⟨b, o + i, none⟩) l).trans h⟩⟩) (by simp)
      have hcp' := hcp
      simp [Msg.cells] at hcp'
      go_wp2_with (at_builtin; refine Lib.wpList_copy_run _ rfl _ _ 24 24 rfl _ _ rfl rfl hcp' ?_)
      go_meet
      case rel =>
        refine ⟨some ⟨w.heap.size + 1, 0, none⟩, len, rfl, rfl, A0.below belq (by simp), ?_, ((Below.refl _ _).alloc (Nat.le_refl _) _).trans (belq.mono (by simp))⟩
        rw [size_alloc] at payq
        exact payq
  case rest =>
    clear hmk A0 hb hn c0 c1 c2 c3 c4 c5 c6 c7
    obtain ⟨pa, pc, rfl, hpn, A1, pay, bel⟩ := hcut
    have hNl := A1.lt
    obtain ⟨N, hN⟩ : ∃ N, N = w.heap.size := ⟨_, rfl⟩
    rw [← hN] at A1 hNl bel ⊢
    have HN : Hid (N = w.heap.size) := hN
    clear hN
    obtain ⟨n, hn⟩ : ∃ n, wc.heap.size = n := ⟨_, rfl⟩
    have d0 := A1.cell 0
    have d1 := A1.cell 1
    have d2 := A1.cell 2
    have d3 := A1.cell 3
    have d4 := A1.cell 4
    have d5 := A1.cell 5
    have d6 := A1.cell 6
    have d7 := A1.cell 7
    simp [Msg.cells] at d0 d1 d2 d3 d4 d5 d6 d7
    cases on
    · have S := seven wc (Msg.cells ⟨ka, id, ix, bg, ln, pt, xi, pa, len, pc⟩) #[.string s, .int .i64 0, .int .i64 0] #[.int .i64 0] #[.nilIface] #[.bool false] Msg.zero.cells (wire (n + 1) .nilFunc) 29 34 3 36 4 29 50 hn rfl
      have HS : Hid (wc.heap.size = n) := hn
      rw [hn] at hNl
      go_wp2_with (first
        | (go_at_call 5; refine (received_off _ (n + 1) ⟨ka, id, ix, bg, ln, pt, xi, pa, len, pc⟩ S.2.2.2.2.2.1).mono ?_; rintro e w2 ⟨rfl, hw2⟩; have Y0 : Hold w2 (n + 1) #[.string s, .int .i64 0, .int .i64 0] := (by rw [← hw2]; exact S.1.alloc _); have Y1 : Hold w2 (n + 1 + 1) #[.int .i64 0] := (by rw [← hw2]; exact S.2.1.alloc _); have Y5 : Hold w2 (n + 1 + 5) (wire (n + 1) .nilFunc) := (by rw [← hw2]; exact S.2.2.2.2.2.1.alloc _); have b2 : Below N w w2 := (by rw [← hw2]; exact (bel.trans (S.2.2.2.2.2.2.1.mono (by omega))).alloc (by have := S.2.2.2.2.2.2.2; omega) _); have e2 : w2.cell? ⟨n + 1, 2, none⟩ = some (.int .i64 0) := Y0.cell 2; have e3 : w2.cell? ⟨n + 1 + 1 + 1 + 1 + 1 + 1, 3, none⟩ = some (.int .u64 0) := Y5.cell 3; have e4 : w2.cell? ⟨n + 1 + 1 + 1 + 1 + 1 + 1, 4, none⟩ = some (.int .i64 0) := Y5.cell 4; have e5 : w2.cell? ⟨n + 1 + 1 + 1 + 1 + 1 + 1, 5, none⟩ = some (.pointer none) := Y5.cell 5; clear hw2)
        | (go_at_call 6; refine (zero_any w2).mono ?_; rintro e w3 ⟨rfl, hw3⟩; have Z0 : Hold w3 (n + 1) #[.string s, .int .i64 0, .int .i64 0] := (by rw [← hw3]; exact Y0.alloc _); have Z1 : Hold w3 (n + 1 + 1) #[.int .i64 0] := (by rw [← hw3]; exact Y1.alloc _); have b3 : Below N w w3 := (by rw [← hw3]; exact b2.alloc (by have := Y0.lt; omega) _); have g1 : w3.cell? ⟨n + 1, 1, none⟩ = some (.int .i64 0) := Z0.cell 1; have g2 : w3.cell? ⟨n + 1 + 1, 0, none⟩ = some (.int .i64 0) := Z1.cell 0; clear hw3))
      go_ret
      exact ⟨rfl, by rw [← HN.out]; exact b3⟩
    · have S := seven wc (Msg.cells ⟨ka, id, ix, bg, ln, pt, xi, pa, len, pc⟩) #[.string s, .int .i64 0, .int .i64 0] #[.int .i64 0] #[.nilIface] #[.bool false] Msg.zero.cells (wire (n + 1) (.func (.func 4) #[] #[.pointer (some ⟨n + 1 + 1, 0, none⟩), .pointer (some ⟨n + 1 + 2, 0, none⟩), .pointer (some ⟨n + 1 + 3, 0, none⟩), .pointer (some ⟨n + 1 + 4, 0, none⟩)])) 29 34 3 36 4 29 50 hn rfl
      have HS : Hid (wc.heap.size = n) := hn
      rw [hn] at hNl
      go_wp2_with (first
        | (go_at_call 5; refine (received_on _ (n + 1) s ⟨ka, id, ix, bg, ln, pt, xi, pa, len, pc⟩ S.1 S.2.1 S.2.2.1 S.2.2.2.1 S.2.2.2.2.1 S.2.2.2.2.2.1).mono ?_; rintro e w2 ⟨rfl, Y0, Y1, Y2, Y3, Y4, Y5, belY⟩; have e2 : w2.cell? ⟨n + 1, 2, none⟩ = some (.int .i64 0) := Y0.cell 2; have e3 : w2.cell? ⟨n + 1 + 1 + 1 + 1 + 1 + 1, 3, none⟩ = some (.int .u64 0) := Y5.cell 3; have e4 : w2.cell? ⟨n + 1 + 1 + 1 + 1 + 1 + 1, 4, none⟩ = some (.int .i64 0) := Y5.cell 4; have e5 : w2.cell? ⟨n + 1 + 1 + 1 + 1 + 1 + 1, 5, none⟩ = some (.pointer none) := Y5.cell 5)
        | (go_at_call 6; refine (zero_any w2).mono ?_; rintro e w3 ⟨rfl, hw3⟩; obtain ⟨Z1, Z2, Z3, Z4, Z5, ZA, payZ, belZ⟩ := after_on hn hNl S.2.2.2.2.2.2.1 Y0 Y1 Y2 Y3 Y4 belY A1 pay bel hw3; have l1 := Z1.lt; have l2 := Z2.lt; have l3 := Z3.lt; have l4 := Z4.lt; have l5 := Z5.lt; have lA := ZA.lt; have g1 : w3.cell? ⟨n + 1, 1, none⟩ = some (.int .i64 1) := Z1.cell 1; have g2 : w3.cell? ⟨n + 1 + 1, 0, none⟩ = some (.int .i64 1) := Z2.cell 0; have g3 : w3.cell? ⟨n + 1 + 1 + 1, 0, none⟩ = some (.iface 32 (.agg #[.string s])) := Z3.cell 0; have g4 : w3.cell? ⟨n + 1 + 1 + 1 + 1, 0, none⟩ = some (.bool false) := Z4.cell 0; have k0 : w3.cell? ⟨n + 1 + 1 + 1 + 1 + 1, 0, none⟩ = some (.bool ka) := Z5.cell 0; have k1 : w3.cell? ⟨n + 1 + 1 + 1 + 1 + 1, 1, none⟩ = some (.int .u8 id) := Z5.cell 1; have k2 : w3.cell? ⟨n + 1 + 1 + 1 + 1 + 1, 2, none⟩ = some (.int .u32 ix) := Z5.cell 2; have k3 : w3.cell? ⟨n + 1 + 1 + 1 + 1 + 1, 3, none⟩ = some (.int .u32 bg) := Z5.cell 3; have k4 : w3.cell? ⟨n + 1 + 1 + 1 + 1 + 1, 4, none⟩ = some (.int .u32 ln) := Z5.cell 4; have k5 : w3.cell? ⟨n + 1 + 1 + 1 + 1 + 1, 5, none⟩ = some (.int .u16 pt) := Z5.cell 5; have k6 : w3.cell? ⟨n + 1 + 1 + 1 + 1 + 1, 6, none⟩ = some (.int .u8 xi) := Z5.cell 6; have k7 : w3.cell? ⟨n + 1 + 1 + 1 + 1 + 1, 7, none⟩ = some (.slice pa len pc) := Z5.cell 7;  have a0 : w3.cell? ⟨N, 0, none⟩ = some (.bool ka) := ZA.cell 0; have a1 : w3.cell? ⟨N, 1, none⟩ = some (.int .u8 id) := ZA.cell 1; have a2 : w3.cell? ⟨N, 2, none⟩ = some (.int .u32 ix) := ZA.cell 2; have a3 : w3.cell? ⟨N, 3, none⟩ = some (.int .u32 bg) := ZA.cell 3; have a4 : w3.cell? ⟨N, 4, none⟩ = some (.int .u32 ln) := ZA.cell 4; have a5 : w3.cell? ⟨N, 5, none⟩ = some (.int .u16 pt) := ZA.cell 5; have a6 : w3.cell? ⟨N, 6, none⟩ = some (.int .u8 xi) := ZA.cell 6; have a7 : w3.cell? ⟨N, 7, none⟩ = some (.slice ad len cap) := ZA.cell 7; clear hw3))
      go_loopg [17] len (fun q i wx => ∃ c : Nat, c ≤ len ∧ q = len - c ∧ i = .int .i64 c ∧ Hold wx (n + 1 + 1 + 1 + 1 + 1) (Msg.cells ⟨ka, id, ix, bg, ln, pt, xi, pa, len, pc⟩) ∧ Hold wx N (Msg.cells ⟨ka, id, ix, bg, ln, pt, xi, ad, len, cap⟩) ∧ Pay wx pa ad len ∧ Below N w wx)
      case atStart =>
        have bz : Below w3.heap.size w3 (w3.alloc (.cells #[.string s] 32)) := (Below.refl _ _).alloc (Nat.le_refl _) _
        exact ⟨0, Nat.zero_le _, rfl, rfl, Z5.alloc _, ZA.alloc _, payZ.below bz (Nat.le_refl _) bz.size, belZ.alloc (by omega) _⟩
      case round =>
        obtain ⟨c, hc, hq, rfl, R1, R2, pr, br⟩ := hrel
        have k7' : wr.cell? ⟨n + 1 + 1 + 1 + 1 + 1, 7, none⟩ = some (.slice pa len pc) := R1.cell 7
        have a7' : wr.cell? ⟨N, 7, none⟩ = some (.slice ad len cap) := R2.cell 7
        by_cases hlt : c < len
        · rcases (show Pay wr pa ad len from pr) with h0 | ⟨b, o, b', o', rfl, rfl, lb, lb', hcs⟩
          · omega
          obtain ⟨v, hv, hv'⟩ := hcs c hlt
          go_wp2
          go_quiet (fail)
          go_wp2
          go_roundg (len - (c + 1))
          case measure => omega
          case rel => exact ⟨c + 1, by omega, rfl, by go_num, R1, R2, pr, br.trans ⟨rfl, rfl, rfl, Nat.le_refl _, fun _ _ => rfl⟩⟩
        · go_wp2
          go_ret
          exact ⟨rfl, by rw [← HN.out]; exact br⟩
end Go.Proofs.Ybulkddma
