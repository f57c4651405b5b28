/-
  THE PLAIN LAW OF LawS5229AEvict: on the list of items every answer is as the law says, for each of its 136 cases. No Go in sight.
-/
import Derived.Test.YbulkddgqApi
namespace Go.Proofs.Ybulkddgq

def fillTo : Nat → List Ent
  | 0 => []
  | i + 1 => ⟨i, i + 100, 1⟩ :: fillTo i

theorem fill_keys : ∀ (i : Nat) (k : Int), k ∈ (fillTo i).map (fun e => e.k) → 0 ≤ k ∧ k < i
  | 0, k, h => by simp [fillTo] at h
  | i + 1, k, h => by
    simp only [fillTo, List.map_cons, List.mem_cons] at h
    rcases h with h | h
    · omega
    · have := fill_keys i k h; omega

theorem fill_tot : ∀ i : Nat, tot (fillTo i) = i
  | 0 => rfl
  | i + 1 => by
    have h := fill_tot i
    rw [fillTo, tot_cons, h]; simp only; omega

theorem fill_len : ∀ i : Nat, (fillTo i).length = i
  | 0 => rfl
  | i + 1 => by rw [fillTo, List.length_cons, fill_len i]

theorem fill_add {i n : Nat} (h : i < n) : addM n (fillTo i) i (i + 100) 1 = fillTo (i + 1) := by
  have h1 : strike i (fillTo i) = fillTo i := strike_none (fun c => by have := fill_keys i i c; omega)
  rw [addM, if_neg (by omega), h1, trim_fits (by rw [fill_tot]; omega), fillTo]

def mildB (m : List Ent) : Bool := decide (m.length ≤ 2000) && m.all (fun e => decide (0 ≤ e.s) && decide (e.s ≤ 100) && (Lit.int .i64 e.k).wf)
theorem mild_of {m : List Ent} (h : mildB m = true) : Mild m := by
  simp only [mildB, Bool.and_eq_true, decide_eq_true_eq, List.all_eq_true] at h
  exact ⟨h.1, fun e he => ⟨(h.2 e he).1.1, (h.2 e he).1.2, (h.2 e he).2⟩⟩

def evK (n j : Nat) : Int := if j = 0 ∧ 1 < n then 1 else 0
def ev1 (n j : Nat) : List Ent := touch j (fillTo n)
def ev2 (n j : Nat) : List Ent := addM n (ev1 n j) n (n + 100) 1
def ev3 (n j : Nat) : List Ent := touch (evK n j) (ev2 n j)
def ev4 (n j : Nat) : List Ent := touch n (ev3 n j)
def ev5 (n j : Nat) : List Ent := touch j (ev4 n j)

def evOk (n j : Nat) : Bool :=
  mildB (fillTo n) && mildB (ev1 n j) && hasK j (fillTo n) && decide (valOf j (fillTo n) = j + 100) && !hasK (evK n j) (ev2 n j) && hasK n (ev3 n j) && decide (valOf n (ev3 n j) = n + 100)
    && (decide (n ≤ 1) || (hasK j (ev4 n j) && decide (valOf j (ev4 n j) = j + 100))) && decide ((ev4 n j).length = n) && decide ((ev5 n j).length = n)

theorem ev_all : ∀ n, n < 17 → ∀ j, j < n → evOk n j = true := by decide +kernel

theorem ev_facts {n j : Nat} (hn : n < 17) (hj : j < n) : Mild (fillTo n) ∧ Mild (ev1 n j) ∧ hasK j (fillTo n) = true ∧ valOf j (fillTo n) = j + 100 ∧ hasK (evK n j) (ev2 n j) = false ∧ hasK n (ev3 n j) = true ∧ valOf n (ev3 n j) = n + 100
    ∧ (1 < n → hasK j (ev4 n j) = true ∧ valOf j (ev4 n j) = j + 100) ∧ (ev4 n j).length = n ∧ (ev5 n j).length = n := by
  have h := ev_all n hn j hj
  simp only [evOk, Bool.and_eq_true, Bool.or_eq_true, decide_eq_true_eq, Bool.not_eq_true'] at h
  obtain ⟨⟨⟨⟨⟨⟨⟨⟨⟨h1, h2⟩, h3⟩, h4⟩, h5⟩, h6⟩, h7⟩, h8⟩, h9⟩, h10⟩ := h
  exact ⟨mild_of h1, mild_of h2, h3, h4, h5, h6, h7, fun h => h8.resolve_left (by omega), h9, h10⟩

theorem fill_mild {n : Nat} (hn : n < 17) : Mild (fillTo n) := by
  cases n with
  | zero => exact ⟨by simp [fillTo], by simp [fillTo]⟩
  | succ n => exact (ev_facts hn (Nat.zero_lt_succ n)).1
end Go.Proofs.Ybulkddgq
