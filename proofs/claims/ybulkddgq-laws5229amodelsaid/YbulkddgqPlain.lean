/-
  THE PLAIN PART OF Add: what becomes of the list of items, the most recently used first. No Go in sight.
-/
namespace Go.Proofs.Ybulkddgq

/-- An item's key, value and size. -/
structure Ent where
  k : Int
  v : Int
  s : Int

def tot (m : List Ent) : Int := (m.map (fun e => e.s)).sum
theorem tot_nil : tot [] = 0 := rfl
theorem tot_cons (e : Ent) (m : List Ent) : tot (e :: m) = e.s + tot m := by simp [tot]
theorem tot_append (a b : List Ent) : tot (a ++ b) = tot a + tot b := by simp [tot, List.sum_append]

/-- From the least recently used on: dropped till what is left fits. -/
def trimR (room : Int) : List Ent → List Ent
  | [] => []
  | x :: r => if room < tot (x :: r) then trimR room r else x :: r
def trim (room : Int) (m : List Ent) : List Ent := (trimR room m.reverse).reverse

theorem tot_reverse (m : List Ent) : tot m.reverse = tot m := by
  induction m with
  | nil => rfl
  | cons e m ih => rw [List.reverse_cons, tot_append, ih, tot_cons, tot_cons, tot_nil]; omega

theorem trim_fits {room : Int} {m : List Ent} (h : ¬ room < tot m) : trim room m = m := by
  unfold trim
  cases e : m.reverse with
  | nil => rw [List.reverse_eq_nil_iff.1 e]; rfl
  | cons x r =>
    have : ¬ room < tot (x :: r) := by rw [← e, tot_reverse]; exact h
    rw [trimR, if_neg this, ← e, List.reverse_reverse]

theorem trim_drop {room : Int} {m : List Ent} {x : Ent} (h : room < tot (m ++ [x])) : trim room (m ++ [x]) = trim room m := by
  unfold trim
  rw [List.reverse_append]
  have h' : room < tot (x :: m.reverse) := by rw [tot_cons, tot_reverse]; rw [tot_append, tot_cons, tot_nil] at h; omega
  rw [show [x].reverse ++ m.reverse = x :: m.reverse from rfl, trimR, if_pos h']

def strike (k : Int) (m : List Ent) : List Ent := m.filter (fun e => !(e.k == k))

theorem strike_none {k : Int} {m : List Ent} (h : k ∉ m.map (fun e => e.k)) : strike k m = m := by
  unfold strike
  refine List.filter_eq_self.2 fun e he => ?_
  have : e.k ≠ k := fun c => h (c ▸ List.mem_map_of_mem (f := fun e : Ent => e.k) he)
  simp [this]

theorem strike_one {a b : List Ent} {e : Ent} (h : ((a ++ e :: b).map (fun e => e.k)).Nodup) : strike e.k (a ++ e :: b) = a ++ b := by
  rw [List.map_append, List.map_cons] at h
  obtain ⟨_, h2, h3⟩ := List.nodup_append.1 h
  have ha : e.k ∉ a.map (fun e => e.k) := fun c => h3 _ c e.k (by simp) rfl
  have hb := (List.nodup_cons.1 h2).1
  unfold strike
  rw [List.filter_append, List.filter_cons_of_neg (by simp)]
  have e1 := strike_none ha
  have e2 := strike_none hb
  unfold strike at e1 e2
  rw [e1, e2]

/-- Add, on the list. -/
def addM (bud : Int) (m : List Ent) (k v s : Int) : List Ent :=
  if bud < s then strike k m else ⟨k, v, s⟩ :: trim (bud - s) (strike k m)
end Go.Proofs.Ybulkddgq
