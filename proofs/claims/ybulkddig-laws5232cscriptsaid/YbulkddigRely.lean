/-
  LawS5232CScript: a region that draws its order, by what each operation has yielded (in place of a branch for each order).
-/
import Derived.Deep.RegionHeld3
import Derived.Below
namespace Go.Proofs.Ybulkddig
open Go.RowKit

/-- Each of these operations, numbered on from n, is as T says. -/
def AllL (T : Nat → Oper → Prop) : Nat → List Oper → Prop
  | _, [] => True
  | n, o :: os => T n o ∧ AllL T (n + 1) os
theorem AllL.nil {T : Nat → Oper → Prop} {n : Nat} : AllL T n [] := trivial
theorem AllL.cons {T : Nat → Oper → Prop} {n : Nat} {o : Oper} {os : List Oper} (h : T n o) (hs : AllL T (n + 1) os) : AllL T n (o :: os) := ⟨h, hs⟩
theorem AllL.at {T : Nat → Oper → Prop} : ∀ {os : List Oper} {n : Nat}, AllL T n os → ∀ i o, os[i]? = some o → T (n + i) o
  | [], _, _, _, _, h => by simp at h
  | _ :: _, _, h, 0, _, e => by simp at e; subst e; exact h.1
  | _ :: _, n, h, i + 1, o, e => by
    have := AllL.at h.2 i o (by simpa using e)
    rwa [show n + (i + 1) = n + 1 + i by omega]

section
variable {P : Program} {ops : Array Oper} {Q : Exit → Act → World → Prop}

theorem wpAny_inv (I : Array Bool → Act → World → Prop)
    (hstep : ∀ l a w i, I l a w → i ∈ Region.ready .any ops l → wpOp P ops Q i (fun a' w' => I (l.setIfInBounds i true) a' w') a w)
    (hend : ∀ l a w, I l a w → Region.ready .any ops l = [] → Q .normal a w) :
    ∀ fuel l a w, I l a w → l.toList.count false ≤ fuel → wpAny P .any ops Q fuel l a w := by
  have hat : ∀ (l : Array Bool) i, l.getD i true = false → ∃ h : i < l.toList.length, l.toList[i] = false := by
    intro l i h
    by_cases hi : i < l.size
    · exact ⟨by simpa using hi, by simpa [Array.getD, hi] using h⟩
    · simp [Array.getD, hi] at h
  intro fuel
  induction fuel with
  | zero =>
    intro l a w hI hc
    have hr : Region.ready .any ops l = [] := by
      rw [List.eq_nil_iff_forall_not_mem]
      intro j hj
      obtain ⟨h1, h2⟩ := hat l j (mem_ready.1 hj).1
      have : 0 < l.toList.count false := List.count_pos_iff.2 (h2 ▸ List.getElem_mem h1)
      omega
    exact ⟨hr, hend _ _ _ hI hr⟩
  | succ fuel ih =>
    intro l a w hI hc
    refine ⟨fun h => hend _ _ _ hI h, fun i hi => wpOp_mono (fun a' w' h' => ih _ a' w' h' ?_) (hstep l a w i hI hi)⟩
    obtain ⟨h1, h2⟩ := hat l i (mem_ready.1 hi).1
    have : 0 < l.toList.count false := List.count_pos_iff.2 (h2 ▸ List.getElem_mem h1)
    rw [Array.toList_setIfInBounds, List.count_set h1, h2]
    have e1 : ((false == false) = true) := rfl
    have e2 : ¬ ((true == false) = true) := by decide
    rw [if_pos e1, if_neg e2]
    omega

/-- Every operation waits for earlier ones alone. -/
def down (ops : Array Oper) : Bool := (List.range ops.size).all fun i => ((ops[i]?).map (·.after.all fun e => decide (e.on < i))).getD true

theorem all_listed (hd : down ops = true) {l : Array Bool} (hs : l.size = ops.size) (hr : Region.ready .any ops l = []) : ∀ n i, i < n → i < ops.size → l.getD i false = true := by
  intro n
  induction n with
  | zero => intro i h; omega
  | succ n ih =>
    intro i hi hs'
    by_cases hx : l.getD i false = true
    · exact hx
    · exfalso
      have hm : i ∈ Region.ready .any ops l := by
        refine mem_ready.2 ⟨by simp [Array.getD, hs, hs'] at hx ⊢; exact hx, ops[i], Array.getElem?_eq_getElem hs', fun e he _ => ?_⟩
        unfold down at hd
        rw [List.all_eq_true] at hd
        have h1 := hd i (List.mem_range.2 hs')
        rw [Array.getElem?_eq_getElem hs'] at h1
        simp only [Option.map_some, Option.getD_some] at h1
        have h2 := Array.all_eq_true_iff_forall_mem.1 h1 e he
        have h3 : e.on < i := of_decide_eq_true h2
        exact ih e.on (by omega) (by omega)
      rw [hr] at hm
      cases hm

def upd (f : Nat → Value) (i : Nat) (v : Value) (j : Nat) : Value := if j = i then v else f j
theorem upd_self (f : Nat → Value) (i : Nat) (v : Value) : upd f i v i = v := by simp [upd]
theorem upd_ne (f : Nat → Value) {i j : Nat} (v : Value) (h : j ≠ i) : upd f i v j = f j := by simp [upd, h]

end

/-- Operation number i of the region, from any world that meets S, those ahead of it having yielded what R says. -/
def Steps (P : Program) (os : List Oper) (Q : Exit → Act → World → Prop) (mk : (Nat → Value) → Act) (R : Nat → Value → World → Prop) (S : World → Prop) (i : Nat) (o : Oper) : Prop :=
  ∀ f u, S u → (∀ e ∈ o.after, Region.binds .any e = true → R e.on (f e.on) u) →
    ∀ K : Act → World → Prop, Shut (∀ v u' a', S u' → Below u.heap.size u u' → R i v u' → a' = mk (upd f i v) → K a' u') →
      if Region.wanted o (yielded os.toArray (mk f).tmps) = true then Oper.wp P o (mk f) u K Q else K ((mk f).put o.dst undef) u

theorem wp_region_rely {P : Program} {os : List Oper} {Q : Exit → Act → World → Prop} {id : Nat} {a : Act} {w : World} (hm : P.follows .mixedOrders = true) (hd : down os.toArray = true)
    (mk : (Nat → Value) → Act) (f0 : Nat → Value) (ha : a = mk f0) (R : Nat → Value → World → Prop) (S : World → Prop) (hS : S w.drew)
    (hmono : ∀ j v u u', Below u.heap.size u u' → R j v u → R j v u')
    (hstep : AllL (Steps P os Q mk R S) 0 os)
    (hend : ∀ f u, S u → (∀ i, i < os.length → R i (f i) u) → Q .normal (mk f) u) : (Code.region id os.toArray true).wp P Q a w := by
  refine wp_region_any hm ?_
  subst ha
  refine wpAny_inv (fun l a u => l.size = os.toArray.size ∧ ∃ f, a = mk f ∧ S u ∧ ∀ i, l.getD i false = true → R i (f i) u) ?_ ?_ _ _ _ _ ⟨by simp, f0, rfl, hS, fun i h => ?_⟩ ?_
  · rintro l a u i ⟨hl, f, rfl, hSu, hR⟩ hi
    obtain ⟨h1, o, ho, hpre⟩ := mem_ready.1 hi
    have hil : i < l.size := by have := (Array.getElem?_eq_some_iff.1 ho).1; omega
    refine wpOp_step ho (fun K hK => ?_)
    have ho' : os[i]? = some o := by simpa using ho
    have T := AllL.at hstep i o ho'
    rw [Nat.zero_add] at T
    refine T f u hSu (fun e he hb => hR _ (hpre e he hb)) K ?_
    intro v u' a' hS' hb hRv ha'
    subst ha'
    refine hK _ _ ⟨by simpa using hl, upd f i v, rfl, hS', fun j hj => ?_⟩
    by_cases hji : j = i
    · subst hji; rw [upd_self]; exact hRv
    · rw [upd_ne f v hji]
      refine hmono j _ u u' hb (hR j ?_)
      rwa [getD_set_ne false (Ne.symm hji)] at hj
  · rintro l a u ⟨hl, f, rfl, hSu, hR⟩ hr
    exact hend f u hSu (fun i hi => hR i (all_listed hd hl hr (i + 1) i (by omega) (by simpa using hi)))
  · simp [Array.getD] at h
  · simp
end Go.Proofs.Ybulkddig
