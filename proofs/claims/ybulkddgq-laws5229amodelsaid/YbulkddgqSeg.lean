/-
  THE PLAIN PART: a doubly linked ring as a list of numbers: what taking one out and putting one in front does to it. No Go in sight.
-/
namespace Go.Proofs.Ybulkddgq

/-- From a over l to z: every step is linked forward by nx and backward by pv. -/
def Seg (nx pv : Nat → Nat → Prop) : Nat → List Nat → Nat → Prop
  | a, [], z => nx a z ∧ pv z a
  | a, x :: l, z => nx a x ∧ pv x a ∧ Seg nx pv x l z

theorem seg_congr {nx pv nx' pv' : Nat → Nat → Prop} {z : Nat} : ∀ (l : List Nat) (a : Nat), (∀ u v, u ∈ a :: l → nx u v → nx' u v) → (∀ u v, u ∈ l ++ [z] → pv u v → pv' u v) → Seg nx pv a l z → Seg nx' pv' a l z
  | [], a, h1, h2, hs => ⟨h1 a z (by simp) hs.1, h2 z a (by simp) hs.2⟩
  | x :: l, a, h1, h2, hs => ⟨h1 a x (by simp) hs.1, h2 x a (by simp) hs.2.1, seg_congr l x (fun u v hu => h1 u v (List.mem_cons_of_mem _ hu)) (fun u v hu => h2 u v (List.mem_cons_of_mem _ hu)) hs.2.2⟩

theorem seg_split {nx pv : Nat → Nat → Prop} {x z : Nat} {r : List Nat} : ∀ (l : List Nat) (a : Nat), Seg nx pv a (l ++ x :: r) z → Seg nx pv a l x ∧ Seg nx pv x r z
  | [], _, hs => ⟨⟨hs.1, hs.2.1⟩, hs.2.2⟩
  | y :: l, _, hs => by
    have h := seg_split l y hs.2.2
    exact ⟨⟨hs.1, hs.2.1, h.1⟩, h.2⟩

theorem seg_unlink {nx pv : Nat → Nat → Prop} {x z : Nat} {l2 : List Nat} : ∀ (l1 : List Nat) (a : Nat), Seg nx pv a (l1 ++ x :: l2) z →
    ∃ p n, p ∈ a :: l1 ∧ n ∈ l2 ++ [z] ∧ nx p x ∧ pv x p ∧ nx x n ∧ pv n x ∧
      ∀ nx' pv' : Nat → Nat → Prop, nx' p n → pv' n p → (∀ u v, u ∈ a :: (l1 ++ l2) → u ≠ p → nx u v → nx' u v) → (∀ u v, u ∈ l1 ++ l2 ++ [z] → u ≠ n → pv u v → pv' u v) →
        (a :: (l1 ++ l2)).Nodup → (l1 ++ l2 ++ [z]).Nodup → Seg nx' pv' a (l1 ++ l2) z
  | [], a, hs => by
    obtain ⟨h1, h2, h3⟩ := hs
    cases l2 with
    | nil => exact ⟨a, z, by simp, by simp, h1, h2, h3.1, h3.2, fun nx' pv' g1 g2 _ _ _ _ => ⟨g1, g2⟩⟩
    | cons y l =>
      refine ⟨a, y, by simp, by simp, h1, h2, h3.1, h3.2.1, fun nx' pv' g1 g2 g3 g4 nd1 nd2 => ⟨g1, g2, ?_⟩⟩
      refine seg_congr l y (fun u v hu => g3 u v (by simp at hu ⊢; exact .inr hu) ?_) (fun u v hu => g4 u v (by simp at hu ⊢; exact .inr hu) ?_) h3.2.2
      · rintro rfl; simp at nd1 hu; exact nd1.1 |> fun h => by rcases hu with hu | hu <;> simp_all
      · rintro rfl; simp at nd2 hu; rcases hu with hu | hu <;> simp_all
  | b :: l1, a, hs => by
    obtain ⟨h1, h2, h3⟩ := hs
    obtain ⟨p, n, hp, hn, e1, e2, e3, e4, hall⟩ := seg_unlink l1 b h3
    refine ⟨p, n, List.mem_cons_of_mem _ hp, hn, e1, e2, e3, e4, fun nx' pv' g1 g2 g3 g4 nd1 nd2 => ⟨?_, ?_, ?_⟩⟩
    · refine g3 a b (by simp) ?_ h1
      rintro rfl
      simp at nd1 hp
      rcases hp with hp | hp <;> simp_all
    · refine g4 b a (by simp) ?_ h2
      rintro rfl
      simp at nd2 hn
      rcases hn with hn | hn <;> simp_all
    · exact hall nx' pv' g1 g2 (fun u v hu => g3 u v (List.mem_cons_of_mem _ hu)) (fun u v hu => g4 u v (List.mem_cons_of_mem _ hu)) (by simp at nd1 ⊢; exact nd1.2) (by simp at nd2 ⊢; exact nd2.2)

theorem seg_push {nx pv : Nat → Nat → Prop} {z : Nat} {l : List Nat} {a : Nat} (hs : Seg nx pv a l z) :
    ∃ n, n ∈ l ++ [z] ∧ nx a n ∧ pv n a ∧
      ∀ (nx' pv' : Nat → Nat → Prop) (x : Nat), nx' a x → pv' x a → nx' x n → pv' n x → (∀ u v, u ∈ l → nx u v → nx' u v) → (∀ u v, u ∈ l ++ [z] → u ≠ n → pv u v → pv' u v) → (l ++ [z]).Nodup → Seg nx' pv' a (x :: l) z := by
  cases l with
  | nil => exact ⟨z, by simp, hs.1, hs.2, fun nx' pv' x g1 g2 g3 g4 _ _ _ => ⟨g1, g2, g3, g4⟩⟩
  | cons y l =>
    refine ⟨y, by simp, hs.1, hs.2.1, fun nx' pv' x g1 g2 g3 g4 g5 g6 nd => ⟨g1, g2, g3, g4, ?_⟩⟩
    refine seg_congr l y (fun u v hu => g5 u v hu) (fun u v hu => g6 u v (List.mem_cons_of_mem _ hu) ?_) hs.2.2
    rintro rfl
    simp at nd hu
    rcases hu with hu | hu <;> simp_all

/-- The last one is linked with the end. -/
theorem seg_last {nx pv : Nat → Nat → Prop} {x z a : Nat} {l : List Nat} (hs : Seg nx pv a (l ++ [x]) z) : nx x z ∧ pv z x := (seg_split l a hs).2
end Go.Proofs.Ybulkddgq
