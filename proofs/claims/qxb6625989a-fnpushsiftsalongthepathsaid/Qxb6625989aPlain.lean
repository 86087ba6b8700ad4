/-
  THE PLAIN MATHEMATICS of the seat b6625989a: a binary heap's push by sifting up, sortedness, the path of ancestors. No Go in sight.
-/
namespace Go.Proofs.Qxb6625989a.Plain

/-- The two places i, j exchanged. -/
def swp (a : List Int) (i j : Nat) : List Int := (a.set i (a.getD j 0)).set j (a.getD i 0)

theorem swp_length (a : List Int) (i j : Nat) : (swp a i j).length = a.length := by simp [swp]

theorem swp_getD (a : List Int) (i j k : Nat) (hi : i < a.length) (hj : j < a.length) :
    (swp a i j).getD k 0 = if k = j then a.getD i 0 else if k = i then a.getD j 0 else a.getD k 0 := by
  unfold swp
  simp only [List.getD_eq_getElem?_getD, List.getElem?_set, List.length_set]
  by_cases h1 : k = j
  · subst h1; simp [hj]
  · have h1' : ¬ j = k := fun h => h1 h.symm
    by_cases h2 : k = i
    · subst h2; simp [h1, h1', hi]
    · have h2' : ¬ i = k := fun h => h2 h.symm
      simp [h1, h1', h2, h2']

theorem swp_perm (a : List Int) (i j : Nat) (hi : i < a.length) (hj : j < a.length) : (swp a i j).Perm a := by
  have h := Array.swap_perm (xs := a.toArray) (i := i) (j := j) (by simpa using hi) (by simpa using hj)
  have e : (a.toArray.swap i j (by simpa using hi) (by simpa using hj)).toList = swp a i j := by
    simp [swp, Array.swap, List.getD_eq_getElem?_getD, List.getElem?_eq_getElem hi, List.getElem?_eq_getElem hj]
  have h2 := h.toList
  rw [e] at h2
  simpa using h2

/-- Sift up from place i, at most f steps. -/
def sift : Nat → List Int → Nat → List Int
  | 0, a, _ => a
  | f + 1, a, i =>
    if i = 0 then a
    else if a.getD ((i - 1) / 2) 0 ≤ a.getD i 0 then a
    else sift f (swp a ((i - 1) / 2) i) ((i - 1) / 2)

theorem sift_zero (f : Nat) (a : List Int) : sift f a 0 = a := by cases f <;> simp [sift]
theorem sift_stop (f i : Nat) (a : List Int) (h : a.getD ((i - 1) / 2) 0 ≤ a.getD i 0) : sift f a i = a := by
  cases f with
  | zero => rfl
  | succ f =>
    rw [sift]
    by_cases h0 : i = 0
    · rw [if_pos h0]
    · rw [if_neg h0, if_pos h]
theorem sift_go (f i : Nat) (a : List Int) (h0 : 0 < i) (h : ¬ a.getD ((i - 1) / 2) 0 ≤ a.getD i 0) : sift (f + 1) a i = sift f (swp a ((i - 1) / 2) i) ((i - 1) / 2) := by
  rw [sift, if_neg (by omega), if_neg h]

theorem sift_length (f : Nat) : ∀ (a : List Int) (i : Nat), (sift f a i).length = a.length := by
  induction f with
  | zero => intro a i; rfl
  | succ f ih =>
    intro a i
    unfold sift
    split
    · rfl
    · split
      · rfl
      · rw [ih, swp_length]

def push (a : List Int) (t : Int) : List Int := sift a.length (a ++ [t]) a.length

theorem push_length (a : List Int) (t : Int) : (push a t).length = a.length + 1 := by simp [push, sift_length]

theorem sift_perm (f : Nat) : ∀ (a : List Int) (i : Nat), i < a.length → (sift f a i).Perm a := by
  induction f with
  | zero => intro a i _; exact List.Perm.refl _
  | succ f ih =>
    intro a i hi
    unfold sift
    split
    · exact List.Perm.refl _
    · split
      · exact List.Perm.refl _
      · refine (ih _ _ (by rw [swp_length]; omega)).trans (swp_perm a _ _ (by omega) hi)

theorem push_perm (a : List Int) (t : Int) : (push a t).Perm (a ++ [t]) := sift_perm _ _ _ (by simp)

/-- A min-heap: no place holds less than its parent. -/
def IsHeap (a : List Int) : Prop := ∀ i, 0 < i → i < a.length → a.getD ((i - 1) / 2) 0 ≤ a.getD i 0

/-- A heap but for place i. -/
def Near (a : List Int) (i : Nat) : Prop :=
  (∀ j, 0 < j → j < a.length → j ≠ i → a.getD ((j - 1) / 2) 0 ≤ a.getD j 0) ∧
  (∀ j, 0 < j → j < a.length → (j - 1) / 2 = i → 0 < i → a.getD ((i - 1) / 2) 0 ≤ a.getD j 0)

theorem near_swp {a : List Int} {i : Nat} (hi : i < a.length) (h0 : 0 < i) (h : Near a i) (hlt : ¬ a.getD ((i - 1) / 2) 0 ≤ a.getD i 0) :
    Near (swp a ((i - 1) / 2) i) ((i - 1) / 2) := by
  obtain ⟨h1, h2⟩ := h
  have hp : (i - 1) / 2 < i := by omega
  generalize hpe : (i - 1) / 2 = p at *
  have G := fun k => swp_getD a p i k (by omega) hi
  constructor
  · intro j hj0 hj hjp
    rw [swp_length] at hj
    rw [G, G]
    by_cases e1 : j = i
    · subst e1
      rw [hpe, if_neg (by omega), if_pos rfl, if_pos rfl]; omega
    · rw [if_neg e1, if_neg hjp]
      by_cases e2 : (j - 1) / 2 = i
      · rw [if_pos e2]
        exact h2 j hj0 hj e2 h0
      · rw [if_neg e2]
        have := h1 j hj0 hj e1
        by_cases e3 : (j - 1) / 2 = p
        · rw [if_pos e3]; rw [e3] at this; omega
        · rw [if_neg e3]; exact this
  · intro j hj0 hj hjp hp0
    rw [swp_length] at hj
    have q1 := h1 p hp0 (by omega) (by omega)
    rw [G, G, if_neg (show (p - 1) / 2 ≠ i by omega), if_neg (show (p - 1) / 2 ≠ p by omega)]
    by_cases e1 : j = i
    · rw [if_pos e1]; exact q1
    · rw [if_neg e1, if_neg (show j ≠ p by omega)]
      have := h1 j hj0 hj e1
      rw [hjp] at this; omega

theorem sift_heap (f : Nat) : ∀ (a : List Int) (i : Nat), i ≤ f → i < a.length → Near a i → IsHeap (sift f a i) := by
  induction f with
  | zero =>
    intro a i hf hi h j hj0 hj
    have : i = 0 := by omega
    subst this
    exact h.1 j hj0 hj (by omega)
  | succ f ih =>
    intro a i hf hi h
    by_cases e0 : i = 0
    · subst e0
      rw [sift_zero]
      intro j hj0 hj
      exact h.1 j hj0 hj (by omega)
    · by_cases e1 : a.getD ((i - 1) / 2) 0 ≤ a.getD i 0
      · rw [sift_stop _ _ _ e1]
        intro j hj0 hj
        by_cases e2 : j = i
        · subst e2; exact e1
        · exact h.1 j hj0 hj e2
      · rw [sift_go _ _ _ (by omega) e1]
        exact ih _ _ (by omega) (by rw [swp_length]; omega) (near_swp hi (by omega) h e1)

theorem getD_append_left (a : List Int) (t : Int) (k : Nat) (h : k < a.length) : (a ++ [t]).getD k 0 = a.getD k 0 := by
  simp [List.getD_eq_getElem?_getD, List.getElem?_append_left h]

theorem push_heap {a : List Int} (t : Int) (h : IsHeap a) : IsHeap (push a t) := by
  refine sift_heap _ _ _ (Nat.le_refl _) (by simp) ⟨?_, ?_⟩
  · intro j hj0 hj hne
    have hj' : j < a.length := by simp at hj; omega
    rw [getD_append_left _ _ _ hj', getD_append_left _ _ _ (by omega)]
    exact h j hj0 hj'
  · intro j hj0 hj he _
    simp at hj
    omega

/-- Pushing a heap's own next element rebuilds it. -/
theorem push_own {a : List Int} (h : IsHeap a) (k : Nat) (hk : k < a.length) : push (a.take k) (a.getD k 0) = a.take (k + 1) := by
  have e : a.take k ++ [a.getD k 0] = a.take (k + 1) := by
    rw [List.take_succ_eq_append_getElem hk]
    simp [List.getD_eq_getElem?_getD, List.getElem?_eq_getElem hk]
  unfold push
  rw [e]
  have hl : (a.take k).length = k := by simp; omega
  rw [hl]
  by_cases h0 : k = 0
  · subst h0; rw [sift_zero]
  · apply sift_stop
    have g : ∀ m, m < k + 1 → (a.take (k + 1)).getD m 0 = a.getD m 0 := by
      intro m hm
      simp [List.getD_eq_getElem?_getD, hm]
    rw [g _ (by omega), g _ (by omega)]
    exact h k (by omega) hk

/-- All pushed in order onto the empty heap. -/
def pushAll (s : List Int) : List Int := s.foldl push []

theorem pushAll_snoc (s : List Int) (t : Int) : pushAll (s ++ [t]) = push (pushAll s) t := by simp [pushAll, List.foldl_append]

theorem pushAll_props (s : List Int) : IsHeap (pushAll s) ∧ (pushAll s).Perm s ∧ (pushAll s).length = s.length := by
  suffices H : ∀ n, ∀ s : List Int, s.length = n → IsHeap (pushAll s) ∧ (pushAll s).Perm s by
    obtain ⟨h1, h2⟩ := H s.length s rfl
    exact ⟨h1, h2, h2.length_eq⟩
  intro n
  induction n with
  | zero =>
    intro s hs
    obtain rfl : s = [] := List.eq_nil_of_length_eq_zero hs
    exact ⟨fun i _ hi => by simp [pushAll] at hi, List.Perm.refl _⟩
  | succ n ih =>
    intro s hs
    have hne : s ≠ [] := by intro h; rw [h] at hs; simp at hs
    obtain ⟨s', t, rfl⟩ : ∃ s' t, s = s' ++ [t] := ⟨s.dropLast, s.getLast hne, (List.dropLast_concat_getLast hne).symm⟩
    obtain ⟨h1, h2⟩ := ih s' (by simp at hs; omega)
    rw [pushAll_snoc]
    exact ⟨push_heap t h1, (push_perm _ _).trans (h2.append_right _)⟩

theorem pushAll_take_succ (s : List Int) (k : Nat) (hk : k < s.length) : pushAll (s.take (k + 1)) = push (pushAll (s.take k)) (s.getD k 0) := by
  rw [List.take_succ_eq_append_getElem hk, pushAll_snoc]
  simp [List.getD_eq_getElem?_getD, List.getElem?_eq_getElem hk]

/-! ### Sorted lists -/
def le (a b : Int) : Bool := decide (a ≤ b)
theorem le_iff (a b : Int) : le a b = true ↔ a ≤ b := by simp [le]
theorem le_trans' (a b c : Int) : le a b = true → le b c = true → le a c = true := by simp only [le_iff]; omega
theorem le_total' (a b : Int) : (le a b || le b a) = true := by simp only [Bool.or_eq_true, le_iff]; omega
def Sorted (l : List Int) : Prop := l.Pairwise (fun a b => le a b = true)

theorem sorted_unique {l m : List Int} (hl : Sorted l) (hm : Sorted m) (hp : l.Perm m) : l = m :=
  List.Perm.eq_of_pairwise (le := fun a b => le a b = true) (fun a b _ _ h1 h2 => Int.le_antisymm ((le_iff a b).1 h1) ((le_iff b a).1 h2)) hl hm hp

def sortI (l : List Int) : List Int := l.mergeSort le

theorem sortI_perm (l : List Int) : (sortI l).Perm l := List.mergeSort_perm l le
theorem sortI_sorted (l : List Int) : Sorted (sortI l) := List.pairwise_mergeSort (le := le) le_trans' le_total' l
theorem sortI_length (l : List Int) : (sortI l).length = l.length := (sortI_perm l).length_eq
theorem sortI_congr {l m : List Int} (h : l.Perm m) : sortI l = sortI m :=
  sorted_unique (sortI_sorted l) (sortI_sorted m) ((sortI_perm l).trans (h.trans (sortI_perm m).symm))

theorem sorted_iff_getD (l : List Int) : Sorted l ↔ ∀ i j, i < j → j < l.length → l.getD i 0 ≤ l.getD j 0 := by
  unfold Sorted
  rw [List.pairwise_iff_getElem]
  constructor
  · intro h i j hij hj
    have := (le_iff _ _).1 (h i j (by omega) hj hij)
    simpa [List.getD_eq_getElem?_getD, List.getElem?_eq_getElem hj, List.getElem?_eq_getElem (show i < l.length by omega)] using this
  · intro h i j hi hj hij
    have := h i j hij hj
    rw [le_iff]
    simpa [List.getD_eq_getElem?_getD, List.getElem?_eq_getElem hj, List.getElem?_eq_getElem hi] using this

/-- The merge of two sorted lists is the sort of what they were sorted from. -/
theorem merge_sort (x y : List Int) : List.merge (sortI x) (sortI y) le = sortI (x ++ y) := by
  apply sorted_unique _ (sortI_sorted _)
  · exact (List.merge_perm_append le).trans (((sortI_perm x).append (sortI_perm y)).trans (sortI_perm _).symm)
  · exact List.pairwise_merge (le := le) le_trans' le_total' (sortI x) (sortI y) (sortI_sorted x) (sortI_sorted y)

theorem sortI_short {l : List Int} (h : l.length ≤ 1) : sortI l = l := by
  match l, h with
  | [], _ => simp [sortI]
  | [x], _ => simp [sortI]
  | x :: y :: r, h => simp at h

theorem drop_cons (l : List Int) (i : Nat) (h : i < l.length) : l.drop i = l.getD i 0 :: l.drop (i + 1) := by
  rw [List.drop_eq_getElem_cons h]
  simp [List.getD_eq_getElem?_getD, List.getElem?_eq_getElem h]

theorem merge_left (l r : List Int) (i j : Nat) (hi : i < l.length) (h : r.length ≤ j ∨ l.getD i 0 ≤ r.getD j 0) :
    List.merge (l.drop i) (r.drop j) le = l.getD i 0 :: List.merge (l.drop (i + 1)) (r.drop j) le := by
  by_cases hj : j < r.length
  · have hle : l.getD i 0 ≤ r.getD j 0 := by
      rcases h with h | h
      · omega
      · exact h
    rw [drop_cons l i hi, drop_cons r j hj, List.cons_merge_cons, if_pos ((le_iff _ _).2 hle)]
  · have e : r.drop j = [] := List.drop_eq_nil_of_le (by omega)
    rw [e, drop_cons l i hi]
    simp

theorem merge_right (l r : List Int) (i j : Nat) (hj : j < r.length) (h : l.length ≤ i ∨ ¬ l.getD i 0 ≤ r.getD j 0) :
    List.merge (l.drop i) (r.drop j) le = r.getD j 0 :: List.merge (l.drop i) (r.drop (j + 1)) le := by
  by_cases hi : i < l.length
  · have hle : ¬ l.getD i 0 ≤ r.getD j 0 := by
      rcases h with h | h
      · omega
      · exact h
    have hf : ¬ (le (l.getD i 0) (r.getD j 0) = true) := by rw [le_iff]; exact hle
    rw [drop_cons l i hi, drop_cons r j hj, List.cons_merge_cons, if_neg hf]
  · have e : l.drop i = [] := List.drop_eq_nil_of_le (by omega)
    rw [e, drop_cons r j hj]
    simp

/-- One more place filled. -/
theorem take_set_succ (L : List Int) (k : Nat) (x : Int) (h : k < L.length) : (L.set k x).take (k + 1) = L.take k ++ [x] := by
  have h' : k < (L.set k x).length := by simpa using h
  rw [List.take_succ_eq_append_getElem h']
  simp [List.take_set_of_le]

end Go.Proofs.Qxb6625989a.Plain
