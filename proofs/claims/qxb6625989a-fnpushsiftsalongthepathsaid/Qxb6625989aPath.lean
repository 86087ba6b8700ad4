/-
  THE PLAIN MATHEMATICS of the path from a heap's new leaf up to the root. No Go in sight.
-/
import Derived.Test.Qxb6625989aPlain
namespace Go.Proofs.Qxb6625989a.Plain

/-- The q-th ancestor of place n. -/
def anc (n : Nat) : Nat → Nat
  | 0 => n
  | q + 1 => (anc n q - 1) / 2

theorem anc_le (n q : Nat) : anc n q ≤ n := by
  induction q with
  | zero => exact Nat.le_refl _
  | succ q ih => rw [anc]; omega

theorem anc_lt (n q : Nat) (h : 0 < anc n q) : anc n (q + 1) < anc n q := by rw [anc]; omega

/-- The first k places of the path: all but the last are above nought. -/
def Up (n k : Nat) : Prop := ∀ m, m + 1 < k → 0 < anc n m

theorem anc_mono {n k : Nat} (h : Up n k) : ∀ d m, m + d + 1 < k → anc n (m + d + 1) < anc n m := by
  intro d
  induction d with
  | zero => intro m hm; exact anc_lt n m (h m (by omega))
  | succ d ih =>
    intro m hm
    have h1 := ih m (by omega)
    have h2 := anc_lt n (m + d + 1) (h (m + d + 1) (by omega))
    have e : m + (d + 1) + 1 = m + d + 1 + 1 := by omega
    rw [e]; omega

theorem anc_anti {n k : Nat} (h : Up n k) {a b : Nat} (hab : a < b) (hb : b < k) : anc n b < anc n a := by
  have := anc_mono h (b - a - 1) a (by omega)
  rwa [show a + (b - a - 1) + 1 = b by omega] at this

theorem anc_inj {n k : Nat} (h : Up n k) {a b : Nat} (ha : a < k) (hb : b < k) (e : anc n a = anc n b) : a = b := by
  rcases Nat.lt_trichotomy a b with h1 | h1 | h1
  · have := anc_anti h h1 hb; omega
  · exact h1
  · have := anc_anti h h1 ha; omega

theorem up_pow {n : Nat} : ∀ k, Up n (k + 1) → (anc n k + 1) * 2 ^ k ≤ n + 1 := by
  intro k
  induction k with
  | zero => intro _; simp [anc]
  | succ k ih =>
    intro h
    have h1 := ih (fun m hm => h m (by omega))
    have h0 := h k (by omega)
    have h2 : (anc n (k + 1) + 1) * 2 ≤ anc n k + 1 := by rw [anc]; omega
    rw [Nat.pow_succ, Nat.mul_comm (2 ^ k) 2, ← Nat.mul_assoc]
    exact Nat.le_trans (Nat.mul_le_mul_right _ h2) h1

theorem up_short {n k : Nat} (hn : n ≤ 65536) (h : Up n k) : k ≤ 17 := by
  rcases Nat.lt_or_ge 17 k with hk | hk
  · have h1 := up_pow 17 (fun m hm => h m (by omega))
    have h2 : 1 * 2 ^ 17 ≤ (anc n 17 + 1) * 2 ^ 17 := Nat.mul_le_mul_right _ (by omega)
    omega
  · exact hk

/-- What lies on the path, from the leaf up. -/
def chain (a : List Int) (n k : Nat) : List Int := (List.range k).map fun q => a.getD (anc n q) 0

theorem chain_length (a : List Int) (n k : Nat) : (chain a n k).length = k := by simp [chain]
theorem chain_getD (a : List Int) (n k q : Nat) (h : q < k) : (chain a n k).getD q 0 = a.getD (anc n q) 0 := by
  simp [chain, List.getD_eq_getElem?_getD, h]

theorem ext_getD {l m : List Int} (hl : l.length = m.length) (h : ∀ i, i < l.length → l.getD i 0 = m.getD i 0) : l = m := by
  apply List.ext_getElem hl
  intro i h1 h2
  have := h i h1
  simpa [List.getD_eq_getElem?_getD, List.getElem?_eq_getElem h1, List.getElem?_eq_getElem h2] using this

theorem chain_swp {a : List Int} {n k m : Nat} (hn : n < a.length) (hu : Up n k) (hm : m + 1 < k) :
    chain (swp a (anc n (m + 1)) (anc n m)) n k = swp (chain a n k) (m + 1) m := by
  have hb : ∀ q, anc n q < a.length := fun q => Nat.lt_of_le_of_lt (anc_le n q) hn
  apply ext_getD
  · rw [chain_length, swp_length, chain_length]
  · intro q hq
    rw [chain_length] at hq
    rw [chain_getD _ _ _ _ hq, swp_getD _ _ _ _ (hb _) (hb _), swp_getD _ _ _ _ (by rw [chain_length]; omega) (by rw [chain_length]; omega),
      chain_getD _ _ _ _ hm, chain_getD _ _ _ _ (show m < k by omega), chain_getD _ _ _ _ hq]
    by_cases e1 : q = m
    · subst e1; rw [if_pos rfl, if_pos rfl]
    · rw [if_neg e1, if_neg (fun e => e1 (anc_inj hu hq (by omega) e))]
      by_cases e2 : q = m + 1
      · subst e2; rw [if_pos rfl, if_pos rfl]
      · rw [if_neg e2, if_neg (fun e => e2 (anc_inj hu hq hm e))]

theorem chain_sift {n k : Nat} (hu : Up n k) (hend : anc n (k - 1) = 0) : ∀ (f : Nat) (a : List Int) (m : Nat), n < a.length → m < k → (chain (sift f a (anc n m)) n k).Perm (chain a n k) := by
  intro f
  induction f with
  | zero => intro a m _ _; exact List.Perm.refl _
  | succ f ih =>
    intro a m hn hm
    by_cases h0 : anc n m = 0
    · rw [h0, sift_zero]
    · by_cases h1 : a.getD ((anc n m - 1) / 2) 0 ≤ a.getD (anc n m) 0
      · rw [sift_stop _ _ _ h1]
      · have hm1 : m + 1 < k := by
          rcases Nat.lt_or_ge (m + 1) k with h | h
          · exact h
          · exfalso; apply h0; rw [← hend]; congr 1; omega
        rw [sift_go _ _ _ (by omega) h1]
        have e : (anc n m - 1) / 2 = anc n (m + 1) := rfl
        rw [e]
        refine (ih _ (m + 1) (by rw [swp_length]; exact hn) hm1).trans ?_
        rw [chain_swp hn hu hm1]
        exact swp_perm _ _ _ (by rw [chain_length]; exact hm1) (by rw [chain_length]; exact hm)

theorem sift_off : ∀ (f : Nat) (a : List Int) (i x : Nat), i < a.length → (∀ m, x ≠ anc i m) → (sift f a i).getD x 0 = a.getD x 0 := by
  intro f
  induction f with
  | zero => intro a i x _ _; rfl
  | succ f ih =>
    intro a i x hi hx
    by_cases h0 : i = 0
    · subst h0; rw [sift_zero]
    · by_cases h1 : a.getD ((i - 1) / 2) 0 ≤ a.getD i 0
      · rw [sift_stop _ _ _ h1]
      · rw [sift_go _ _ _ (by omega) h1, ih _ _ _ (by rw [swp_length]; omega) (fun m => ?_), swp_getD _ _ _ _ (by omega) hi, if_neg (show x ≠ i from hx 0), if_neg (show x ≠ (i - 1) / 2 from hx 1)]
        have e : ∀ m, anc ((i - 1) / 2) m = anc i (m + 1) := by
          intro m
          induction m with
          | zero => rfl
          | succ m ih => rw [anc, ih]; rfl
        rw [e]; exact hx (m + 1)

theorem anc_past {n k : Nat} (hk : 1 ≤ k) (hend : anc n (k - 1) = 0) (m : Nat) : ∃ q, q < k ∧ anc n m = anc n q := by
  rcases Nat.lt_or_ge m k with h | h
  · exact ⟨m, h, rfl⟩
  · refine ⟨k - 1, by omega, ?_⟩
    rw [hend]
    obtain ⟨d, rfl⟩ : ∃ d, m = k - 1 + d := ⟨m - (k - 1), by omega⟩
    clear h
    induction d with
    | zero => exact hend
    | succ d ih => rw [show k - 1 + (d + 1) = k - 1 + d + 1 by omega, anc, ih]

/-! ### The insertion sort on the first k of V -/
/-- Places 0 .. q - 1 are sorted. -/
def Pre (V : List Int) (q : Nat) : Prop := ∀ a b, a < b → b < q → V.getD a 0 ≤ V.getD b 0
/-- Places 0 .. q are sorted but for place j. -/
def Ins (V : List Int) (q j : Nat) : Prop := ∀ a b, a < b → b ≤ q → b ≠ j → V.getD a 0 ≤ V.getD b 0

theorem ins_start {V : List Int} {q : Nat} (h : Pre V q) : Ins V q q := fun a b hab hb hne => h a b hab (by omega)
theorem ins_zero {V : List Int} {q : Nat} (h : Ins V q 0) : Pre V (q + 1) := fun a b hab hb => h a b hab (by omega) (by omega)
theorem ins_stop {V : List Int} {q j : Nat} (h : Ins V q j) (hjq : j ≤ q) (hle : V.getD (j - 1) 0 ≤ V.getD j 0) : Pre V (q + 1) := by
  intro a b hab hb
  by_cases e : b = j
  · subst e
    by_cases e2 : a = b - 1
    · subst e2; exact hle
    · have := h a (b - 1) (by omega) (by omega) (by omega); omega
  · exact h a b hab (by omega) e
theorem ins_go {V : List Int} {q j : Nat} (h : Ins V q j) (hj : 0 < j) (hjq : j ≤ q) (hl : q < V.length) (hgt : V.getD j 0 < V.getD (j - 1) 0) : Ins (swp V (j - 1) j) q (j - 1) := by
  intro a b hab hb hne
  rw [swp_getD _ _ _ _ (by omega) (by omega), swp_getD _ _ _ _ (by omega) (by omega)]
  by_cases b1 : b = j
  · subst b1
    rw [if_neg (show a ≠ b by omega), if_pos rfl]
    by_cases a1 : a = b - 1
    · rw [if_pos a1]; omega
    · rw [if_neg a1]; exact h a (b - 1) (by omega) (by omega) (by omega)
  · rw [if_neg b1, if_neg hne]
    by_cases a1 : a = j
    · rw [if_pos a1]; exact h (j - 1) b (by omega) hb b1
    · rw [if_neg a1]
      by_cases a2 : a = j - 1
      · rw [if_pos a2]; exact h j b (by omega) hb b1
      · rw [if_neg a2]; exact h a b hab hb b1

theorem take_swp (V : List Int) (k i j : Nat) (hi : i < k) (hj : j < k) (hl : k ≤ V.length) : (swp V i j).take k = swp (V.take k) i j := by
  have g : ∀ m, m < k → (V.take k).getD m 0 = V.getD m 0 := fun m hm => by simp [List.getD_eq_getElem?_getD, hm]
  apply ext_getD
  · simp [swp_length]
  · intro q hq
    simp [swp_length] at hq
    have hq' : q < k := by omega
    have g2 : ((swp V i j).take k).getD q 0 = (swp V i j).getD q 0 := by simp [List.getD_eq_getElem?_getD, hq']
    rw [g2, swp_getD _ _ _ _ (by omega) (by omega), swp_getD _ _ _ _ (by simp; omega) (by simp; omega), g i hi, g j hj, g q hq']

theorem take_swp_perm (V : List Int) (k i j : Nat) (hi : i < k) (hj : j < k) (hl : k ≤ V.length) : ((swp V i j).take k).Perm (V.take k) := by
  rw [take_swp V k i j hi hj hl]
  exact swp_perm _ _ _ (by simp; omega) (by simp; omega)

theorem pre_sorted {V : List Int} {k : Nat} (h : Pre V k) (hl : k ≤ V.length) : Sorted (V.take k) := by
  rw [sorted_iff_getD]
  intro i j hij hj
  have hj' : j < k := by simp at hj; omega
  have g : ∀ m, m < k → (V.take k).getD m 0 = V.getD m 0 := fun m hm => by simp [List.getD_eq_getElem?_getD, hm]
  rw [g i (by omega), g j hj']
  exact h i j hij hj'

/-- ████ THE LAW: pushing t onto the heap h: off the path as before; on the path, from the root down, the sorted values. -/
theorem path_law {h V : List Int} {t : Int} {k : Nat} (hh : IsHeap h) (hk : 1 ≤ k) (hu : Up h.length k) (hend : anc h.length (k - 1) = 0) (hl : k ≤ V.length)
    (hpre : Pre V k) (hperm : (V.take k).Perm (chain (h ++ [t]) h.length k)) :
    (∀ q, q < k → (push h t).getD (anc h.length (k - 1 - q)) 0 = V.getD q 0) ∧ (∀ i, i < h.length → (∀ q, q < k → i ≠ anc h.length q) → (push h t).getD i 0 = h.getD i 0) := by
  have hn : h.length < (h ++ [t]).length := by simp
  constructor
  · have hG : (chain (push h t) h.length k).reverse = V.take k := by
      apply sorted_unique _ (pre_sorted hpre hl)
      · refine (List.reverse_perm _).trans ?_
        refine List.Perm.trans ?_ hperm.symm
        exact chain_sift hu hend _ _ 0 hn (by omega)
      · rw [sorted_iff_getD]
        have key : ∀ q, q + 1 < k → (push h t).getD (anc h.length (q + 1)) 0 ≤ (push h t).getD (anc h.length q) 0 := by
          intro q hq
          have h0 := hu q hq
          have := push_heap t hh (anc h.length q) h0 (by rw [push_length]; have := anc_le h.length q; omega)
          exact this
        have mono : ∀ d q, q + d < k → (push h t).getD (anc h.length (q + d)) 0 ≤ (push h t).getD (anc h.length q) 0 := by
          intro d
          induction d with
          | zero => intro q _; exact Int.le_refl _
          | succ d ih => intro q hq; exact Int.le_trans (key (q + d) (by omega)) (ih q (by omega))
        intro i j hij hj
        have hj' : j < k := by simpa [chain_length] using hj
        have gr : ∀ m, m < k → (chain (push h t) h.length k).reverse.getD m 0 = (push h t).getD (anc h.length (k - 1 - m)) 0 := by
          intro m hm
          rw [← chain_getD _ _ _ _ (show k - 1 - m < k by omega)]
          simp only [List.getD_eq_getElem?_getD]
          rw [List.getElem?_reverse (by rw [chain_length]; exact hm), chain_length]
        rw [gr i (by omega), gr j hj']
        have := mono (j - i) (k - 1 - j) (by omega)
        rwa [show k - 1 - j + (j - i) = k - 1 - i by omega] at this
    intro q hq
    have e : (chain (push h t) h.length k).reverse.getD q 0 = (V.take k).getD q 0 := by rw [hG]
    have gv : (V.take k).getD q 0 = V.getD q 0 := by simp [List.getD_eq_getElem?_getD, hq]
    rw [gv] at e
    rw [← e, ← chain_getD _ _ _ _ (show k - 1 - q < k by omega)]
    simp only [List.getD_eq_getElem?_getD]
    rw [List.getElem?_reverse (by rw [chain_length]; exact hq), chain_length]
  · intro i hi hoff
    rw [push, sift_off _ _ _ _ hn (fun m => ?_), getD_append_left _ _ _ hi]
    obtain ⟨q, hq, e⟩ := anc_past hk hend m
    rw [e]; exact hoff q hq

/-- The values that are sorted at the start. -/
theorem chain_start {h V : List Int} {t : Int} {k : Nat} (hu : Up h.length k) (hl : k ≤ V.length) (h0 : V.getD 0 0 = t) (hv : ∀ q, 1 ≤ q → q < k → V.getD q 0 = h.getD (anc h.length q) 0) :
    V.take k = chain (h ++ [t]) h.length k := by
  apply ext_getD
  · rw [chain_length]; simp; omega
  · intro q hq
    have hq' : q < k := by simp at hq; omega
    have gv : (V.take k).getD q 0 = V.getD q 0 := by simp [List.getD_eq_getElem?_getD, hq']
    rw [gv, chain_getD _ _ _ _ hq']
    by_cases e : q = 0
    · subst e
      rw [h0]
      show t = (h ++ [t]).getD h.length 0
      simp
    · rw [hv q (by omega) hq', getD_append_left]
      have := anc_anti hu (show 0 < q by omega) hq'
      exact this

end Go.Proofs.Qxb6625989a.Plain
