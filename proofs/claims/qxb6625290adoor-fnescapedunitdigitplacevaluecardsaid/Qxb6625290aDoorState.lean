import Derived.Test.Qxb6625290aDoorEarly
import Derived.WalkSpells
namespace Go.Proofs.Qxb6625290aDoor
open Go.RowKit
theorem add_plain (b off j : Nat) : (⟨b, off, none⟩ : Addr).add j = ⟨b, off + j, none⟩ := by unfold Addr.add; split <;> simp_all

/-- THE STATE BEHIND THE TWO 'make's: the copy of esc in block B, mod in B + 1, zero in B + 2; w: the world when the call began. -/
structure St (w wr : World) (len : Nat) (zs L1 L2 : List Int) : Prop where
  o0 : Own wr .u8 5 w.heap.size zs
  o1 : Own wr .u8 5 (w.heap.size + 1) L1
  o2 : Own wr .u8 5 (w.heap.size + 1 + 1) L2
  l0 : zs.length = len
  l1 : L1.length = len
  l2 : L2.length = len
  bel : Below w.heap.size w wr
  sz : wr.heap.size = w.heap.size + 3

theorem St.set1 {w wr : World} {len : Nat} {zs L1 L2 : List Int} (h : St w wr len zs L1 L2) (j : Nat) (x : Int) :
    St w (wr.setCell ⟨w.heap.size + 1, j, none⟩ (.int .u8 x)) len zs (L1.set j x) L2 :=
  ⟨h.o0.other _ _ (by simp), h.o1.store j x, h.o2.other _ _ (by simp), h.l0, by simpa using h.l1, h.l2, h.bel.setCell (by simp) _, by simpa [World.setCell] using h.sz⟩
theorem St.set2 {w wr : World} {len : Nat} {zs L1 L2 : List Int} (h : St w wr len zs L1 L2) (j : Nat) (x : Int) :
    St w (wr.setCell ⟨w.heap.size + 1 + 1, j, none⟩ (.int .u8 x)) len zs L1 (L2.set j x) :=
  ⟨h.o0.other _ _ (by show w.heap.size ≠ w.heap.size + 1 + 1; omega), h.o1.other _ _ (by simp), h.o2.store j x, h.l0, h.l1, by simpa using h.l2, h.bel.setCell (by show w.heap.size ≤ w.heap.size + 1 + 1; omega) _, by simpa [World.setCell] using h.sz⟩

theorem getD_set (L : List Int) (j m : Nat) (x : Int) (hj : j < L.length) : (L.set j x).getD m 0 = if m = j then x else L.getD m 0 := by
  simp only [List.getD_eq_getElem?_getD, List.getElem?_set]
  by_cases h : j = m
  · subst h; simp [hj]
  · have : ¬ m = j := fun e => h e.symm
    simp [h, this]

/-- what changes by one digit -/
theorem vv_change (f g : Nat → Int) (k : Nat) (d : Int) (hk : k ≤ 3) (hg : ∀ j, j < 4 → g j = if j = k then d else f j) :
    vv g 4 - vv f 4 = (hexV d - hexV (f k)) * 16 ^ (3 - k) := by
  have e0 := hg 0 (by omega); have e1 := hg 1 (by omega); have e2 := hg 2 (by omega); have e3 := hg 3 (by omega)
  simp only [vv, e0, e1, e2, e3]
  have : k = 0 ∨ k = 1 ∨ k = 2 ∨ k = 3 := by omega
  rcases this with rfl | rfl | rfl | rfl <;> simp <;> omega
theorem vv_zero (f : Nat → Int) (h : ∀ j, j < 4 → f j = 48) : vv f 4 = 0 := by
  simp only [vv, h 0 (by omega), h 1 (by omega), h 2 (by omega), h 3 (by omega)]
  decide
end Go.Proofs.Qxb6625290aDoor
