/-
  ROWS OF INTEGERS THAT THE CALL ITSELF HAS MADE, known whole ('Own'): what is read, what a store makes of them, 'make' and 'copy' as laws for the walk. They speak of no program.
-/
import Derived.WalkKit
import Derived.Laws.CopyOwn
import Derived.Deep.Draws
namespace Go.Proofs.Qxb6625989a
open Go.RowKit

/-- Block g is a row whose cells are just the numbers L; none is frozen. -/
def Own (w : World) (k : IntKind) (e : TypeId) (g : Nat) (L : List Int) : Prop := w.heap[g]? = some (.cells (L.map (Value.int k)).toArray e (0, 0))

section
variable {w w' : World} {k : IntKind} {e : TypeId} {g : Nat} {L : List Int}

theorem Own.cell (h : Own w k e g L) (j : Nat) (hj : j < L.length) : w.cell? ⟨g, j, none⟩ = some (.int k (L.getD j 0)) := by
  rw [cell_of_row w g j _ e (0, 0) h]
  simp [hj]

theorem Own.free (h : Own w k e g L) (j : Nat) : w.frozen? ⟨g, j, none⟩ = false := frozen_of_row w g j _ e h

theorem Own.lt (h : Own w k e g L) : g < w.heap.size := lt_of_block h

theorem Own.store (h : Own w k e g L) (j : Nat) (x : Int) : Own (w.setCell ⟨g, j, none⟩ (.int k x)) k e g (L.set j x) := by
  unfold Own at *
  rw [heap_setCell_same w g j _ e _ h]
  simp [List.map_set]

theorem Own.other (h : Own w k e g L) (a : Addr) (v : Value) (hne : g ≠ a.block) : Own (w.setCell a v) k e g L := by
  unfold Own at *
  rw [heap_setCell_other w a g v hne]; exact h

theorem Own.below {B : Nat} (h : Own w k e g L) (hb : Below B w w') (hg : g < B) : Own w' k e g L := by
  unfold Own at *
  rw [hb.block g hg]; exact h

theorem Own.drew (h : Own w k e g L) : Own w.drew k e g L := h
theorem Own.drewN (h : Own w k e g L) (n : Nat) : Own (w.drewN n) k e g L := h
end

theorem madeCells_ints (k : IntKind) (n : Nat) : madeCells (Value.int k 0).cells (n * 1) = ((List.replicate n (0 : Int)).map (Value.int k)).toArray := by
  have h := toList_madeCells_one (.int k 0) n
  apply Array.ext'
  rw [Nat.mul_one]
  simpa [Value.cells] using h

/-- 'make([]T, n)', T an integer type. -/
theorem wpList_make_ints {P : Program} (w : World) {ops : Array Oper} {rest : List Oper} {o : Oper} {a : Act} {Q : Exit → Act → World → Prop}
    (hg : o.guard = none) (l c : Operand) (t : TypeId) (hop : o.op = Op.makeSlice t l c)
    (e : TypeId) (k : IntKind) (i : TypeInfo) (h1 : P.underlying t = some (.slice e)) (h2 : P.info? e = some i) (h3 : i.zero = some (.int k 0)) (h4 : i.size = 1)
    (kl kc : IntKind) (L C : Int) (n : Nat) (hl : a.eval l = .int kl L) (hc : a.eval c = .int kc C) (hL : L = (n : Int)) (hC : C = (n : Int)) (b2 : i.bytes * n ≤ 281474976710656) (b3 : n ≤ maxLen)
    (hK : ∀ w', Own w' k e w.heap.size (List.replicate n 0) → Below w.heap.size w w' → w'.heap.size = w.heap.size + 1 → wpList P ops Q rest (a.put o.dst (.slice (some ⟨w.heap.size, 0, none⟩) n n)) w') :
    wpList P ops Q (o :: rest) a w := by
  refine wpList_plain hg fun K hK' => ?_
  have hb' : (i.bytes : Int) * (n : Int) ≤ 281474976710656 := by
    have h : ((i.bytes * n : Nat) : Int) ≤ 281474976710656 := by omega
    rwa [Int.natCast_mul] at h
  have h63' : (n : Int) ≤ 9223372036854775807 := by unfold maxLen at b3; omega
  have hrun := run_make (P := P) w t e i (.int k 0) h1 h2 h3 kl kc n n (by omega) (Int.le_refl _) hb' h63'
  simp only [Int.toNat_natCast, h4, madeCells_ints] at hrun
  subst hL
  subst hC
  unfold Oper.wp
  simp [execOp, hop, hl, hc, hrun, Result.andThen]
  refine hK' _ _ (hK _ ?_ ((Below.refl _ _).alloc (Nat.le_refl _) _) ?_)
  · unfold Own
    rw [heap_alloc_new]
    simp
  · simp

/-- 'copy(dst, src)', dst a row of the call's own known whole, of n numbers; src has m ≤ n numbers. -/
theorem run_copy_ints {P : Program} {w : World} (dT sT ty : TypeId) (e : TypeId) (k : IntKind) (hu : P.underlying dT = some (.slice e)) (hsz : (P.info? e).map (·.size) = some 1)
    (g n dCap : Nat) (sp : Option Addr) (m sCap : Nat) (L : List Int) (hO : Own w k e g L) (hL : L.length = n) (zs : List Int) (hz : zs.length = m) (hmn : m ≤ n)
    (hsrc : 0 < m → ∃ ad, sp = some ad ∧ ∀ j, j < m → w.cell? (ad.add j) = some (.int k (zs.getD j 0))) :
    ∃ w', (Builtin.copy_ #[dT, sT] ty #[.slice (some ⟨g, 0, none⟩) n dCap, .slice sp m sCap]).run P w = .ok (.int .i64 m) w' ∧ Own w' k e g (zs ++ L.drop m) ∧ Below g w w' ∧ w'.heap.size = w.heap.size := by
  have hm : (zs.map (Value.int k)).length = Nat.min m n := by simp [hz]; exact (Nat.min_eq_left hmn).symm
  have hlen : (zs.map (Value.int k)).length = m := by simpa using hz
  by_cases h0 : m = 0
  · subst h0
    refine ⟨w, run_copy_none (P := P) w dT sT ty e (some ⟨g, 0, none⟩) sp n dCap 0 sCap hu hsz (Nat.zero_min n), ?_, Below.refl _ _, rfl⟩
    obtain rfl : zs = [] := List.eq_nil_of_length_eq_zero hz
    simpa using hO
  · obtain ⟨ad, rfl, hcell⟩ := hsrc (by omega)
    have hrun := run_copy_row (P := P) w dT sT ty e g 0 n dCap ad m sCap _ e (zs.map (Value.int k)) hu hsz hO hm (fun j v hj => by
      have hjl : j < zs.length := by
        rcases Nat.lt_or_ge j zs.length with h | h
        · exact h
        · simp [List.getElem?_eq_none h] at hj
      rw [hcell j (by omega)]
      simp [List.getElem?_eq_getElem hjl] at hj
      subst hj
      simp [List.getElem?_eq_getElem hjl]) (by simp [hz, hL]; exact hmn) (ints_oneCell k zs)
    rw [hlen] at hrun
    refine ⟨_, hrun, ?_, below_setRow (Below.refl _ _) (Nat.le_refl _) _, by simp⟩
    unfold Own
    rw [setRow_heap w g _ _ e _ hO]
    simp [List.map_drop]


/-! ### Slices that can be read; slices that the call owns and grows -/
theorem add_plain' (b off j : Nat) : (⟨b, off, none⟩ : Addr).add j = ⟨b, off + j, none⟩ := by unfold Addr.add; split <;> simp_all

/-- The slice at a, of len elements (capacity cap), reads as zs. -/
structure Rd (w : World) (a : Option Addr) (len cap : Nat) (zs : List Int) : Prop where
  len_eq : zs.length = len
  le : len ≤ cap
  max : cap ≤ maxLen
  nil : a = none → len = 0 ∧ cap = 0
  at_ : 0 < len → ∃ b off, a = some ⟨b, off, none⟩ ∧ ∀ j, j < len → w.cell? ⟨b, off + j, none⟩ = some (.int .i32 (zs.getD j 0))
  old : ∀ x, a = some x → 0 < len → x.block < w.heap.size

theorem Rd.below {w w' : World} {a : Option Addr} {len cap : Nat} {zs : List Int} (h : Rd w a len cap zs) (hb : Below w.heap.size w w') : Rd w' a len cap zs :=
  ⟨h.len_eq, h.le, h.max, h.nil, fun hp => by
    obtain ⟨b, off, e, hc⟩ := h.at_ hp
    refine ⟨b, off, e, fun j hj => ?_⟩
    rw [hb.cell (p := ⟨b, off + j, none⟩) (show b < w.heap.size from h.old _ e hp)]
    exact hc j hj, fun x hx hp => Nat.lt_of_lt_of_le (h.old x hx hp) hb.size⟩

theorem Rd.drewN {w : World} {a : Option Addr} {len cap : Nat} {zs : List Int} (h : Rd w a len cap zs) (n : Nat) : Rd (w.drewN n) a len cap zs :=
  ⟨h.len_eq, h.le, h.max, h.nil, h.at_, h.old⟩

/-- v, of xs.length elements, is nil or lies at the head of a row of the call's own (from block base on), whose first cells are xs. -/
abbrev Has (w : World) (base : Nat) (v : Value) (xs : List Int) : Prop := w.ownsRow base 21 1 v xs.length (xs.map (Value.int .i32))

theorem Has.parts {w : World} {base : Nat} {v : Value} {xs : List Int} (h : Has w base v xs) (hp : 0 < xs.length) :
    ∃ g cap, v = .slice (some ⟨g, 0, none⟩) xs.length cap ∧ base ≤ g ∧ g < w.heap.size ∧ xs.length ≤ cap ∧ cap ≤ maxLen := by
  rcases h.2 with ⟨_, h0⟩ | ⟨g, cap, cur, hv, hb, hg, hn, hm, _⟩
  · omega
  · exact ⟨g, cap, hv, hb, lt_of_block hg, hn, hm⟩

theorem Has.rd {w : World} {base : Nat} {v : Value} {xs : List Int} (h : Has w base v xs) : ∃ a cap, v = .slice a xs.length cap ∧ Rd w a xs.length cap xs := by
  rcases h.2 with ⟨hv, h0⟩ | ⟨g, cap, cur, hv, hb, hg, hn, hm, hs, ht⟩
  · refine ⟨none, 0, by rw [hv, h0], ⟨rfl, by omega, by unfold maxLen; omega, fun _ => ⟨h0, rfl⟩, fun hp => by omega, fun x hx => by cases hx⟩⟩
  · subst hv
    refine ⟨_, cap, rfl, ⟨rfl, hn, hm, (fun hx => by cases hx), fun hp => ⟨g, 0, rfl, fun j hj => ?_⟩, fun x hx _ => by cases hx; exact lt_of_block hg⟩⟩
    have := World.ownsRow.cellAt h j (by omega)
    rw [Nat.zero_add, this]
    simp [hj]

theorem Has.below {w w' : World} {base B : Nat} {v : Value} {xs : List Int} (h : Has w base v xs) (hb : Below B w w') (hB : w.heap.size ≤ B) : Has w' base v xs := by
  refine ⟨h.1, ?_⟩
  rcases h.2 with h0 | ⟨g, cap, cur, hv, hbg, hg, r⟩
  · exact .inl h0
  · exact .inr ⟨g, cap, cur, hv, hbg, by rw [hb.block g (Nat.lt_of_lt_of_le (lt_of_block hg) hB)]; exact hg, r⟩

theorem Has.mono {w : World} {base base' : Nat} {v : Value} {xs : List Int} (h : Has w base v xs) (hb : base' ≤ base) : Has w base' v xs := by
  refine ⟨h.1, ?_⟩
  rcases h.2 with h0 | ⟨g, cap, cur, hv, hbg, hg, r⟩
  · exact .inl h0
  · exact .inr ⟨g, cap, cur, hv, Nat.le_trans hb hbg, hg, r⟩

theorem Own.has {w : World} {g base : Nat} {L : List Int} (h : Own w .i32 21 g L) (hb : base ≤ g) (hm : L.length ≤ maxLen) : Has w base (.slice (some ⟨g, 0, none⟩) L.length L.length) L :=
  ⟨by simp, .inr ⟨g, L.length, _, rfl, hb, h, Nat.le_refl _, hm, by simp, List.take_of_length_le (by simp)⟩⟩

theorem Has.nil (w : World) (base : Nat) : Has w base (.slice none 0 0) [] := World.ownsRow_nil w base 21 1

end Go.Proofs.Qxb6625989a
