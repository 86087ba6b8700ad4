import Derived.Test.Qxb6625989aHeapClone
namespace Go.Proofs.Qxb6625989a
open Go.ChangeShapes Go.WideShapes Go.ChangeAt Go.RowKit
set_option linter.unusedVariables false

/-- The merge's state: the two sorted halves, what is filled. -/
structure MS (w wr : World) (g1 g2 g3 : Nat) (l r L : List Int) (len : Nat) : Prop where
  o1 : Own wr .i32 21 g1 l
  o2 : Own wr .i32 21 g2 r
  o3 : Own wr .i32 21 g3 L
  n1 : g1 < g3
  n2 : g2 < g3
  b3 : w.heap.size ≤ g3
  len : L.length = len
  bel : Below w.heap.size w wr

theorem MS.drewN {w wr : World} {g1 g2 g3 : Nat} {l r L : List Int} {len : Nat} (h : MS w wr g1 g2 g3 l r L len) (n : Nat) : MS w (wr.drewN n) g1 g2 g3 l r L len :=
  ⟨h.o1, h.o2, h.o3, h.n1, h.n2, h.b3, h.len, ⟨h.bel.os, h.bel.tape, h.bel.output, h.bel.size, h.bel.block⟩⟩
theorem MS.set {w wr : World} {g1 g2 g3 : Nat} {l r L : List Int} {len : Nat} (h : MS w wr g1 g2 g3 l r L len) (j : Nat) (x : Int) : MS w (wr.setCell ⟨g3, j, none⟩ (.int .i32 x)) g1 g2 g3 l r (L.set j x) len :=
  ⟨h.o1.other _ _ (by have := h.n1; show g1 ≠ g3; omega), h.o2.other _ _ (by have := h.n2; show g2 ≠ g3; omega), h.o3.store j x, h.n1, h.n2, h.b3, by simpa using h.len, h.bel.setCell h.b3 _⟩

/-- The slices a[:mid], a[mid:]. -/
theorem Rd.take {w : World} {b off len cap : Nat} {zs : List Int} (h : Rd w (some ⟨b, off, none⟩) len cap zs) (m : Nat) (hm : m ≤ len) (hp : 0 < len) : Rd w (some ⟨b, off, none⟩) m cap (zs.take m) := by
  obtain ⟨b', off', e, hc⟩ := h.at_ hp
  simp at e
  obtain ⟨rfl, rfl⟩ := e
  refine ⟨by have := h.len_eq; simp; omega, Nat.le_trans hm h.le, h.max, (fun e => by cases e), fun _ => ⟨b, off, rfl, fun j hj => ?_⟩, fun x hx _ => h.old x hx hp⟩
  rw [hc j (by omega)]
  simp [hj]
theorem Rd.drop {w : World} {b off len cap : Nat} {zs : List Int} (h : Rd w (some ⟨b, off, none⟩) len cap zs) (m : Nat) (hm : m < len) : Rd w (some ⟨b, off + m, none⟩) (len - m) (cap - m) (zs.drop m) := by
  obtain ⟨b', off', e, hc⟩ := h.at_ (by omega)
  simp at e
  obtain ⟨rfl, rfl⟩ := e
  refine ⟨by have := h.len_eq; simp; omega, by have := h.le; omega, by have := h.max; omega, (fun e => by cases e), fun _ => ⟨b, off + m, rfl, fun j hj => ?_⟩, fun x hx _ => ?_⟩
  · rw [Nat.add_assoc, hc (m + j) (by omega)]
    simp
  · simp at hx
    subst hx
    exact (show b < w.heap.size from h.old ⟨b, off, none⟩ rfl (by omega))

set_option maxHeartbeats 1000000 in
theorem sort_short (a : Option Addr) (len cap : Nat) (zs : List Int) (w : World) (h1 : len ≤ 1) (h : Rd w a len cap zs) :
    Calls Try.prog 8 #[.slice a len cap] w fun e w' => ∃ g, e = .returned (.slice (some ⟨g, 0, none⟩) len len) ∧ w.heap.size ≤ g ∧ Own w' .i32 21 g (Plain.sortI zs) ∧ Below w.heap.size w w' := by
  obtain ⟨i0, hi, hz0, hz1, hz2⟩ := info_parts Try.info21
  have hb1 : i0.bytes * len ≤ 281474976710656 := by rw [hz2]; omega
  have hb2 : len ≤ maxLen := by unfold maxLen; omega
  have H := Lib.hid h
  clear h
  go_enter Try.func8, Try.ntmps8
  go_wp2_with (at_make; refine wpList_make_ints _ rfl (.tmp 16) (.tmp 16) 22 rfl 21 .i32 i0 Try.underlying22 hi hz0 hz1 _ _ _ _ len rfl rfl rfl rfl hb1 hb2 ?_; intro w1 hO1 hB1 hS1; have HO1 := Lib.hid hO1; have HB1 := Lib.hid hB1; have HS1 := Lib.hid hS1; clear hO1 hB1 hS1)
  obtain ⟨w2, hrun, hO2, hB2, hS2⟩ := run_copy_ints (P := Try.prog) (w := w1) 22 22 3 21 .i32 Try.underlying22 sz21 w.heap.size len len a len cap (List.replicate len 0) HO1.out (by simp) zs H.out.len_eq (Nat.le_refl _) (fun hp => by
    obtain ⟨b, off, e, hc⟩ := (H.out.below HB1.out).at_ hp
    exact ⟨_, e, fun j hj => by rw [add_plain']; exact hc j hj⟩)
  rw [hrun]
  clear hrun
  have e : zs ++ (List.replicate len (0 : Int)).drop len = zs := by simp
  rw [e] at hO2
  have HF : Hid (Own w2 .i32 21 w.heap.size (Plain.sortI zs)) := by rw [Plain.sortI_short (by rw [H.out.len_eq]; exact h1)]; exact hO2
  have HB : Hid (Below w.heap.size w w2) := HB1.out.trans hB2
  clear hO2 hB2 hS2 e HO1 HB1 HS1
  go_wp2_with fail
  go_ret
  exact ⟨_, rfl, Nat.le_refl _, HF.out, HB.out⟩

set_option maxHeartbeats 4000000 in
theorem sort_any (K : Nat) : ∀ (a : Option Addr) (len cap : Nat) (zs : List Int) (w : World), len ≤ K → Rd w a len cap zs → len ≤ 200000 →
    Calls Try.prog 8 #[.slice a len cap] w fun e w' => ∃ g, e = .returned (.slice (some ⟨g, 0, none⟩) len len) ∧ w.heap.size ≤ g ∧ Own w' .i32 21 g (Plain.sortI zs) ∧ Below w.heap.size w w' := by
  induction K with
  | zero =>
    intro a len cap zs w hK h hn
    exact sort_short a len cap zs w (by omega) h
  | succ K ih =>
    intro a len cap zs w hK h hn
    by_cases h1 : len ≤ 1
    · exact sort_short a len cap zs w h1 h
    · obtain ⟨i0, hi, hz0, hz1, hz2⟩ := info_parts Try.info21
      have hb1 : i0.bytes * len ≤ 281474976710656 := by rw [hz2]; omega
      have hb2 : len ≤ maxLen := by unfold maxLen; omega
      obtain ⟨b, off, rfl, hcell⟩ := h.at_ (by omega)
      have hcap := h.le
      have hmx := h.max
      unfold maxLen at hmx
      have H := Lib.hid h
      have IH := Lib.hid ih
      have hq : decide ((len : Int) ≤ 1) = false := by simp; omega
      clear h ih hcell
      go_enter Try.func8, Try.ntmps8
      go_wp2_with fail
      refine (IH.out _ _ _ (zs.take (len / 2)) w (by omega) (H.out.take (len / 2) (by omega) (by omega)) (by omega)).mono ?_
      rintro e w1 ⟨g1, rfl, hg1, hO1, hB1⟩
      have hs1 := hB1.size
      have R2 := (H.out.drop (len / 2) (by omega)).below hB1
      have HO1 := Lib.hid hO1
      have HB1 := Lib.hid hB1
      have HR2 := Lib.hid R2
      have hl1 := hO1.lt
      clear hO1 hB1 R2
      go_wp2_with fail
      refine (IH.out _ _ _ (zs.drop (len / 2)) w1 (by omega) HR2.out (by omega)).mono ?_
      rintro e w2 ⟨g2, rfl, hg2, hO2, hB2⟩
      have hs2 := hB2.size
      have hl2 := hO2.lt
      have HO1' : Hid (Own w2 .i32 21 g1 (Plain.sortI (zs.take (len / 2)))) := HO1.out.below hB2 hl1
      have HO2 := Lib.hid hO2
      have HB2 : Hid (Below w.heap.size w w2) := HB1.out.trans (hB2.mono hs1)
      clear hO2 hB2 HO1 HB1 HR2
      go_wp2_with (at_make; refine wpList_make_ints _ rfl (.tmp 32) (.tmp 32) 22 rfl 21 .i32 i0 Try.underlying22 hi hz0 hz1 _ _ _ _ len rfl rfl rfl rfl hb1 hb2 ?_; intro w3 hO3 hB3 hS3; have HO3 := Lib.hid hO3; have HB3 := Lib.hid hB3; clear hO3 hB3 hS3)
      have HM : Hid (MS w w3 g1 g2 w2.heap.size (Plain.sortI (zs.take (len / 2))) (Plain.sortI (zs.drop (len / 2))) (List.replicate len 0) len) :=
        ⟨HO1'.out.below HB3.out (by omega), HO2.out.below HB3.out hl2, HO3.out, by omega, hl2, by omega, by simp, HB2.out.trans (HB3.out.mono (by omega))⟩
      have HZ : Hid (List.merge (Plain.sortI (zs.take (len / 2))) (Plain.sortI (zs.drop (len / 2))) Plain.le = Plain.sortI zs) := by
        show _ = _
        rw [Plain.merge_sort, List.take_append_drop]
      have hll : (Plain.sortI (zs.take (len / 2))).length = len / 2 := by
        rw [Plain.sortI_length]; have := H.out.len_eq; simp; omega
      have hlr : (Plain.sortI (zs.drop (len / 2))).length = len - len / 2 := by
        rw [Plain.sortI_length]; have := H.out.len_eq; simp; omega
      have Hll := Lib.hid hll
      have Hlr := Lib.hid hlr
      clear HO1' HO2 HO3 HB2 HB3 H IH hll hlr
      generalize Plain.sortI (zs.take (len / 2)) = l at *
      generalize Plain.sortI (zs.drop (len / 2)) = r at *
      generalize w2.heap.size = g3 at *
      have hm2 : len - len / 2 + len / 2 ≤ len := by omega
      have hm3 : len ≤ len - len / 2 + len / 2 := by omega
      generalize len - len / 2 = m2 at *
      generalize len / 2 = m1 at *
      go_loopw [9, 10, 11] (fun vi vj vk wr => ∃ (i j k : Nat) (L : List Int), vi = .int .i64 i ∧ vj = .int .i64 j ∧ vk = .int .i64 k ∧ i ≤ m1 ∧ j ≤ m2 ∧ k ≤ i + j ∧ i + j ≤ k ∧ Hid (MS w wr g1 g2 g3 l r L len) ∧ Hid (L.take k ++ List.merge (l.drop i) (r.drop j) Plain.le = Plain.sortI zs))
        (fun _ _ vk _ => len - (intOf vk).toNat)
      case atStart => exact ⟨0, 0, 0, _, rfl, rfl, rfl, by omega, by omega, by omega, by omega, HM.out, by show _ = _; simpa using HZ.out⟩
      case round =>
        obtain ⟨i, j, k, L, rfl, rfl, rfl, him, hjm, hk1, hk2, hms, hmg⟩ := hrel
        clear HM HZ
        by_cases hlt : k < len
        · have hc3 := hms.out.o3.cell k (by rw [hms.out.len]; exact hlt)
          have hf3 := hms.out.o3.free k
          have stepL : i < m1 → (m2 ≤ j ∨ l.getD i 0 ≤ r.getD j 0) → Hid ((L.set k (l.getD i 0)).take (k + 1) ++ List.merge (l.drop (i + 1)) (r.drop j) Plain.le = Plain.sortI zs) := fun h h' => by
            show _ = _
            rw [Plain.take_set_succ _ _ _ (by rw [hms.out.len]; exact hlt), List.append_assoc, ← hmg.out, Plain.merge_left l r i j (by rw [Hll.out]; exact h) (by rw [Hlr.out]; exact h')]
            rfl
          have stepR : j < m2 → (m1 ≤ i ∨ ¬ l.getD i 0 ≤ r.getD j 0) → Hid ((L.set k (r.getD j 0)).take (k + 1) ++ List.merge (l.drop i) (r.drop (j + 1)) Plain.le = Plain.sortI zs) := fun h h' => by
            show _ = _
            rw [Plain.take_set_succ _ _ _ (by rw [hms.out.len]; exact hlt), List.append_assoc, ← hmg.out, Plain.merge_right l r i j (by rw [Hlr.out]; exact h) (by rw [Hll.out]; exact h')]
            rfl
          have SL := Lib.hid stepL
          have SR := Lib.hid stepR
          clear stepL stepR hmg
          generalize L.getD k 0 = x3 at hc3
          by_cases hj : j < m2
          · have hc2 := hms.out.o2.cell j (by rw [Hlr.out]; exact hj)
            have hj' : decide (m2 ≤ j) = false := by simp; omega
            by_cases hi' : i < m1
            · have hi2 : decide (i < m1) = true := by simp; omega
              have hc1 := hms.out.o1.cell i (by rw [Hll.out]; exact hi')
              generalize hx1 : l.getD i 0 = x1 at hc1 SL SR
              generalize hx2 : r.getD j 0 = x2 at hc2 SL SR
              clear hx1 hx2
              by_cases hle : x1 ≤ x2
              · have HN := SL.out hi' (Or.inr hle)
                have HNM : ∀ q, Hid (MS w ((wr.drewN q).setCell ⟨g3, k, none⟩ (.int .i32 x1)) g1 g2 g3 l r (L.set k x1) len) := fun q => (hms.out.drewN q).set k x1
                clear SL SR hms
                go_wp2_with fail
                go_big_quiet (fail)
                go_wp2_with fail
                go_roundw
                case rel => exact ⟨i + 1, j, k + 1, _, by go_num, by go_num, by go_num, by omega, by omega, by omega, by omega, (HNM _).out, HN.out⟩
                case measure => simp [intOf]; omega
              · have HN := SR.out hj (Or.inr hle)
                have HNM : ∀ q, Hid (MS w ((wr.drewN q).setCell ⟨g3, k, none⟩ (.int .i32 x2)) g1 g2 g3 l r (L.set k x2) len) := fun q => (hms.out.drewN q).set k x2
                clear SL SR hms
                go_wp2_with fail
                go_big_quiet (fail)
                go_wp2_with fail
                go_roundw
                case rel => exact ⟨i, j + 1, k + 1, _, by go_num, by go_num, by go_num, by omega, by omega, by omega, by omega, (HNM _).out, HN.out⟩
                case measure => simp [intOf]; omega
            · have hi2 : decide (i < m1) = false := by simp; omega
              generalize hx2 : r.getD j 0 = x2 at hc2 SR
              clear hx2
              have HN := SR.out hj (Or.inl (by omega))
              have HNM : ∀ q, Hid (MS w ((wr.drewN q).setCell ⟨g3, k, none⟩ (.int .i32 x2)) g1 g2 g3 l r (L.set k x2) len) := fun q => (hms.out.drewN q).set k x2
              clear SL SR hms
              go_wp2_with fail
              go_big_quiet (fail)
              go_wp2_with fail
              go_roundw
              case rel => exact ⟨i, j + 1, k + 1, _, by go_num, by go_num, by go_num, by omega, by omega, by omega, by omega, (HNM _).out, HN.out⟩
              case measure => simp [intOf]; omega
          · have hi' : i < m1 := by omega
            have hj2 : decide (m2 ≤ j) = true := by simp; omega
            have hc1 := hms.out.o1.cell i (by rw [Hll.out]; exact hi')
            generalize hx1 : l.getD i 0 = x1 at hc1 SL
            clear hx1
            have HN := SL.out hi' (Or.inl (by omega))
            have HNM : ∀ q, Hid (MS w ((wr.drewN q).setCell ⟨g3, k, none⟩ (.int .i32 x1)) g1 g2 g3 l r (L.set k x1) len) := fun q => (hms.out.drewN q).set k x1
            clear SL SR hms
            go_wp2_with fail
            go_big_quiet (fail)
            go_wp2_with fail
            go_roundw
            case rel => exact ⟨i + 1, j, k + 1, _, by go_num, by go_num, by go_num, by omega, by omega, by omega, by omega, (HNM _).out, HN.out⟩
            case measure => simp [intOf]; omega
        · have HF : Hid (L = Plain.sortI zs) := by
            show _ = _
            rw [← hmg.out, List.drop_eq_nil_of_le (by rw [Hll.out]; omega), List.drop_eq_nil_of_le (by rw [Hlr.out]; omega), List.take_of_length_le (by rw [hms.out.len]; omega)]
            simp
          go_wp2_with fail
          go_ret
          exact ⟨g3, rfl, hms.out.b3, by rw [← HF.out]; exact hms.out.o3, hms.out.bel⟩
end Go.Proofs.Qxb6625989a
