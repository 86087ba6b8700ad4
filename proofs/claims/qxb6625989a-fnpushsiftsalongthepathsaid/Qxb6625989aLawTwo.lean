import Derived.Test.Qxb6625989aHeapClone
import Derived.Test.Qxb6625989aPath
namespace Go.Proofs.Qxb6625989a
open Go.ChangeShapes Go.WideShapes Go.ChangeAt Go.RowKit
set_option linter.unusedVariables false

theorem bytes9_yes (a : Option Addr) (len cap : Nat) (t : Int) (w : World) (hm : len ≤ 1048576) :
    Calls Try.prog 9 #[.slice a len cap, .int .i32 t] w fun e w' => e = .returned (.bool true) ∧ w = w' := by
  have := bytes9_any a len cap t w (by omega)
  rwa [show decide (len ≤ 1048576) = true by simpa using hm] at this
theorem bytes9_no (a : Option Addr) (len cap : Nat) (t : Int) (w : World) (hm : len ≤ 9223372036854775807) (h : ¬ len ≤ 1048576) :
    Calls Try.prog 9 #[.slice a len cap, .int .i32 t] w fun e w' => e = .returned (.bool false) ∧ w = w' := by
  have := bytes9_any a len cap t w hm
  rwa [show decide (len ≤ 1048576) = false by simpa using h] at this

set_option maxHeartbeats 400000 in
set_option maxRecDepth 100000 in
theorem early4 (a : Option Addr) (len cap : Nat) (t : Int) (w : World) (hm : len ≤ 9223372036854775807) (h : 65536 < len) :
    Calls Try.prog 4 #[.slice a len cap, .int .i32 t] w fun e w' => e = .returned (.bool true) ∧ w = w' := by
  by_cases h1 : len ≤ 1048576
  · go_enter Try.func4, Try.ntmps4
    go_wp2_with (go_at_call 9; refine (bytes9_yes _ _ _ _ _ h1).mono ?_; rintro e w' ⟨rfl, rfl⟩)
    go_ret
    exact ⟨rfl, rfl⟩
  · go_enter Try.func4, Try.ntmps4
    go_wp2_with (go_at_call 9; refine (bytes9_no _ _ _ _ _ hm h1).mono ?_; rintro e w' ⟨rfl, rfl⟩)
    go_ret
    exact ⟨rfl, rfl⟩

theorem getD_set (L : List Int) (j m : Nat) (x : Int) (hj : j < L.length) : (L.set j x).getD m 0 = if m = j then x else L.getD m 0 := by
  simp only [List.getD_eq_getElem?_getD, List.getElem?_set]
  by_cases h : j = m
  · subst h; simp [hj]
  · have : ¬ m = j := fun e => h e.symm
    simp [h, this]

theorem below_drewN' {B : Nat} {w wr : World} (h : Below B w wr) (n : Nat) : Below B w (wr.drewN n) := ⟨h.os, h.tape, h.output, h.size, h.block⟩

set_option maxHeartbeats 400000 in
set_option maxRecDepth 100000 in
theorem noheap4 (a : Option Addr) (len cap : Nat) (zs : List Int) (t : Int) (w : World) (h : Rd w a len cap zs) (hn : len ≤ 65536) (hh : ¬ Plain.IsHeap zs) :
    Calls Try.prog 4 #[.slice a len cap, .int .i32 t] w fun e w' => e = .returned (.bool true) ∧ Below w.heap.size w w' := by
  have h20 : len ≤ 1048576 := by omega
  have H := Lib.hid h
  clear h
  go_enter Try.func4, Try.ntmps4
  go_wp2_with (go_at_call 9; refine (bytes9_yes _ _ _ _ _ h20).mono ?_; rintro e w' ⟨rfl, rfl⟩)
  refine (isHeap_any _ _ _ _ _ H.out (by omega)).mono ?_
  rintro e w2 ⟨bb, rfl, hbb, nq, rfl⟩
  obtain rfl : bb = false := by
    cases bb
    · rfl
    · exact absurd (hbb.1 rfl) hh
  clear hbb
  go_wp2_with fail
  go_ret
  exact ⟨rfl, below_drewN' (Below.refl _ _) _⟩

set_option maxHeartbeats 8000000 in
set_option maxRecDepth 100000 in
theorem law4 (a : Option Addr) (len cap : Nat) (zs : List Int) (t : Int) (w : World) (h : Rd w a len cap zs) (hn : len ≤ 65536) (hheap : Plain.IsHeap zs) :
    Calls Try.prog 4 #[.slice a len cap, .int .i32 t] w fun e w' => e = .returned (.bool true) ∧ Below w.heap.size w w' := by
  have hq : decide ((65536 : Int) < (len : Int)) = false := by simp; omega
  have h20 : len ≤ 1048576 := by omega
  have H := Lib.hid h
  have Hl := Lib.hid h.len_eq
  have HH := Lib.hid hheap
  clear h hheap
  go_enter Try.func4, Try.ntmps4
  go_wp2_with (go_at_call 9; refine (bytes9_yes _ _ _ _ _ h20).mono ?_; rintro e w' ⟨rfl, rfl⟩)
  refine (isHeap_any _ _ _ _ _ H.out (by omega)).mono ?_
  rintro e w2 ⟨bb, rfl, hbb, nq, rfl⟩
  obtain rfl : bb = true := hbb.2 HH.out
  have HR2 := Lib.hid (H.out.drewN nq)
  have HB2 : Hid (Below w.heap.size w (w.drewN nq)) := below_drewN' (Below.refl _ _) _
  clear hbb H
  generalize w.drewN nq = w1 at *
  go_wp2_with fail
  refine (clone_any _ _ _ _ _ HR2.out (by omega)).mono ?_
  rintro e w2 ⟨vh, rfl, hO1, hB1⟩
  obtain ⟨ah, ch, rfl, hrd⟩ := hO1.rd
  rw [Hl.out] at hrd ⊢
  have HRH := Lib.hid hrd
  have HB2' : Hid (Below w.heap.size w w2) := HB2.out.trans (hB1.mono HB2.out.size)
  clear hO1 hB1 hrd HR2 HB2
  go_wp2_with fail
  go_loopw [6, 7] (fun vr' vi wr => ∃ (i : Nat) (vr : Value), vr' = vr ∧ vi = .int .i64 i ∧ i ≤ len ∧ Hid (Has wr w2.heap.size vr (zs.take i)) ∧ Hid (Below w2.heap.size w2 wr))
    (fun _ vi _ => len - (intOf vi).toNat)
  case atStart => exact ⟨0, _, rfl, rfl, by omega, Has.nil _ _, Below.refl _ _⟩
  case round =>
    obtain ⟨i, vr, hvr, rfl, hil, hhas, hbel⟩ := hrel
    obtain rfl := hvr.symm
    clear hvr
    by_cases hlt : i < len
    · obtain ⟨b, off, rfl, hc⟩ := (HRH.out.below hbel.out).at_ (by omega)
      have hci := hc i hlt
      have HN : Hid (∀ t, t = zs.getD i 0 → Calls Try.prog 6 #[vr, .int .i32 t] wr fun e w' => ∃ v', e = .returned v' ∧ Has w' w2.heap.size v' (zs.take (i + 1)) ∧ Below w2.heap.size wr w') := fun t ht => by
        rw [← Plain.push_own HH.out i (by rw [Hl.out]; exact hlt), ht]
        exact zzpush_any _ _ _ _ _ hhas.out hbel.out.size (by simp; omega)
      obtain ⟨tt, ht⟩ : ∃ t, t = zs.getD i 0 := ⟨_, rfl⟩
      rw [← ht] at hci
      have Ht := Lib.hid ht
      clear hc ht
      go_wp2_with fail
      refine (HN.out _ Ht.out).mono ?_
      rintro e w3 ⟨v', rfl, h1, h2⟩
      have H1 := Lib.hid h1
      have H2 := Lib.hid h2
      clear h1 h2
      go_wp2_with fail
      go_roundw
      case rel => exact ⟨i + 1, _, rfl, by go_num, by omega, H1.out, hbel.out.trans H2.out⟩
      case measure => simp [intOf]; omega
    · obtain rfl : len = i := by omega
      have ez : zs.take len = zs := List.take_of_length_le (by rw [Hl.out]; omega)
      rw [ez] at hhas
      obtain ⟨ar, cr, rfl, hrr⟩ := hhas.out.rd
      rw [Hl.out] at hrr ⊢
      have HRR := Lib.hid hrr
      have HRH3 := Lib.hid (HRH.out.below hbel.out)
      have HB3 : Hid (Below w.heap.size w wr) := HB2'.out.trans (hbel.out.mono HB2'.out.size)
      clear hrr HRH hhas hbel ez HB2'
      go_wp2_with fail
      go_loopw [8] (fun vi wx => ∃ (k q : Nat), vi = .int .i64 k ∧ k ≤ len ∧ wx = wr.drewN q)
        (fun vi _ => len - (intOf vi).toNat)
      case atStart => exact ⟨0, 0, rfl, by omega, rfl⟩
      case round =>
        obtain ⟨k, q, rfl, hki, rfl⟩ := hrel
        by_cases hlt : k < len
        · obtain ⟨b1, off1, rfl, hc1⟩ := HRR.out.at_ (by omega)
          obtain ⟨b2, off2, rfl, hc2⟩ := HRH3.out.at_ (by omega)
          have hd1 := hc1 k hlt
          have hd2 := hc2 k hlt
          clear hc1 hc2
          generalize zs.getD k 0 = x at hd1 hd2
          go_wp2_with fail
          go_big_quiet (fail)
          go_wp2_with fail
          go_roundw
          case rel => exact ⟨k + 1, q + nq, by go_num, by omega, rfl⟩
          case measure => simp [intOf]; omega
        · have HRH4 := Lib.hid (HRH3.out.drewN q)
          have HB4 : Hid (Below w.heap.size w (wr.drewN q)) := below_drewN' HB3.out q
          clear HRH3 HRR HB3
          generalize wr.drewN q = w4 at *
          go_wp2_with fail
          refine (clone_any _ _ _ _ _ HRH4.out (by omega)).mono ?_
          rintro e w5 ⟨vc, rfl, hO1, hB1⟩
          have hs5 := hB1.size
          have HO1 := Lib.hid hO1
          have HB5 := Lib.hid hB1
          clear hO1 hB1
          go_wp2_with fail
          refine (zzpush_any _ _ _ _ _ HO1.out hs5 (by rw [Hl.out]; omega)).mono ?_
          rintro e w6 ⟨vg, rfl, hO2, hB2⟩
          obtain ⟨ag, cg, rfl, hrg⟩ := hO2.rd
          rw [Plain.push_length, Hl.out] at hrg ⊢
          have HRG := Lib.hid hrg
          have HB46 : Below w4.heap.size w4 w6 := HB5.out.trans hB2
          have HRH6 := Lib.hid (HRH4.out.below HB46)
          have HB6 : Hid (Below w.heap.size w w6) := HB4.out.trans (HB46.mono HB4.out.size)
          clear hO2 hB2 HB46 HO1 HB5 HRH4 HB4 hrg hs5
          go_wp2_with fail
          go_loopw [11, 12] (fun vk vp wx => ∃ (k p : Nat) (P : List Int), vk = .int .i64 k ∧ vp = .int .i64 p ∧ 1 ≤ k ∧ k ≤ 17 ∧ p ≤ len ∧ Hid (p = Plain.anc len (k - 1) ∧ Plain.Up len k ∧ P.length = 40 ∧ Own wx .i64 27 w6.heap.size P ∧ ∀ q, q < k → P.getD q 0 = (Plain.anc len q : Int)) ∧ Hid (Below w6.heap.size w6 wx))
            (fun _ vp _ => (intOf vp).toNat)
          case atStart =>
            refine ⟨1, len, (len : Int) :: List.replicate 39 0, rfl, rfl, by omega, by omega, by omega, ⟨rfl, fun m hm => by omega, rfl, ?_, fun q hq => ?_⟩, ?_⟩
            · unfold Own
              rw [Go.heap_alloc_new]
              rfl
            · obtain rfl : q = 0 := by omega
              rfl
            · exact (Below.refl _ _).alloc (Nat.le_refl _) _
          case round =>
            obtain ⟨k, p, P, rfl, rfl, hk1, hk17, hpl, hst, hbel⟩ := hrel
            by_cases hp : 0 < p
            · have HUp : Hid (Plain.Up len (k + 1)) := fun m hm => by
                by_cases e : m = k - 1
                · rw [e, ← hst.out.1]; exact hp
                · exact hst.out.2.1 m (by omega)
              have hk17' : k + 1 ≤ 17 := Plain.up_short hn HUp.out
              have hck := hst.out.2.2.2.1.cell k (by rw [hst.out.2.2.1]; omega)
              have hfk := hst.out.2.2.2.1.free k
              have HN : Hid ((p - 1) / 2 = Plain.anc len (k + 1 - 1) ∧ Plain.Up len (k + 1) ∧ (P.set k (((p - 1) / 2 : Nat) : Int)).length = 40 ∧ Own (wr.setCell ⟨w6.heap.size, k, none⟩ (.int .i64 (((p - 1) / 2 : Nat) : Int))) .i64 27 w6.heap.size (P.set k (((p - 1) / 2 : Nat) : Int)) ∧ ∀ q, q < k + 1 → (P.set k (((p - 1) / 2 : Nat) : Int)).getD q 0 = (Plain.anc len q : Int)) := by
                have e : (p - 1) / 2 = Plain.anc len k := by
                  obtain ⟨m, rfl⟩ : ∃ m, k = m + 1 := ⟨k - 1, by omega⟩
                  rw [hst.out.1]; rfl
                refine ⟨e, HUp.out, by simpa using hst.out.2.2.1, hst.out.2.2.2.1.store k _, fun q hq => ?_⟩
                rw [getD_set _ _ _ _ (by rw [hst.out.2.2.1]; omega)]
                split
                · rename_i e2; rw [e2, e]
                · exact hst.out.2.2.2.2 q (by omega)
              have HNB : Hid (Below w6.heap.size w6 (wr.setCell ⟨w6.heap.size, k, none⟩ (.int .i64 (((p - 1) / 2 : Nat) : Int)))) := hbel.out.setCell (Nat.le_refl _) _
              clear hst hbel HUp
              generalize P.getD k 0 = x0 at hck
              go_wp2_with fail
              have epi : ((p : Int) - 1) / 2 = (((p - 1) / 2 : Nat) : Int) := by omega
              rw [epi]
              go_roundw
              case rel => exact ⟨k + 1, (p - 1) / 2, _, by go_num, rfl, by omega, by omega, by omega, HN.out, HNB.out⟩
              case measure => simp [intOf]; omega
            · obtain ⟨hend, hup, hP40, hOP, hPq⟩ := hst.out
              have HE : Hid (Plain.anc len (k - 1) = 0) := by rw [← hend]; show p = 0; omega
              have HU := Lib.hid hup
              have HP40 := Lib.hid hP40
              have HOP := Lib.hid hOP
              have HPq := Lib.hid hPq
              have hgP := hOP.lt
              have HRH7 := Lib.hid (HRH6.out.below hbel.out)
              have HRG7 := Lib.hid (HRG.out.below hbel.out)
              have HB7 : Hid (Below w.heap.size w wr) := HB6.out.trans (hbel.out.mono HB6.out.size)
              have hgw := HB6.out.size
              clear hst hend hup hP40 hOP hPq HRH6 HRG HB6 hbel
              generalize w6.heap.size = gP at *
              go_wp2_with fail
              rename World => w7
              go_loopw [14] (fun vq wx => ∃ (q : Nat) (V : List Int), vq = .int .i64 q ∧ 1 ≤ q ∧ q ≤ k ∧ Hid (V.length = 40 ∧ Own wx .i32 28 w7.heap.size V ∧ V.getD 0 0 = t ∧ ∀ m, 1 ≤ m → m < q → V.getD m 0 = zs.getD (Plain.anc len m) 0) ∧ Hid (Below w7.heap.size w7 wx))
                (fun vq _ => k - (intOf vq).toNat)
              case atStart =>
                refine ⟨1, t :: List.replicate 39 0, rfl, by omega, by omega, ⟨rfl, ?_, rfl, fun m hm hm' => by omega⟩, ?_⟩
                · unfold Own
                  rw [Go.heap_alloc_new]
                  rfl
                · exact (Below.refl _ _).alloc (Nat.le_refl _) _
              case round =>
                obtain ⟨q, V, rfl, hq1, hqk, hst, hbel⟩ := hrel
                by_cases hlt : q < k
                · have hcp := (HOP.out.below hbel.out hgP).cell q (by rw [HP40.out]; omega)
                  rw [HPq.out q hlt] at hcp
                  have hx : Plain.anc len q < len := by
                    have := Plain.anc_anti HU.out (show 0 < q by omega) hlt
                    exact this
                  obtain ⟨b, off, rfl, hch⟩ := (HRH7.out.below hbel.out).at_ (by omega)
                  have hcx := hch _ hx
                  have hcv := hst.out.2.1.cell q (by rw [hst.out.1]; omega)
                  have hfv := hst.out.2.1.free q
                  obtain ⟨y, hy⟩ : ∃ y, y = zs.getD (Plain.anc len q) 0 := ⟨_, rfl⟩
                  rw [← hy] at hcx
                  have HN : Hid ((V.set q y).length = 40 ∧ Own (wr.setCell ⟨w7.heap.size, q, none⟩ (.int .i32 y)) .i32 28 w7.heap.size (V.set q y) ∧ (V.set q y).getD 0 0 = t ∧ ∀ m, 1 ≤ m → m < q + 1 → (V.set q y).getD m 0 = zs.getD (Plain.anc len m) 0) := by
                    refine ⟨by simpa using hst.out.1, hst.out.2.1.store q y, ?_, fun m hm hm' => ?_⟩
                    · rw [getD_set _ _ _ _ (by rw [hst.out.1]; omega), if_neg (by omega)]; exact hst.out.2.2.1
                    · rw [getD_set _ _ _ _ (by rw [hst.out.1]; omega)]
                      split
                      · rename_i e; rw [e, hy]
                      · exact hst.out.2.2.2 m hm (by omega)
                  have HNB : Hid (Below w7.heap.size w7 (wr.setCell ⟨w7.heap.size, q, none⟩ (.int .i32 y))) := hbel.out.setCell (Nat.le_refl _) _
                  clear hst hbel hch hy
                  generalize Plain.anc len q = x at hcp hcx hx
                  generalize V.getD q 0 = x0 at hcv
                  go_wp2_with fail
                  go_roundw
                  case rel => exact ⟨q + 1, _, by go_num, by omega, by omega, HN.out, HNB.out⟩
                  case measure => simp [intOf]; omega
                · obtain rfl : k = q := by omega
                  obtain ⟨hV40, hOV, hV0, hVm⟩ := hst.out
                  have HC : Hid ((V.take k).Perm (Plain.chain (zs ++ [t]) len k)) := by
                    have e := Plain.chain_start (h := zs) (V := V) (t := t) (k := k) (by rw [Hl.out]; exact HU.out) (by rw [hV40]; omega) hV0 (by rw [Hl.out]; exact hVm)
                    rw [Hl.out] at e
                    rw [e]
                    exact List.Perm.refl _
                  have HS : Hid (V.length = 40 ∧ Own wr .i32 28 w7.heap.size V ∧ (V.take k).Perm (Plain.chain (zs ++ [t]) len k) ∧ Plain.Pre V 1) := ⟨hV40, hOV, HC.out, fun a b h h' => by omega⟩
                  clear hV40 hOV hV0 hVm hst HC
                  generalize hC : Plain.chain (zs ++ [t]) len k = C at HS
                  have HC := Lib.hid hC
                  clear hC
                  go_wp2_with fail
                  go_loopw [15] (fun vq wx => ∃ (q : Nat) (V : List Int), vq = .int .i64 q ∧ 1 ≤ q ∧ q ≤ k ∧ Hid (V.length = 40 ∧ Own wx .i32 28 w7.heap.size V ∧ (V.take k).Perm C ∧ Plain.Pre V q) ∧ Hid (Below w7.heap.size w7 wx))
                    (fun vq _ => k - (intOf vq).toNat)
                  case atStart => exact ⟨1, V, rfl, by omega, by omega, HS.out, hbel.out⟩
                  case round =>
                    clear HS hbel
                    obtain ⟨q, V1, rfl, hq1, hqk, hst, hbel⟩ := hrel
                    by_cases hlt : q < k
                    · have HI : Hid (V1.length = 40 ∧ Own wr .i32 28 w7.heap.size V1 ∧ (V1.take k).Perm C ∧ Plain.Ins V1 q q) := ⟨hst.out.1, hst.out.2.1, hst.out.2.2.1, Plain.ins_start hst.out.2.2.2⟩
                      clear hst
                      go_wp2_with fail
                      go_loopw [16] (fun vj wx => ∃ (j : Nat) (V : List Int), vj = .int .i64 j ∧ j ≤ q ∧ Hid (V.length = 40 ∧ Own wx .i32 28 w7.heap.size V ∧ (V.take k).Perm C ∧ Plain.Ins V q j) ∧ Hid (Below w7.heap.size w7 wx))
                        (fun vj _ => (intOf vj).toNat)
                      case atStart => exact ⟨q, V1, rfl, by omega, HI.out, hbel.out⟩
                      case round =>
                        clear HI hbel
                        obtain ⟨j, V2, rfl, hjq, hst, hbel⟩ := hrel
                        by_cases hj : 0 < j
                        · have hj' : decide (0 < j) = true := by simpa using hj
                          have hc1 := hst.out.2.1.cell (j - 1) (by rw [hst.out.1]; omega)
                          have hc2 := hst.out.2.1.cell j (by rw [hst.out.1]; omega)
                          have hf1 := hst.out.2.1.free (j - 1)
                          have hf2 := hst.out.2.1.free j
                          obtain ⟨x1, hx1⟩ : ∃ x, x = V2.getD (j - 1) 0 := ⟨_, rfl⟩
                          obtain ⟨x2, hx2⟩ : ∃ x, x = V2.getD j 0 := ⟨_, rfl⟩
                          rw [← hx1] at hc1
                          rw [← hx2] at hc2
                          by_cases hgt : x2 < x1
                          · have HN : ∀ n, Hid ((Plain.swp V2 (j - 1) j).length = 40 ∧ Own (((wr.drewN n).setCell ⟨w7.heap.size, j - 1, none⟩ (.int .i32 x2)).setCell ⟨w7.heap.size, j, none⟩ (.int .i32 x1)) .i32 28 w7.heap.size (Plain.swp V2 (j - 1) j) ∧ ((Plain.swp V2 (j - 1) j).take k).Perm C ∧ Plain.Ins (Plain.swp V2 (j - 1) j) q (j - 1)) := fun n => by
                              rw [hx1, hx2] at hgt
                              refine ⟨by rw [Plain.swp_length]; exact hst.out.1, ?_, (Plain.take_swp_perm _ _ _ _ (by omega) (by omega) (by rw [hst.out.1]; omega)).trans hst.out.2.2.1, Plain.ins_go hst.out.2.2.2 hj hjq (by rw [hst.out.1]; omega) hgt⟩
                              rw [hx1, hx2]
                              exact ((hst.out.2.1.drewN n).store _ _).store _ _
                            have HNB : ∀ n, Hid (Below w7.heap.size w7 (((wr.drewN n).setCell ⟨w7.heap.size, j - 1, none⟩ (.int .i32 x2)).setCell ⟨w7.heap.size, j, none⟩ (.int .i32 x1))) := fun n => ((below_drewN' hbel.out n).setCell (Nat.le_refl _) _).setCell (Nat.le_refl _) _
                            have HN' := Lib.hid HN
                            have HNB' := Lib.hid HNB
                            clear HN HNB hst hbel hx1 hx2
                            go_wp2_with fail
                            go_big_quiet (fail)
                            go_wp2_with fail
                            go_roundw
                            case rel => exact ⟨j - 1, _, by go_num, by omega, (HN'.out nq).out, (HNB'.out nq).out⟩
                            case measure => simp [intOf]; omega
                          · have HN : Hid (V2.length = 40 ∧ Own wr .i32 28 w7.heap.size V2 ∧ (V2.take k).Perm C ∧ Plain.Pre V2 (q + 1)) :=
                              ⟨hst.out.1, hst.out.2.1, hst.out.2.2.1, Plain.ins_stop hst.out.2.2.2 hjq (by rw [← hx1, ← hx2]; omega)⟩
                            have hgt' : decide (x2 < x1) = false := by simpa using hgt
                            clear hst hx1 hx2
                            go_wp2_with fail
                            go_big_quiet (fail)
                            go_wp2_with fail
                            go_roundw
                            case rel => exact ⟨q + 1, V2, by go_num, by omega, by omega, HN.out, below_drewN' hbel.out nq⟩
                            case measure => simp [intOf]; omega
                        · have hj' : decide (0 < j) = false := by simpa using hj
                          have HN : Hid (V2.length = 40 ∧ Own wr .i32 28 w7.heap.size V2 ∧ (V2.take k).Perm C ∧ Plain.Pre V2 (q + 1)) :=
                            ⟨hst.out.1, hst.out.2.1, hst.out.2.2.1, Plain.ins_zero (by have e : j = 0 := by omega
                                                                                       rw [← e]; exact hst.out.2.2.2)⟩
                          clear hst
                          go_wp2_with fail
                          go_big_quiet (fail)
                          go_wp2_with fail
                          go_roundw
                          case rel => exact ⟨q + 1, V2, by go_num, by omega, by omega, HN.out, below_drewN' hbel.out nq⟩
                          case measure => simp [intOf]; omega
                    · obtain rfl : k = q := by omega
                      rename World => w9
                      clear hlt
                      obtain ⟨i0, hi, hz0, hz1, hz2⟩ := info_parts Try.info21
                      have hb1 : i0.bytes * (len + 1) ≤ 281474976710656 := by rw [hz2]; omega
                      have hb2 : len + 1 ≤ maxLen := by unfold maxLen; omega
                      go_wp2_with (at_make; refine wpList_make_ints _ rfl (.tmp 133) (.tmp 133) 22 rfl 21 .i32 i0 Try.underlying22 hi hz0 hz1 _ _ _ _ (len + 1) rfl rfl (by omega) (by omega) hb1 hb2 ?_; intro w10 hO1 hB1 hS1; have HO1 := Lib.hid hO1; have HB1 := Lib.hid hB1; clear hO1 hB1 hS1)
                      have hB79 := hbel.out.size
                      have HB710 : Hid (Below w7.heap.size w7 w10) := hbel.out.trans (HB1.out.mono hB79)
                      obtain ⟨w11, hrun, hO2, hB2, hS2⟩ := run_copy_ints (P := Try.prog) (w := w10) 22 22 3 21 .i32 Try.underlying22 sz21 w9.heap.size (len + 1) (len + 1) ah len ch (List.replicate (len + 1) 0) HO1.out (by simp) zs Hl.out (by omega) (fun hp => by
                        obtain ⟨b, off, e, hc⟩ := (HRH7.out.below HB710.out).at_ hp
                        exact ⟨_, e, fun j hj => by rw [add_plain']; exact hc j hj⟩)
                      rw [hrun]
                      clear hrun
                      have HB911 : Hid (Below w9.heap.size w9 w11) := HB1.out.trans hB2
                      have HB711 : Hid (Below w7.heap.size w7 w11) := hbel.out.trans (HB911.out.mono hB79)
                      obtain ⟨W0, hW0⟩ : ∃ W0, W0 = zs ++ (List.replicate (len + 1) (0 : Int)).drop len := ⟨_, rfl⟩
                      rw [← hW0] at hO2
                      have HW0 : Hid (W0.length = len + 1 ∧ ∀ i, i < len → W0.getD i 0 = zs.getD i 0) := by
                        rw [hW0]
                        refine ⟨by simp [Hl.out], fun i hi => ?_⟩
                        simp [List.getD_eq_getElem?_getD, List.getElem?_append_left (show i < zs.length by rw [Hl.out]; exact hi)]
                      have HO2 := Lib.hid hO2
                      obtain ⟨hV40, hOV, hVp, hVs⟩ := hst.out
                      have HOV := Lib.hid hOV
                      have HV40 := Lib.hid hV40
                      have hgV := hOV.lt
                      have HL : Hid ((∀ q, q < k → (Plain.push zs t).getD (Plain.anc len (k - 1 - q)) 0 = V1.getD q 0) ∧ (∀ i, i < len → (∀ q, q < k → i ≠ Plain.anc len q) → (Plain.push zs t).getD i 0 = zs.getD i 0)) := by
                        have hp := Plain.path_law (h := zs) (V := V1) (t := t) (k := k) HH.out hk1 (by rw [Hl.out]; exact HU.out) (by rw [Hl.out]; exact HE.out) (by rw [hV40]; omega) hVs (by rw [Hl.out, HC.out]; exact hVp)
                        rw [Hl.out] at hp
                        exact hp
                      have HB79 := Lib.hid hbel.out
                      clear hO2 hB2 hS2 hW0 hst hbel HO1 HB1 HB710 HB711 hV40 hOV hVp hVs HC
                      go_wp2_with fail
                      go_loopw [19] (fun vq wx => ∃ (q : Nat) (W : List Int), vq = .int .i64 q ∧ q ≤ k ∧ Hid (W.length = len + 1 ∧ Own wx .i32 21 w9.heap.size W ∧ (∀ m, m < q → W.getD (Plain.anc len (k - 1 - m)) 0 = V1.getD m 0) ∧ (∀ i, i < len → (∀ m, m < q → i ≠ Plain.anc len (k - 1 - m)) → W.getD i 0 = zs.getD i 0)) ∧ Hid (Below w9.heap.size w9 wx))
                        (fun vq _ => k - (intOf vq).toNat)
                      case atStart => exact ⟨0, W0, rfl, by omega, ⟨HW0.out.1, HO2.out, fun m hm => by omega, fun i hi _ => HW0.out.2 i hi⟩, HB911.out⟩
                      case round =>
                        obtain ⟨q, W, rfl, hqk, hst, hbel⟩ := hrel
                        by_cases hlt : q < k
                        · have hB7x : Below w7.heap.size w7 wr := HB79.out.trans (hbel.out.mono hB79)
                          have hcp := (HOP.out.below hB7x hgP).cell (k - 1 - q) (by rw [HP40.out]; omega)
                          rw [HPq.out (k - 1 - q) (by omega)] at hcp
                          have hx : Plain.anc len (k - 1 - q) ≤ len := Plain.anc_le _ _
                          have hcv := (HOV.out.below hbel.out hgV).cell q (by rw [HV40.out]; omega)
                          obtain ⟨hWl, hOW, hW1, hW2⟩ := hst.out
                          have hcw := hOW.cell (Plain.anc len (k - 1 - q)) (by rw [hWl]; omega)
                          have hfw := hOW.free (Plain.anc len (k - 1 - q))
                          obtain ⟨y, hy⟩ : ∃ y, y = V1.getD q 0 := ⟨_, rfl⟩
                          rw [← hy] at hcv
                          obtain ⟨x, hxe⟩ : ∃ x, x = Plain.anc len (k - 1 - q) := ⟨_, rfl⟩
                          have HN : Hid ((W.set x y).length = len + 1 ∧ Own (wr.setCell ⟨w9.heap.size, x, none⟩ (.int .i32 y)).drew .i32 21 w9.heap.size (W.set x y) ∧ (∀ m, m < q + 1 → (W.set x y).getD (Plain.anc len (k - 1 - m)) 0 = V1.getD m 0) ∧ (∀ i, i < len → (∀ m, m < q + 1 → i ≠ Plain.anc len (k - 1 - m)) → (W.set x y).getD i 0 = zs.getD i 0)) := by
                            refine ⟨by simpa using hWl, (hOW.store x y).drew, fun m hm => ?_, fun i hi hoff => ?_⟩
                            · rw [getD_set _ _ _ _ (by rw [hWl, hxe]; omega)]
                              by_cases e : m = q
                              · rw [e, if_pos hxe.symm, hy]
                              · rw [if_neg (fun e2 => by
                                  rw [hxe] at e2
                                  have := Plain.anc_inj HU.out (show k - 1 - m < k by omega) (show k - 1 - q < k by omega) e2
                                  omega)]
                                exact hW1 m (by omega)
                            · rw [getD_set _ _ _ _ (by rw [hWl, hxe]; omega), if_neg (by rw [hxe]; exact hoff q (by omega))]
                              exact hW2 i hi (fun m hm => hoff m (by omega))
                          have HNB : Hid (Below w9.heap.size w9 (wr.setCell ⟨w9.heap.size, x, none⟩ (.int .i32 y)).drew) := (hbel.out.setCell (Nat.le_refl _) _).drew
                          rw [← hxe] at hcp hcw hfw hx
                          clear hst hbel hWl hOW hW1 hW2 hxe hy hB7x
                          generalize W.getD x 0 = x0 at hcw
                          go_wp2_with fail
                          go_region
                          go_wp2_with fail
                          go_roundw
                          case rel => exact ⟨q + 1, _, by go_num, by omega, HN.out, HNB.out⟩
                          case measure => simp [intOf]; omega
                        · obtain rfl : k = q := by omega
                          rename World => w12
                          have hB712 : Below w7.heap.size w7 w12 := HB79.out.trans (hbel.out.mono hB79)
                          have HB12 : Hid (Below w.heap.size w w12) := HB7.out.trans (hB712.mono HB7.out.size)
                          have HRG12 := Lib.hid (HRG7.out.below hB712)
                          obtain ⟨hWl, hOW, hW1, hW2⟩ := hst.out
                          have HOW := Lib.hid hOW
                          have HWl := Lib.hid hWl
                          have HEQ : Hid (∀ i, i < len + 1 → (Plain.push zs t).getD i 0 = W.getD i 0) := fun i hi => by
                            by_cases hon : ∃ m, m < k ∧ i = Plain.anc len (k - 1 - m)
                            · obtain ⟨m, hm, rfl⟩ := hon
                              rw [HL.out.1 m hm, hW1 m hm]
                            · have hoff : ∀ m, m < k → i ≠ Plain.anc len m := fun m hm e => hon ⟨k - 1 - m, by omega, by rw [show k - 1 - (k - 1 - m) = m by omega]; exact e⟩
                              have hne : i ≠ len := hoff 0 (by omega)
                              rw [HL.out.2 i (by omega) hoff, hW2 i (by omega) (fun m hm => hoff (k - 1 - m) (by omega))]
                          clear hst hbel hWl hOW hW1 hW2 hB712 HL HB79 HB7 HOP HP40 HPq HOV HV40 HRH7 HRG7 HO2 HW0 HB911
                          go_wp2_with fail
                          go_loopw [20] (fun vi wx => ∃ (i n : Nat), vi = .int .i64 i ∧ i ≤ len + 1 ∧ wx = w12.drewN n)
                            (fun vi _ => len + 1 - (intOf vi).toNat)
                          case atStart => exact ⟨0, 0, rfl, by omega, rfl⟩
                          case round =>
                            obtain ⟨i, n, rfl, hil, rfl⟩ := hrel
                            by_cases hlt : i < len + 1
                            · obtain ⟨b1, off1, rfl, hc1⟩ := HRG12.out.at_ (by omega)
                              have hd1 := hc1 i hlt
                              have hd2 := HOW.out.cell i (by rw [HWl.out]; exact hlt)
                              rw [HEQ.out i hlt] at hd1
                              clear hc1
                              generalize W.getD i 0 = x at hd1 hd2
                              go_wp2_with fail
                              go_big_quiet (fail)
                              go_wp2_with fail
                              go_roundw
                              case rel => exact ⟨i + 1, n + nq, by go_num, by omega, rfl⟩
                              case measure => simp [intOf]; omega
                            · go_wp2_with fail
                              go_ret
                              exact ⟨rfl, below_drewN' HB12.out n⟩
end Go.Proofs.Qxb6625989a
