import Derived.Test.Qxb6625989aSort
namespace Go.Proofs.Qxb6625989a
open Go.ChangeShapes Go.WideShapes Go.ChangeAt Go.RowKit
set_option linter.unusedVariables false

theorem bytes5_yes (a : Option Addr) (len cap : Nat) (w : World) (hm : len ≤ 1048576) :
    Calls Try.prog 5 #[.slice a len cap] w fun e w' => e = .returned (.bool true) ∧ w = w' := by
  have := bytes5_any a len cap w (by omega)
  rwa [show decide (len ≤ 1048576) = true by simpa using hm] at this
theorem bytes5_no (a : Option Addr) (len cap : Nat) (w : World) (hm : len ≤ 9223372036854775807) (h : ¬ len ≤ 1048576) :
    Calls Try.prog 5 #[.slice a len cap] w fun e w' => e = .returned (.bool false) ∧ w = w' := by
  have := bytes5_any a len cap w hm
  rwa [show decide (len ≤ 1048576) = false by simpa using h] at this

set_option maxHeartbeats 400000 in
theorem early3 (a : Option Addr) (len cap : Nat) (w : World) (hm : len ≤ 9223372036854775807) (h : 65536 < len) :
    Calls Try.prog 3 #[.slice a len cap] w fun e w' => e = .returned (.bool true) ∧ w = w' := by
  by_cases h1 : len ≤ 1048576
  · go_enter Try.func3, Try.ntmps3
    go_wp2_with (go_at_call 5; refine (bytes5_yes _ _ _ _ h1).mono ?_; rintro e w' ⟨rfl, rfl⟩)
    go_ret
    exact ⟨rfl, rfl⟩
  · go_enter Try.func3, Try.ntmps3
    go_wp2_with (go_at_call 5; refine (bytes5_no _ _ _ _ hm h1).mono ?_; rintro e w' ⟨rfl, rfl⟩)
    go_ret
    exact ⟨rfl, rfl⟩

set_option maxHeartbeats 4000000 in
theorem law3 (a : Option Addr) (len cap : Nat) (zs : List Int) (w : World) (h : Rd w a len cap zs) (hn : len ≤ 65536) :
    Calls Try.prog 3 #[.slice a len cap] w fun e w' => e = .returned (.bool true) ∧ Below w.heap.size w w' := by
  have hq : decide ((65536 : Int) < (len : Int)) = false := by simp; omega
  have h20 : len ≤ 1048576 := by omega
  have H := Lib.hid h
  have Hl := Lib.hid h.len_eq
  clear h
  go_enter Try.func3, Try.ntmps3
  go_wp2_with (go_at_call 5; refine (bytes5_yes _ _ _ _ h20).mono ?_; rintro e w' ⟨rfl, rfl⟩)
  go_loopw [3, 4] (fun vh' vi wr => ∃ (i : Nat) (vh : Value), vh' = vh ∧ vi = .int .i64 i ∧ i ≤ len ∧ Hid (Has wr w.heap.size vh (Plain.pushAll (zs.take i))) ∧ Hid (Below w.heap.size w wr))
    (fun _ vi _ => len - (intOf vi).toNat)
  case atStart => exact ⟨0, _, rfl, rfl, by omega, Has.nil _ _, Below.refl _ _⟩
  case round =>
    obtain ⟨i, vh, hvh, rfl, hil, hhas, hbel⟩ := hrel
    obtain rfl := hvh.symm
    clear hvh
    have hlp : (Plain.pushAll (zs.take i)).length = i := by
      rw [(Plain.pushAll_props _).2.2]; simp; rw [Hl.out]; omega
    by_cases hlt : i < len
    · obtain ⟨b, off, rfl, hc⟩ := (H.out.below hbel.out).at_ (by omega)
      have hci := hc i hlt
      have HN : Hid (∀ t, t = zs.getD i 0 → Calls Try.prog 6 #[vh, .int .i32 t] wr fun e w' => ∃ v', e = .returned v' ∧ Has w' w.heap.size v' (Plain.pushAll (zs.take (i + 1))) ∧ Below w.heap.size wr w') := fun t ht => by
        rw [Plain.pushAll_take_succ _ _ (by rw [Hl.out]; exact hlt), ht]
        exact zzpush_any _ _ _ _ _ hhas.out hbel.out.size (by rw [hlp]; omega)
      obtain ⟨t, ht⟩ : ∃ t, t = zs.getD i 0 := ⟨_, rfl⟩
      rw [← ht] at hci
      have Ht := Lib.hid ht
      clear hc ht hlp
      go_wp2_with fail
      refine (HN.out _ Ht.out).mono ?_
      rintro e w1 ⟨v', rfl, h1, h2⟩
      have H1 := Lib.hid h1
      have H2 := Lib.hid h2
      clear h1 h2
      go_wp2_with fail
      go_roundw
      case rel => exact ⟨i + 1, _, rfl, by go_num, by omega, H1.out, hbel.out.trans H2.out⟩
      case measure => simp [intOf]; omega
    · obtain rfl : i = len := by omega
      have ez : zs.take i = zs := List.take_of_length_le (by rw [Hl.out]; omega)
      rw [ez] at hhas hlp
      obtain ⟨a', cap', rfl, hrd⟩ := hhas.out.rd
      rw [hlp] at hrd ⊢
      have HR := Lib.hid hrd
      have hpp := Plain.pushAll_props zs
      have HP := Lib.hid hpp
      clear hrd hlp hpp
      generalize Plain.pushAll zs = hs at *
      go_wp2_with fail
      refine (isHeap_any _ _ _ _ _ HR.out (by omega)).mono ?_
      rintro e w2 ⟨bb, rfl, hbb, nq, rfl⟩
      obtain rfl : bb = true := hbb.2 HP.out.1
      have HR2 := Lib.hid (HR.out.drewN nq)
      have HB2 : Hid (Below w.heap.size w (wr.drewN nq)) := ⟨hbel.out.os, hbel.out.tape, hbel.out.output, hbel.out.size, hbel.out.block⟩
      clear hbb HR hbel hhas
      generalize wr.drewN nq = w3 at *
      go_wp2_with fail
      refine (sort_any _ _ _ _ _ _ (Nat.le_refl _) HR2.out (by omega)).mono ?_
      rintro e w4 ⟨g1, rfl, hg1, hO1, hB1⟩
      have hlt1 := hO1.lt
      have HO1 := Lib.hid hO1
      have HB4 : Hid (Below w.heap.size w w4) := HB2.out.trans (hB1.mono HB2.out.size)
      have HR4 := Lib.hid (H.out.below HB4.out)
      clear hO1 hB1 HR2
      go_wp2_with fail
      refine (sort_any _ _ _ _ _ _ (Nat.le_refl _) HR4.out (by omega)).mono ?_
      rintro e w5 ⟨g2, rfl, hg2, hO2, hB2⟩
      have hlt2 := hO2.lt
      have HO2 := Lib.hid hO2
      have HO1' := Lib.hid (HO1.out.below hB2 hlt1)
      have HB5 : Hid (Below w.heap.size w w5) := HB4.out.trans (hB2.mono HB4.out.size)
      have es : Plain.sortI hs = Plain.sortI zs := Plain.sortI_congr HP.out.2.1
      have elen : (Plain.sortI zs).length = i := by rw [Plain.sortI_length]; exact Hl.out
      rw [es] at HO1'
      have HEL := Lib.hid elen
      clear hO2 hB2 HO1 HB4 HR4 es elen HP
      generalize Plain.sortI zs = ss at *
      go_wp2_with fail
      go_loopw [7] (fun vi wr => ∃ (k q : Nat), vi = .int .i64 k ∧ k ≤ i ∧ wr = w5.drewN q)
        (fun vi _ => i - (intOf vi).toNat)
      case atStart => exact ⟨0, 0, rfl, by omega, rfl⟩
      case round =>
        obtain ⟨k, q, rfl, hki, rfl⟩ := hrel
        by_cases hlt : k < i
        · have hc1 := HO1'.out.cell k (by rw [HEL.out]; exact hlt)
          have hc2 := HO2.out.cell k (by rw [HEL.out]; exact hlt)
          generalize ss.getD k 0 = x at hc1 hc2
          go_wp2_with fail
          go_big_quiet (fail)
          go_wp2_with fail
          go_roundw
          case rel => exact ⟨k + 1, q + nq, by go_num, by omega, rfl⟩
          case measure => simp [intOf]; omega
        · go_wp2_with fail
          go_ret
          exact ⟨rfl, ⟨HB5.out.os, HB5.out.tape, HB5.out.output, HB5.out.size, HB5.out.block⟩⟩
end Go.Proofs.Qxb6625989a
