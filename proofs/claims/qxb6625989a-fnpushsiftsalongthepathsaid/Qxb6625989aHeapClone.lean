import Derived.Test.Qxb6625989aPush
namespace Go.Proofs.Qxb6625989a
open Go.ChangeShapes Go.WideShapes Go.ChangeAt Go.RowKit
set_option linter.unusedVariables false

set_option maxHeartbeats 1000000 in
theorem isHeap_any (a : Option Addr) (len cap : Nat) (zs : List Int) (w : World) (h : Rd w a len cap zs) (hn : len ≤ 200000) :
    Calls Try.prog 7 #[.slice a len cap] w fun e w' => ∃ b : Bool, e = .returned (.bool b) ∧ (b = true ↔ Plain.IsHeap zs) ∧ ∃ n, w' = w.drewN n := by
  have hlen := h.len_eq
  by_cases h1 : len ≤ 1
  · have hh : Plain.IsHeap zs := fun i h0 hi => by omega
    clear h hlen
    go_enter Try.func7, Try.ntmps7
    go_wp2_with fail
    refine wp_loop_rounds 1 ?_
    rw [rounds_succ]
    go_wp2_with fail
    go_ret
    exact ⟨true, rfl, by simpa using hh, 0, rfl⟩
  · obtain ⟨b, off, rfl, hcell⟩ := h.at_ (by omega)
    have Hc := Lib.hid hcell
    have Hl := Lib.hid hlen
    clear hcell hlen h
    go_enter Try.func7, Try.ntmps7
    go_wp2_with fail
    go_loopw [3] (fun vi wr => ∃ (i q : Nat), vi = .int .i64 i ∧ 1 ≤ i ∧ i ≤ len ∧ wr = w.drewN q ∧ Hid (∀ j, 0 < j → j < i → zs.getD ((j - 1) / 2) 0 ≤ zs.getD j 0))
      (fun vi _ => len - (intOf vi).toNat)
    case atStart => exact ⟨1, 0, rfl, by omega, by omega, rfl, fun j h h' => by omega⟩
    case round =>
      obtain ⟨i, q, rfl, hi1, hil, rfl, hall⟩ := hrel
      by_cases hlt : i < len
      · have hc1 := Hc.out ((i - 1) / 2) (by omega)
        have hc2 := Hc.out i (by omega)
        have hp : (i - 1) / 2 < i := by omega
        obtain ⟨xp, hxp⟩ : ∃ x, x = zs.getD ((i - 1) / 2) 0 := ⟨_, rfl⟩
        obtain ⟨xi, hxi⟩ : ∃ x, x = zs.getD i 0 := ⟨_, rfl⟩
        rw [← hxp] at hc1
        rw [← hxi] at hc2
        have Hxp := Lib.hid hxp
        have Hxi := Lib.hid hxi
        clear hxp hxi
        by_cases hle : xp ≤ xi
        · have HA : Hid (∀ j, 0 < j → j < i + 1 → zs.getD ((j - 1) / 2) 0 ≤ zs.getD j 0) := fun j h0 hj => by
            by_cases e : j = i
            · subst e; rw [← Hxp.out, ← Hxi.out]; exact hle
            · exact hall.out j h0 (by omega)
          go_wp2_with fail
          go_quiet (fail)
          go_wp2_with fail
          go_roundw
          case rel => exact ⟨i + 1, q + nq, by go_num, by omega, by omega, rfl, HA.out⟩
          case measure => simp [intOf]; omega
        · have HA : Hid (¬ Plain.IsHeap zs) := fun hh => by
            have := hh i (by omega) (by rw [Hl.out]; exact hlt)
            rw [← Hxp.out, ← Hxi.out] at this
            exact hle this
          go_wp2_with fail
          go_quiet (fail)
          go_wp2_with fail
          go_ret
          exact ⟨false, rfl, by simpa using HA.out, q + nq, by rw [World.drewN_drewN]⟩
      · have HA : Hid (Plain.IsHeap zs) := fun j h0 hj => hall.out j h0 (by rw [Hl.out] at hj; omega)
        go_wp2_with fail
        go_ret
        exact ⟨true, rfl, by simpa using HA.out, q, rfl⟩

theorem sz21 : (Try.prog.info? 21).map (·.size) = some 1 := by
  obtain ⟨i0, hi, hz0, hz1, hz2⟩ := info_parts Try.info21
  rw [hi]; simp [hz1]

set_option maxHeartbeats 1000000 in
theorem clone_any (a : Option Addr) (len cap : Nat) (zs : List Int) (w : World) (h : Rd w a len cap zs) (hn : len ≤ 200000) :
    Calls Try.prog 10 #[.slice a len cap] w fun e w' => ∃ v', e = .returned v' ∧ Has w' w.heap.size v' zs ∧ Below w.heap.size w w' := by
  obtain ⟨i0, hi, hz0, hz1, hz2⟩ := info_parts Try.info21
  have hne := fun wx => Lib.run_eql_slice_nil (P := Try.prog) wx 22 21 a len cap 0 0 Try.underlying22
  cases a with
  | none =>
    obtain ⟨rfl, rfl⟩ := h.nil rfl
    obtain rfl : zs = [] := List.eq_nil_of_length_eq_zero h.len_eq
    clear h
    go_enter Try.func10, Try.ntmps10
    go_wp2_with fail
    go_ret
    exact ⟨_, rfl, Has.nil _ _, Below.refl _ _⟩
  | some x =>
    have H := Lib.hid h
    have hb1 : i0.bytes * len ≤ 281474976710656 := by rw [hz2]; omega
    have hb2 : len ≤ maxLen := by unfold maxLen; omega
    clear h
    go_enter Try.func10, Try.ntmps10
    go_wp2_with (at_make; refine wpList_make_ints _ rfl _ _ 22 rfl 21 .i32 i0 Try.underlying22 hi hz0 hz1 _ _ _ _ len rfl rfl rfl rfl hb1 hb2 ?_; intro w1 hO1 hB1 hS1; have HO1 := Lib.hid hO1; have HB1 := Lib.hid hB1; have HS1 := Lib.hid hS1; clear hO1 hB1 hS1)
    obtain ⟨w2, hrun, hO2, hB2, hS2⟩ := run_copy_ints (P := Try.prog) (w := w1) 22 22 3 21 .i32 Try.underlying22 sz21 w.heap.size len len (some x) len cap (List.replicate len 0) HO1.out (by simp) zs H.out.len_eq (Nat.le_refl _) (fun hp => by
      obtain ⟨b, off, e, hc⟩ := (H.out.below HB1.out).at_ hp
      exact ⟨_, e, fun j hj => by rw [add_plain']; exact hc j hj⟩)
    rw [hrun]
    clear hrun
    have e : zs ++ (List.replicate len (0 : Int)).drop len = zs := by simp
    rw [e] at hO2
    have HF : Hid (Has w2 w.heap.size (.slice (some ⟨w.heap.size, 0, none⟩) len len) zs) := by
      have := hO2.has (base := w.heap.size) (Nat.le_refl _) (by rw [H.out.len_eq]; exact hb2)
      rw [H.out.len_eq] at this; exact this
    have HB : Hid (Below w.heap.size w w2) := HB1.out.trans hB2
    clear hO2 hB2 hS2 e HO1 HB1 HS1
    go_wp2_with fail
    go_ret
    exact ⟨_, rfl, HF.out, HB.out⟩

set_option maxHeartbeats 400000 in
theorem bytes5_any (a : Option Addr) (len cap : Nat) (w : World) (hm : len ≤ 9223372036854775807) :
    Calls Try.prog 5 #[.slice a len cap] w fun e w' => e = .returned (.bool (decide (len ≤ 1048576))) ∧ w = w' := by
  by_cases h : (len : Int) ≤ 1048576
  · have e : decide (len ≤ 1048576) = true := by simp; omega
    rw [e]
    go_enter Try.func5, Try.ntmps5
    go_wp2
    go_ret
    exact ⟨rfl, rfl⟩
  · have e : decide (len ≤ 1048576) = false := by simp; omega
    rw [e]
    go_enter Try.func5, Try.ntmps5
    go_wp2
    go_ret
    exact ⟨rfl, rfl⟩
set_option maxHeartbeats 400000 in
theorem bytes9_any (a : Option Addr) (len cap : Nat) (t : Int) (w : World) (hm : len ≤ 9223372036854775807) :
    Calls Try.prog 9 #[.slice a len cap, .int .i32 t] w fun e w' => e = .returned (.bool (decide (len ≤ 1048576))) ∧ w = w' := by
  by_cases h : (len : Int) ≤ 1048576
  · have e : decide (len ≤ 1048576) = true := by simp; omega
    rw [e]
    go_enter Try.func9, Try.ntmps9
    go_wp2
    go_ret
    exact ⟨rfl, rfl⟩
  · have e : decide (len ≤ 1048576) = false := by simp; omega
    rw [e]
    go_enter Try.func9, Try.ntmps9
    go_wp2
    go_ret
    exact ⟨rfl, rfl⟩
end Go.Proofs.Qxb6625989a
