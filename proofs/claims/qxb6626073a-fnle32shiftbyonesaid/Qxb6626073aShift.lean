import Derived.Test.Qxb6626073aBase
import Derived.Laws.BitsAllLaws
namespace Go.Proofs.Qxb6626073a
open Go.ChangeShapes Go.WideShapes Go.ChangeAt Go.RowKit
set_option linter.unusedVariables false

set_option maxHeartbeats 400000 in
theorem early3 (s : ByteArray) (w : World) (hm : s.size ≤ 9223372036854775807) (h : ¬ s.size ≤ 1048576 ∨ s.size < 4) :
    Calls Try.prog 3 #[.string s] w fun e w' => e = .returned (.bool true) ∧ w = w' := by
  by_cases h1 : s.size ≤ 1048576
  · have h2 : s.size < 4 := by omega
    go_enter Try.func3, Try.ntmps3
    go_wp2_with (go_at_call 5; refine (bytes5_yes _ _ h1).mono ?_; rintro e w' ⟨rfl, rfl⟩)
    go_ret
    exact ⟨rfl, rfl⟩
  · go_enter Try.func3, Try.ntmps3
    go_wp2_with (go_at_call 5; refine (bytes5_no _ _ hm h1).mono ?_; rintro e w' ⟨rfl, rfl⟩)
    go_ret
    exact ⟨rfl, rfl⟩

theorem shift_list (s : ByteArray) : (s.extract 1 s.size ++ (⟨#[0]⟩ : ByteArray)).data.toList = s.data.toList.drop 1 ++ [0] := by
  have e : s.data.extract 1 s.size = s.data.extract 1 s.data.size := rfl
  simp [ByteArray.data_append, ByteArray.data_extract, e]
  apply List.take_of_length_le
  simp

theorem shift_size (s : ByteArray) (h : 1 ≤ s.size) : (s.extract 1 s.size ++ (⟨#[0]⟩ : ByteArray)).size = s.size := by
  have := congrArg List.length (shift_list s)
  have e : s.data.toList.length = s.size := Array.length_toList
  have e2 : (s.extract 1 s.size ++ (⟨#[0]⟩ : ByteArray)).data.toList.length = (s.extract 1 s.size ++ (⟨#[0]⟩ : ByteArray)).size := Array.length_toList
  rw [e2] at this
  rw [this, List.length_append, List.length_drop, e]
  simp; omega

theorem shift_bt (s : ByteArray) (j : Nat) (h : j + 1 < s.size) : bt (s.extract 1 s.size ++ (⟨#[0]⟩ : ByteArray)) j = bt s (j + 1) := by
  have e : s.data.toList.length = s.size := Array.length_toList
  unfold bt
  rw [shift_list]
  simp only [List.getD_eq_getElem?_getD]
  rw [List.getElem?_append_left (by rw [List.length_drop, e]; omega), List.getElem?_drop, Nat.add_comm]

theorem and_mask32 (x : Int) (h0 : 0 ≤ x) (h1 : x < 18446744073709551616) : bits .and .u64 x 4294967295 = x % 4294967296 := by
  rw [u64_and x 4294967295 h0 h1 (by decide) (by decide)]
  have e : (4294967295 : Int).toNat = 2 ^ 32 - 1 := by decide
  rw [e, Nat.and_two_pow_sub_one_eq_mod]
  omega

set_option maxHeartbeats 1000000 in
theorem late3 (s : ByteArray) (w : World) (h4 : 4 ≤ s.size) (h20 : s.size ≤ 1048576) :
    Calls Try.prog 3 #[.string s] w fun e w' => e = .returned (.bool true) ∧ ∃ n, w' = w.drewN n := by
  have H := Lib.hid (fun w => zzle_any s h4 w)
  have H2 := Lib.hid (fun w => zzle_any (s.extract 1 s.size ++ (⟨#[0]⟩ : ByteArray)) (by rw [shift_size s (by omega)]; exact h4) w)
  have h0 := fun wx => run_idx s 0 0 rfl (by omega) wx
  obtain ⟨l0, u0⟩ := bt_bd s 0
  obtain ⟨l1, u1⟩ := bt_bd s 1
  obtain ⟨l2, u2⟩ := bt_bd s 2
  obtain ⟨l3, u3⟩ := bt_bd s 3
  obtain ⟨l4, u4⟩ := bt_bd (s.extract 1 s.size ++ (⟨#[0]⟩ : ByteArray)) 3
  have ev : le4 s = bt s 0 + bt s 1 * 256 + bt s 2 * 65536 + bt s 3 * 16777216 := rfl
  have ew : le4 (s.extract 1 s.size ++ (⟨#[0]⟩ : ByteArray)) = bt s 1 + bt s 2 * 256 + bt s 3 * 65536 + bt (s.extract 1 s.size ++ (⟨#[0]⟩ : ByteArray)) 3 * 16777216 := by
    unfold le4
    rw [shift_bt s 0 (by omega), shift_bt s 1 (by omega), shift_bt s 2 (by omega)]
  have bv : 0 ≤ le4 s ∧ le4 s < 4294967296 := by omega
  have bw : 0 ≤ le4 (s.extract 1 s.size ++ (⟨#[0]⟩ : ByteArray)) ∧ le4 (s.extract 1 s.size ++ (⟨#[0]⟩ : ByteArray)) < 4294967296 := by omega
  have key : bt s 0 + le4 (s.extract 1 s.size ++ (⟨#[0]⟩ : ByteArray)) * 256 % 4294967296 = le4 s := by omega
  clear ev ew l1 u1 l2 u2 l3 u3 l4 u4
  generalize bt s 0 = b0 at *
  generalize le4 s = v at *
  generalize hx : le4 (s.extract 1 s.size ++ (⟨#[0]⟩ : ByteArray)) = x at *
  clear hx
  obtain ⟨v0, v1⟩ := bv
  obtain ⟨x0, x1⟩ := bw
  have hand := and_mask32 (x * 256) (by omega) (by omega)
  have hor : bits .or .u64 b0 (x * 256 % 4294967296) = v := by
    rw [u64_or8 (y := b0) (x := x * 256 % 4294967296) l0 (by omega) (by omega) (by omega) (by omega)]; exact key
  have hd : decide (v < 4294967296) = true := by simpa using v1
  clear key
  go_enter Try.func3, Try.ntmps3
  go_wp2_with (go_at_call 5; refine (bytes5_yes _ _ h20).mono ?_; rintro e w' ⟨rfl, rfl⟩)
  refine (H.out _).mono ?_
  rintro e w1 ⟨rfl, n, rfl⟩
  go_wp2_with fail
  refine (H2.out _).mono ?_
  rintro e w1 ⟨rfl, m, rfl⟩
  go_wp2_with fail
  go_ret
  exact ⟨rfl, n + m, rfl⟩
end Go.Proofs.Qxb6626073a
