import Derived.Test.Qxb6626073aRows
import Derived.WalkKit
import Derived.ProofKit
import Derived.OpenShut
import Derived.ShutString
import Derived.Deep.QuietTactic
import Derived.BigQuiet
import Derived.Lib.EndianBits
import Derived.Lib.Hide
namespace Go.Proofs.Qxb6626073a
open Go.ChangeShapes Go.WideShapes Go.ChangeAt Go.RowKit
set_option linter.unusedVariables false

theorem ret_int {k : IntKind} {a b : Int} (h : a = b) : Ending.returned (.int k a) = .returned (.int k b) := by rw [h]

/-- byte j of s, as a number -/
def bt (s : ByteArray) (j : Nat) : Int := ((s.data.toList.getD j 0).toNat : Int)
theorem bt_bd (s : ByteArray) (j : Nat) : 0 ≤ bt s j ∧ bt s j ≤ 255 := by
  have := (s.data.toList.getD j 0).toNat_lt
  unfold bt; omega
theorem bt_get (s : ByteArray) (j : Nat) (h : j < s.size) : ((s[j]'h).toNat : Int) = bt s j := by
  have h1 : j < s.data.toList.length := by rw [Array.length_toList]; exact h
  have h2 : s[j]'h = s.data.toList.getD j 0 := by
    simp only [List.getD_eq_getElem?_getD, List.getElem?_eq_getElem h1, Option.getD_some]
    rfl
  rw [h2, bt]
theorem run_idx (s : ByteArray) (i : Int) (j : Nat) (hij : i = (j : Int)) (h : j < s.size) (w : World) : (Instr.index 9 (.string s) (.int .i64 i)).run Try.prog w = .ok (.int .u8 (bt s j)) w := by
  subst hij
  rw [run_index_string w 9 s .i64 (j : Int) Try.underlying9, dif_pos ⟨by omega, by omega⟩]
  simp only [Int.toNat_natCast]
  rw [bt_get s j h]

def le4 (s : ByteArray) : Int := bt s 0 + bt s 1 * 256 + bt s 2 * 65536 + bt s 3 * 16777216

set_option maxHeartbeats 400000 in
theorem le32_any (s : ByteArray) (h : 4 ≤ s.size) (w : World) :
    Calls Try.prog 8 #[.string s] w fun e w' => e = .returned (.int .u64 (le4 s)) ∧ ∃ n, w' = w.drewN n := by
  have h0 := fun wx => run_idx s 0 0 rfl (by omega) wx
  have h1 := fun wx => run_idx s 1 1 rfl (by omega) wx
  have h2 := fun wx => run_idx s 2 2 rfl (by omega) wx
  have h3 := fun wx => run_idx s 3 3 rfl (by omega) wx
  obtain ⟨l0, u0⟩ := bt_bd s 0
  obtain ⟨l1, u1⟩ := bt_bd s 1
  obtain ⟨l2, u2⟩ := bt_bd s 2
  obtain ⟨l3, u3⟩ := bt_bd s 3
  have HF : Hid (le4 s = bt s 0 + bt s 1 * 256 + bt s 2 * 65536 + bt s 3 * 16777216) := rfl
  generalize bt s 0 = b0 at *
  generalize bt s 1 = b1 at *
  generalize bt s 2 = b2 at *
  generalize bt s 3 = b3 at *
  have e1 := u64_or8 (y := b0) (x := b1 * 256) l0 (by omega) (by omega) (by omega) (by omega)
  have e2 := u64_or16 (y := b0 + b1 * 256) (x := b2 * 65536) (by omega) (by omega) (by omega) (by omega) (by omega)
  have e3 := u64_or24 (y := b0 + b1 * 256 + b2 * 65536) (x := b3 * 16777216) (by omega) (by omega) (by omega) (by omega) (by omega)
  go_enter Try.func8, Try.ntmps8
  go_wp2
  go_big_quiet (fail)
  go_wp2
  go_ret
  exact ⟨ret_int HF.out.symm, nq, rfl⟩

set_option maxHeartbeats 400000 in
theorem zzle_any (s : ByteArray) (h : 4 ≤ s.size) (w : World) :
    Calls Try.prog 6 #[.string s] w fun e w' => e = .returned (.int .u64 (le4 s)) ∧ ∃ n, w' = w.drewN n := by
  have H := Lib.hid (le32_any s h w)
  generalize le4 s = x at *
  go_enter Try.func6, Try.ntmps6
  go_wp2_with fail
  refine H.out.mono ?_
  rintro e w1 ⟨rfl, n, rfl⟩
  go_wp2_with fail
  go_ret
  exact ⟨rfl, n, rfl⟩

set_option maxHeartbeats 400000 in
theorem bytes5_any (s : ByteArray) (w : World) (hm : s.size ≤ 9223372036854775807) :
    Calls Try.prog 5 #[.string s] w fun e w' => e = .returned (.bool (decide (s.size ≤ 1048576))) ∧ w = w' := by
  by_cases h : (s.size : Int) ≤ 1048576
  · have e : decide (s.size ≤ 1048576) = true := by simp; omega
    rw [e]
    go_enter Try.func5, Try.ntmps5
    go_wp2
    go_ret
    exact ⟨rfl, rfl⟩
  · have e : decide (s.size ≤ 1048576) = false := by simp; omega
    rw [e]
    go_enter Try.func5, Try.ntmps5
    go_wp2
    go_ret
    exact ⟨rfl, rfl⟩
set_option maxHeartbeats 400000 in
theorem bytes7_any (s : ByteArray) (i c : Int) (w : World) (hm : s.size ≤ 9223372036854775807) :
    Calls Try.prog 7 #[.string s, .int .i64 i, .int .u8 c] w fun e w' => e = .returned (.bool (decide (s.size ≤ 1048576))) ∧ w = w' := by
  by_cases h : (s.size : Int) ≤ 1048576
  · have e : decide (s.size ≤ 1048576) = true := by simp; omega
    rw [e]
    go_enter Try.func7, Try.ntmps7
    go_wp2
    go_ret
    exact ⟨rfl, rfl⟩
  · have e : decide (s.size ≤ 1048576) = false := by simp; omega
    rw [e]
    go_enter Try.func7, Try.ntmps7
    go_wp2
    go_ret
    exact ⟨rfl, rfl⟩
theorem bytes5_yes (s : ByteArray) (w : World) (hm : s.size ≤ 1048576) : Calls Try.prog 5 #[.string s] w fun e w' => e = .returned (.bool true) ∧ w = w' := by
  have := bytes5_any s w (by omega)
  rwa [show decide (s.size ≤ 1048576) = true by simpa using hm] at this
theorem bytes5_no (s : ByteArray) (w : World) (hm : s.size ≤ 9223372036854775807) (h : ¬ s.size ≤ 1048576) : Calls Try.prog 5 #[.string s] w fun e w' => e = .returned (.bool false) ∧ w = w' := by
  have := bytes5_any s w hm
  rwa [show decide (s.size ≤ 1048576) = false by simpa using h] at this
theorem bytes7_yes (s : ByteArray) (i c : Int) (w : World) (hm : s.size ≤ 1048576) : Calls Try.prog 7 #[.string s, .int .i64 i, .int .u8 c] w fun e w' => e = .returned (.bool true) ∧ w = w' := by
  have := bytes7_any s i c w (by omega)
  rwa [show decide (s.size ≤ 1048576) = true by simpa using hm] at this
theorem bytes7_no (s : ByteArray) (i c : Int) (w : World) (hm : s.size ≤ 9223372036854775807) (h : ¬ s.size ≤ 1048576) : Calls Try.prog 7 #[.string s, .int .i64 i, .int .u8 c] w fun e w' => e = .returned (.bool false) ∧ w = w' := by
  have := bytes7_any s i c w hm
  rwa [show decide (s.size ≤ 1048576) = false by simpa using h] at this
end Go.Proofs.Qxb6626073a
