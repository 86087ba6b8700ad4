import Derived.Test.Qxb6625290aDoorEsc
import Derived.Test.Qxb6625290aDoorLaws
namespace Go.Proofs.Qxb6625290aDoor
open Go.ChangeShapes Go.WideShapes Go.ChangeAt Go.RowKit
set_option linter.unusedVariables false

theorem Tryd.info5 : (Tryd.prog.info? 5).map (fun i => (i.zero, i.size, i.bytes)) = some (some (.int .u8 0), 1, 1) := by kernel_rfl

set_option maxHeartbeats 400000 in
theorem bytes_any (a : Option Addr) (len cap : Nat) (k d : Int) (w : World) (hm : len ≤ 9223372036854775807) :
    Calls Tryd.prog 4 #[.slice a len cap, .int .i64 k, .int .u8 d] w fun e w' => e = .returned (.bool (decide (len ≤ 1048576))) ∧ w' = w := by
  by_cases h : (len : Int) ≤ 1048576
  · have e : decide (len ≤ 1048576) = true := by simp; omega
    rw [e]
    go_enter Tryd.func4, Tryd.ntmps4
    go_wp2
    go_ret
    exact ⟨rfl, rfl⟩
  · have e : decide (len ≤ 1048576) = false := by simp; omega
    rw [e]
    go_enter Tryd.func4, Tryd.ntmps4
    go_wp2
    go_ret
    exact ⟨rfl, rfl⟩

theorem bytes_yes (a : Option Addr) (len cap : Nat) (k d : Int) (w : World) (hm : len ≤ 1048576) :
    Calls Tryd.prog 4 #[.slice a len cap, .int .i64 k, .int .u8 d] w fun e w' => e = .returned (.bool true) ∧ w' = w := by
  have := bytes_any a len cap k d w (by omega)
  rwa [show decide (len ≤ 1048576) = true by simpa using hm] at this
theorem bytes_no (a : Option Addr) (len cap : Nat) (k d : Int) (w : World) (hm : len ≤ 9223372036854775807) (h : ¬ len ≤ 1048576) :
    Calls Tryd.prog 4 #[.slice a len cap, .int .i64 k, .int .u8 d] w fun e w' => e = .returned (.bool false) ∧ w' = w := by
  have := bytes_any a len cap k d w hm
  rwa [show decide (len ≤ 1048576) = false by simpa using h] at this

set_option maxHeartbeats 400000 in
theorem early (a : Option Addr) (len cap : Nat) (k d : Int) (w : World) (hm : len ≤ 9223372036854775807) (hd0 : 0 ≤ d) (hd1 : d ≤ 255)
    (h : ¬ len ≤ 1048576 ∨ len < 6 ∨ k < 0 ∨ 3 < k ∨ hexV d < 0) :
    Calls Tryd.prog 3 #[.slice a len cap, .int .i64 k, .int .u8 d] w fun e w' => e = .returned (.bool true) ∧ w' = w := by
  by_cases h1 : len ≤ 1048576
  · by_cases h2 : len < 6
    · go_enter Tryd.func3, Tryd.ntmps3
      go_wp2_with (go_at_call 4; refine (bytes_yes _ _ _ _ _ _ h1).mono ?_; rintro e w' ⟨rfl, rfl⟩)
      go_ret
      exact ⟨rfl, rfl⟩
    · by_cases h3 : k < 0
      · go_enter Tryd.func3, Tryd.ntmps3
        go_wp2_with (go_at_call 4; refine (bytes_yes _ _ _ _ _ _ h1).mono ?_; rintro e w' ⟨rfl, rfl⟩)
        go_ret
        exact ⟨rfl, rfl⟩
      · by_cases h4 : 3 < k
        · go_enter Tryd.func3, Tryd.ntmps3
          go_wp2_with (go_at_call 4; refine (bytes_yes _ _ _ _ _ _ h1).mono ?_; rintro e w' ⟨rfl, rfl⟩)
          go_ret
          exact ⟨rfl, rfl⟩
        · have h5 : hexV d < 0 := by omega
          have Hh := Lib.hid (fun w => hexVal_any d hd0 hd1 w)
          generalize hexV d = x at *
          go_enter Tryd.func3, Tryd.ntmps3
          go_wp2_with (first | (go_at_call 4; refine (bytes_yes _ _ _ _ _ _ h1).mono ?_; rintro e w' ⟨rfl, rfl⟩) | (go_at_call 5; refine (Hh.out _).mono ?_; rintro e w' ⟨rfl, rfl⟩))
          go_ret
          exact ⟨rfl, rfl⟩
  · go_enter Tryd.func3, Tryd.ntmps3
    go_wp2_with (go_at_call 4; refine (bytes_no _ _ _ _ _ _ hm h1).mono ?_; rintro e w' ⟨rfl, rfl⟩)
    go_ret
    exact ⟨rfl, rfl⟩
end Go.Proofs.Qxb6625290aDoor
