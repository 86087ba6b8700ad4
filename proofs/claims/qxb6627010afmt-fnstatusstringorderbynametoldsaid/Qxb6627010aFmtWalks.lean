import Derived.Test.Qxb6627010aFmtRows
import Derived.WalkKit
import Derived.ProofKit
import Derived.OpenShut
import Derived.Deep.QuietTactic
import Derived.BigQuiet
import Derived.Lib.Hide
namespace Go.Proofs.Qxb6627010aFmt
open Go.ChangeShapes Go.WideShapes Go.ChangeAt Go.RowKit
set_option linter.unusedVariables false

/-- byte j of s, as a number -/
def bt (s : ByteArray) (j : Nat) : Int := ((s.data.toList.getD j 0).toNat : Int)
theorem bt_bd (s : ByteArray) (j : Nat) : 0 ≤ bt s j ∧ bt s j ≤ 255 := by
  have := (s.data.toList.getD j 0).toNat_lt
  unfold bt; omega
theorem bt_get (s : ByteArray) (j : Nat) (h : j < s.size) : ((s[j]'h).toNat : Int) = bt s j := by
  have h1 : j < s.data.toList.length := by rw [Array.length_toList]; exact h
  have h2 : s[j]'h = s.data.toList.getD j 0 := by
    simp only [List.getD_eq_getElem?_getD, List.getElem?_eq_getElem h1, Option.getD_some]
    rfl
  rw [h2, bt]
theorem run_idx (s : ByteArray) (i : Int) (j : Nat) (hij : i = (j : Int)) (h : j < s.size) (w : World) : (Instr.index 9 (.string s) (.int .i64 i)).run Tryf.prog w = .ok (.int .u8 (bt s j)) w := by
  subst hij
  rw [run_index_string w 9 s .i64 (j : Int) Tryf.underlying9, dif_pos ⟨by omega, by omega⟩]
  simp only [Int.toNat_natCast]
  rw [bt_get s j h]

/-- the three names -/
def nm (k : Int) : ByteArray := if k = 0 then ⟨#[103, 111, 111, 100]⟩ else if k = 1 then ⟨#[114, 101, 118, 111, 107, 101, 100]⟩ else ⟨#[117, 110, 107, 110, 111, 119, 110]⟩

set_option maxHeartbeats 400000 in
theorem string_any (k : Int) (h0 : 0 ≤ k) (h2 : k ≤ 2) (w : World) :
    Calls Tryf.prog 4 #[.int .i64 k] w fun e w' => e = .returned (.string (nm k)) ∧ w = w' := by
  have : k = 0 ∨ k = 1 ∨ k = 2 := by omega
  rcases this with rfl | rfl | rfl
  · go_enter Tryf.func4, Tryf.ntmps4
    go_wp2_with fail
    go_ret
    exact ⟨rfl, rfl⟩
  · go_enter Tryf.func4, Tryf.ntmps4
    go_wp2_with fail
    go_ret
    exact ⟨rfl, rfl⟩
  · go_enter Tryf.func4, Tryf.ntmps4
    go_wp2_with fail
    go_ret
    exact ⟨rfl, rfl⟩

set_option maxHeartbeats 400000 in
theorem lower_any (s : ByteArray) (w : World) (hp : 0 < s.size) (hm : s.size ≤ 1000) (hl : ∀ j, j < s.size → 97 ≤ bt s j ∧ bt s j ≤ 122) :
    Calls Tryf.prog 5 #[.string s] w fun e w' => e = .returned (.bool true) ∧ w = w' := by
  have hz : ((s.size : Int) == 0) = false := beq_eq_false_iff_ne.2 (by omega)
  have HL := Lib.hid hl
  clear hl
  go_enter Tryf.func5, Tryf.ntmps5
  go_wp2_with fail
  go_loop [3] (fun vi => ∃ i : Nat, vi = .int .i64 i ∧ i ≤ s.size) (fun vi => s.size - (intOf vi).toNat)
  case atStart => exact ⟨0, rfl, by omega⟩
  case round =>
    obtain ⟨i, rfl, hi⟩ := hrel
    by_cases hlt : i < s.size
    · have hix := fun wx => run_idx s i i rfl hlt wx
      obtain ⟨l, u⟩ := HL.out i hlt
      generalize bt s i = x at *
      go_wp2_with fail
      go_round
      case rel => exact ⟨i + 1, by go_num, by omega⟩
      case measure => simp [intOf]; omega
    · go_wp2_with fail
      go_ret
      exact ⟨rfl, rfl⟩

set_option maxHeartbeats 400000 in
theorem less_same (s : ByteArray) (w : World) (hm : s.size ≤ 1000) :
    Calls Tryf.prog 6 #[.string s, .string s] w fun e w' => e = .returned (.bool false) ∧ ∃ n, w' = w.drewN n := by
  go_enter Tryf.func6, Tryf.ntmps6
  go_wp2_with fail
  go_loopw [6] (fun vi wr => ∃ i n : Nat, vi = .int .i64 i ∧ i ≤ s.size ∧ wr = w.drewN n) (fun vi _ => s.size - (intOf vi).toNat)
  case atStart => exact ⟨0, 0, rfl, by omega, rfl⟩
  case round =>
    obtain ⟨i, n, rfl, hi, rfl⟩ := hrel
    by_cases hlt : i < s.size
    · have hix := fun wx => run_idx s i i rfl hlt wx
      generalize bt s i = x at *
      go_wp2_with fail
      go_big_quiet (fail)
      go_wp2_with fail
      go_roundw
      case rel => exact ⟨i + 1, n + nq, by go_num, by omega, rfl⟩
      case measure => simp [intOf]; omega
    · go_wp2_with fail
      go_ret
      exact ⟨rfl, n, rfl⟩

set_option maxHeartbeats 400000 in
theorem less_other (a b : ByteArray) (w : World) (ha : 0 < a.size) (hb : 0 < b.size) (hma : a.size ≤ 1000) (hmb : b.size ≤ 1000) (hne : (bt a 0 != bt b 0) = true) :
    Calls Tryf.prog 6 #[.string a, .string b] w fun e w' => e = .returned (.bool (decide (bt a 0 < bt b 0))) ∧ ∃ n, w' = w.drewN n := by
  have hia := fun wx => run_idx a 0 0 rfl ha wx
  have hib := fun wx => run_idx b 0 0 rfl hb wx
  generalize bt a 0 = x at *
  generalize bt b 0 = y at *
  by_cases hlt : (b.size : Int) < (a.size : Int)
  all_goals
    go_enter Tryf.func6, Tryf.ntmps6
    go_wp2_with fail
    refine wp_loop_rounds 1 ?_
    rw [rounds_succ]
    go_wp2_with fail
    go_big_quiet (fail)
    go_wp2_with fail
    go_big_quiet (fail)
    go_wp2_with fail
    go_ret
    exact ⟨rfl, _, by exact World.drewN_drewN ..⟩

set_option maxHeartbeats 400000 in
theorem pref_other (x p : ByteArray) (w : World) (hx : 0 < x.size) (hp : 0 < p.size) (hmx : x.size ≤ 1000) (hmp : p.size ≤ 1000) (hne : (bt x 0 != bt p 0) = true) :
    Calls Tryf.prog 7 #[.string x, .string p] w fun e w' => e = .returned (.bool false) ∧ ∃ n, w' = w.drewN n := by
  have hia := fun wx => run_idx x 0 0 rfl hx wx
  have hib := fun wx => run_idx p 0 0 rfl hp wx
  generalize bt x 0 = a at *
  generalize bt p 0 = b at *
  by_cases hlt : (x.size : Int) < (p.size : Int)
  · go_enter Tryf.func7, Tryf.ntmps7
    go_wp2_with fail
    go_ret
    exact ⟨rfl, 0, rfl⟩
  · go_enter Tryf.func7, Tryf.ntmps7
    go_wp2_with fail
    refine wp_loop_rounds 1 ?_
    rw [rounds_succ]
    go_wp2_with fail
    go_big_quiet (fail)
    go_wp2_with fail
    go_ret
    exact ⟨rfl, _, rfl⟩

theorem nm_facts (k : Int) (h0 : 0 ≤ k) (h2 : k ≤ 2) : 0 < (nm k).size ∧ (nm k).size ≤ 1000 ∧ (∀ j, j < (nm k).size → 97 ≤ bt (nm k) j ∧ bt (nm k) j ≤ 122) ∧ bt (nm k) 0 = (if k = 0 then 103 else if k = 1 then 114 else 117) := by
  have : k = 0 ∨ k = 1 ∨ k = 2 := by omega
  rcases this with rfl | rfl | rfl
  · exact ⟨by decide, by decide, by decide, by decide⟩
  · exact ⟨by decide, by decide, by decide, by decide⟩
  · exact ⟨by decide, by decide, by decide, by decide⟩

set_option maxHeartbeats 400000 in
theorem early (s t : Int) (w : World) (h : s < 0 ∨ 2 < s ∨ t < 0 ∨ 2 < t) :
    Calls Tryf.prog 3 #[.int .i64 s, .int .i64 t] w fun e w' => e = .returned (.bool true) ∧ ∃ n, w' = w.drewN n := by
  by_cases h1 : s < 0
  · go_enter Tryf.func3, Tryf.ntmps3
    go_wp2_with fail
    go_ret
    exact ⟨rfl, 0, rfl⟩
  · by_cases h2 : 2 < s
    · go_enter Tryf.func3, Tryf.ntmps3
      go_wp2_with fail
      go_ret
      exact ⟨rfl, 0, rfl⟩
    · by_cases h3 : t < 0
      · go_enter Tryf.func3, Tryf.ntmps3
        go_wp2_with fail
        go_ret
        exact ⟨rfl, 0, rfl⟩
      · have h4 : 2 < t := by omega
        go_enter Tryf.func3, Tryf.ntmps3
        go_wp2_with fail
        go_ret
        exact ⟨rfl, 0, rfl⟩

set_option maxHeartbeats 1000000 in
theorem late_same (s : Int) (w : World) (h0 : 0 ≤ s) (h2 : s ≤ 2) :
    Calls Tryf.prog 3 #[.int .i64 s, .int .i64 s] w fun e w' => e = .returned (.bool true) ∧ ∃ n, w' = w.drewN n := by
  obtain ⟨f1, f2, f3, _⟩ := nm_facts s h0 h2
  have H1 := Lib.hid (fun w => string_any s h0 h2 w)
  have H2 := Lib.hid (fun w => lower_any (nm s) w f1 f2 f3)
  have H3 := Lib.hid (fun w => less_same (nm s) w f2)
  clear f3
  generalize nm s = a at *
  go_enter Tryf.func3, Tryf.ntmps3
  go_wp2_with (first | (go_at_call 4; refine (H1.out _).mono ?_; rintro e w' ⟨rfl, rfl⟩) | (go_at_call 5; refine (H2.out _).mono ?_; rintro e w' ⟨rfl, rfl⟩) | (go_at_call 6; refine (H3.out _).mono ?_; rintro e w' ⟨rfl, n, rfl⟩))
  go_ret
  exact ⟨rfl, _, rfl⟩

set_option maxHeartbeats 1000000 in
theorem late_other (s t : Int) (w : World) (h0 : 0 ≤ s) (h2 : s ≤ 2) (k0 : 0 ≤ t) (k2 : t ≤ 2) (hne : s ≠ t) :
    Calls Tryf.prog 3 #[.int .i64 s, .int .i64 t] w fun e w' => e = .returned (.bool true) ∧ ∃ n, w' = w.drewN n := by
  obtain ⟨f1, f2, f3, f4⟩ := nm_facts s h0 h2
  obtain ⟨g1, g2, g3, g4⟩ := nm_facts t k0 k2
  have hb : (bt (nm s) 0 != bt (nm t) 0) = true := by
    rw [bne_iff_ne, f4, g4]; (repeat' split) <;> omega
  have hb' : (bt (nm t) 0 != bt (nm s) 0) = true := by
    rw [bne_iff_ne, f4, g4]; (repeat' split) <;> omega
  have hd : decide (bt (nm s) 0 < bt (nm t) 0) = decide (s < t) := by
    rw [decide_eq_decide, f4, g4]; (repeat' split) <;> omega
  have H1 := Lib.hid (fun w => string_any s h0 h2 w)
  have H1' := Lib.hid (fun w => string_any t k0 k2 w)
  have H2 := Lib.hid (fun w => lower_any (nm s) w f1 f2 f3)
  have H2' := Lib.hid (fun w => lower_any (nm t) w g1 g2 g3)
  have H3 := Lib.hid (fun w => less_other (nm s) (nm t) w f1 g1 f2 g2 hb)
  have H4 := Lib.hid (fun w => pref_other (nm s) (nm t) w f1 g1 f2 g2 hb)
  have H4' := Lib.hid (fun w => pref_other (nm t) (nm s) w g1 f1 g2 f2 hb')
  rw [hd] at H3
  have hnb : (s != t) = true := by simpa using hne
  clear f3 f4 g3 g4 hb hb' hd hne
  generalize nm s = a at *
  generalize nm t = b at *
  go_enter Tryf.func3, Tryf.ntmps3
  go_wp2_with fail
  refine (H1.out _).mono ?_
  rintro e w' ⟨rfl, rfl⟩
  go_wp2_with fail
  refine (H1'.out _).mono ?_
  rintro e w' ⟨rfl, rfl⟩
  go_wp2_with fail
  refine (H2.out _).mono ?_
  rintro e w' ⟨rfl, rfl⟩
  go_wp2_with fail
  refine (H2'.out _).mono ?_
  rintro e w' ⟨rfl, rfl⟩
  go_wp2_with fail
  refine (H3.out _).mono ?_
  rintro e w' ⟨rfl, n, rfl⟩
  go_wp2_with fail
  refine (H4.out _).mono ?_
  rintro e w' ⟨rfl, m, rfl⟩
  go_wp2_with fail
  refine (H4'.out _).mono ?_
  rintro e w' ⟨rfl, k, rfl⟩
  go_wp2_with fail
  go_ret
  exact ⟨rfl, _, rfl⟩
end Go.Proofs.Qxb6627010aFmt
