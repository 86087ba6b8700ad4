import Derived.Test.Qxb6625290aDoorRows
import Derived.WalkKit
import Derived.ProofKit
import Derived.OpenShut
import Derived.Deep.QuietTactic
import Derived.BigQuiet
import Derived.Lib.ConvBytes
import Derived.Lib.AtoiErrMem
import Derived.Lib.Hide
import Derived.Laws.BytesArg
namespace Go.Proofs.Qxb6625290aDoor
open Go.ChangeShapes Go.WideShapes Go.ChangeAt Go.RowKit
set_option linter.unusedVariables false
/-- a hex digit's value, or -1 -/
def hexV (c : Int) : Int := if 48 ≤ c ∧ c ≤ 57 then c - 48 else if 97 ≤ c ∧ c ≤ 102 then c - 87 else if 65 ≤ c ∧ c ≤ 70 then c - 55 else -1

theorem ret_int {k : IntKind} {a b : Int} (h : a = b) : Ending.returned (.int k a) = .returned (.int k b) := by rw [h]

set_option maxHeartbeats 400000 in
theorem hexVal_any (c : Int) (h0 : 0 ≤ c) (h1 : c ≤ 255) (w : World) :
    Calls Tryd.prog 5 #[.int .u8 c] w fun e w' => e = .returned (.int .i64 (hexV c)) ∧ w' = w := by
  go_enter Tryd.func5, Tryd.ntmps5
  go_wp2
  all_goals go_ret
  all_goals refine ⟨ret_int ?_, rfl⟩
  all_goals unfold hexV
  all_goals (repeat' split) <;> omega

theorem or32_hi (c : Int) (h : 65 ≤ c ∧ c ≤ 70) : bits .or .u8 c 32 = c + 32 := by
  have : c = 65 ∨ c = 66 ∨ c = 67 ∨ c = 68 ∨ c = 69 ∨ c = 70 := by omega
  rcases this with rfl | rfl | rfl | rfl | rfl | rfl <;> decide
theorem or32_lo (c : Int) (h : 97 ≤ c ∧ c ≤ 102) : bits .or .u8 c 32 = c := by
  have : c = 97 ∨ c = 98 ∨ c = 99 ∨ c = 100 ∨ c = 101 ∨ c = 102 := by omega
  rcases this with rfl | rfl | rfl | rfl | rfl | rfl <;> decide

set_option maxHeartbeats 400000 in
theorem lower_any (c : Int) (w : World) :
    Calls Tryd.prog 11 #[.int .u8 c] w fun e w' => e = .returned (.int .u8 (bits .or .u8 c 32)) ∧ w' = w := by
  go_enter Tryd.func11, Tryd.ntmps11
  go_wp2
  go_ret
  exact ⟨rfl, rfl⟩

theorem lower_hi (c : Int) (w : World) (h : 65 ≤ c ∧ c ≤ 70) :
    Calls Tryd.prog 11 #[.int .u8 c] w fun e w' => e = .returned (.int .u8 (c + 32)) ∧ w' = w := by
  rw [← or32_hi c h]; exact lower_any c w
theorem lower_lo (c : Int) (w : World) (h : 97 ≤ c ∧ c ≤ 102) :
    Calls Tryd.prog 11 #[.int .u8 c] w fun e w' => e = .returned (.int .u8 c) ∧ w' = w := by
  have := lower_any c w
  rw [or32_lo c h] at this; exact this

/-- the value of the first k hex digits -/
def vv (f : Nat → Int) : Nat → Int
  | 0 => 0
  | k + 1 => vv f k * 16 + hexV (f k)
def byteAt (t : ByteArray) (j : Nat) : Int := ((t.data.toList.getD j 0).toNat : Int)
theorem hexV_le (c : Int) : hexV c ≤ 15 := by unfold hexV; (repeat' split) <;> omega
theorem vv_bd (f : Nat → Int) (k : Nat) (h : ∀ j, j < k → 0 ≤ hexV (f j)) : 0 ≤ vv f k ∧ vv f k < 16 ^ k := by
  induction k with
  | zero => simp [vv]
  | succ k ih =>
    obtain ⟨a, b⟩ := ih (fun j hj => h j (by omega))
    have := h k (by omega)
    have := hexV_le (f k)
    rw [vv, Int.pow_succ]
    omega
theorem vv_bd4 (f : Nat → Int) (k : Nat) (hk : k ≤ 4) (h : ∀ j, j < 4 → 0 ≤ hexV (f j)) : 0 ≤ vv f k ∧ vv f k ≤ 65535 ∧ (k < 4 → vv f k ≤ 4095) := by
  obtain ⟨a, b⟩ := vv_bd f k (fun j hj => h j (by omega))
  have : k = 0 ∨ k = 1 ∨ k = 2 ∨ k = 3 ∨ k = 4 := by omega
  rcases this with rfl | rfl | rfl | rfl | rfl <;> omega

set_option maxHeartbeats 3200000 in
set_option maxRecDepth 100000 in
theorem inner_parse (t : ByteArray) (h4 : t.size = 4) (hx : ∀ j, j < 4 → 0 ≤ hexV (byteAt t j)) (w : World) :
    Calls Tryd.prog 9 #[.string t, .int .i64 16, .int .i64 16] w fun e w' => e = .returned (.tuple #[.int .u64 (vv (byteAt t) 4), .nilIface]) ∧ Below w.heap.size w w' := by
  have hemp : t.toList.isEmpty = false := by
    rw [← decide_eq_emptyBytes]
    exact decide_eq_false (fun h => by rw [h] at h4; simp at h4)
  have hcv := Lib.run_convert_string_bytes (P := Tryd.prog) w 9 22 5 t (u := .string) Tryd.underlying9 Tryd.underlying22 Tryd.underlying5
  have hB : ∀ j, j < 4 → (Lib.bytesWorld w 5 t).cell? ⟨w.heap.size, j, none⟩ = some (.int .u8 (byteAt t j)) := fun j hj => Lib.bytesWorld_cell w 5 t j (by omega)
  have hbel : Below w.heap.size w (Lib.bytesWorld w 5 t) := Lib.bytesWorld_below w 5 t
  have hbb : ∀ j, 0 ≤ byteAt t j ∧ byteAt t j ≤ 255 := fun j => by
    have := (t.data.toList.getD j 0).toNat_lt
    unfold byteAt; omega
  obtain ⟨W1, hW1⟩ : ∃ W1, W1 = Lib.bytesWorld w 5 t := ⟨_, rfl⟩
  rw [← hW1] at hcv hB hbel
  clear hW1
  rw [h4] at hcv
  generalize byteAt t = f at *
  have Hx := Lib.hid hx
  have Hb := Lib.hid hbb
  have HB := Lib.hid hB
  have Hbel := Lib.hid hbel
  clear hx hbb hB hbel
  have hs4 : t.size ≤ 4 := by omega
  have hs4' : 4 ≤ t.size := by omega
  clear h4
  go_enter Tryd.func9, Tryd.ntmps9
  go_wp2
  go_loop [12, 13, 101] (fun vu vn vi => ∃ (k : Nat) (a : Int), vu = .bool false ∧ vn = .int .u64 a ∧ vi = .int .i64 k ∧ k ≤ 4 ∧ Hid (a = vv f k))
    (fun _ _ vi => 4 - (intOf vi).toNat)
  case atStart => exact ⟨0, 0, rfl, rfl, rfl, by omega, rfl⟩
  case round =>
    obtain ⟨k, a, rfl, rfl, rfl, hk, ha⟩ := hrel
    have bd := vv_bd4 f k hk Hx.out
    rw [← ha.out] at bd
    obtain ⟨a0, a1, a2⟩ := bd
    by_cases hkn : k < 4
    · have a3 := a2 hkn
      have hc := HB.out k hkn
      have hb := Hb.out k
      have hh := Hx.out k hkn
      have HA : Hid (vv f (k + 1) = a * 16 + hexV (f k)) := by rw [ha.out]; rfl
      generalize f k = c at hc hb hh HA
      obtain ⟨c0, c1⟩ := hb
      have hcase : (48 ≤ c ∧ c ≤ 57 ∧ hexV c = c - 48) ∨ (97 ≤ c ∧ c ≤ 102 ∧ hexV c = c - 87) ∨ (65 ≤ c ∧ c ≤ 70 ∧ hexV c = c - 55) := by
        revert hh; unfold hexV; (repeat' split) <;> omega
      clear a2 hh
      rcases hcase with ⟨d0, d1, hd⟩ | ⟨d0, d1, hd⟩ | ⟨d0, d1, hd⟩
      · rw [hd] at HA; clear hd
        go_wp2_with fail
        go_round
        case rel => exact ⟨k + 1, a * 16 + (c - 48), rfl, by go_num, by go_num, by omega, HA.out.symm⟩
        case measure => simp [intOf]; omega
      · rw [hd] at HA; clear hd
        go_wp2_with (go_at_call 11; refine (lower_lo _ _ ⟨d0, d1⟩).mono ?_; rintro e w' ⟨rfl, rfl⟩)
        go_round
        case rel => exact ⟨k + 1, a * 16 + (c - 87), rfl, by go_num, by go_num, by omega, HA.out.symm⟩
        case measure => simp [intOf]; omega
      · rw [hd] at HA; clear hd
        go_wp2_with (go_at_call 11; refine (lower_hi _ _ ⟨d0, d1⟩).mono ?_; rintro e w' ⟨rfl, rfl⟩)
        go_round
        case rel => exact ⟨k + 1, a * 16 + (c - 55), rfl, by go_num, by go_num, by omega, HA.out.symm⟩
        case measure => simp [intOf]; omega
    · have hkk : k = 4 := by omega
      subst hkk
      go_wp2_with fail
      go_ret2
      rw [← ha.out]
      exact ⟨rfl, Hbel.out⟩
end Go.Proofs.Qxb6625290aDoor
