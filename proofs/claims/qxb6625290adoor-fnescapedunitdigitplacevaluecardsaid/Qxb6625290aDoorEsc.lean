import Derived.Test.Qxb6625290aDoorHex
namespace Go.Proofs.Qxb6625290aDoor
open Go.ChangeShapes Go.WideShapes Go.ChangeAt Go.RowKit
set_option linter.unusedVariables false

set_option maxHeartbeats 400000 in
theorem parse_any (t : ByteArray) (h4 : t.size = 4) (hx : ∀ j, j < 4 → 0 ≤ hexV (byteAt t j)) (w : World) :
    Calls Tryd.prog 8 #[.string t, .int .i64 16, .int .i64 16] w fun e w' => e = .returned (.tuple #[.int .u64 (vv (byteAt t) 4), .nilIface]) ∧ Below w.heap.size w w' := by
  have hin := fun w => inner_parse t h4 hx w
  have Hin := Lib.hid hin
  clear hin hx
  generalize vv (byteAt t) 4 = n at *
  go_enter Tryd.func8, Tryd.ntmps8
  go_wp2_with (go_at_call 9; refine (Hin.out _).mono ?_; rintro e w' ⟨rfl, hb⟩)
  go_ret2
  exact ⟨rfl, hb⟩

theorem vv_congr (f g : Nat → Int) (k : Nat) (h : ∀ j, j < k → f j = g j) : vv f k = vv g k := by
  induction k with
  | zero => rfl
  | succ k ih => rw [vv, vv, ih (fun j hj => h j (by omega)), h k (by omega)]

theorem hexV_range {c : Int} (h : 0 ≤ hexV c) : 48 ≤ c ∧ c ≤ 102 := by
  revert h; unfold hexV; (repeat' split) <;> omega

theorem byteAt_str (xs : List Int) (j : Nat) (hj : j < xs.length) (h0 : 0 ≤ xs.getD j 0) (h1 : xs.getD j 0 ≤ 255) : byteAt (strOfNums xs) j = xs.getD j 0 := by
  unfold byteAt
  rw [strOfNums_data]
  simp only [List.getD_eq_getElem?_getD, List.getElem?_map, List.getElem?_eq_getElem hj, Option.map_some, Option.getD_some] at *
  simp [UInt8.toNat_ofNat']
  omega

set_option maxHeartbeats 400000 in
theorem escaped_any (b off len cap : Nat) (f : Nat → Int) (hl : 6 ≤ len) (hc : len ≤ cap) (hm : cap ≤ maxLen) (w : World)
    (hcell : ∀ j, j < 4 → w.cell? ⟨b, off + 2 + j, none⟩ = some (.int .u8 (f j))) (hx : ∀ j, j < 4 → 0 ≤ hexV (f j)) :
    Calls Tryd.prog 7 #[.slice (some ⟨b, off, none⟩) len cap] w fun e w' => e = .returned (.int .i32 (vv f 4)) ∧ Below w.heap.size w w' := by
  unfold maxLen at hm
  obtain ⟨xs, hxs⟩ : ∃ xs, xs = [f 0, f 1, f 2, f 3] := ⟨_, rfl⟩
  have hlen : xs.length = 4 := by rw [hxs]; rfl
  have hget : ∀ j, j < 4 → xs.getD j 0 = f j := by
    intro j hj
    have : j = 0 ∨ j = 1 ∨ j = 2 ∨ j = 3 := by omega
    rcases this with rfl | rfl | rfl | rfl <;> rw [hxs] <;> rfl
  have hcv := fun dst hd => run_convert_bytes_arg (P := Tryd.prog) w 22 5 Tryd.underlying22 Tryd.underlying5 b (off + 2) 4 (cap - 2) xs hlen (fun i hi => by rw [hget i hi]; exact hcell i hi) dst hd
  have hcv9 := hcv 9 Tryd.underlying9
  have hb : ∀ j, j < 4 → byteAt (strOfNums xs) j = f j := by
    intro j hj
    have := hexV_range (hx j hj)
    rw [byteAt_str xs j (by omega) (by rw [hget j hj]; omega) (by rw [hget j hj]; omega), hget j hj]
  have hsz : (strOfNums xs).size = 4 := by rw [strOfNums_size, hlen]
  have hvv : vv (byteAt (strOfNums xs)) 4 = vv f 4 := vv_congr _ _ 4 hb
  have hcon : ∀ w, Calls Tryd.prog 8 #[.string (strOfNums xs), .int .i64 16, .int .i64 16] w fun e w' => e = .returned (.tuple #[.int .u64 (vv f 4), .nilIface]) ∧ Below w.heap.size w w' := fun w => by
    rw [← hvv]; exact parse_any _ hsz (fun j hj => by rw [hb j hj]; exact hx j hj) w
  have bd := vv_bd4 f 4 (by omega) hx
  obtain ⟨b0, b1, _⟩ := bd
  have Hcon := Lib.hid hcon
  generalize strOfNums xs = s at *
  generalize vv f 4 = n at *
  clear hcon hvv hsz hb hcv hget hlen hxs hx hcell
  go_enter Tryd.func7, Tryd.ntmps7
  go_wp2_with (go_at_call 8; refine (Hcon.out _).mono ?_; rintro e w' ⟨rfl, hb⟩)
  go_ret
  exact ⟨rfl, hb⟩

set_option maxHeartbeats 400000 in
theorem zz_any (b off len cap : Nat) (f : Nat → Int) (hl : 6 ≤ len) (hc : len ≤ cap) (hm : cap ≤ maxLen) (w : World)
    (hcell : ∀ j, j < 4 → w.cell? ⟨b, off + 2 + j, none⟩ = some (.int .u8 (f j))) (hx : ∀ j, j < 4 → 0 ≤ hexV (f j)) :
    Calls Tryd.prog 6 #[.slice (some ⟨b, off, none⟩) len cap] w fun e w' => e = .returned (.int .i32 (vv f 4)) ∧ Below w.heap.size w w' := by
  have Hcon := Lib.hid (escaped_any b off len cap f hl hc hm w hcell hx)
  clear hcell hx
  generalize vv f 4 = n at *
  go_enter Tryd.func6, Tryd.ntmps6
  go_wp2_with (go_at_call 7; refine (Hcon.out).mono ?_; rintro e w' ⟨rfl, hb⟩)
  go_ret
  exact ⟨rfl, hb⟩
end Go.Proofs.Qxb6625290aDoor
