import Derived.Test.Qxb6626073aBase
import Derived.Lib.ConvBytes
import Derived.Lib.AtoiErrMem
import Derived.Laws.BytesArg
namespace Go.Proofs.Qxb6626073a
open Go.ChangeShapes Go.WideShapes Go.ChangeAt Go.RowKit
set_option linter.unusedVariables false

set_option maxHeartbeats 400000 in
theorem early4 (s : ByteArray) (i c : Int) (w : World) (hm : s.size ≤ 9223372036854775807) (h : ¬ s.size ≤ 1048576 ∨ s.size < 4 ∨ i < 0 ∨ (s.size : Int) ≤ i) :
    Calls Try.prog 4 #[.string s, .int .i64 i, .int .u8 c] w fun e w' => e = .returned (.bool true) ∧ w = w' := by
  by_cases h1 : s.size ≤ 1048576
  · by_cases h2 : s.size < 4
    · go_enter Try.func4, Try.ntmps4
      go_wp2_with (go_at_call 7; refine (bytes7_yes _ _ _ _ h1).mono ?_; rintro e w' ⟨rfl, rfl⟩)
      go_ret
      exact ⟨rfl, rfl⟩
    · by_cases h3 : i < 0
      · go_enter Try.func4, Try.ntmps4
        go_wp2_with (go_at_call 7; refine (bytes7_yes _ _ _ _ h1).mono ?_; rintro e w' ⟨rfl, rfl⟩)
        go_ret
        exact ⟨rfl, rfl⟩
      · have h4 : (s.size : Int) ≤ i := by omega
        go_enter Try.func4, Try.ntmps4
        go_wp2_with (go_at_call 7; refine (bytes7_yes _ _ _ _ h1).mono ?_; rintro e w' ⟨rfl, rfl⟩)
        go_ret
        exact ⟨rfl, rfl⟩
  · go_enter Try.func4, Try.ntmps4
    go_wp2_with (go_at_call 7; refine (bytes7_no _ _ _ _ hm h1).mono ?_; rintro e w' ⟨rfl, rfl⟩)
    go_ret
    exact ⟨rfl, rfl⟩

/-- the bytes of s with byte i set to c -/
def nums (s : ByteArray) (i : Nat) (c : Int) : List Int := (s.data.toList.map fun b => (b.toNat : Int)).set i c
theorem nums_length (s : ByteArray) (i : Nat) (c : Int) : (nums s i c).length = s.size := by
  have e : s.data.toList.length = s.size := Array.length_toList
  unfold nums
  rw [List.length_set, List.length_map, e]
theorem nums_getD (s : ByteArray) (i j : Nat) (c : Int) (hi : i < s.size) (hj : j < s.size) : (nums s i c).getD j 0 = if j = i then c else bt s j := by
  have e : s.data.toList.length = s.size := Array.length_toList
  unfold nums bt
  simp only [List.getD_eq_getElem?_getD, List.getElem?_set, List.length_map, List.getElem?_map]
  by_cases h : i = j
  · subst h; rw [if_pos rfl, if_pos (by rw [e]; exact hi), if_pos rfl]; rfl
  · have h' : ¬ j = i := fun x => h x.symm
    rw [if_neg h, if_neg h', List.getElem?_eq_getElem (show j < s.data.toList.length by rw [e]; exact hj)]
    rfl
theorem str_bt (s : ByteArray) (i j : Nat) (c : Int) (hc0 : 0 ≤ c) (hc1 : c ≤ 255) (hi : i < s.size) (hj : j < s.size) : bt (strOfNums (nums s i c)) j = if j = i then c else bt s j := by
  have hg := nums_getD s i j c hi hj
  have hb := bt_bd s j
  have hr : 0 ≤ (nums s i c).getD j 0 ∧ (nums s i c).getD j 0 ≤ 255 := by rw [hg]; split <;> omega
  rw [← hg]
  unfold bt
  rw [strOfNums_data]
  have hl : j < (nums s i c).length := by rw [nums_length]; exact hj
  simp only [List.getD_eq_getElem?_getD, List.getElem?_map, List.getElem?_eq_getElem hl, Option.map_some, Option.getD_some] at *
  simp [UInt8.toNat_ofNat']
  omega

theorem bytes_free (w : World) (s : ByteArray) (j : Nat) (hj : j < s.size) : (Lib.bytesWorld w 5 s).frozen? ⟨w.heap.size, j, none⟩ = false := by
  have h := Lib.bytesWorld_at_new w 5 s
  have hs : s.size ≤ (Lib.bytesCells w 5 s).size := by
    have e : s.data.size = s.size := rfl
    simp only [Lib.bytesCells, Array.size_append, Array.size_map, e]
    omega
  simp only [World.frozen?, h]
  simp
  omega

theorem changed_cells (w : World) (s : ByteArray) (i : Nat) (c : Int) (hi : i < s.size) (j : Nat) (hj : j < s.size) :
    ((Lib.bytesWorld w 5 s).setCell ⟨w.heap.size, i, none⟩ (.int .u8 c)).cell? ⟨w.heap.size, 0 + j, none⟩ = some (.int .u8 ((nums s i c).getD j 0)) := by
  rw [Nat.zero_add, nums_getD s i j c hi hj]
  have hc := Lib.bytesWorld_cell w 5 s j hj
  have hci := Lib.bytesWorld_cell w 5 s i hi
  by_cases h : j = i
  · subst h
    rw [if_pos rfl]
    exact World.cell?_setCell_same _ _ _ hci
  · rw [if_neg h]
    have e : ((Lib.bytesWorld w 5 s).setCell ⟨w.heap.size, i, none⟩ (.int .u8 c)).cell? ⟨w.heap.size, j, none⟩ = (Lib.bytesWorld w 5 s).cell? ⟨w.heap.size, j, none⟩ := World.cell?_setCell_other _ _ _ _ (fun e => h (congrArg Addr.off e).symm)
    rw [e, hc]
    rfl

/-- What both walks are told. -/
theorem prep (s : ByteArray) (i : Nat) (c : Int) (w : World) (hi : i < s.size) :
    (∃ ci : Int, (Lib.bytesWorld w 5 s).cell? ⟨w.heap.size, i, none⟩ = some (.int .u8 ci)) ∧ (Lib.bytesWorld w 5 s).frozen? ⟨w.heap.size, i, none⟩ = false ∧
    (∀ cap, (convert 27 9 (.slice (some ⟨w.heap.size, 0, none⟩) s.size cap)).run Try.prog ((Lib.bytesWorld w 5 s).setCell ⟨w.heap.size, i, none⟩ (.int .u8 c)) = .ok (.string (strOfNums (nums s i c))) ((Lib.bytesWorld w 5 s).setCell ⟨w.heap.size, i, none⟩ (.int .u8 c))) ∧
    Below w.heap.size w ((Lib.bytesWorld w 5 s).setCell ⟨w.heap.size, i, none⟩ (.int .u8 c)) ∧ (strOfNums (nums s i c)).size = s.size :=
  ⟨⟨_, Lib.bytesWorld_cell w 5 s i hi⟩, bytes_free w s i hi,
    fun cap => run_convert_bytes_arg (P := Try.prog) ((Lib.bytesWorld w 5 s).setCell ⟨w.heap.size, i, none⟩ (.int .u8 c)) 27 5 Try.underlying27 Try.underlying5 w.heap.size 0 s.size cap (nums s i c) (nums_length s i c) (fun j hj => changed_cells w s i c hi j hj) 9 Try.underlying9,
    (Lib.bytesWorld_below w 5 s).setCell (Nat.le_refl _) _, by rw [strOfNums_size, nums_length]⟩

theorem below_drewN' {B : Nat} {w wr : World} (h : Below B w wr) (n : Nat) : Below B w (wr.drewN n) := ⟨h.os, h.tape, h.output, h.size, h.block⟩

set_option maxHeartbeats 1000000 in
theorem late4_far (s : ByteArray) (i : Nat) (c : Int) (w : World) (h4 : 4 ≤ s.size) (h20 : s.size ≤ 1048576) (hi : i < s.size) (hc0 : 0 ≤ c) (hc1 : c ≤ 255) (hbig : 4 ≤ i) :
    Calls Try.prog 4 #[.string s, .int .i64 i, .int .u8 c] w fun e w' => e = .returned (.bool true) ∧ Below w.heap.size w w' := by
  have hcv := Lib.run_convert_string_bytes (P := Try.prog) w 9 27 5 s (u := .string) Try.underlying9 Try.underlying27 Try.underlying5
  obtain ⟨⟨ci, hci⟩, hfi, hbk, hbel, hsz⟩ := prep s i c w hi
  have e0 := str_bt s i 0 c hc0 hc1 hi (by omega)
  have e1 := str_bt s i 1 c hc0 hc1 hi (by omega)
  have e2 := str_bt s i 2 c hc0 hc1 hi (by omega)
  have e3 := str_bt s i 3 c hc0 hc1 hi (by omega)
  have H1 := Lib.hid (fun w => zzle_any s h4 w)
  have H2 := Lib.hid (fun w => zzle_any (strOfNums (nums s i c)) (by rw [hsz]; exact h4) w)
  have key : le4 (strOfNums (nums s i c)) = le4 s := by
    unfold le4
    rw [e0, e1, e2, e3, if_neg (by omega), if_neg (by omega), if_neg (by omega), if_neg (by omega)]
  rw [key] at H2
  have HB := Lib.hid hbel
  clear e0 e1 e2 e3 key hbel hsz
  generalize le4 s = v at *
  generalize strOfNums (nums s i c) = t at *
  go_enter Try.func4, Try.ntmps4
  go_wp2_with (go_at_call 7; refine (bytes7_yes _ _ _ _ h20).mono ?_; rintro e w' ⟨rfl, rfl⟩)
  refine (H1.out _).mono ?_
  rintro e w1 ⟨rfl, n, rfl⟩
  go_wp2_with fail
  refine (H2.out _).mono ?_
  rintro e w1 ⟨rfl, m, rfl⟩
  go_wp2_with fail
  go_ret
  exact ⟨rfl, below_drewN' HB.out (n + m)⟩

theorem ret_bool {b : Bool} (h : b = true) : Ending.returned (.bool b) = .returned (.bool true) := by rw [h]
theorem wrap_eq (u v x y : Int) (h : u + x = v + y) : (IntKind.u64.wrap (u + IntKind.u64.wrap x) == IntKind.u64.wrap (v + IntKind.u64.wrap y)) = true := by
  rw [beq_iff_eq, IntKind.wrap_u64, IntKind.wrap_u64, IntKind.wrap_u64, IntKind.wrap_u64]
  omega

set_option maxHeartbeats 1000000 in
theorem late4_near (s : ByteArray) (i : Nat) (c : Int) (w : World) (h4 : 4 ≤ s.size) (h20 : s.size ≤ 1048576) (hi : i < 4) (hc0 : 0 ≤ c) (hc1 : c ≤ 255) :
    Calls Try.prog 4 #[.string s, .int .i64 i, .int .u8 c] w fun e w' => e = .returned (.bool true) ∧ Below w.heap.size w w' := by
  have hcv := Lib.run_convert_string_bytes (P := Try.prog) w 9 27 5 s (u := .string) Try.underlying9 Try.underlying27 Try.underlying5
  have his : i < s.size := by omega
  obtain ⟨⟨ci, hci⟩, hfi, hbk, hbel, hsz⟩ := prep s i c w his
  have e0 := str_bt s i 0 c hc0 hc1 his (by omega)
  have e1 := str_bt s i 1 c hc0 hc1 his (by omega)
  have e2 := str_bt s i 2 c hc0 hc1 his (by omega)
  have e3 := str_bt s i 3 c hc0 hc1 his (by omega)
  have H1 := Lib.hid (fun w => zzle_any s h4 w)
  have H2 := Lib.hid (fun w => zzle_any (strOfNums (nums s i c)) (by rw [hsz]; exact h4) w)
  have hix := fun wx => run_idx s (i : Int) i rfl his wx
  obtain ⟨l0, u0⟩ := bt_bd s 0
  obtain ⟨l1, u1⟩ := bt_bd s 1
  obtain ⟨l2, u2⟩ := bt_bd s 2
  obtain ⟨l3, u3⟩ := bt_bd s 3
  obtain ⟨li, ui⟩ := bt_bd s i
  have ev : le4 s = bt s 0 + bt s 1 * 256 + bt s 2 * 65536 + bt s 3 * 16777216 := rfl
  have eu : le4 (strOfNums (nums s i c)) = bt (strOfNums (nums s i c)) 0 + bt (strOfNums (nums s i c)) 1 * 256 + bt (strOfNums (nums s i c)) 2 * 65536 + bt (strOfNums (nums s i c)) 3 * 16777216 := rfl
  rw [e0, e1, e2, e3] at eu
  have key : le4 (strOfNums (nums s i c)) + bt s i * 2 ^ (8 * i) = le4 s + c * 2 ^ (8 * i) := by
    have : i = 0 ∨ i = 1 ∨ i = 2 ∨ i = 3 := by omega
    rcases this with rfl | rfl | rfl | rfl <;> simp at eu ⊢ <;> omega
  have bv : 0 ≤ le4 s ∧ le4 s ≤ 4294967295 := by omega
  have bu : 0 ≤ le4 (strOfNums (nums s i c)) ∧ le4 (strOfNums (nums s i c)) ≤ 4294967295 := by
    have : i = 0 ∨ i = 1 ∨ i = 2 ∨ i = 3 := by omega
    rcases this with rfl | rfl | rfl | rfl <;> simp at eu ⊢ <;> omega
  have HB := Lib.hid hbel
  have HK := Lib.hid key
  clear e0 e1 e2 e3 hbel hsz ev eu key l0 u0 l1 u1 l2 u2 l3 u3
  obtain ⟨v0, v1⟩ := bv
  obtain ⟨x0, x1⟩ := bu
  generalize le4 s = v at *
  generalize le4 (strOfNums (nums s i c)) = u at *
  generalize strOfNums (nums s i c) = t at *
  generalize bt s i = si at *
  go_enter Try.func4, Try.ntmps4
  go_wp2_with (go_at_call 7; refine (bytes7_yes _ _ _ _ h20).mono ?_; rintro e w' ⟨rfl, rfl⟩)
  refine (H1.out _).mono ?_
  rintro e w1 ⟨rfl, n, rfl⟩
  go_wp2_with fail
  refine (H2.out _).mono ?_
  rintro e w1 ⟨rfl, m, rfl⟩
  go_wp2_with fail
  go_ret
  exact ⟨ret_bool (wrap_eq _ _ _ _ HK.out), below_drewN' HB.out (n + m)⟩
end Go.Proofs.Qxb6626073a
