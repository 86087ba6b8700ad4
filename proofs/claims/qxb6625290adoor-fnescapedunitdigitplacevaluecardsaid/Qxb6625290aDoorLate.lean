import Derived.Test.Qxb6625290aDoorState
namespace Go.Proofs.Qxb6625290aDoor
open Go.ChangeShapes Go.WideShapes Go.ChangeAt Go.RowKit
set_option linter.unusedVariables false
set_option maxHeartbeats 4000000 in
set_option maxRecDepth 100000 in
theorem late (b off len cap k : Nat) (d : Int) (zs : List Int) (w : World) (h6 : 6 ≤ len) (h20 : len ≤ 1048576) (hk : k ≤ 3) (hd0 : 0 ≤ d) (hd1 : d ≤ 255) (hd : 0 ≤ hexV d) (hz : zs.length = len)
    (hcell : ∀ j, j < len → w.cell? ⟨b, off + j, none⟩ = some (.int .u8 (zs.getD j 0))) (hw : ∀ j, 0 ≤ zs.getD j 0 ∧ zs.getD j 0 ≤ 255) :
    Calls Tryd.prog 3 #[.slice (some ⟨b, off, none⟩) len cap, .int .i64 k, .int .u8 d] w fun e w' => e = .returned (.bool true) ∧ Below w.heap.size w w' := by
  obtain ⟨i0, hi, hz0, hz1, hz2⟩ := info_parts Tryd.info5
  have hne := fun wx => run_neq_slice_nil_any (P := Tryd.prog) wx 22 5 (some ⟨b, off, none⟩) len cap 0 0 Tryd.underlying22
  have Hc := Lib.hid hcell
  have Hz := Lib.hid hz
  have Hw := Lib.hid hw
  clear hcell hz hw
  have hb1 : i0.bytes * len ≤ 281474976710656 := by rw [hz2]; omega
  have hb2 : len ≤ maxLen := by unfold maxLen; omega
  have hbl : b < w.heap.size := block_lt_of_cell (Hc.out 0 (by omega))
  have hsz1 : (Tryd.prog.info? 5).map (·.size) = some 1 := by rw [hi]; simp [hz1]
  have hq1 : decide ((1048576 : Int) < (len : Int)) = false := by simp; omega
  have hq2 : decide ((len : Int) < 6) = false := by simp; omega
  have hq3 : decide ((k : Int) < 0) = false := by simp
  have hq4 : decide ((3 : Int) < (k : Int)) = false := by simp; omega
  have hq5 : decide (hexV d < 0) = false := by simp; omega
  go_enter Tryd.func3, Tryd.ntmps3
  go_wp2_with (first
    | (go_at_call 4; refine (bytes_yes _ _ _ _ _ _ h20).mono ?_; rintro e w' ⟨rfl, hw⟩; obtain rfl := hw.symm; clear hw)
    | (go_at_call 5; refine (hexVal_any _ hd0 hd1 _).mono ?_; rintro e w' ⟨rfl, hw⟩; obtain rfl := hw.symm; clear hw)
    | (at_make; refine wpList_make_ints _ rfl _ _ 22 rfl 5 .u8 i0 Tryd.underlying22 hi hz0 hz1 _ _ _ _ len rfl rfl rfl rfl hb1 hb2 ?_; intro w1 hO1 hB1 hS1; have HO1 := Lib.hid hO1; have HB1 := Lib.hid hB1; have HS1 := Lib.hid hS1; clear hO1 hB1 hS1))
  obtain ⟨w2, hrun, hO2, hB2, hS2⟩ := run_copy_ints (P := Tryd.prog) (w := w1) 22 22 3 5 .u8 Tryd.underlying22 hsz1 w.heap.size len len (some ⟨b, off, none⟩) len cap (List.replicate len 0) HO1.out (by simp) zs Hz.out (Nat.le_refl _) (fun _ => ⟨_, rfl, fun j hj => by rw [add_plain, HB1.out.cell (by exact hbl)]; exact Hc.out j hj⟩)
  rw [hrun]
  clear hrun
  have hB02 : Below w.heap.size w w2 := HB1.out.trans hB2
  have hS02 : w2.heap.size = w.heap.size + 1 := by rw [hS2]; exact HS1.out
  have HO2 : Hid (Own w2 .u8 5 w.heap.size zs) := by
    have e : zs ++ (List.replicate len (0 : Int)).drop len = zs := by simp
    rw [e] at hO2; exact hO2
  have HB2 := Lib.hid hB02
  clear hO2 hB2 hS2 hB02 HO1 HB1 HS1 hne
  go_wp2_with fail
  go_loop [8] (fun vi => ∃ j : Nat, vi = .int .i64 j ∧ 2 ≤ j ∧ j ≤ 6 ∧ Hid (∀ m, 2 ≤ m → m < j → 0 ≤ hexV (zs.getD m 0)))
    (fun vi => 6 - (intOf vi).toNat)
  case atStart => exact ⟨2, rfl, by omega, by omega, fun m h1 h2 => by omega⟩
  case round =>
    obtain ⟨j, rfl, hj2, hj6, hall⟩ := hrel
    by_cases hlt : j < 6
    · have hjl : j < len := by omega
      have hcj := HO2.out.cell j (by rw [Hz.out]; exact hjl)
      obtain ⟨hb0, hb1'⟩ := Hw.out j
      have HA : Hid (0 ≤ hexV (zs.getD j 0) → ∀ m, 2 ≤ m → m < j + 1 → 0 ≤ hexV (zs.getD m 0)) := fun h m h1 h2 => by
        by_cases e : m = j
        · subst e; exact h
        · exact hall.out m h1 (by omega)
      generalize zs.getD j 0 = c at hcj hb0 hb1' HA
      by_cases hx : hexV c < 0
      · go_wp2_with (go_at_call 5; refine (hexVal_any _ hb0 hb1' _).mono ?_; rintro e w' ⟨rfl, hw⟩; obtain rfl := hw.symm; clear hw)
        go_ret
        exact ⟨rfl, HB2.out⟩
      · go_wp2_with (go_at_call 5; refine (hexVal_any _ hb0 hb1' _).mono ?_; rintro e w' ⟨rfl, hw⟩; obtain rfl := hw.symm; clear hw)
        go_round
        case rel => exact ⟨j + 1, by go_num, by omega, by omega, HA.out (by omega)⟩
        case measure => simp [intOf]; omega
    · have hjj : j = 6 := by omega
      subst hjj
      clear hlt
      go_wp2_with (first
        | (at_make; refine wpList_make_ints _ rfl (.tmp 59) (.tmp 59) 22 rfl 5 .u8 i0 Tryd.underlying22 hi hz0 hz1 _ _ _ _ len rfl rfl rfl rfl hb1 hb2 ?_; intro w3 hO3 hB3 hS3; rw [hS02] at hS3 hO3 hB3; have HO3 := Lib.hid hO3; have HB3 := Lib.hid hB3; clear hO3 hB3)
        | (at_make; refine wpList_make_ints _ rfl (.tmp 62) (.tmp 62) 22 rfl 5 .u8 i0 Tryd.underlying22 hi hz0 hz1 _ _ _ _ len rfl rfl rfl rfl hb1 hb2 ?_; intro w4 hO4 hB4 hS4; rw [hS3] at hS4 hO4 hB4; have HO4 := Lib.hid hO4; have HB4 := Lib.hid hB4; clear hO4 hB4))
      have S0 : St w w4 len zs (List.replicate len 0) (List.replicate len 0) :=
        ⟨(HO2.out.below HB3.out (by omega)).below HB4.out (by omega), HO3.out.below HB4.out (by omega), HO4.out, Hz.out, by simp, by simp,
          (HB2.out.trans (HB3.out.mono (by omega))).trans (HB4.out.mono (by omega)), hS4⟩
      have HS0 := Lib.hid S0
      clear S0 HO2 HO3 HO4 HB2 HB3 HB4 hS02 hS3 hS4
      go_loopw [11] (fun vi wr => ∃ (j : Nat) (L1 L2 : List Int), vi = .int .i64 j ∧ j ≤ len ∧ Hid (St w wr len zs L1 L2 ∧ (∀ m, m < j → L1.getD m 0 = zs.getD m 0) ∧ (∀ m, m < j → L2.getD m 0 = zs.getD m 0)))
        (fun vi _ => len - (intOf vi).toNat)
      case atStart => exact ⟨0, _, _, rfl, by omega, HS0.out, fun m h => by omega, fun m h => by omega⟩
      case round =>
        obtain ⟨j, L1, L2, rfl, hjl, hst⟩ := hrel
        by_cases hlt : j < len
        · obtain ⟨S, e1, e2⟩ := hst.out
          have hc0 := S.o0.cell j (by rw [S.l0]; exact hlt)
          have hc1 := S.o1.cell j (by rw [S.l1]; exact hlt)
          have hc2 := S.o2.cell j (by rw [S.l2]; exact hlt)
          have hf1 := S.o1.free j
          have hf2 := S.o2.free j
          have HN : Hid (St w ((wr.setCell ⟨w.heap.size + 1, j, none⟩ (.int .u8 (zs.getD j 0))).setCell ⟨w.heap.size + 1 + 1, j, none⟩ (.int .u8 (zs.getD j 0))) len zs (L1.set j (zs.getD j 0)) (L2.set j (zs.getD j 0)) ∧ (∀ m, m < j + 1 → (L1.set j (zs.getD j 0)).getD m 0 = zs.getD m 0) ∧ (∀ m, m < j + 1 → (L2.set j (zs.getD j 0)).getD m 0 = zs.getD m 0)) := by
            refine ⟨(S.set1 j _).set2 j _, fun m hm => ?_, fun m hm => ?_⟩
            · rw [getD_set _ _ _ _ (by rw [S.l1]; exact hlt)]
              split
              · rename_i e; rw [e]
              · exact e1 m (by omega)
            · rw [getD_set _ _ _ _ (by rw [S.l2]; exact hlt)]
              split
              · rename_i e; rw [e]
              · exact e2 m (by omega)
          clear hst S e1 e2
          generalize zs.getD j 0 = c at hc0 HN
          generalize L1.getD j 0 = c1 at hc1
          generalize L2.getD j 0 = c2 at hc2
          go_wp2_with fail
          go_roundw
          case rel => exact ⟨j + 1, _, _, by go_num, by omega, HN.out⟩
          case measure => simp [intOf]; omega
        · have hjj : j = len := by omega
          subst hjj
          clear hlt HS0
          obtain ⟨S, e1, e2⟩ := hst.out
          have hc1 := S.o1.cell (2 + k) (by rw [S.l1]; omega)
          have hf1 := S.o1.free (2 + k)
          have hk6 : 2 + k < j := by omega
          have S1 := S.set1 (2 + k) d
          have HM : Hid (∀ m, m < 4 → (L1.set (2 + k) d).getD (2 + m) 0 = if m = k then d else zs.getD (2 + m) 0) := fun m hm => by
            rw [getD_set _ _ _ _ (by rw [S.l1]; omega)]
            by_cases e : m = k
            · subst e; rw [if_pos rfl, if_pos rfl]
            · rw [if_neg (by omega), if_neg e, e1 _ (by omega)]
          have HS1 := Lib.hid S1
          clear hst S e1 e2 S1
          generalize L1.getD (2 + k) 0 = c1 at hc1
          generalize L1.set (2 + k) d = M1 at HM HS1
          go_wp2_with fail
          go_loopw [12] (fun vi wr => ∃ (i : Nat) (L2 : List Int), vi = .int .i64 i ∧ 2 ≤ i ∧ i ≤ 6 ∧ Hid (St w wr j zs M1 L2 ∧ (∀ m, 2 ≤ m → m < i → L2.getD m 0 = 48)))
            (fun vi _ => 6 - (intOf vi).toNat)
          case atStart => exact ⟨2, _, rfl, by omega, by omega, HS1.out, fun m h h' => by omega⟩
          case round =>
            obtain ⟨i, L3, rfl, hi2, hi6, hst⟩ := hrel
            by_cases hlt : i < 6
            · obtain ⟨S, e2⟩ := hst.out
              have hc2 := S.o2.cell i (by rw [S.l2]; omega)
              have hf2 := S.o2.free i
              have hij : i < j := by omega
              have HN : Hid (St w (wr.setCell ⟨w.heap.size + 1 + 1, i, none⟩ (.int .u8 48)) j zs M1 (L3.set i 48) ∧ (∀ m, 2 ≤ m → m < i + 1 → (L3.set i 48).getD m 0 = 48)) := by
                refine ⟨S.set2 i _, fun m hm hm' => ?_⟩
                rw [getD_set _ _ _ _ (by rw [S.l2]; omega)]
                split
                · rfl
                · exact e2 m hm (by omega)
              clear hst S e2
              generalize L3.getD i 0 = c2 at hc2
              go_wp2_with fail
              go_roundw
              case rel => exact ⟨i + 1, _, by go_num, by omega, by omega, HN.out⟩
              case measure => simp [intOf]; omega
            · have hii : i = 6 := by omega
              subst hii
              clear hlt HS1
              go_wp2_with fail
              go_loop [13, 14] (fun vp vi => ∃ (i : Nat) (p : Int), vp = .int .i64 p ∧ vi = .int .i64 i ∧ i + k ≤ 3 ∧ 1 ≤ p ∧ p ≤ 4096 ∧ Hid (p = 16 ^ i))
                (fun _ vi => 3 - (intOf vi).toNat)
              case atStart => exact ⟨0, 1, rfl, rfl, by omega, by omega, by omega, rfl⟩
              case round =>
                obtain ⟨i, p, rfl, rfl, hi3, hp1, hp2, hp⟩ := hrel
                by_cases hlt : i + k < 3
                · have HP : Hid (1 ≤ p * 16 ∧ p * 16 ≤ 4096 ∧ p * 16 = 16 ^ (i + 1)) := by
                    have e := hp.out
                    have : i = 0 ∨ i = 1 ∨ i = 2 := by omega
                    rcases this with rfl | rfl | rfl <;> (subst e; exact ⟨by decide, by decide, by decide⟩)
                  go_wp2_with fail
                  go_round
                  case rel => exact ⟨i + 1, p * 16, by go_num, by go_num, by omega, HP.out.1, HP.out.2.1, HP.out.2.2⟩
                  case measure => simp [intOf]; omega
                · have hik : i = 3 - k := by omega
                  subst hik
                  clear hlt hi3
                  obtain ⟨S, e2⟩ := hst.out
                  have hcz := S.o0.cell (2 + k) (by rw [S.l0]; omega)
                  obtain ⟨hb0, hb1'⟩ := Hw.out (2 + k)
                  have hxc := hall.out (2 + k) (by omega) (by omega)
                  have hxc' := hexV_le (zs.getD (2 + k) 0)
                  have hxd' := hexV_le d
                  have f0 := fun m (hm : m < 4) => S.o0.cell (2 + m) (by rw [S.l0]; omega)
                  have f1 := fun m (hm : m < 4) => S.o1.cell (2 + m) (by rw [S.l1]; omega)
                  have f2 := fun m (hm : m < 4) => S.o2.cell (2 + m) (by rw [S.l2]; omega)
                  have n2 := vv_zero (fun m => L3.getD (2 + m) 0) (fun m hm => e2 (2 + m) (by omega) (by omega))
                  have n1 := vv_change (fun m => zs.getD (2 + m) 0) (fun m => M1.getD (2 + m) 0) k d hk HM.out
                  have x0 : ∀ m, m < 4 → 0 ≤ hexV (zs.getD (2 + m) 0) := fun m hm => hall.out (2 + m) (by omega) (by omega)
                  have x1 : ∀ m, m < 4 → 0 ≤ hexV (M1.getD (2 + m) 0) := fun m hm => by
                    rw [HM.out m hm]
                    split
                    · exact hd
                    · exact x0 m hm
                  have x2 : ∀ m, m < 4 → 0 ≤ hexV (L3.getD (2 + m) 0) := fun m hm => by
                    rw [e2 (2 + m) (by omega) (by omega)]; decide
                  rw [← hp.out] at n1
                  have C0 : Hid (∀ wx, Below (w.heap.size + 3) wr wx → Calls Tryd.prog 6 #[.slice (some ⟨w.heap.size, 0, none⟩) j j] wx fun e w' => e = .returned (.int .i32 (vv (fun m => zs.getD (2 + m) 0) 4)) ∧ Below wx.heap.size wx w') := fun wx hx =>
                    zz_any _ 0 j j _ h6 (Nat.le_refl _) hb2 wx (fun m hm => by rw [Nat.zero_add, hx.cell (by show w.heap.size < _; omega)]; exact f0 m hm) x0
                  have C1 : Hid (∀ wx, Below (w.heap.size + 3) wr wx → Calls Tryd.prog 6 #[.slice (some ⟨w.heap.size + 1, 0, none⟩) j j] wx fun e w' => e = .returned (.int .i32 (vv (fun m => M1.getD (2 + m) 0) 4)) ∧ Below wx.heap.size wx w') := fun wx hx =>
                    zz_any _ 0 j j _ h6 (Nat.le_refl _) hb2 wx (fun m hm => by rw [Nat.zero_add, hx.cell (by show w.heap.size + 1 < _; omega)]; exact f1 m hm) x1
                  have C2 : Hid (∀ wx, Below (w.heap.size + 3) wr wx → Calls Tryd.prog 6 #[.slice (some ⟨w.heap.size + 1 + 1, 0, none⟩) j j] wx fun e w' => e = .returned (.int .i32 0) ∧ Below wx.heap.size wx w') := fun wx hx => by
                    rw [← n2]
                    exact zz_any _ 0 j j _ h6 (Nat.le_refl _) hb2 wx (fun m hm => by rw [Nat.zero_add, hx.cell (by show w.heap.size + 1 + 1 < _; omega)]; exact f2 m hm) x2
                  have bd0 := vv_bd4 (fun m => zs.getD (2 + m) 0) 4 (by omega) x0
                  have bd1 := vv_bd4 (fun m => M1.getD (2 + m) 0) 4 (by omega) x1
                  have HBW := Lib.hid S.bel
                  have HSW := Lib.hid S.sz
                  generalize vv (fun m => zs.getD (2 + m) 0) 4 = r0 at *
                  generalize vv (fun m => M1.getD (2 + m) 0) 4 = r1 at *
                  have n1' : (hexV d - hexV (zs.getD (2 + k) 0)) * p = r1 - r0 := n1.symm
                  have N1 := Lib.hid n1'
                  obtain ⟨bd00, bd01, _⟩ := bd0
                  obtain ⟨bd10, bd11, _⟩ := bd1
                  clear hst S e2 f0 f1 f2 n2 n1 n1' x0 x1 x2 HM hall Hw Hz Hc hp
                  generalize zs.getD (2 + k) 0 = c at *
                  go_wp2_with fail
                  go_quiet ((go_at_call 5; exact Calls.quiet_of_same (hexVal_any _ (by assumption) (by assumption) _)))
                  go_wp2_with fail
                  have hwp : wrap64 ((hexV d - hexV c) * p) = r1 - r0 := by rw [N1.out]; exact IntWalk.wrap64_in _ ⟨by omega, by omega⟩
                  rw [hwp]
                  have Bq : Below (w.heap.size + 3) wr (wr.drewN nq) := ⟨rfl, rfl, rfl, Nat.le_refl _, fun _ _ => rfl⟩
                  have hsq : (wr.drewN nq).heap.size = w.heap.size + 3 := HSW.out
                  generalize wr.drewN nq = wq at *
                  refine (C0.out _ Bq).mono ?_
                  rintro e w5 ⟨rfl, h5⟩
                  rw [hsq] at h5
                  have B5 : Below (w.heap.size + 3) wr w5 := Bq.trans h5
                  have s5 := h5.size
                  have H5 := Lib.hid h5
                  clear h5
                  go_wp2_with fail
                  refine (C1.out _ B5).mono ?_
                  rintro e w6 ⟨rfl, h6'⟩
                  have B6 : Below (w.heap.size + 3) wr w6 := B5.trans (h6'.mono (by omega))
                  have s6 := h6'.size
                  have H6 := Lib.hid h6'
                  clear h6'
                  go_wp2_with fail
                  refine (C2.out _ B6).mono ?_
                  rintro e w7 ⟨rfl, h7'⟩
                  have B7 : Below (w.heap.size + 3) wr w7 := B6.trans (h7'.mono (by omega))
                  have HB7 : Hid (Below w.heap.size w w7) := HBW.out.trans (B7.mono (by omega))
                  clear h7' H5 H6 B5 B6 B7
                  go_wp2_with fail
                  go_ret
                  exact ⟨rfl, HB7.out⟩
end Go.Proofs.Qxb6625290aDoor
