import Derived.Test.Qxb6625989aRows
import Derived.Test.Qxb6625989aLaws
import Derived.Test.Qxb6625989aPlain
import Derived.WalkKit
import Derived.ProofKit
import Derived.OpenShut
import Derived.Deep.QuietTactic
import Derived.BigQuiet
import Derived.BigRegion
import Derived.Lib.Hide
import Derived.WalkSpells
namespace Go.Proofs.Qxb6625989a
open Go.ChangeShapes Go.WideShapes Go.ChangeAt Go.RowKit
set_option linter.unusedVariables false

theorem Try.info21 : (Try.prog.info? 21).map (fun i => (i.zero, i.size, i.bytes)) = some (some (.int .i32 0), 1, 4) := by kernel_rfl

/-- What the append leaves, in the push's own words. -/
theorem after_append {w w1 : World} {base B0 : Nat} {v v' : Value} {xs : List Int} {t : Int} {o : Obj} (hown : Has w base v xs) (hbox : w.heap[B0]? = some (.cells #[v] 29 (0, 0))) (hb : base ≤ B0)
    (hown' : w1.ownsRow base 21 1 v' (xs.length + 1) (xs.map (Value.int .i32) ++ [.int .i32 t])) (hgrow : (w.alloc o).grownBy w1 v.ownBlock) :
    ∃ g cap, v' = .slice (some ⟨g, 0, none⟩) (xs.length + 1) cap ∧ g ≠ B0 ∧ base ≤ g ∧ w1.heap[B0]? = some (.cells #[v] 29 (0, 0)) ∧ Has w1 base v' (xs ++ [t]) ∧ Below base w w1 := by
  have hlt := lt_of_block hbox
  have hne : some B0 ≠ v.ownBlock := by
    intro e
    rcases hown.2 with ⟨rfl, _⟩ | ⟨g, cap, cur, rfl, _, hg, _⟩
    · simp [Value.ownBlock] at e
    · simp [Value.ownBlock] at e
      subst e
      rw [hbox] at hg
      simp at hg
  have hb1 : w1.heap[B0]? = some (.cells #[v] 29 (0, 0)) := by
    rw [hgrow.block B0 (by simp; omega) hne, Below.heap_alloc w o B0 hlt]; exact hbox
  have hH : Has w1 base v' (xs ++ [t]) := by
    unfold Has
    have e1 : (xs ++ [t]).length = xs.length + 1 := by simp
    have e2 : (xs ++ [t]).map (Value.int .i32) = xs.map (Value.int .i32) ++ [.int .i32 t] := by simp
    rw [e1, e2]; exact hown'
  obtain ⟨g, cap, hv, hbg, hgl, _⟩ := hH.parts (by simp)
  refine ⟨g, cap, by rw [hv]; simp, ?_, hbg, hb1, hH, ?_⟩
  · intro e
    subst e
    rcases hH.2 with ⟨h0, _⟩ | ⟨g', cap', cur, hv', _, hg', _⟩
    · rw [hv] at h0; simp at h0
    · rw [hv] at hv'
      simp at hv'
      obtain ⟨rfl, _⟩ := hv'
      rw [hb1] at hg'
      simp at hg'
  · have h1 : Below base w (w.alloc o) := (Below.refl base w).alloc (by omega) o
    exact h1.grown hgrow (by simp; omega) (fun k hk => (hown.lt k hk).1)

/-- The push's state at the head of each round. -/
structure PS (w wr : World) (base B0 g m cap : Nat) (cur : List Int) : Prop where
  box : wr.heap[B0]? = some (.cells #[.slice (some ⟨g, 0, none⟩) m cap] 29 (0, 0))
  own : Has wr base (.slice (some ⟨g, 0, none⟩) m cap) cur
  len : cur.length = m
  bel : Below base w wr
  ne : g ≠ B0
  bg : base ≤ g

theorem PS.drewN {w wr : World} {base B0 g m cap : Nat} {cur : List Int} (h : PS w wr base B0 g m cap cur) (n : Nat) : PS w (wr.drewN n) base B0 g m cap cur :=
  ⟨h.box, h.own, h.len, ⟨h.bel.os, h.bel.tape, h.bel.output, h.bel.size, h.bel.block⟩, h.ne, h.bg⟩
theorem PS.drew {w wr : World} {base B0 g m cap : Nat} {cur : List Int} (h : PS w wr base B0 g m cap cur) : PS w wr.drew base B0 g m cap cur :=
  ⟨h.box, h.own, h.len, h.bel.drew, h.ne, h.bg⟩
theorem PS.cell {w wr : World} {base B0 g m cap : Nat} {cur : List Int} (h : PS w wr base B0 g m cap cur) (j : Nat) (hj : j < m) : wr.cell? ⟨g, j, none⟩ = some (.int .i32 (cur.getD j 0)) := by
  have ho : wr.ownsRow base 21 1 (.slice (some ⟨g, 0, none⟩) m cap) m (cur.map (Value.int .i32)) := by
    have := h.own
    unfold Has at this
    rw [h.len] at this
    exact this
  rw [World.ownsRow.cellAt ho j (by omega)]
  simp [show j < cur.length by rw [h.len]; exact hj]
theorem PS.free {w wr : World} {base B0 g m cap : Nat} {cur : List Int} (h : PS w wr base B0 g m cap cur) (j : Nat) : wr.frozen? ⟨g, j, none⟩ = false := by
  have ho : wr.ownsRow base 21 1 (.slice (some ⟨g, 0, none⟩) m cap) m (cur.map (Value.int .i32)) := by
    have := h.own
    unfold Has at this
    rw [h.len] at this
    exact this
  exact World.ownsRow.frozenAt ho j
theorem PS.set {w wr : World} {base B0 g m cap : Nat} {cur : List Int} (h : PS w wr base B0 g m cap cur) (j : Nat) (x : Int) : PS w (wr.setCell ⟨g, j, none⟩ (.int .i32 x)) base B0 g m cap (cur.set j x) := by
  have ho : wr.ownsRow base 21 1 (.slice (some ⟨g, 0, none⟩) m cap) m (cur.map (Value.int .i32)) := by
    have := h.own
    unfold Has at this
    rw [h.len] at this
    exact this
  refine ⟨?_, ?_, by simpa using h.len, h.bel.setCell h.bg _, h.ne, h.bg⟩
  · rw [Below.heap_setCell _ _ _ _ (fun e => h.ne e.symm)]; exact h.box
  · unfold Has
    have := (World.ownsRow.stored ho j (.int .i32 x)).1
    simp only [List.length_set, List.map_set, h.len]
    exact this
theorem PS.swap {w wr : World} {base B0 g m cap : Nat} {cur : List Int} (h : PS w wr base B0 g m cap cur) (p i : Nat) :
    PS w ((wr.setCell ⟨g, p, none⟩ (.int .i32 (cur.getD i 0))).setCell ⟨g, i, none⟩ (.int .i32 (cur.getD p 0))) base B0 g m cap (Plain.swp cur p i) := (h.set p _).set i _

theorem PS.start {w w1 : World} {base B0 g m cap : Nat} {v : Value} {cur : List Int} (hb : base ≤ B0) (hbox : w1.heap[B0]? = some (.cells #[v] 29 (0, 0))) (hown : Has w1 base (.slice (some ⟨g, 0, none⟩) m cap) cur) (hlen : cur.length = m) (hbel : Below base w w1) (hne : g ≠ B0) (hbg : base ≤ g) :
    PS w (w1.setCell ⟨B0, 0, none⟩ (.slice (some ⟨g, 0, none⟩) m cap)) base B0 g m cap cur :=
  ⟨one_setCell hbox, ownsRow_setCell_other hown (by simpa [Value.ownBlock] using hne) _, hlen, hbel.setCell hb _, hne, hbg⟩

set_option maxHeartbeats 1000000 in
theorem push_any (base B0 : Nat) (v : Value) (xs : List Int) (t : Int) (w : World) (hbox : w.heap[B0]? = some (.cells #[v] 29 (0, 0))) (hown : Has w base v xs) (hb : base ≤ B0) (hn : xs.length ≤ 100000) :
    Calls Try.prog 11 #[.pointer (some ⟨B0, 0, none⟩), .int .i32 t] w fun e w' => e = .returned (.tuple #[]) ∧ ∃ v', w'.heap[B0]? = some (.cells #[v'] 29 (0, 0)) ∧ Has w' base v' (Plain.push xs t) ∧ Below base w w' := by
  obtain ⟨i0, hi, hz0, hz1, hz2⟩ := info_parts Try.info21
  have hlt := lt_of_block hbox
  have hc0 := cell_of_one hbox
  have hf0 := free_of_one hbox
  have Hbox := Lib.hid hbox
  have Hown := Lib.hid hown
  clear hbox hown
  go_enter Try.func11, Try.ntmps11
  go_wp2_with (at_builtin; refine wpList_append_own _ rfl _ _ 29 rfl base 21 i0 (.int .i32 0) 1 4 Try.underlying29 hi hz0 hz1 hz2 rfl (by decide) _ _ _ rfl (Hown.out.alloc _) ⟨w.heap.size, 0, none⟩ 1 1 [.int .i32 t] rfl rfl (cell_one_new _ _ _) (by intro u hu; simp at hu; subst hu; rfl) (by unfold maxLen; omega) (by omega) (by simp; omega) ?_; intro v' w1 hown' hgrow _; obtain ⟨g, cap, rfl, hgB, hbg, hbox1, hown1, hbel1⟩ := after_append Hown.out Hbox.out hb hown' hgrow; have hc1 := cell_of_one hbox1; have hf1 := free_of_one hbox1; have HP1 := Lib.hid hbox1; have HP2 := Lib.hid hown1; have HP3 := Lib.hid hbel1; clear hown' hgrow hbox1 hown1 hbel1)
  have HS := Lib.hid (PS.start hb HP1.out HP2.out (by simp) HP3.out hgB hbg)
  go_loopw [5] (fun vi wr => ∃ (i f : Nat) (cur : List Int), vi = .int .i64 i ∧ i ≤ xs.length ∧ i ≤ f ∧ Hid (PS w wr base B0 g (xs.length + 1) cap cur) ∧ Hid (Plain.push xs t = Plain.sift f cur i))
    (fun vi _ => (intOf vi).toNat)
  case atStart => exact ⟨xs.length, xs.length, _, rfl, Nat.le_refl _, Nat.le_refl _, HS.out, rfl⟩
  case round =>
    obtain ⟨i, f, cur, rfl, hin, hif, hps, hsf⟩ := hrel
    clear HS HP1 HP2 HP3 hc1 hf1 hc0 hf0
    by_cases h0 : 0 < i
    · have hc1 := hps.out.cell ((i - 1) / 2) (by omega)
      have hc2 := hps.out.cell i (by omega)
      have hf1 := hps.out.free ((i - 1) / 2)
      have hf2 := hps.out.free i
      have hp : (i - 1) / 2 < i := by omega
      obtain ⟨xp, hxp⟩ : ∃ x, x = cur.getD ((i - 1) / 2) 0 := ⟨_, rfl⟩
      obtain ⟨xi, hxi⟩ : ∃ x, x = cur.getD i 0 := ⟨_, rfl⟩
      rw [← hxp] at hc1
      rw [← hxi] at hc2
      have Hxp := Lib.hid hxp
      have Hxi := Lib.hid hxi
      clear hxp hxi
      by_cases hle : xp ≤ xi
      · have HE : Hid (Has wr base (.slice (some ⟨g, 0, none⟩) (xs.length + 1) cap) (Plain.push xs t)) := by
          rw [hsf.out, Plain.sift_stop _ _ _ (by rw [← Hxp.out, ← Hxi.out]; exact hle)]
          exact hps.out.own
        go_wp2_with fail
        go_quiet (fail)
        go_wp2_with fail
        go_end0
        exact ⟨rfl, _, (hps.out.drewN nq).box, HE.out, (hps.out.drewN nq).bel⟩
      · obtain ⟨f', rfl⟩ : ∃ f', f = f' + 1 := ⟨f - 1, by omega⟩
        have HE : Hid (Plain.push xs t = Plain.sift f' (Plain.swp cur ((i - 1) / 2) i) ((i - 1) / 2)) := by
          rw [hsf.out, Plain.sift_go _ _ _ h0 (by rw [← Hxp.out, ← Hxi.out]; exact hle)]
          rfl
        go_wp2_with fail
        go_quiet (fail)
        go_wp2_with fail
        have HQ := Lib.hid (hps.out.drewN nq)
        have hc1' : (wr.drewN nq).cell? ⟨g, (i - 1) / 2, none⟩ = some (.int .i32 xp) := hc1
        have hc2' : (wr.drewN nq).cell? ⟨g, i, none⟩ = some (.int .i32 xi) := hc2
        have hf1' : (wr.drewN nq).frozen? ⟨g, (i - 1) / 2, none⟩ = false := hf1
        have hf2' : (wr.drewN nq).frozen? ⟨g, i, none⟩ = false := hf2
        clear hc1 hc2 hf1 hf2 hps hsf
        generalize wr.drewN nq = wq at *
        have HN : Hid (PS w ((wq.setCell ⟨g, (i - 1) / 2, none⟩ (.int .i32 xi)).setCell ⟨g, i, none⟩ (.int .i32 xp)).drew base B0 g (xs.length + 1) cap (Plain.swp cur ((i - 1) / 2) i)) := by
          rw [Hxp.out, Hxi.out]
          exact (HQ.out.swap _ _).drew
        go_region
        go_wp2_with fail
        go_roundw
        case rel => exact ⟨(i - 1) / 2, f', _, by go_num, by omega, by omega, HN.out, HE.out⟩
        case measure => simp [intOf]; omega
    · obtain rfl : i = 0 := by omega
      have HE : Hid (Has wr base (.slice (some ⟨g, 0, none⟩) (xs.length + 1) cap) (Plain.push xs t)) := by
        rw [hsf.out, Plain.sift_zero]
        exact hps.out.own
      go_wp2_with fail
      go_end0
      exact ⟨rfl, _, hps.out.box, HE.out, hps.out.bel⟩

set_option maxHeartbeats 400000 in
theorem zzpush_any (base : Nat) (v : Value) (xs : List Int) (t : Int) (w : World) (hown : Has w base v xs) (hb : base ≤ w.heap.size) (hn : xs.length ≤ 100000) :
    Calls Try.prog 6 #[v, .int .i32 t] w fun e w' => ∃ v', e = .returned v' ∧ Has w' base v' (Plain.push xs t) ∧ Below base w w' := by
  obtain ⟨a, cap, rfl, _⟩ := hown.rd
  have Hown := Lib.hid hown
  clear hown
  go_enter Try.func6, Try.ntmps6
  go_wp2_with fail
  refine (push_any base w.heap.size (.slice a xs.length cap) xs t _ (Go.heap_alloc_new w _) (Hown.out.alloc _) hb hn).mono ?_
  rintro e w2 ⟨rfl, v', hbox, hown', hbel⟩
  have hc := cell_of_one hbox
  obtain ⟨a', cap', rfl, _⟩ := hown'.rd
  have H1 := Lib.hid hown'
  have H2 := Lib.hid hbel
  clear hbox hown' hbel
  go_wp2_with fail
  go_ret
  exact ⟨_, rfl, H1.out, ((Below.refl _ _).alloc hb _).trans H2.out⟩
end Go.Proofs.Qxb6625989a
