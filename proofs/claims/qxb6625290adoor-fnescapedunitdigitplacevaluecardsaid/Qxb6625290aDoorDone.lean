/-
  THE TIED CARD of FnEscapedUnitDigitPlaceValue, out of the row's own proof and the given tie.
-/
import Derived.Test.Qxb6625290aDoorProofs
import Derived.Test.Qxb6625290aDoorTie
import Derived.Test.Qxb6625290aDoorCards
import Derived.SevenTiedAt
namespace Go.Proofs.Qxb6625290aDoor
open Go

theorem fnEscapedUnitDigitPlaceValue_card : Rows.FnEscapedUnitDigitPlaceValueCardSaid :=
  Claim7.holds_tied_plain_at .later [] [.data, .data, .data, .sentinel, .sentinel] true (true, "d1f52c7bd6efe20dcb11a51827ee00c20429bfd30d84bcb2b121965bd9b0db07") true
    over (fun _ h => by cases h) (by kernel_rfl) (fun _ h => by cases h) fnEscapedUnitDigitPlaceValue_row_tie rfl ⟨rfl, rfl⟩ (by kernel_rfl) rfl
    (fun f fn hf hfn => by
      obtain rfl : f = 3 := Option.some.inj ((show Tryd.prog.funcNamed Rows.fnEscapedUnitDigitPlaceValueRow.func = some 3 by kernel_rfl).symm.trans hf) |>.symm
      obtain rfl : fn = Tryd.f3 := (Option.some.inj (Tryd.func3.symm.trans hfn)).symm
      exact ⟨by kernel_rfl, fun j t ht => by
        rw [Tryd.params3] at ht
        have hm : t ∈ [22, 3, 5] := by simpa using Array.mem_of_getElem? ht
        have hall : ([22, 3, 5].all fun u => !Tryd.prog.wantsStandIn u) = true := by kernel_rfl
        exact (show Tryd.prog.wantsStandIn t = false by simpa using List.all_eq_true.1 hall t hm)⟩)
    (by kernel_rfl)
#print axioms fnEscapedUnitDigitPlaceValue_card
end Go.Proofs.Qxb6625290aDoor
