/-
  DERIVED. GIVEN WITH THE SEED: THE CARDS: each row of Qxb6625290aDoorRows.lean that lists a variable, with what it lists TIED to the program's text (the seventh form; the later family's looks); each row that meets fmt, with fmt's text TOLD by the authors' own Lean function (tested against real Go, not proved from fmt's source: count such statements apart). THE CARD IS WHAT COUNTS. Prove the row's statement (the work); the ties are given (Qxb6625290aDoorTie.lean); close each card by the builder's one call (the guide's Derived/Test/ToyasCard.lean, 'card_holds'). Laid BY PROGRAM, IN A SANDBOX (cutbox-door.mjs). By AI agents, Wed Nov 11 2026. No macro, syntax, notation, axiom, sorry.
-/
import Derived.Test.Qxb6625290aDoorRows
import GoSem.ClaimSeven
namespace Go.Proofs.Qxb6625290aDoor
namespace Rows

/-- THE TIED CARD OF 'zzlaws_internal_strictjson_b1.FnEscapedUnitDigitPlaceValue'. -/
def fnEscapedUnitDigitPlaceValueCard : Claim7 := { stood := { row := fnEscapedUnitDigitPlaceValueRow, standIns := [], harness := (true, "d1f52c7bd6efe20dcb11a51827ee00c20429bfd30d84bcb2b121965bd9b0db07"), looks := true }, kinds := [], alts := [], laidByText := true, laidKinds := [.data, .data, .data, .sentinel, .sentinel], laidTests := true, laidLooks := .later }
def FnEscapedUnitDigitPlaceValueCardSaid : Prop := Claim7.holds Tryd.pinned (.plain (OpenSpec.ofChange fnEscapedUnitDigitPlaceValueSpec)) fnEscapedUnitDigitPlaceValueCard
end Rows
end Go.Proofs.Qxb6625290aDoor
