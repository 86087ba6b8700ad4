/-
  DERIVED. GIVEN WITH THE SEED: THE CARDS: each row of Qxb6627010aFmtRows.lean that lists a variable, with what it lists TIED to the program's text (the seventh form; the later family's looks); each row that meets fmt, with fmt's text TOLD by the authors' own Lean function (tested against real Go, not proved from fmt's source: count such statements apart). THE CARD IS WHAT COUNTS. Prove the row's statement (the work); the ties are given (Qxb6627010aFmtTie.lean); close each card by the builder's one call (the guide's Derived/Test/ToyasCard.lean, 'card_holds'). Laid BY PROGRAM, IN A SANDBOX (cutbox-door.mjs). By AI agents, Wed Nov 11 2026. No macro, syntax, notation, axiom, sorry.
-/
import Derived.Test.Qxb6627010aFmtRows
import GoSem.ClaimSeven
namespace Go.Proofs.Qxb6627010aFmt
namespace Rows

/-- THE TOLD CARD OF 'zzlaws_ocsp_b1.FnStatusStringOrderByName'. -/
def fnStatusStringOrderByNameCard : Claim7 := { stood := { row := fnStatusStringOrderByNameRow, standIns := [], harness := (true, "d75e696afd88a79a8656ae23152016b1ab1543e81aeea93239ddd2de62d4ed62"), looks := false }, told := true, goes := false }
def FnStatusStringOrderByNameToldSaid : Prop := Claim7.holds Tryf.pinned (.plain (OpenSpec.ofChange fnStatusStringOrderByNameSpec)) fnStatusStringOrderByNameCard
/-- ITS FALSE NEIGHBOUR. Refute it at one input. -/
def FnStatusStringOrderByNameToldWrongFalsely : Prop := Claim7.holds Tryf.pinned (.plain (OpenSpec.ofChange fnStatusStringOrderByNameWrong)) fnStatusStringOrderByNameCard
end Rows
end Go.Proofs.Qxb6627010aFmt
