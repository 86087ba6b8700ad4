/-
  No cell of these rows narrows 'for every input' (looked for: loops, veiled, ifaces, maps, wideKeys, modest, calm, conditions, laid).
  DERIVED. THE GIVEN ROWS OF THIS SEAT. 1 by the template 'for every input the law returns true; each argument reads behind the call as it read before'; 0 by the template 'total and deterministic' (their statements: Qxb6627010aFmtTotals.lean).
  GIVEN WITH THE SEED: the statements are not yours to turn. If you find one false, say at which input.
  Laid BY PROGRAM, IN A SANDBOX (cutbox-rows.mjs): the forced cells as the released guide's own fill.sh prints them over the translation c79eb19f59a41744… (all of the seat's roots in one cut). By AI agents, Wed Nov 11 2026. No macro, syntax, notation, axiom, sorry.
-/
import Derived.Test.Qxb6627010aFmtChecked
import GoSem.Claim
import GoSem.ClaimJoined
import GoSem.ClaimMapViews
import Derived.JoinedTies
import Derived.KernelRfl
namespace Go.Proofs.Qxb6627010aFmt
/- THE CELL 'sum', in the pinned program and in every row, IS THE sha256 OF THE DUMP (.gsa) THAT Qxb6627010aFmtProg.lean LOADS. Nothing in Lean hashes anything: it is a label: what it is worth is what the hold of that sum in a sandbox is worth. -/
noncomputable def Tryf.pinned : Pinned := { name := "qxb6627010afmt", sum := "c79eb19f59a41744d03eb7a2e7c6839a00783c2abc0072aaf1223c28608b7c4b", checked := Tryf.checked }
namespace Rows
def none {H : Type} : Left H := { results := [], args := [] }

/-- 'zzlaws_ocsp_b1.FnStatusStringOrderByName': WHATEVER THE INPUT: true; the input reads as it did. -/
def fnStatusStringOrderByNameSpec : ChangeSpec := { name := "fnStatusStringOrderByName", fn := fun _ => fun
  | [d1, d2] => { results := [.lit (.bool true)], args := [d1, d2] }
  | _ => none }
def fnStatusStringOrderByNameRow : OpenClaim := { program := "qxb6627010afmt", sum := "c79eb19f59a41744d03eb7a2e7c6839a00783c2abc0072aaf1223c28608b7c4b", func := "example.com/chancery/chancery/zzlaws_ocsp_b1.FnStatusStringOrderByName", spec := "fnStatusStringOrderByName", stops := ["fmt.Sprintf"], inPlace := ["fmt.Sprintf"], apart := false }
/-- NO THEOREM (fmt's text is open here; it may be false): for the released tool's asking of the row's closed facts alone. THE STATEMENT IS 'FnStatusStringOrderByNameToldSaid' (Qxb6627010aFmtCards.lean). -/
def FnStatusStringOrderByNameFormAsk : Prop := fnStatusStringOrderByNameRow.holds Tryf.pinned (OpenSpec.ofChange fnStatusStringOrderByNameSpec)

/-- ITS FALSE NEIGHBOUR: 'it returns false'. Refute it at one input. -/
def fnStatusStringOrderByNameWrong : ChangeSpec := { name := "fnStatusStringOrderByName", fn := fun _ => fun
  | [d1, d2] => { results := [.lit (.bool false)], args := [d1, d2] }
  | _ => none }
def FnStatusStringOrderByNameWrongFormAsk : Prop := fnStatusStringOrderByNameRow.holds Tryf.pinned (OpenSpec.ofChange fnStatusStringOrderByNameWrong)

end Rows
end Go.Proofs.Qxb6627010aFmt
