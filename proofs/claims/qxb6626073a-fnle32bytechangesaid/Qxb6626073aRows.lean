/-
  No cell of these rows narrows 'for every input' (looked for: loops, veiled, ifaces, maps, wideKeys, modest, calm, conditions, laid).
  DERIVED. THE GIVEN ROWS OF THIS SEAT. 2 by the template 'for every input the law returns true; each argument reads behind the call as it read before'; 0 by the template 'total and deterministic' (their statements: Qxb6626073aTotals.lean).
  GIVEN WITH THE SEED: the statements are not yours to turn. If you find one false, say at which input.
  Laid BY PROGRAM, IN A SANDBOX (cutbox-rows.mjs): the forced cells as the released guide's own fill.sh prints them over the translation 500c2c6fd5813f79… (all of the seat's roots in one cut). By AI agents, Wed Nov 11 2026. No macro, syntax, notation, axiom, sorry.
-/
import Derived.Test.Qxb6626073aChecked
import GoSem.Claim
import GoSem.ClaimJoined
import GoSem.ClaimMapViews
import Derived.JoinedTies
import Derived.KernelRfl
namespace Go.Proofs.Qxb6626073a
/- THE CELL 'sum', in the pinned program and in every row, IS THE sha256 OF THE DUMP (.gsa) THAT Qxb6626073aProg.lean LOADS. Nothing in Lean hashes anything: it is a label: what it is worth is what the hold of that sum in a sandbox is worth. -/
noncomputable def Try.pinned : Pinned := { name := "qxb6626073a", sum := "500c2c6fd5813f79bea6521b794d4fa341a9eb0b51ca81c7cf10897fd02d1223", checked := Try.checked }
namespace Rows
def none {H : Type} : Left H := { results := [], args := [] }

/-- 'zzlaws_root_b1.FnLe32ShiftByOne': WHATEVER THE INPUT: true; the input reads as it did. -/
def fnLe32ShiftByOneSpec : ChangeSpec := { name := "fnLe32ShiftByOne", fn := fun _ => fun
  | [d] => { results := [.lit (.bool true)], args := [d] }
  | _ => none }
def fnLe32ShiftByOneRow : OpenClaim := { program := "qxb6626073a", sum := "500c2c6fd5813f79bea6521b794d4fa341a9eb0b51ca81c7cf10897fd02d1223", func := "example.com/ebb4/ebb4/zzlaws_root_b1.FnLe32ShiftByOne", spec := "fnLe32ShiftByOne", apart := false }
def FnLe32ShiftByOneSaid : Prop := fnLe32ShiftByOneRow.holds Try.pinned (OpenSpec.ofChange fnLe32ShiftByOneSpec)

/-- ITS FALSE NEIGHBOUR: 'it returns false'. Refute it at one input. -/
def fnLe32ShiftByOneWrong : ChangeSpec := { name := "fnLe32ShiftByOne", fn := fun _ => fun
  | [d] => { results := [.lit (.bool false)], args := [d] }
  | _ => none }
def FnLe32ShiftByOneWrongFalsely : Prop := fnLe32ShiftByOneRow.holds Try.pinned (OpenSpec.ofChange fnLe32ShiftByOneWrong)

/-- 'zzlaws_root_b1.FnLe32ByteChange': WHATEVER THE INPUT: true; the input reads as it did. -/
def fnLe32ByteChangeSpec : ChangeSpec := { name := "fnLe32ByteChange", fn := fun _ => fun
  | [d1, d2, d3] => { results := [.lit (.bool true)], args := [d1, d2, d3] }
  | _ => none }
def fnLe32ByteChangeRow : OpenClaim := { program := "qxb6626073a", sum := "500c2c6fd5813f79bea6521b794d4fa341a9eb0b51ca81c7cf10897fd02d1223", func := "example.com/ebb4/ebb4/zzlaws_root_b1.FnLe32ByteChange", spec := "fnLe32ByteChange", apart := false }
def FnLe32ByteChangeSaid : Prop := fnLe32ByteChangeRow.holds Try.pinned (OpenSpec.ofChange fnLe32ByteChangeSpec)

/-- ITS FALSE NEIGHBOUR: 'it returns false'. Refute it at one input. -/
def fnLe32ByteChangeWrong : ChangeSpec := { name := "fnLe32ByteChange", fn := fun _ => fun
  | [d1, d2, d3] => { results := [.lit (.bool false)], args := [d1, d2, d3] }
  | _ => none }
def FnLe32ByteChangeWrongFalsely : Prop := fnLe32ByteChangeRow.holds Try.pinned (OpenSpec.ofChange fnLe32ByteChangeWrong)

end Rows
end Go.Proofs.Qxb6626073a
