/-
  No cell of these rows narrows 'for every input' (looked for: loops, veiled, ifaces, maps, wideKeys, modest, calm, conditions, laid).
  DERIVED. THE GIVEN ROWS OF THIS SEAT. 2 by the template 'for every input the law returns true; each argument reads behind the call as it read before'; 0 by the template 'total and deterministic' (their statements: Qxb6625989aTotals.lean).
  GIVEN WITH THE SEED: the statements are not yours to turn. If you find one false, say at which input.
  Laid BY PROGRAM, IN A SANDBOX (cutbox-rows.mjs): the forced cells as the released guide's own fill.sh prints them over the translation 1e11fc25bc0d8986… (all of the seat's roots in one cut). By AI agents, Wed Nov 11 2026. No macro, syntax, notation, axiom, sorry.
-/
import Derived.Test.Qxb6625989aChecked
import GoSem.Claim
import GoSem.ClaimJoined
import GoSem.ClaimMapViews
import Derived.JoinedTies
import Derived.KernelRfl
namespace Go.Proofs.Qxb6625989a
/- THE CELL 'sum', in the pinned program and in every row, IS THE sha256 OF THE DUMP (.gsa) THAT Qxb6625989aProg.lean LOADS. Nothing in Lean hashes anything: it is a label: what it is worth is what the hold of that sum in a sandbox is worth. -/
noncomputable def Try.pinned : Pinned := { name := "qxb6625989a", sum := "1e11fc25bc0d8986d1d7619df1e5bb6571e7de4007049b2e8ab9a71248927a69", checked := Try.checked }
namespace Rows
def none {H : Type} : Left H := { results := [], args := [] }

/-- 'zzlaws_check_b1.FnPushBuildsHeapOfAllElements': WHATEVER THE INPUT: true; the input reads as it did. -/
def fnPushBuildsHeapOfAllElementsSpec : ChangeSpec := { name := "fnPushBuildsHeapOfAllElements", fn := fun _ => fun
  | [d] => { results := [.lit (.bool true)], args := [d] }
  | _ => none }
def fnPushBuildsHeapOfAllElementsRow : OpenClaim := { program := "qxb6625989a", sum := "1e11fc25bc0d8986d1d7619df1e5bb6571e7de4007049b2e8ab9a71248927a69", func := "example.com/interlace/interlace/zzlaws_check_b1.FnPushBuildsHeapOfAllElements", spec := "fnPushBuildsHeapOfAllElements", recurses := true, apart := false }
def FnPushBuildsHeapOfAllElementsSaid : Prop := fnPushBuildsHeapOfAllElementsRow.holds Try.pinned (OpenSpec.ofChange fnPushBuildsHeapOfAllElementsSpec)

/-- ITS FALSE NEIGHBOUR: 'it returns false'. Refute it at one input. -/
def fnPushBuildsHeapOfAllElementsWrong : ChangeSpec := { name := "fnPushBuildsHeapOfAllElements", fn := fun _ => fun
  | [d] => { results := [.lit (.bool false)], args := [d] }
  | _ => none }
def FnPushBuildsHeapOfAllElementsWrongFalsely : Prop := fnPushBuildsHeapOfAllElementsRow.holds Try.pinned (OpenSpec.ofChange fnPushBuildsHeapOfAllElementsWrong)

/-- 'zzlaws_check_b1.FnPushSiftsAlongThePath': WHATEVER THE INPUT: true; the input reads as it did. -/
def fnPushSiftsAlongThePathSpec : ChangeSpec := { name := "fnPushSiftsAlongThePath", fn := fun _ => fun
  | [d1, d2] => { results := [.lit (.bool true)], args := [d1, d2] }
  | _ => none }
def fnPushSiftsAlongThePathRow : OpenClaim := { program := "qxb6625989a", sum := "1e11fc25bc0d8986d1d7619df1e5bb6571e7de4007049b2e8ab9a71248927a69", func := "example.com/interlace/interlace/zzlaws_check_b1.FnPushSiftsAlongThePath", spec := "fnPushSiftsAlongThePath", apart := false }
def FnPushSiftsAlongThePathSaid : Prop := fnPushSiftsAlongThePathRow.holds Try.pinned (OpenSpec.ofChange fnPushSiftsAlongThePathSpec)

/-- ITS FALSE NEIGHBOUR: 'it returns false'. Refute it at one input. -/
def fnPushSiftsAlongThePathWrong : ChangeSpec := { name := "fnPushSiftsAlongThePath", fn := fun _ => fun
  | [d1, d2] => { results := [.lit (.bool false)], args := [d1, d2] }
  | _ => none }
def FnPushSiftsAlongThePathWrongFalsely : Prop := fnPushSiftsAlongThePathRow.holds Try.pinned (OpenSpec.ofChange fnPushSiftsAlongThePathWrong)

end Rows
end Go.Proofs.Qxb6625989a
