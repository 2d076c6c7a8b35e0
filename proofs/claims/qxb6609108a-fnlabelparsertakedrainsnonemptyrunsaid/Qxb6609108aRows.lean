/-
  No cell of these rows narrows 'for every input' (looked for: loops, veiled, ifaces, maps, wideKeys, modest, calm, conditions, laid).
  DERIVED. THE GIVEN ROWS OF THIS SEAT. 2 by the template 'for every input the law returns true; each argument reads behind the call as it read before'; 0 by the template 'total and deterministic' (their statements: Qxb6609108aTotals.lean).
  GIVEN WITH THE SEED: the statements are not yours to turn. If you find one false, say at which input.
  Laid BY PROGRAM, IN A SANDBOX (cutbox-rows.mjs): the forced cells as the released guide's own fill.sh prints them over the translation bb4a9dd9529b696f… (all of the seat's roots in one cut). By AI agents, Wed Nov 11 2026. No macro, syntax, notation, axiom, sorry.
-/
import Derived.Test.Qxb6609108aChecked
import GoSem.Claim
import GoSem.ClaimJoined
import GoSem.ClaimMapViews
import Derived.JoinedTies
import Derived.KernelRfl
namespace Go.Proofs.Qxb6609108a
/- THE CELL 'sum', in the pinned program and in every row, IS THE sha256 OF THE DUMP (.gsa) THAT Qxb6609108aProg.lean LOADS. Nothing in Lean hashes anything: it is a label: what it is worth is what the hold of that sum in a sandbox is worth. -/
noncomputable def Try.pinned : Pinned := { name := "qxb6609108a", sum := "bb4a9dd9529b696f07d64f0af23e48b830d6a661227f4dc130fc60626e2405a7", checked := Try.checked }
namespace Rows
def none {H : Type} : Left H := { results := [], args := [] }

/-- 'zzlaws_internal_meta_b1.FnLabelParserTakeDrainsNonEmptyRun': WHATEVER THE INPUT: true; the input reads as it did. -/
def fnLabelParserTakeDrainsNonEmptyRunSpec : ChangeSpec := { name := "fnLabelParserTakeDrainsNonEmptyRun", fn := fun _ => fun
  | [d1, d2] => { results := [.lit (.bool true)], args := [d1, d2] }
  | _ => none }
def fnLabelParserTakeDrainsNonEmptyRunRow : OpenClaim := { program := "qxb6609108a", sum := "bb4a9dd9529b696f07d64f0af23e48b830d6a661227f4dc130fc60626e2405a7", func := "example.com/fieldwright/fieldwright/zzlaws_internal_meta_b1.FnLabelParserTakeDrainsNonEmptyRun", spec := "fnLabelParserTakeDrainsNonEmptyRun", apart := false }
def FnLabelParserTakeDrainsNonEmptyRunSaid : Prop := fnLabelParserTakeDrainsNonEmptyRunRow.holds Try.pinned (OpenSpec.ofChange fnLabelParserTakeDrainsNonEmptyRunSpec)

/-- ITS FALSE NEIGHBOUR: 'it returns false'. Refute it at one input. -/
def fnLabelParserTakeDrainsNonEmptyRunWrong : ChangeSpec := { name := "fnLabelParserTakeDrainsNonEmptyRun", fn := fun _ => fun
  | [d1, d2] => { results := [.lit (.bool false)], args := [d1, d2] }
  | _ => none }
def FnLabelParserTakeDrainsNonEmptyRunWrongFalsely : Prop := fnLabelParserTakeDrainsNonEmptyRunRow.holds Try.pinned (OpenSpec.ofChange fnLabelParserTakeDrainsNonEmptyRunWrong)

/-- 'zzlaws_internal_meta_b1.FnLabelParserTakeJoinedAgreesWithParts': WHATEVER THE INPUT: true; the input reads as it did. -/
def fnLabelParserTakeJoinedAgreesWithPartsSpec : ChangeSpec := { name := "fnLabelParserTakeJoinedAgreesWithParts", fn := fun _ => fun
  | [d1, d2] => { results := [.lit (.bool true)], args := [d1, d2] }
  | _ => none }
def fnLabelParserTakeJoinedAgreesWithPartsRow : OpenClaim := { program := "qxb6609108a", sum := "bb4a9dd9529b696f07d64f0af23e48b830d6a661227f4dc130fc60626e2405a7", func := "example.com/fieldwright/fieldwright/zzlaws_internal_meta_b1.FnLabelParserTakeJoinedAgreesWithParts", spec := "fnLabelParserTakeJoinedAgreesWithParts", apart := false }
def FnLabelParserTakeJoinedAgreesWithPartsSaid : Prop := fnLabelParserTakeJoinedAgreesWithPartsRow.holds Try.pinned (OpenSpec.ofChange fnLabelParserTakeJoinedAgreesWithPartsSpec)

/-- ITS FALSE NEIGHBOUR: 'it returns false'. Refute it at one input. -/
def fnLabelParserTakeJoinedAgreesWithPartsWrong : ChangeSpec := { name := "fnLabelParserTakeJoinedAgreesWithParts", fn := fun _ => fun
  | [d1, d2] => { results := [.lit (.bool false)], args := [d1, d2] }
  | _ => none }
def FnLabelParserTakeJoinedAgreesWithPartsWrongFalsely : Prop := fnLabelParserTakeJoinedAgreesWithPartsRow.holds Try.pinned (OpenSpec.ofChange fnLabelParserTakeJoinedAgreesWithPartsWrong)

end Rows
end Go.Proofs.Qxb6609108a
