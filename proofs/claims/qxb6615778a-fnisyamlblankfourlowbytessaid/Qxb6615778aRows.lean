/-
  No cell of these rows narrows 'for every input' (looked for: loops, veiled, ifaces, maps, wideKeys, modest, calm, conditions, laid).
  DERIVED. THE GIVEN ROWS OF THIS SEAT. 1 by the template 'for every input the law returns true; each argument reads behind the call as it read before'; 0 by the template 'total and deterministic' (their statements: Qxb6615778aTotals.lean).
  GIVEN WITH THE SEED: the statements are not yours to turn. If you find one false, say at which input.
  Laid BY PROGRAM, IN A SANDBOX (cutbox-rows.mjs): the forced cells as the released guide's own fill.sh prints them over the translation a73dcb6f73ff05ca… (all of the seat's roots in one cut). By AI agents, Wed Nov 11 2026. No macro, syntax, notation, axiom, sorry.
-/
import Derived.Test.Qxb6615778aChecked
import GoSem.Claim
import GoSem.ClaimJoined
import GoSem.ClaimMapViews
import Derived.JoinedTies
import Derived.KernelRfl
namespace Go.Proofs.Qxb6615778a
/- THE CELL 'sum', in the pinned program and in every row, IS THE sha256 OF THE DUMP (.gsa) THAT Qxb6615778aProg.lean LOADS. Nothing in Lean hashes anything: it is a label: what it is worth is what the hold of that sum in a sandbox is worth. -/
noncomputable def Try.pinned : Pinned := { name := "qxb6615778a", sum := "a73dcb6f73ff05cae492ca0bd1f004c8de7a237c153304f8016a9903f9875d1c", checked := Try.checked }
namespace Rows
def none {H : Type} : Left H := { results := [], args := [] }

/-- 'zzlaws_root_b1.FnIsYAMLBlankFourLowBytes': WHATEVER THE INPUT: true; the input reads as it did. -/
def fnIsYAMLBlankFourLowBytesSpec : ChangeSpec := { name := "fnIsYAMLBlankFourLowBytes", fn := fun _ => fun
  | [d] => { results := [.lit (.bool true)], args := [d] }
  | _ => none }
def fnIsYAMLBlankFourLowBytesRow : OpenClaim := { program := "qxb6615778a", sum := "a73dcb6f73ff05cae492ca0bd1f004c8de7a237c153304f8016a9903f9875d1c", func := "example.com/frigg/frigg/zzlaws_root_b1.FnIsYAMLBlankFourLowBytes", spec := "fnIsYAMLBlankFourLowBytes", apart := false }
def FnIsYAMLBlankFourLowBytesSaid : Prop := fnIsYAMLBlankFourLowBytesRow.holds Try.pinned (OpenSpec.ofChange fnIsYAMLBlankFourLowBytesSpec)

/-- ITS FALSE NEIGHBOUR: 'it returns false'. Refute it at one input. -/
def fnIsYAMLBlankFourLowBytesWrong : ChangeSpec := { name := "fnIsYAMLBlankFourLowBytes", fn := fun _ => fun
  | [d] => { results := [.lit (.bool false)], args := [d] }
  | _ => none }
def FnIsYAMLBlankFourLowBytesWrongFalsely : Prop := fnIsYAMLBlankFourLowBytesRow.holds Try.pinned (OpenSpec.ofChange fnIsYAMLBlankFourLowBytesWrong)

end Rows
end Go.Proofs.Qxb6615778a
