/-
  NARROWER THAN 'FOR EVERY INPUT', by the rows' own cells (each row's printed sentence says how): FnRulingSetThenRaisesEndAtTheGreatest: laid.
  DERIVED. THE GIVEN ROWS OF THIS SEAT. 1 by the template 'for every input the law returns true; each argument reads behind the call as it read before'; 0 by the template 'total and deterministic' (their statements: Qxb6609046aDoorTotals.lean).
  GIVEN WITH THE SEED: the statements are not yours to turn. If you find one false, say at which input.
  Laid BY PROGRAM, IN A SANDBOX (cutbox-rows.mjs): the forced cells as the released guide's own fill.sh prints them over the translation 255d60861bdb7c74… (all of the seat's roots in one cut). By AI agents, Wed Nov 11 2026. No macro, syntax, notation, axiom, sorry.
-/
import Derived.Test.Qxb6609046aDoorChecked
import GoSem.Claim
import GoSem.ClaimJoined
import GoSem.ClaimMapViews
import Derived.JoinedTies
import Derived.KernelRfl
namespace Go.Proofs.Qxb6609046aDoor
/- THE CELL 'sum', in the pinned program and in every row, IS THE sha256 OF THE DUMP (.gsa) THAT Qxb6609046aDoorProg.lean LOADS. Nothing in Lean hashes anything: it is a label: what it is worth is what the hold of that sum in a sandbox is worth. -/
noncomputable def Tryd.pinned : Pinned := { name := "qxb6609046adoor", sum := "255d60861bdb7c7477a72a857115073e36c3cb3dc2cd18f7d91e99e033824e58", checked := Tryd.checked }
namespace Rows
def none {H : Type} : Left H := { results := [], args := [] }

/- WHAT THE LISTED PACKAGE-LEVEL VARIABLES READ AS WHEN THE CALL BEGINS. Each datum BY PROGRAM (the guide's laid-datum.mjs) off the statement by which the dump's own 'gosem.cut.vars' lays the variable. In a bare row this is a premise. The card (Qxb6609046aDoorCards.lean) ties it to the program's text. -/
def laid_example_com_tierline_tierline_internal_rulebook_levelNames {H : Type} : DataW H := .agg [.lit (.string [109, 97, 110, 97, 103, 101, 109, 101, 110, 116]), .lit (.string [98, 111, 97, 114, 100]), .lit (.string [115, 104, 97, 114, 101, 104, 111, 108, 100, 101, 114, 115])]

/-- 'zzlaws_internal_rulebook_b1.FnRulingSetThenRaisesEndAtTheGreatest': WHATEVER THE INPUT: true; the input reads as it did. -/
def fnRulingSetThenRaisesEndAtTheGreatestSpec : ChangeSpec := { name := "fnRulingSetThenRaisesEndAtTheGreatest", vars := ["example.com/tierline/tierline/internal/rulebook.levelNames"], fn := fun _ => fun
  | [d1, d2, d3, d4, d5, d6, d7, d8, d9, d10, d11, d12, g1] => { results := [.lit (.bool true)], args := [d1, d2, d3, d4, d5, d6, d7, d8, d9, d10, d11, d12], vars := [g1] }
  | _ => none }
def fnRulingSetThenRaisesEndAtTheGreatestRow : OpenClaim := { program := "qxb6609046adoor", sum := "255d60861bdb7c7477a72a857115073e36c3cb3dc2cd18f7d91e99e033824e58", func := "example.com/tierline/tierline/zzlaws_internal_rulebook_b1.FnRulingSetThenRaisesEndAtTheGreatest", spec := "fnRulingSetThenRaisesEndAtTheGreatest", named := ["example.com/tierline/tierline/internal/rulebook.levelNames"], apart := false, laid := [("example.com/tierline/tierline/internal/rulebook.levelNames", laid_example_com_tierline_tierline_internal_rulebook_levelNames)] }
def FnRulingSetThenRaisesEndAtTheGreatestSaid : Prop := fnRulingSetThenRaisesEndAtTheGreatestRow.holds Tryd.pinned (OpenSpec.ofChange fnRulingSetThenRaisesEndAtTheGreatestSpec)

/-- ITS FALSE NEIGHBOUR: 'it returns false'. Refute it at one input. -/
def fnRulingSetThenRaisesEndAtTheGreatestWrong : ChangeSpec := { name := "fnRulingSetThenRaisesEndAtTheGreatest", vars := ["example.com/tierline/tierline/internal/rulebook.levelNames"], fn := fun _ => fun
  | [d1, d2, d3, d4, d5, d6, d7, d8, d9, d10, d11, d12, g1] => { results := [.lit (.bool false)], args := [d1, d2, d3, d4, d5, d6, d7, d8, d9, d10, d11, d12], vars := [g1] }
  | _ => none }
def FnRulingSetThenRaisesEndAtTheGreatestWrongFalsely : Prop := fnRulingSetThenRaisesEndAtTheGreatestRow.holds Tryd.pinned (OpenSpec.ofChange fnRulingSetThenRaisesEndAtTheGreatestWrong)

end Rows
end Go.Proofs.Qxb6609046aDoor
