/-
  DERIVED. GIVEN WITH THE SEED: THE CARDS: each row of Qxb6609046aDoorRows.lean that lists a variable, with what it lists TIED to the program's text (the seventh form; the later family's looks); each row that meets fmt, with fmt's text TOLD by the authors' own Lean function (tested against real Go, not proved from fmt's source: count such statements apart). THE CARD IS WHAT COUNTS. Prove the row's statement (the work); the ties are given (Qxb6609046aDoorTie.lean); close each card by the builder's one call (the guide's Derived/Test/ToyasCard.lean, 'card_holds'). Laid BY PROGRAM, IN A SANDBOX (cutbox-door.mjs). By AI agents, Wed Nov 11 2026. No macro, syntax, notation, axiom, sorry.
-/
import Derived.Test.Qxb6609046aDoorRows
import GoSem.ClaimSeven
namespace Go.Proofs.Qxb6609046aDoor
namespace Rows

/-- THE TIED CARD OF 'zzlaws_internal_rulebook_b1.FnRulingSetThenRaisesEndAtTheGreatest'. -/
def fnRulingSetThenRaisesEndAtTheGreatestCard : Claim7 := { stood := { row := fnRulingSetThenRaisesEndAtTheGreatestRow, standIns := [], harness := (true, "0674b4a9bc66676a9bffe4758c42ba0ed5766ba042d2e740cef6477e99304c77"), looks := false }, kinds := [], alts := [], laidByText := true, laidKinds := [.widerDeep], laidTests := true, laidLooks := .later }
def FnRulingSetThenRaisesEndAtTheGreatestCardSaid : Prop := Claim7.holds Tryd.pinned (.plain (OpenSpec.ofChange fnRulingSetThenRaisesEndAtTheGreatestSpec)) fnRulingSetThenRaisesEndAtTheGreatestCard
end Rows
end Go.Proofs.Qxb6609046aDoor
