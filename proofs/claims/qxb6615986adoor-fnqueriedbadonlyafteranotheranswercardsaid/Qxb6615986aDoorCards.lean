/-
  DERIVED. GIVEN WITH THE SEED: THE CARDS: each row of Qxb6615986aDoorRows.lean that lists a variable, with what it lists TIED to the program's text (the seventh form; the later family's looks); each row that meets fmt, with fmt's text TOLD by the authors' own Lean function (tested against real Go, not proved from fmt's source: count such statements apart). THE CARD IS WHAT COUNTS. Prove the row's statement (the work); the ties are given (Qxb6615986aDoorTie.lean); close each card by the builder's one call (the guide's Derived/Test/ToyasCard.lean, 'card_holds'). Laid BY PROGRAM, IN A SANDBOX (cutbox-door.mjs). By AI agents, Wed Nov 11 2026. No macro, syntax, notation, axiom, sorry.
-/
import Derived.Test.Qxb6615986aDoorRows
import GoSem.ClaimSeven
namespace Go.Proofs.Qxb6615986aDoor
namespace Rows

/-- THE TIED CARD OF 'zzlaws_root_b1.FnQueriedBadOnlyAfterAnotherAnswer'. -/
def fnQueriedBadOnlyAfterAnotherAnswerCard : Claim7 := { stood := { row := fnQueriedBadOnlyAfterAnotherAnswerRow, standIns := [], harness := (true, "12baa321adaa37e4336a8f6ced9e0a61eeea8f6844a002862ab322e03e633513"), looks := false }, kinds := [], alts := [], laidByText := true, laidKinds := [.called], laidTests := true, laidLooks := .later }
def FnQueriedBadOnlyAfterAnotherAnswerCardSaid : Prop := Claim7.holds Tryd.pinned (.plain (OpenSpec.ofChange fnQueriedBadOnlyAfterAnotherAnswerSpec)) fnQueriedBadOnlyAfterAnotherAnswerCard
end Rows
end Go.Proofs.Qxb6615986aDoor
